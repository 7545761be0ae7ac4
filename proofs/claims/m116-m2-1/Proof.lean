import JvmDerived
import JvmDerived.Pilot.@@N@@Statement
import JvmDerived.Pilot.@@N@@Code
set_option linter.unusedVariables false
set_option linter.unusedSimpArgs false
namespace Jvm.Pilot.@@N@@
open Jvm Jvm.ClassFile Sem Op Lib Jvm.Free Jvm.Stand Jvm.LawKit Jvm.RoadKit Bundle Jvm.Pilot.@@N@@.Jvm.D

section Layer
variable {p : Program} {l : Launch} {e : Env} {R : Room} {s : State} {m : MethodId} {args : Array Value} {below : List Frame} {meth : Method} {c : Code} {bytes : ByteArray} {mxl : Nat} {rt : Option FieldType} {Z : State} {a0 : Array Value} {EL : List (String × Nat)} {own : String} {n0 : Nat} {h0 : Heap} {ws : List Addr} {S0 : State} {V : Vm} {h : Heap} {cells slots pc pc' : Nat} {L : Array Slot} {st : List Value}
/-- where a walk stands: V the tables on which it is based, h its heap, g its frame -/
def Wk (p : Program) (l : Launch) (e : Env) (R : Room) (s : State) (m : MethodId) (args : Array Value) (below : List Frame) (meth : Method) (c : Code) (bytes : ByteArray) (mxl : Nat) (rt : Option FieldType) (Z : State) (a0 : Array Value) (EL : List (String × Nat)) (own : String) (n0 : Nat) (h0 : Heap) (ws : List Addr) (S0 : State) (V : Vm) (h : Heap) (cells slots : Nat) (g : JFrame) : Prop :=
  (p.tables.exec = Jvm.exec ∧ c.code = bytes ∧ c.maxLocals = mxl ∧ meth.sig.returnType = rt ∧ meth.locks = false ∧ EW Z a0 EL ∧ (∀ x ∈ ws, n0 ≤ x) ∧ n0 ≤ h0.size ∧ s.heap = h0 ∧ Old Z n0 h0) ∧
  (Z.Warmed39 V ∧ V.findClass own = some m.cls ∧ (∃ k, s.Since V k ∧ k ≤ h.size) ∧ Old Z n0 h ∧ CHr Z EL s.vm h0 V h ∧ Keep h0 h ws) ∧
  ∃ (T : State) (locs : List Loc), Stand p l e R (s.setVm V) m args below meth c T locs cells slots ∧ T.heap = h ∧ Fr n0 locs ∧ ∀ t, Steps p.tables e below (T.setTop g) t → Steps p.tables e below S0 t
theorem Wk.plain {g g' : JFrame} (W : Wk p l e R s m args below meth c bytes mxl rt Z a0 EL own n0 h0 ws S0 V h cells slots g) (f : ∀ (T : State), At T m c below → p.tables.exec = Jvm.exec → c.code = bytes → ∀ t, Steps p.tables e below (T.setTop g') t → Steps p.tables e below (T.setTop g) t) : Wk p l e R s m args below meth c bytes mxl rt Z a0 EL own n0 h0 ws S0 V h cells slots g' := by
  obtain ⟨a, b, T, locs, X, eT, N, k⟩ := W
  exact ⟨a, b, T, locs, X, eT, N, fun t q => k t (f T X.here a.1 a.2.1 t q)⟩
/-- a step that reads the tables and leaves the heap -/
theorem Wk.reads {g g' : JFrame} (W : Wk p l e R s m args below meth c bytes mxl rt Z a0 EL own n0 h0 ws S0 V h cells slots g) (f : ∀ (T : State) (locs : List Loc), Stand p l e R (s.setVm V) m args below meth c T locs cells slots → T.heap = h → p.tables.exec = Jvm.exec → c.code = bytes → Z.Warmed39 (s.setVm V).vm → (s.setVm V).vm.findClass own = some m.cls → ∃ T', Stand p l e R (s.setVm V) m args below meth c T' locs cells slots ∧ T'.heap = h ∧ ∀ t, Steps p.tables e below (T'.setTop g') t → Steps p.tables e below (T.setTop g) t) : Wk p l e R s m args below meth c bytes mxl rt Z a0 EL own n0 h0 ws S0 V h cells slots g' := by
  obtain ⟨a, b, T, locs, X, eT, N, k⟩ := W
  obtain ⟨T', X', eT', q⟩ := f T locs X eT a.1 a.2.1 b.1 b.2.1
  exact ⟨a, b, T', locs, X', eT', N, fun t z => k t (q t z)⟩
theorem Wk.cast {st' : List Value} (W : Wk p l e R s m args below meth c bytes mxl rt Z a0 EL own n0 h0 ws S0 V h cells slots (mkF m pc L st)) (q : st = st') : Wk p l e R s m args below meth c bytes mxl rt Z a0 EL own n0 h0 ws S0 V h cells slots (mkF m pc L st') := by subst q; exact W
theorem Wk.castL {L' : Array Slot} (W : Wk p l e R s m args below meth c bytes mxl rt Z a0 EL own n0 h0 ws S0 V h cells slots (mkF m pc L st)) (q : L = L') : Wk p l e R s m args below meth c bytes mxl rt Z a0 EL own n0 h0 ws S0 V h cells slots (mkF m pc L' st) := by subst q; exact W
theorem Wk.more {g : JFrame} {cells' slots' : Nat} (W : Wk p l e R s m args below meth c bytes mxl rt Z a0 EL own n0 h0 ws S0 V h cells slots g) (hc : cells ≤ cells') (hs : slots ≤ slots') : Wk p l e R s m args below meth c bytes mxl rt Z a0 EL own n0 h0 ws S0 V h cells' slots' g := by
  obtain ⟨a, b, T, locs, X, eT, N, k⟩ := W
  exact ⟨a, b, T, locs, X.mono hc hs, eT, N, k⟩
theorem Wk.alike {g : JFrame} (W : Wk p l e R s m args below meth c bytes mxl rt Z a0 EL own n0 h0 ws S0 V h cells slots g) : Z.vm.Alike V := W.2.1.1.alike
theorem Wk.old {g : JFrame} (W : Wk p l e R s m args below meth c bytes mxl rt Z a0 EL own n0 h0 ws S0 V h cells slots g) : Old Z n0 h := W.2.1.2.2.2.1
theorem Wk.n0le {g : JFrame} (W : Wk p l e R s m args below meth c bytes mxl rt Z a0 EL own n0 h0 ws S0 V h cells slots g) : n0 ≤ h.size := by have q := W.old; rw [← q.1]; exact q.2.1
theorem Wk.kept {g : JFrame} (W : Wk p l e R s m args below meth c bytes mxl rt Z a0 EL own n0 h0 ws S0 V h cells slots g) : Keep h0 h ws := W.2.1.2.2.2.2.2
theorem Wk.chv {g : JFrame} (W : Wk p l e R s m args below meth c bytes mxl rt Z a0 EL own n0 h0 ws S0 V h cells slots g) : CHv Z EL V h := W.2.1.2.2.2.2.1.1
theorem Wk.el {g : JFrame} (W : Wk p l e R s m args below meth c bytes mxl rt Z a0 EL own n0 h0 ws S0 V h cells slots g) : EW Z a0 EL := W.1.2.2.2.2.2.1
theorem Wk.sta {g : JFrame} (W : Wk p l e R s m args below meth c bytes mxl rt Z a0 EL own n0 h0 ws S0 V h cells slots g) {C n d : String} {v : Value} (S : Sta Z Z.heap C n d v) : Sta Z h C n d v := S.ext W.old.2
/-- an object of a class that no constant is of -/
theorem Wk.safeE {g : JFrame} (W : Wk p l e R s m args below meth c bytes mxl rt Z a0 EL own n0 h0 ws S0 V h cells slots g) {a : Addr} {C : String} (E : Exa Z h a C) (h1 : C ≠ "java/lang/String") (h2 : C ≠ "[B") : Safe Z EL V h a := Safe.exa W.alike E h1 h2
theorem Wk.safeA {g : JFrame} (W : Wk p l e R s m args below meth c bytes mxl rt Z a0 EL own n0 h0 ws S0 V h cells slots g) {a : Addr} {k : ClassId} {ty : FieldType} {z : Int32} {vs : List Value} {dv : Value} (A : Arv Z h a k ty z vs dv) (ht : ty ≠ .byte) : Safe Z EL V h a := Safe.arv W.alike A ht
/-- a write has been made at a -/
theorem Wk.wrote {g g' : JFrame} {h' : Heap} {a : Addr} {sl : Nat} {v : Value} {cells' slots' : Nat} (W : Wk p l e R s m args below meth c bytes mxl rt Z a0 EL own n0 h0 ws S0 V h cells slots g) (sf : Safe Z EL V h a) (q : a ∈ ws ∨ h0.size ≤ a) (f : ∀ (T : State) (locs : List Loc), Stand p l e R (s.setVm V) m args below meth c T locs cells slots → T.heap = h → p.tables.exec = Jvm.exec → c.code = bytes → Z.Warmed39 (s.setVm V).vm → (s.setVm V).vm.findClass own = some m.cls → ∃ T' h', Stand p l e R (s.setVm V) m args below meth c T' (locs ++ [⟨a, sl⟩]) cells slots ∧ T'.heap = h' ∧ Wr h h' a sl v ∧ ∀ t, Steps p.tables e below (T'.setTop g') t → Steps p.tables e below (T.setTop g) t) :
    ∃ h', Wk p l e R s m args below meth c bytes mxl rt Z a0 EL own n0 h0 ws S0 V h' cells slots g' ∧ Wr h h' a sl v ∧ ∀ x, Safe Z EL V h x → Safe Z EL V h' x := by
  obtain ⟨a1, b, T, locs, X, eT, N, k⟩ := W
  obtain ⟨T', h', X', eT', w, st⟩ := f T locs X eT a1.1 a1.2.1 b.1 b.2.1
  have hge : n0 ≤ a := q.elim (fun z => a1.2.2.2.2.2.2.1 a z) (fun z => Nat.le_trans a1.2.2.2.2.2.2.2.1 z)
  obtain ⟨k0, hS, hk⟩ := b.2.2.1
  have hsz : h.size ≤ h'.size := Nat.le_of_eq w.size.symm
  refine ⟨h', ⟨a1, ⟨b.1, b.2.1, ⟨k0, hS, Nat.le_trans hk hsz⟩, b.2.2.2.1.wr w hge, b.2.2.2.2.1.trans (CHr.wr w sf b.2.2.2.2.1.1), b.2.2.2.2.2.wr w q⟩, T', _, X', eT', Fr.snoc X' N hge, fun t z => k t (st t z)⟩, w, fun x sx => Safe.wr w sf b.2.2.2.2.1.1 sx⟩
/-- something has been made at the heap's end -/
theorem Wk.grew {g : JFrame} {G : Addr → JFrame} {cells' slots' : Nat} {Q : Heap → Prop} (W : Wk p l e R s m args below meth c bytes mxl rt Z a0 EL own n0 h0 ws S0 V h cells slots g) (f : ∀ (T : State) (locs : List Loc), Stand p l e R (s.setVm V) m args below meth c T locs cells slots → T.heap = h → p.tables.exec = Jvm.exec → c.code = bytes → Z.Warmed39 (s.setVm V).vm → (s.setVm V).vm.findClass own = some m.cls → ∃ T' h', Stand p l e R (s.setVm V) m args below meth c T' locs cells' slots' ∧ T'.heap = h' ∧ Ext h h' ∧ Q h' ∧ ∀ t, Steps p.tables e below (T'.setTop (G h.size)) t → Steps p.tables e below (T.setTop g) t) :
    ∃ h' a, Wk p l e R s m args below meth c bytes mxl rt Z a0 EL own n0 h0 ws S0 V h' cells' slots' (G a) ∧ Ext h h' ∧ a = h.size ∧ Q h' ∧ Safe Z EL V h' a ∧ ∀ x, Safe Z EL V h x → Safe Z EL V h' x := by
  obtain ⟨a1, b, T, locs, X, eT, N, k⟩ := W
  obtain ⟨T', h', X', eT', E, q, st⟩ := f T locs X eT a1.1 a1.2.1 b.1 b.2.1
  obtain ⟨k0, hS, hk⟩ := b.2.2.1
  have H := b.2.2.2.2.1.1
  exact ⟨h', h.size, ⟨a1, ⟨b.1, b.2.1, ⟨k0, hS, Nat.le_trans hk E.1⟩, b.2.2.2.1.ext E, b.2.2.2.2.1.trans (CHr.ext E H), b.2.2.2.2.2.ext E⟩, T', _, X', eT', N, fun t z => k t (st t z)⟩, E, rfl, q, Safe.ext E H (Safe.new (Nat.le_refl _)), fun x sx => Safe.ext E H sx⟩

theorem Wk.aloadN {k : Fin 4} {v : Value} (W : Wk p l e R s m args below meth c bytes mxl rt Z a0 EL own n0 h0 ws S0 V h cells slots (mkF m pc L st)) (hd : decode bytes pc = .ok (.aload_n k, 1)) (hl : L[k.val]? = some (.val v)) (hv : v.isRef = true) (hp : pc + 1 = pc') : Wk p l e R s m args below meth c bytes mxl rt Z a0 EL own n0 h0 ws S0 V h cells slots (mkF m pc' L (v :: st)) := by
  subst hp
  exact W.plain fun T hq hx hby t k => XS.aloadN hq hx rfl (hb hby hd) hl hv k
theorem Wk.aload {k : Nat} {v : Value} (W : Wk p l e R s m args below meth c bytes mxl rt Z a0 EL own n0 h0 ws S0 V h cells slots (mkF m pc L st)) (hd : decode bytes pc = .ok (.aload k, 2)) (hl : L[k]? = some (.val v)) (hv : v.isRef = true) (hp : pc + 2 = pc') : Wk p l e R s m args below meth c bytes mxl rt Z a0 EL own n0 h0 ws S0 V h cells slots (mkF m pc' L (v :: st)) := by
  subst hp
  exact W.plain fun T hq hx hby t k => XS.aload hq hx rfl (hb hby hd) hl hv k
theorem Wk.iloadN {k : Fin 4} {v : Int32} (W : Wk p l e R s m args below meth c bytes mxl rt Z a0 EL own n0 h0 ws S0 V h cells slots (mkF m pc L st)) (hd : decode bytes pc = .ok (.iload_n k, 1)) (hl : L[k.val]? = some (.val (.int v))) (hp : pc + 1 = pc') : Wk p l e R s m args below meth c bytes mxl rt Z a0 EL own n0 h0 ws S0 V h cells slots (mkF m pc' L (.int v :: st)) := by
  subst hp
  exact W.plain fun T hq hx hby t k => XS.iloadN hq hx rfl (hb hby hd) hl k
theorem Wk.iload {k : Nat} {v : Int32} (W : Wk p l e R s m args below meth c bytes mxl rt Z a0 EL own n0 h0 ws S0 V h cells slots (mkF m pc L st)) (hd : decode bytes pc = .ok (.iload k, 2)) (hl : L[k]? = some (.val (.int v))) (hp : pc + 2 = pc') : Wk p l e R s m args below meth c bytes mxl rt Z a0 EL own n0 h0 ws S0 V h cells slots (mkF m pc' L (.int v :: st)) := by
  subst hp
  exact W.plain fun T hq hx hby t k => XS.iload hq hx rfl (hb hby hd) hl k
theorem Wk.lloadN {k : Fin 4} {v : Int64} (W : Wk p l e R s m args below meth c bytes mxl rt Z a0 EL own n0 h0 ws S0 V h cells slots (mkF m pc L st)) (hd : decode bytes pc = .ok (.lload_n k, 1)) (hl : L[k.val]? = some (.val (.long v))) (hp : pc + 1 = pc') : Wk p l e R s m args below meth c bytes mxl rt Z a0 EL own n0 h0 ws S0 V h cells slots (mkF m pc' L (.long v :: st)) := by
  subst hp
  exact W.plain fun T hq hx hby t k => Jvm.Free.XT.lloadN hq hx rfl (hb hby hd) hl k
theorem Wk.lload {k : Nat} {v : Int64} (W : Wk p l e R s m args below meth c bytes mxl rt Z a0 EL own n0 h0 ws S0 V h cells slots (mkF m pc L st)) (hd : decode bytes pc = .ok (.lload k, 2)) (hl : L[k]? = some (.val (.long v))) (hp : pc + 2 = pc') : Wk p l e R s m args below meth c bytes mxl rt Z a0 EL own n0 h0 ws S0 V h cells slots (mkF m pc' L (.long v :: st)) := by
  subst hp
  exact W.plain fun T hq hx hby t k => Jvm.Free.XT.lload hq hx rfl (hb hby hd) hl k
theorem Wk.iconst {i : Int} {v : Int32} (W : Wk p l e R s m args below meth c bytes mxl rt Z a0 EL own n0 h0 ws S0 V h cells slots (mkF m pc L st)) (hd : decode bytes pc = .ok (.iconst i, 1)) (hv : Int32.ofInt i = v) (hp : pc + 1 = pc') : Wk p l e R s m args below meth c bytes mxl rt Z a0 EL own n0 h0 ws S0 V h cells slots (mkF m pc' L (.int v :: st)) := by
  subst hv hp
  exact W.plain fun T hq hx hby t k => XS.iconst hq hx rfl (hb hby hd)  k
theorem Wk.bipush {i : Int} {v : Int32} (W : Wk p l e R s m args below meth c bytes mxl rt Z a0 EL own n0 h0 ws S0 V h cells slots (mkF m pc L st)) (hd : decode bytes pc = .ok (.bipush i, 2)) (hv : (Int8.ofInt i).toInt32 = v) (hp : pc + 2 = pc') : Wk p l e R s m args below meth c bytes mxl rt Z a0 EL own n0 h0 ws S0 V h cells slots (mkF m pc' L (.int v :: st)) := by
  subst hv hp
  exact W.plain fun T hq hx hby t k => XS.bipush hq hx rfl (hb hby hd)  k
theorem Wk.sipush {i : Int} {v : Int32} (W : Wk p l e R s m args below meth c bytes mxl rt Z a0 EL own n0 h0 ws S0 V h cells slots (mkF m pc L st)) (hd : decode bytes pc = .ok (.sipush i, 3)) (hv : (Int16.ofInt i).toInt32 = v) (hp : pc + 3 = pc') : Wk p l e R s m args below meth c bytes mxl rt Z a0 EL own n0 h0 ws S0 V h cells slots (mkF m pc' L (.int v :: st)) := by
  subst hv hp
  exact W.plain fun T hq hx hby t k => XS.sipush hq hx rfl (hb hby hd)  k
theorem Wk.lconst {k : Fin 2} {v : Int64} (W : Wk p l e R s m args below meth c bytes mxl rt Z a0 EL own n0 h0 ws S0 V h cells slots (mkF m pc L st)) (hd : decode bytes pc = .ok (.lconst k, 1)) (hv : Int64.ofNat k = v) (hp : pc + 1 = pc') : Wk p l e R s m args below meth c bytes mxl rt Z a0 EL own n0 h0 ws S0 V h cells slots (mkF m pc' L (.long v :: st)) := by
  subst hv hp
  exact W.plain fun T hq hx hby t k => Jvm.Free.XT.lconst hq hx rfl (hb hby hd)  k
theorem Wk.aconstNull  (W : Wk p l e R s m args below meth c bytes mxl rt Z a0 EL own n0 h0 ws S0 V h cells slots (mkF m pc L st)) (hd : decode bytes pc = .ok (.aconst_null, 1))  (hp : pc + 1 = pc') : Wk p l e R s m args below meth c bytes mxl rt Z a0 EL own n0 h0 ws S0 V h cells slots (mkF m pc' L (.null :: st)) := by
  subst hp
  exact W.plain fun T hq hx hby t k => XS.aconstNull hq hx rfl (hb hby hd)  k
theorem Wk.iadd {x y v : Int32} (W : Wk p l e R s m args below meth c bytes mxl rt Z a0 EL own n0 h0 ws S0 V h cells slots (mkF m pc L (.int y :: .int x :: st))) (hd : decode bytes pc = .ok (.iadd, 1)) (hv : x + y = v) (hp : pc + 1 = pc') : Wk p l e R s m args below meth c bytes mxl rt Z a0 EL own n0 h0 ws S0 V h cells slots (mkF m pc' L (.int v :: st)) := by
  subst hv hp
  exact W.plain fun T hq hx hby t k => XS.iadd hq hx rfl (hb hby hd) rfl k
theorem Wk.isub {x y v : Int32} (W : Wk p l e R s m args below meth c bytes mxl rt Z a0 EL own n0 h0 ws S0 V h cells slots (mkF m pc L (.int y :: .int x :: st))) (hd : decode bytes pc = .ok (.isub, 1)) (hv : x - y = v) (hp : pc + 1 = pc') : Wk p l e R s m args below meth c bytes mxl rt Z a0 EL own n0 h0 ws S0 V h cells slots (mkF m pc' L (.int v :: st)) := by
  subst hv hp
  exact W.plain fun T hq hx hby t k => XS.isub hq hx rfl (hb hby hd) rfl k
theorem Wk.imul {x y v : Int32} (W : Wk p l e R s m args below meth c bytes mxl rt Z a0 EL own n0 h0 ws S0 V h cells slots (mkF m pc L (.int y :: .int x :: st))) (hd : decode bytes pc = .ok (.imul, 1)) (hv : x * y = v) (hp : pc + 1 = pc') : Wk p l e R s m args below meth c bytes mxl rt Z a0 EL own n0 h0 ws S0 V h cells slots (mkF m pc' L (.int v :: st)) := by
  subst hv hp
  exact W.plain fun T hq hx hby t k => XS.imul hq hx rfl (hb hby hd) rfl k
theorem Wk.iand {x y v : Int32} (W : Wk p l e R s m args below meth c bytes mxl rt Z a0 EL own n0 h0 ws S0 V h cells slots (mkF m pc L (.int y :: .int x :: st))) (hd : decode bytes pc = .ok (.iand, 1)) (hv : x &&& y = v) (hp : pc + 1 = pc') : Wk p l e R s m args below meth c bytes mxl rt Z a0 EL own n0 h0 ws S0 V h cells slots (mkF m pc' L (.int v :: st)) := by
  subst hv hp
  exact W.plain fun T hq hx hby t k => XS.iand hq hx rfl (hb hby hd) rfl k
theorem Wk.ior {x y v : Int32} (W : Wk p l e R s m args below meth c bytes mxl rt Z a0 EL own n0 h0 ws S0 V h cells slots (mkF m pc L (.int y :: .int x :: st))) (hd : decode bytes pc = .ok (.ior, 1)) (hv : x ||| y = v) (hp : pc + 1 = pc') : Wk p l e R s m args below meth c bytes mxl rt Z a0 EL own n0 h0 ws S0 V h cells slots (mkF m pc' L (.int v :: st)) := by
  subst hv hp
  exact W.plain fun T hq hx hby t k => Jvm.Free.XT.ior hq hx rfl (hb hby hd) rfl k
theorem Wk.ixor {x y v : Int32} (W : Wk p l e R s m args below meth c bytes mxl rt Z a0 EL own n0 h0 ws S0 V h cells slots (mkF m pc L (.int y :: .int x :: st))) (hd : decode bytes pc = .ok (.ixor, 1)) (hv : x ^^^ y = v) (hp : pc + 1 = pc') : Wk p l e R s m args below meth c bytes mxl rt Z a0 EL own n0 h0 ws S0 V h cells slots (mkF m pc' L (.int v :: st)) := by
  subst hv hp
  exact W.plain fun T hq hx hby t k => Jvm.Free.XT.ixor hq hx rfl (hb hby hd) rfl k
theorem Wk.ishl {x y v : Int32} (W : Wk p l e R s m args below meth c bytes mxl rt Z a0 EL own n0 h0 ws S0 V h cells slots (mkF m pc L (.int y :: .int x :: st))) (hd : decode bytes pc = .ok (.ishl, 1)) (hv : x <<< (y &&& 31) = v) (hp : pc + 1 = pc') : Wk p l e R s m args below meth c bytes mxl rt Z a0 EL own n0 h0 ws S0 V h cells slots (mkF m pc' L (.int v :: st)) := by
  subst hv hp
  exact W.plain fun T hq hx hby t k => Jvm.Free.XT.ishl hq hx rfl (hb hby hd) rfl k
theorem Wk.ishr {x y v : Int32} (W : Wk p l e R s m args below meth c bytes mxl rt Z a0 EL own n0 h0 ws S0 V h cells slots (mkF m pc L (.int y :: .int x :: st))) (hd : decode bytes pc = .ok (.ishr, 1)) (hv : x >>> (y &&& 31) = v) (hp : pc + 1 = pc') : Wk p l e R s m args below meth c bytes mxl rt Z a0 EL own n0 h0 ws S0 V h cells slots (mkF m pc' L (.int v :: st)) := by
  subst hv hp
  exact W.plain fun T hq hx hby t k => Jvm.Free.XT.ishr hq hx rfl (hb hby hd) rfl k
theorem Wk.iushr {x y v : Int32} (W : Wk p l e R s m args below meth c bytes mxl rt Z a0 EL own n0 h0 ws S0 V h cells slots (mkF m pc L (.int y :: .int x :: st))) (hd : decode bytes pc = .ok (.iushr, 1)) (hv : Jvm.Free.XT.ushr x y = v) (hp : pc + 1 = pc') : Wk p l e R s m args below meth c bytes mxl rt Z a0 EL own n0 h0 ws S0 V h cells slots (mkF m pc' L (.int v :: st)) := by
  subst hv hp
  exact W.plain fun T hq hx hby t k => Jvm.Free.XT.iushr hq hx rfl (hb hby hd) rfl k
theorem Wk.idiv {x y v : Int32} (W : Wk p l e R s m args below meth c bytes mxl rt Z a0 EL own n0 h0 ws S0 V h cells slots (mkF m pc L (.int y :: .int x :: st))) (hd : decode bytes pc = .ok (.idiv, 1)) (hy : y ≠ 0) (hv : x / y = v) (hp : pc + 1 = pc') : Wk p l e R s m args below meth c bytes mxl rt Z a0 EL own n0 h0 ws S0 V h cells slots (mkF m pc' L (.int v :: st)) := by
  subst hv hp
  exact W.plain fun T hq hx hby t k => XS.idiv hq hx rfl (hb hby hd) rfl hy k
theorem Wk.irem {x y v : Int32} (W : Wk p l e R s m args below meth c bytes mxl rt Z a0 EL own n0 h0 ws S0 V h cells slots (mkF m pc L (.int y :: .int x :: st))) (hd : decode bytes pc = .ok (.irem, 1)) (hy : y ≠ 0) (hv : x - (x / y) * y = v) (hp : pc + 1 = pc') : Wk p l e R s m args below meth c bytes mxl rt Z a0 EL own n0 h0 ws S0 V h cells slots (mkF m pc' L (.int v :: st)) := by
  subst hv hp
  exact W.plain fun T hq hx hby t k => XS.irem hq hx rfl (hb hby hd) rfl hy k
theorem Wk.ineg {x v : Int32} (W : Wk p l e R s m args below meth c bytes mxl rt Z a0 EL own n0 h0 ws S0 V h cells slots (mkF m pc L (.int x :: st))) (hd : decode bytes pc = .ok (.ineg, 1)) (hv : -x = v) (hp : pc + 1 = pc') : Wk p l e R s m args below meth c bytes mxl rt Z a0 EL own n0 h0 ws S0 V h cells slots (mkF m pc' L (.int v :: st)) := by
  subst hv hp
  exact W.plain fun T hq hx hby t k => XS.ineg hq hx rfl (hb hby hd) rfl k
theorem Wk.i2b {x v : Int32} (W : Wk p l e R s m args below meth c bytes mxl rt Z a0 EL own n0 h0 ws S0 V h cells slots (mkF m pc L (.int x :: st))) (hd : decode bytes pc = .ok (.i2b, 1)) (hv : x.toInt8.toInt32 = v) (hp : pc + 1 = pc') : Wk p l e R s m args below meth c bytes mxl rt Z a0 EL own n0 h0 ws S0 V h cells slots (mkF m pc' L (.int v :: st)) := by
  subst hv hp
  exact W.plain fun T hq hx hby t k => Jvm.Free.XT.i2b hq hx rfl (hb hby hd) rfl k
theorem Wk.i2c {x v : Int32} (W : Wk p l e R s m args below meth c bytes mxl rt Z a0 EL own n0 h0 ws S0 V h cells slots (mkF m pc L (.int x :: st))) (hd : decode bytes pc = .ok (.i2c, 1)) (hv : x.toUInt32.toUInt16.toUInt32.toInt32 = v) (hp : pc + 1 = pc') : Wk p l e R s m args below meth c bytes mxl rt Z a0 EL own n0 h0 ws S0 V h cells slots (mkF m pc' L (.int v :: st)) := by
  subst hv hp
  exact W.plain fun T hq hx hby t k => Jvm.Free.XT.i2c hq hx rfl (hb hby hd) rfl k
theorem Wk.i2s {x v : Int32} (W : Wk p l e R s m args below meth c bytes mxl rt Z a0 EL own n0 h0 ws S0 V h cells slots (mkF m pc L (.int x :: st))) (hd : decode bytes pc = .ok (.i2s, 1)) (hv : x.toInt16.toInt32 = v) (hp : pc + 1 = pc') : Wk p l e R s m args below meth c bytes mxl rt Z a0 EL own n0 h0 ws S0 V h cells slots (mkF m pc' L (.int v :: st)) := by
  subst hv hp
  exact W.plain fun T hq hx hby t k => Jvm.Free.XT.i2s hq hx rfl (hb hby hd) rfl k
theorem Wk.ladd {x y v : Int64} (W : Wk p l e R s m args below meth c bytes mxl rt Z a0 EL own n0 h0 ws S0 V h cells slots (mkF m pc L (.long y :: .long x :: st))) (hd : decode bytes pc = .ok (.ladd, 1)) (hv : x + y = v) (hp : pc + 1 = pc') : Wk p l e R s m args below meth c bytes mxl rt Z a0 EL own n0 h0 ws S0 V h cells slots (mkF m pc' L (.long v :: st)) := by
  subst hv hp
  exact W.plain fun T hq hx hby t k => Jvm.Free.XT.ladd hq hx rfl (hb hby hd) rfl k
theorem Wk.lsub {x y v : Int64} (W : Wk p l e R s m args below meth c bytes mxl rt Z a0 EL own n0 h0 ws S0 V h cells slots (mkF m pc L (.long y :: .long x :: st))) (hd : decode bytes pc = .ok (.lsub, 1)) (hv : x - y = v) (hp : pc + 1 = pc') : Wk p l e R s m args below meth c bytes mxl rt Z a0 EL own n0 h0 ws S0 V h cells slots (mkF m pc' L (.long v :: st)) := by
  subst hv hp
  exact W.plain fun T hq hx hby t k => Jvm.Free.XT.lsub hq hx rfl (hb hby hd) rfl k
theorem Wk.lmul {x y v : Int64} (W : Wk p l e R s m args below meth c bytes mxl rt Z a0 EL own n0 h0 ws S0 V h cells slots (mkF m pc L (.long y :: .long x :: st))) (hd : decode bytes pc = .ok (.lmul, 1)) (hv : x * y = v) (hp : pc + 1 = pc') : Wk p l e R s m args below meth c bytes mxl rt Z a0 EL own n0 h0 ws S0 V h cells slots (mkF m pc' L (.long v :: st)) := by
  subst hv hp
  exact W.plain fun T hq hx hby t k => Jvm.Free.XT.lmul hq hx rfl (hb hby hd) rfl k
theorem Wk.land {x y v : Int64} (W : Wk p l e R s m args below meth c bytes mxl rt Z a0 EL own n0 h0 ws S0 V h cells slots (mkF m pc L (.long y :: .long x :: st))) (hd : decode bytes pc = .ok (.land, 1)) (hv : x &&& y = v) (hp : pc + 1 = pc') : Wk p l e R s m args below meth c bytes mxl rt Z a0 EL own n0 h0 ws S0 V h cells slots (mkF m pc' L (.long v :: st)) := by
  subst hv hp
  exact W.plain fun T hq hx hby t k => Jvm.Free.XT.land hq hx rfl (hb hby hd) rfl k
theorem Wk.lor {x y v : Int64} (W : Wk p l e R s m args below meth c bytes mxl rt Z a0 EL own n0 h0 ws S0 V h cells slots (mkF m pc L (.long y :: .long x :: st))) (hd : decode bytes pc = .ok (.lor, 1)) (hv : x ||| y = v) (hp : pc + 1 = pc') : Wk p l e R s m args below meth c bytes mxl rt Z a0 EL own n0 h0 ws S0 V h cells slots (mkF m pc' L (.long v :: st)) := by
  subst hv hp
  exact W.plain fun T hq hx hby t k => Jvm.Free.XT.lor hq hx rfl (hb hby hd) rfl k
theorem Wk.lxor {x y v : Int64} (W : Wk p l e R s m args below meth c bytes mxl rt Z a0 EL own n0 h0 ws S0 V h cells slots (mkF m pc L (.long y :: .long x :: st))) (hd : decode bytes pc = .ok (.lxor, 1)) (hv : x ^^^ y = v) (hp : pc + 1 = pc') : Wk p l e R s m args below meth c bytes mxl rt Z a0 EL own n0 h0 ws S0 V h cells slots (mkF m pc' L (.long v :: st)) := by
  subst hv hp
  exact W.plain fun T hq hx hby t k => Jvm.Free.XT.lxor hq hx rfl (hb hby hd) rfl k
theorem Wk.ldiv {x y v : Int64} (W : Wk p l e R s m args below meth c bytes mxl rt Z a0 EL own n0 h0 ws S0 V h cells slots (mkF m pc L (.long y :: .long x :: st))) (hd : decode bytes pc = .ok (.ldiv, 1)) (hy : y ≠ 0) (hv : x / y = v) (hp : pc + 1 = pc') : Wk p l e R s m args below meth c bytes mxl rt Z a0 EL own n0 h0 ws S0 V h cells slots (mkF m pc' L (.long v :: st)) := by
  subst hv hp
  exact W.plain fun T hq hx hby t k => Jvm.Free.XT.ldiv hq hx rfl (hb hby hd) rfl hy k
theorem Wk.lrem {x y v : Int64} (W : Wk p l e R s m args below meth c bytes mxl rt Z a0 EL own n0 h0 ws S0 V h cells slots (mkF m pc L (.long y :: .long x :: st))) (hd : decode bytes pc = .ok (.lrem, 1)) (hy : y ≠ 0) (hv : x - (x / y) * y = v) (hp : pc + 1 = pc') : Wk p l e R s m args below meth c bytes mxl rt Z a0 EL own n0 h0 ws S0 V h cells slots (mkF m pc' L (.long v :: st)) := by
  subst hv hp
  exact W.plain fun T hq hx hby t k => Jvm.Free.XT.lrem hq hx rfl (hb hby hd) rfl hy k
theorem Wk.lshl {x v : Int64} {y : Int32} (W : Wk p l e R s m args below meth c bytes mxl rt Z a0 EL own n0 h0 ws S0 V h cells slots (mkF m pc L (.int y :: .long x :: st))) (hd : decode bytes pc = .ok (.lshl, 1)) (hv : x <<< (y.toInt64 &&& 63) = v) (hp : pc + 1 = pc') : Wk p l e R s m args below meth c bytes mxl rt Z a0 EL own n0 h0 ws S0 V h cells slots (mkF m pc' L (.long v :: st)) := by
  subst hv hp
  exact W.plain fun T hq hx hby t k => Jvm.Free.XT.lshl hq hx rfl (hb hby hd) rfl k
theorem Wk.lshr {x v : Int64} {y : Int32} (W : Wk p l e R s m args below meth c bytes mxl rt Z a0 EL own n0 h0 ws S0 V h cells slots (mkF m pc L (.int y :: .long x :: st))) (hd : decode bytes pc = .ok (.lshr, 1)) (hv : x >>> (y.toInt64 &&& 63) = v) (hp : pc + 1 = pc') : Wk p l e R s m args below meth c bytes mxl rt Z a0 EL own n0 h0 ws S0 V h cells slots (mkF m pc' L (.long v :: st)) := by
  subst hv hp
  exact W.plain fun T hq hx hby t k => Jvm.Free.XT.lshr hq hx rfl (hb hby hd) rfl k
theorem Wk.lushr {x v : Int64} {y : Int32} (W : Wk p l e R s m args below meth c bytes mxl rt Z a0 EL own n0 h0 ws S0 V h cells slots (mkF m pc L (.int y :: .long x :: st))) (hd : decode bytes pc = .ok (.lushr, 1)) (hv : Jvm.Free.XT.ushrL x y = v) (hp : pc + 1 = pc') : Wk p l e R s m args below meth c bytes mxl rt Z a0 EL own n0 h0 ws S0 V h cells slots (mkF m pc' L (.long v :: st)) := by
  subst hv hp
  exact W.plain fun T hq hx hby t k => Jvm.Free.XT.lushr hq hx rfl (hb hby hd) rfl k
theorem Wk.lneg {x v : Int64} (W : Wk p l e R s m args below meth c bytes mxl rt Z a0 EL own n0 h0 ws S0 V h cells slots (mkF m pc L (.long x :: st))) (hd : decode bytes pc = .ok (.lneg, 1)) (hv : -x = v) (hp : pc + 1 = pc') : Wk p l e R s m args below meth c bytes mxl rt Z a0 EL own n0 h0 ws S0 V h cells slots (mkF m pc' L (.long v :: st)) := by
  subst hv hp
  exact W.plain fun T hq hx hby t k => Jvm.Free.XT.lneg hq hx rfl (hb hby hd) rfl k
theorem Wk.i2l {x : Int32} {v : Int64} (W : Wk p l e R s m args below meth c bytes mxl rt Z a0 EL own n0 h0 ws S0 V h cells slots (mkF m pc L (.int x :: st))) (hd : decode bytes pc = .ok (.i2l, 1)) (hv : x.toInt64 = v) (hp : pc + 1 = pc') : Wk p l e R s m args below meth c bytes mxl rt Z a0 EL own n0 h0 ws S0 V h cells slots (mkF m pc' L (.long v :: st)) := by
  subst hv hp
  exact W.plain fun T hq hx hby t k => Jvm.Free.XT.i2l hq hx rfl (hb hby hd) rfl k
theorem Wk.l2i {x : Int64} {v : Int32} (W : Wk p l e R s m args below meth c bytes mxl rt Z a0 EL own n0 h0 ws S0 V h cells slots (mkF m pc L (.long x :: st))) (hd : decode bytes pc = .ok (.l2i, 1)) (hv : x.toInt32 = v) (hp : pc + 1 = pc') : Wk p l e R s m args below meth c bytes mxl rt Z a0 EL own n0 h0 ws S0 V h cells slots (mkF m pc' L (.int v :: st)) := by
  subst hv hp
  exact W.plain fun T hq hx hby t k => Jvm.Free.XT.l2i hq hx rfl (hb hby hd) rfl k
theorem Wk.lcmp {x y : Int64} {v : Int32} (W : Wk p l e R s m args below meth c bytes mxl rt Z a0 EL own n0 h0 ws S0 V h cells slots (mkF m pc L (.long y :: .long x :: st))) (hd : decode bytes pc = .ok (.lcmp, 1)) (hv : Jvm.Free.XT.cmpL x y = v) (hp : pc + 1 = pc') : Wk p l e R s m args below meth c bytes mxl rt Z a0 EL own n0 h0 ws S0 V h cells slots (mkF m pc' L (.int v :: st)) := by
  subst hv hp
  exact W.plain fun T hq hx hby t k => Jvm.Free.XT.lcmp hq hx rfl (hb hby hd) rfl k
theorem Wk.dup {x : Value} (W : Wk p l e R s m args below meth c bytes mxl rt Z a0 EL own n0 h0 ws S0 V h cells slots (mkF m pc L (x :: st))) (hd : decode bytes pc = .ok (.dup, 1)) (hc : x.category = 1) (hp : pc + 1 = pc') : Wk p l e R s m args below meth c bytes mxl rt Z a0 EL own n0 h0 ws S0 V h cells slots (mkF m pc' L (x :: x :: st)) := by
  subst hp
  exact W.plain fun T hq hx hby t k => XS.dup hq hx rfl (hb hby hd) rfl hc k
theorem Wk.pop {x : Value} (W : Wk p l e R s m args below meth c bytes mxl rt Z a0 EL own n0 h0 ws S0 V h cells slots (mkF m pc L (x :: st))) (hd : decode bytes pc = .ok (.pop, 1)) (hc : x.category = 1) (hp : pc + 1 = pc') : Wk p l e R s m args below meth c bytes mxl rt Z a0 EL own n0 h0 ws S0 V h cells slots (mkF m pc' L st) := by
  subst hp
  exact W.plain fun T hq hx hby t k => Jvm.Free.XT.pop hq hx rfl (hb hby hd) rfl hc k
theorem Wk.dupX1 {x y : Value} (W : Wk p l e R s m args below meth c bytes mxl rt Z a0 EL own n0 h0 ws S0 V h cells slots (mkF m pc L (x :: y :: st))) (hd : decode bytes pc = .ok (.dup_x1, 1)) (hc : x.category = 1) (hc' : y.category = 1) (hp : pc + 1 = pc') : Wk p l e R s m args below meth c bytes mxl rt Z a0 EL own n0 h0 ws S0 V h cells slots (mkF m pc' L (x :: y :: x :: st)) := by
  subst hp
  exact W.plain fun T hq hx hby t k => Jvm.Free.XT.dupX1 hq hx rfl (hb hby hd) rfl hc hc' k
theorem Wk.dup2 {x y : Value} (W : Wk p l e R s m args below meth c bytes mxl rt Z a0 EL own n0 h0 ws S0 V h cells slots (mkF m pc L (x :: y :: st))) (hd : decode bytes pc = .ok (.dup2, 1)) (hc : x.category = 1) (hc' : y.category = 1) (hp : pc + 1 = pc') : Wk p l e R s m args below meth c bytes mxl rt Z a0 EL own n0 h0 ws S0 V h cells slots (mkF m pc' L (x :: y :: x :: y :: st)) := by
  subst hp
  exact W.plain fun T hq hx hby t k => Jvm.Free.XT.dup2 hq hx rfl (hb hby hd) rfl hc hc' k
theorem Wk.dup2L {x : Int64} (W : Wk p l e R s m args below meth c bytes mxl rt Z a0 EL own n0 h0 ws S0 V h cells slots (mkF m pc L (.long x :: st))) (hd : decode bytes pc = .ok (.dup2, 1))  (hp : pc + 1 = pc') : Wk p l e R s m args below meth c bytes mxl rt Z a0 EL own n0 h0 ws S0 V h cells slots (mkF m pc' L (.long x :: .long x :: st)) := by
  subst hp
  exact W.plain fun T hq hx hby t k => Jvm.Free.XT.dup2L hq hx rfl (hb hby hd) rfl k
theorem Wk.istoreN {k : Fin 4} {x : Int32} {L' : Array Slot} (W : Wk p l e R s m args below meth c bytes mxl rt Z a0 EL own n0 h0 ws S0 V h cells slots (mkF m pc L (.int x :: st))) (hd : decode bytes pc = .ok (.istore_n k, 1)) (hl : storeLocals L k.val (.int x) = some L') (hp : pc + 1 = pc') : Wk p l e R s m args below meth c bytes mxl rt Z a0 EL own n0 h0 ws S0 V h cells slots (mkF m pc' L' st) := by
  subst hp
  exact W.plain fun T hq hx hby t k => XS.istoreN hq hx rfl (hb hby hd) rfl hl k
theorem Wk.istore {k : Nat} {x : Int32} {L' : Array Slot} (W : Wk p l e R s m args below meth c bytes mxl rt Z a0 EL own n0 h0 ws S0 V h cells slots (mkF m pc L (.int x :: st))) (hd : decode bytes pc = .ok (.istore k, 2)) (hl : storeLocals L k (.int x) = some L') (hp : pc + 2 = pc') : Wk p l e R s m args below meth c bytes mxl rt Z a0 EL own n0 h0 ws S0 V h cells slots (mkF m pc' L' st) := by
  subst hp
  exact W.plain fun T hq hx hby t k => XS.istore hq hx rfl (hb hby hd) rfl hl k
theorem Wk.astoreN {k : Fin 4} {x : Value} {L' : Array Slot} (W : Wk p l e R s m args below meth c bytes mxl rt Z a0 EL own n0 h0 ws S0 V h cells slots (mkF m pc L (x :: st))) (hd : decode bytes pc = .ok (.astore_n k, 1)) (hr : x.isRef = true) (hl : storeLocals L k.val x = some L') (hp : pc + 1 = pc') : Wk p l e R s m args below meth c bytes mxl rt Z a0 EL own n0 h0 ws S0 V h cells slots (mkF m pc' L' st) := by
  subst hp
  exact W.plain fun T hq hx hby t k => XS.astoreN hq hx rfl (hb hby hd) rfl hr hl k
theorem Wk.astore {k : Nat} {x : Value} {L' : Array Slot} (W : Wk p l e R s m args below meth c bytes mxl rt Z a0 EL own n0 h0 ws S0 V h cells slots (mkF m pc L (x :: st))) (hd : decode bytes pc = .ok (.astore k, 2)) (hr : x.isRef = true) (hl : storeLocals L k x = some L') (hp : pc + 2 = pc') : Wk p l e R s m args below meth c bytes mxl rt Z a0 EL own n0 h0 ws S0 V h cells slots (mkF m pc' L' st) := by
  subst hp
  exact W.plain fun T hq hx hby t k => XS.astore hq hx rfl (hb hby hd) rfl hr hl k
theorem Wk.lstoreN {k : Fin 4} {x : Int64} {L' : Array Slot} (W : Wk p l e R s m args below meth c bytes mxl rt Z a0 EL own n0 h0 ws S0 V h cells slots (mkF m pc L (.long x :: st))) (hd : decode bytes pc = .ok (.lstore_n k, 1)) (hl : storeLocals L k.val (.long x) = some L') (hp : pc + 1 = pc') : Wk p l e R s m args below meth c bytes mxl rt Z a0 EL own n0 h0 ws S0 V h cells slots (mkF m pc' L' st) := by
  subst hp
  exact W.plain fun T hq hx hby t k => Jvm.Free.XT.lstoreN hq hx rfl (hb hby hd) rfl hl k
theorem Wk.lstore {k : Nat} {x : Int64} {L' : Array Slot} (W : Wk p l e R s m args below meth c bytes mxl rt Z a0 EL own n0 h0 ws S0 V h cells slots (mkF m pc L (.long x :: st))) (hd : decode bytes pc = .ok (.lstore k, 2)) (hl : storeLocals L k (.long x) = some L') (hp : pc + 2 = pc') : Wk p l e R s m args below meth c bytes mxl rt Z a0 EL own n0 h0 ws S0 V h cells slots (mkF m pc' L' st) := by
  subst hp
  exact W.plain fun T hq hx hby t k => Jvm.Free.XT.lstore hq hx rfl (hb hby hd) rfl hl k
theorem Wk.iinc {k : Nat} {cst : Int} {x v : Int32} {L' : Array Slot} (W : Wk p l e R s m args below meth c bytes mxl rt Z a0 EL own n0 h0 ws S0 V h cells slots (mkF m pc L st)) (hd : decode bytes pc = .ok (.iinc k cst, 3)) (hl : L[k]? = some (.val (.int x))) (hv : x + Int32.ofInt cst = v) (hl' : storeLocals L k (.int v) = some L') (hp : pc + 3 = pc') : Wk p l e R s m args below meth c bytes mxl rt Z a0 EL own n0 h0 ws S0 V h cells slots (mkF m pc' L' st) := by
  subst hv hp
  exact W.plain fun T hq hx hby t k => XS.iinc hq hx rfl (hb hby hd) hl hl' k
theorem Wk.goto {o : Int} (W : Wk p l e R s m args below meth c bytes mxl rt Z a0 EL own n0 h0 ws S0 V h cells slots (mkF m pc L st)) (hd : decode bytes pc = .ok (.goto o, 3))  (ho : 0 ≤ (pc : Int) + o) (hp : ((pc : Int) + o).toNat = pc') : Wk p l e R s m args below meth c bytes mxl rt Z a0 EL own n0 h0 ws S0 V h cells slots (mkF m pc' L st) := by
  exact W.plain fun T hq hx hby t k => XS.goto hq hx rfl (pc0 := pc) rfl (hb hby hd)  ho hp k
theorem Wk.ifT {cd : ClassFile.Cond} {x : Int32} {o : Int} (W : Wk p l e R s m args below meth c bytes mxl rt Z a0 EL own n0 h0 ws S0 V h cells slots (mkF m pc L (.int x :: st))) (hd : decode bytes pc = .ok (.ifCond cd o, 3)) (hc : if_icmp.holds cd x 0 = true) (ho : 0 ≤ (pc : Int) + o) (hp : ((pc : Int) + o).toNat = pc') : Wk p l e R s m args below meth c bytes mxl rt Z a0 EL own n0 h0 ws S0 V h cells slots (mkF m pc' L st) := by
  exact W.plain fun T hq hx hby t k => XS.ifYes hq hx rfl (pc0 := pc) rfl (hb hby hd) rfl ((if0 cd x).trans hc) ho hp k
theorem Wk.ifF {cd : ClassFile.Cond} {x : Int32} {o : Int} (W : Wk p l e R s m args below meth c bytes mxl rt Z a0 EL own n0 h0 ws S0 V h cells slots (mkF m pc L (.int x :: st))) (hd : decode bytes pc = .ok (.ifCond cd o, 3)) (hc : if_icmp.holds cd x 0 = false) (hp : pc + 3 = pc') : Wk p l e R s m args below meth c bytes mxl rt Z a0 EL own n0 h0 ws S0 V h cells slots (mkF m pc' L st) := by
  subst hp
  exact W.plain fun T hq hx hby t k => XS.ifNo hq hx rfl (hb hby hd) rfl ((if0 cd x).trans hc) k
theorem Wk.icmpT {cd : ClassFile.Cond} {x y : Int32} {o : Int} (W : Wk p l e R s m args below meth c bytes mxl rt Z a0 EL own n0 h0 ws S0 V h cells slots (mkF m pc L (.int y :: .int x :: st))) (hd : decode bytes pc = .ok (.if_icmp cd o, 3)) (hc : if_icmp.holds cd x y = true) (ho : 0 ≤ (pc : Int) + o) (hp : ((pc : Int) + o).toNat = pc') : Wk p l e R s m args below meth c bytes mxl rt Z a0 EL own n0 h0 ws S0 V h cells slots (mkF m pc' L st) := by
  exact W.plain fun T hq hx hby t k => XS.icmpYes hq hx rfl (pc0 := pc) rfl (hb hby hd) rfl hc ho hp k
theorem Wk.icmpF {cd : ClassFile.Cond} {x y : Int32} {o : Int} (W : Wk p l e R s m args below meth c bytes mxl rt Z a0 EL own n0 h0 ws S0 V h cells slots (mkF m pc L (.int y :: .int x :: st))) (hd : decode bytes pc = .ok (.if_icmp cd o, 3)) (hc : if_icmp.holds cd x y = false) (hp : pc + 3 = pc') : Wk p l e R s m args below meth c bytes mxl rt Z a0 EL own n0 h0 ws S0 V h cells slots (mkF m pc' L st) := by
  subst hp
  exact W.plain fun T hq hx hby t k => XS.icmpNo hq hx rfl (hb hby hd) rfl hc k
theorem Wk.ifnullT {o : Int} (W : Wk p l e R s m args below meth c bytes mxl rt Z a0 EL own n0 h0 ws S0 V h cells slots (mkF m pc L (.null :: st))) (hd : decode bytes pc = .ok (.ifnull o, 3))  (ho : 0 ≤ (pc : Int) + o) (hp : ((pc : Int) + o).toNat = pc') : Wk p l e R s m args below meth c bytes mxl rt Z a0 EL own n0 h0 ws S0 V h cells slots (mkF m pc' L st) := by
  exact W.plain fun T hq hx hby t k => XS.ifnullYes hq hx rfl (pc0 := pc) rfl (hb hby hd) rfl ho hp k
theorem Wk.ifnullF {o : Int} {b : Addr} (W : Wk p l e R s m args below meth c bytes mxl rt Z a0 EL own n0 h0 ws S0 V h cells slots (mkF m pc L (.ref b :: st))) (hd : decode bytes pc = .ok (.ifnull o, 3))  (hp : pc + 3 = pc') : Wk p l e R s m args below meth c bytes mxl rt Z a0 EL own n0 h0 ws S0 V h cells slots (mkF m pc' L st) := by
  subst hp
  exact W.plain fun T hq hx hby t k => XS.ifnullNo hq hx rfl (hb hby hd) rfl k
theorem Wk.ifnonnullT {o : Int} {b : Addr} (W : Wk p l e R s m args below meth c bytes mxl rt Z a0 EL own n0 h0 ws S0 V h cells slots (mkF m pc L (.ref b :: st))) (hd : decode bytes pc = .ok (.ifnonnull o, 3))  (ho : 0 ≤ (pc : Int) + o) (hp : ((pc : Int) + o).toNat = pc') : Wk p l e R s m args below meth c bytes mxl rt Z a0 EL own n0 h0 ws S0 V h cells slots (mkF m pc' L st) := by
  exact W.plain fun T hq hx hby t k => Jvm.Free.XT.ifnonnullYes hq hx rfl (pc0 := pc) rfl (hb hby hd) rfl ho hp k
theorem Wk.ifnonnullF {o : Int} (W : Wk p l e R s m args below meth c bytes mxl rt Z a0 EL own n0 h0 ws S0 V h cells slots (mkF m pc L (.null :: st))) (hd : decode bytes pc = .ok (.ifnonnull o, 3))  (hp : pc + 3 = pc') : Wk p l e R s m args below meth c bytes mxl rt Z a0 EL own n0 h0 ws S0 V h cells slots (mkF m pc' L st) := by
  subst hp
  exact W.plain fun T hq hx hby t k => Jvm.Free.XT.ifnonnullNo hq hx rfl (hb hby hd) rfl k
theorem Wk.acmpT {cd : ClassFile.ACond} {x y : Value} {o : Int} (W : Wk p l e R s m args below meth c bytes mxl rt Z a0 EL own n0 h0 ws S0 V h cells slots (mkF m pc L (y :: x :: st))) (hd : decode bytes pc = .ok (.if_acmp cd o, 3)) (hx' : x.isRef = true) (hy' : y.isRef = true) (hc : Jvm.Free.XT.acmp cd x y = true) (ho : 0 ≤ (pc : Int) + o) (hp : ((pc : Int) + o).toNat = pc') : Wk p l e R s m args below meth c bytes mxl rt Z a0 EL own n0 h0 ws S0 V h cells slots (mkF m pc' L st) := by
  exact W.plain fun T hq hx hby t k => Jvm.Free.XT.acmpYes hq hx rfl (pc0 := pc) rfl (hb hby hd) rfl hx' hy' hc ho hp k
theorem Wk.acmpF {cd : ClassFile.ACond} {x y : Value} {o : Int} (W : Wk p l e R s m args below meth c bytes mxl rt Z a0 EL own n0 h0 ws S0 V h cells slots (mkF m pc L (y :: x :: st))) (hd : decode bytes pc = .ok (.if_acmp cd o, 3)) (hx' : x.isRef = true) (hy' : y.isRef = true) (hc : Jvm.Free.XT.acmp cd x y = false) (hp : pc + 3 = pc') : Wk p l e R s m args below meth c bytes mxl rt Z a0 EL own n0 h0 ws S0 V h cells slots (mkF m pc' L st) := by
  subst hp
  exact W.plain fun T hq hx hby t k => Jvm.Free.XT.acmpNo hq hx rfl (hb hby hd) rfl hx' hy' hc k
theorem Wk.new {C : String} {index n cells' slots' : Nat} (W : Wk p l e R s m args below meth c bytes mxl rt Z a0 EL own n0 h0 ws S0 V h cells slots (mkF m pc L st)) (hd : decode bytes pc = .ok (.new index, 3)) (w : (Jvm.Cond.classLink own index C).before a0 Z = true) (wi : (Jvm.Cond.instantiable C n).before a0 Z = true) (wz : (Jvm.Cond.initialized C).before a0 Z = true) (hp : pc + 3 = pc') (hc : cells + 1 = cells') (hs : slots + n = slots') (hc' : cells' ≤ R.cells) (hs' : slots' ≤ R.slots) :
    ∃ h' a, Wk p l e R s m args below meth c bytes mxl rt Z a0 EL own n0 h0 ws S0 V h' cells' slots' (mkF m pc' L (.ref a :: st)) ∧ Ext h h' ∧ a = h.size ∧ (Exa Z h' h.size C ∧ (∀ {O nm d : String} {ty : FieldType}, Laid Z a0 C O nm d → parseFieldDescriptor d = some ty → Fld Z h' h.size O nm d (defaultValue ty)) ∧ Unt h' h.size) ∧ Safe Z EL V h' a ∧ ∀ x, Safe Z EL V h x → Safe Z EL V h' x := by
  subst hp hc hs
  refine W.grew (G := fun a => mkF m (pc + 3) L (.ref a :: st)) (Q := fun h' => Exa Z h' h.size C ∧ (∀ {O nm d : String} {ty : FieldType}, Laid Z a0 C O nm d → parseFieldDescriptor d = some ty → Fld Z h' h.size O nm d (defaultValue ty)) ∧ Unt h' h.size) fun T locs X eT hx hby hZ hown => ?_
  obtain ⟨T', h', X', e', E, A, D, U, st'⟩ := newO X hx hZ hown w wi wz eT (g := mkF m pc L st) rfl (hb hby hd) hc' hs'
  exact ⟨T', h', X', e', E, ⟨A, D, U⟩, st'⟩
theorem Wk.newarr {aty : ArrayType} {z : Int32} {cap cells' slots' : Nat} (W : Wk p l e R s m args below meth c bytes mxl rt Z a0 EL own n0 h0 ws S0 V h cells slots (mkF m pc L (.int z :: st))) (hd : decode bytes pc = .ok (.newarray aty, 2)) (w : (Jvm.Cond.arrayClass (newarray.typeOf aty)).before a0 Z = true) (hn : ¬ z < 0) (hcap : z.toNatClampNeg ≤ cap) (hbig : cap * 8 ≤ 536870912) (hp : pc + 2 = pc') (hc : cells + 1 = cells') (hs : slots + cap = slots') (hc' : cells' ≤ R.cells) (hs' : slots' ≤ R.slots) :
    ∃ h' a, Wk p l e R s m args below meth c bytes mxl rt Z a0 EL own n0 h0 ws S0 V h' cells' slots' (mkF m pc' L (.ref a :: st)) ∧ Ext h h' ∧ a = h.size ∧ (∃ k, Arv Z h' h.size k (newarray.typeOf aty) z [] (defaultValue (newarray.typeOf aty))) ∧ Safe Z EL V h' a ∧ ∀ x, Safe Z EL V h x → Safe Z EL V h' x := by
  subst hp hc hs
  refine W.grew (G := fun a => mkF m (pc + 2) L (.ref a :: st)) (Q := fun h' => ∃ k, Arv Z h' h.size k (newarray.typeOf aty) z [] (defaultValue (newarray.typeOf aty))) fun T locs X eT hx hby hZ hown => ?_
  obtain ⟨T', h', k, X', e', E, A, st'⟩ := newP X hx hZ w eT (g := mkF m pc L (.int z :: st)) rfl (hb hby hd) rfl hn (cap := cap) hcap hbig hc' hs'
  exact ⟨T', h', X', e', E, ⟨k, Arv.new A hn⟩, st'⟩
theorem Wk.newarrE {aty : ArrayType} {z : Int32} {ad : String} {cap cells' slots' : Nat} (W : Wk p l e R s m args below meth c bytes mxl rt Z a0 EL own n0 h0 ws S0 V h cells slots (mkF m pc L (.int z :: st))) (hd : decode bytes pc = .ok (.newarray aty, 2)) (w : (Jvm.Cond.arrayClass (newarray.typeOf aty)).before a0 Z = true) (had : "[" ++ (newarray.typeOf aty).toString = ad) (hn : ¬ z < 0) (hcap : z.toNatClampNeg ≤ cap) (hbig : cap * 8 ≤ 536870912) (hp : pc + 2 = pc') (hc : cells + 1 = cells') (hs : slots + cap = slots') (hc' : cells' ≤ R.cells) (hs' : slots' ≤ R.slots) :
    ∃ h' a, Wk p l e R s m args below meth c bytes mxl rt Z a0 EL own n0 h0 ws S0 V h' cells' slots' (mkF m pc' L (.ref a :: st)) ∧ Ext h h' ∧ a = h.size ∧ ((∃ k, Arv Z h' h.size k (newarray.typeOf aty) z [] (defaultValue (newarray.typeOf aty))) ∧ Exa Z h' h.size ad) ∧ Safe Z EL V h' a ∧ ∀ x, Safe Z EL V h x → Safe Z EL V h' x := by
  subst hp hc hs
  refine W.grew (G := fun a => mkF m (pc + 2) L (.ref a :: st)) (Q := fun h' => (∃ k, Arv Z h' h.size k (newarray.typeOf aty) z [] (defaultValue (newarray.typeOf aty))) ∧ Exa Z h' h.size ad) fun T locs X eT hx hby hZ hown => ?_
  obtain ⟨T', h', k, X', e', E, A, B, st'⟩ := newPE X hx hZ w eT (g := mkF m pc L (.int z :: st)) rfl (hb hby hd) rfl hn (cap := cap) hcap hbig hc' hs' had
  exact ⟨T', h', X', e', E, ⟨⟨k, Arv.new A hn⟩, B⟩, st'⟩
theorem Wk.clone {index : Nat} {ad : String} {a : Addr} {k : ClassId} {ty : FieldType} {z : Int32} {vs : List Value} {dv : Value} {cap Wd cells' slots' : Nat} (W : Wk p l e R s m args below meth c bytes mxl rt Z a0 EL own n0 h0 ws S0 V h cells slots (mkF m pc L (.ref a :: st))) (hd : decode bytes pc = .ok (.invokevirtual index, 3)) (w1 : (Jvm.Cond.methodLink own index ⟨ad, "clone", "()Ljava/lang/Object;"⟩).before a0 Z = true) (w2 : (Jvm.Cond.sameMethod ad "java/lang/Object" "clone" "()Ljava/lang/Object;").before a0 Z = true) (w3 : (Jvm.Cond.native ⟨"java/lang/Object", "clone", "()Ljava/lang/Object;"⟩).before a0 Z = true) (w4 : (Jvm.Cond.instanceMethod ⟨"java/lang/Object", "clone", "()Ljava/lang/Object;"⟩).before a0 Z = true) (w5 : (Jvm.Cond.selects ad ⟨ad, "clone", "()Ljava/lang/Object;"⟩ ⟨"java/lang/Object", "clone", "()Ljava/lang/Object;"⟩).before a0 Z = true) (w6 : (Jvm.Cond.castable ad "java/lang/Cloneable").before a0 Z = true) (A : Arv Z h a k ty z vs dv) (E : Exa Z h a ad) (hL : L.size = mxl) (hW : (st.map fun v => v.category).sum = Wd) (hf : 1 ≤ R.frames) (hl : Wd + 14 ≤ R.locals) (hcap : z.toNatClampNeg ≤ cap) (hp : pc + 3 = pc') (hc : cells + 1 = cells') (hs : slots + cap = slots') (hc' : cells' ≤ R.cells) (hs' : slots' ≤ R.slots) :
    ∃ h' a, Wk p l e R s m args below meth c bytes mxl rt Z a0 EL own n0 h0 ws S0 V h' cells' slots' (mkF m pc' L (.ref a :: st)) ∧ Ext h h' ∧ a = h.size ∧ (Arv Z h' h.size k ty z vs dv ∧ Exa Z h' h.size ad) ∧ Safe Z EL V h' a ∧ ∀ x, Safe Z EL V h x → Safe Z EL V h' x := by
  subst hp hc hs hW
  have hml := W.1.2.2.1
  refine W.grew (G := fun b => mkF m (pc + 3) L (.ref b :: st)) (Q := fun h' => Arv Z h' h.size k ty z vs dv ∧ Exa Z h' h.size ad) fun T locs X eT hx hby hZ hown => ?_
  obtain ⟨T', h', X', e', E', ⟨c', B1, B2, B3, B4, B5, B6⟩, C, st'⟩ := cloneH X hx hZ hown w1 w2 w3 w4 w5 w6 eT (Arv.arh A) E (g := mkF m pc L (.ref a :: st)) rfl (hL.trans hml.symm) rfl (hb hby hd) hf (by show 2 * 0 + _ ≤ _; exact Nat.le_of_eq (Nat.zero_add _)) hl hcap hc' hs'
  exact ⟨T', h', X', e', E', ⟨⟨c', B1, B2, B3, B4, B5, B6⟩, C⟩, st'⟩
theorem Wk.getf {index : Nat} {R0 O n d : String} {a : Addr} {v : Value} (W : Wk p l e R s m args below meth c bytes mxl rt Z a0 EL own n0 h0 ws S0 V h cells slots (mkF m pc L (.ref a :: st))) (hd : decode bytes pc = .ok (.getfield index, 3)) (w : (Jvm.Cond.fieldLink own index R0 n d).before a0 Z = true) (via : Via Z R0 O n d) (F : Fld Z h a O n d v) (hp : pc + 3 = pc') : Wk p l e R s m args below meth c bytes mxl rt Z a0 EL own n0 h0 ws S0 V h cells slots (mkF m pc' L (v :: st)) := by
  subst hp
  exact W.reads fun T locs X eT hx hby hZ hown => getF X hx hZ hown (host := "") (Or.inl w) via eT F (g := mkF m pc L (.ref a :: st)) rfl rfl (hb hby hd)
theorem Wk.gets {index : Nat} {O n d : String} {v : Value} (W : Wk p l e R s m args below meth c bytes mxl rt Z a0 EL own n0 h0 ws S0 V h cells slots (mkF m pc L st)) (hd : decode bytes pc = .ok (.getstatic index, 3)) (w : (Jvm.Cond.fieldLink own index O n d).before a0 Z = true) (S : Sta Z Z.heap O n d v) (hp : pc + 3 = pc') : Wk p l e R s m args below meth c bytes mxl rt Z a0 EL own n0 h0 ws S0 V h cells slots (mkF m pc' L (v :: st)) := by
  subst hp
  have S' := W.sta S
  exact W.reads fun T locs X eT hx hby hZ hown => getS (host := "") X hx hZ hown w Via.refl eT S' (g := mkF m pc L st) rfl (hb hby hd)
theorem Wk.castY {index : Nat} {K : String} {a : Addr} (W : Wk p l e R s m args below meth c bytes mxl rt Z a0 EL own n0 h0 ws S0 V h cells slots (mkF m pc L (.ref a :: st))) (hd : decode bytes pc = .ok (.checkcast index, 3)) (w : (Jvm.Cond.classLink own index K).before a0 Z = true) (I : Ins Z h a K true) (hp : pc + 3 = pc') : Wk p l e R s m args below meth c bytes mxl rt Z a0 EL own n0 h0 ws S0 V h cells slots (mkF m pc' L (.ref a :: st)) := by
  subst hp
  exact W.reads fun T locs X eT hx hby hZ hown => Jvm.RoadKit.castY X hx hZ hown w eT I (g := mkF m pc L (.ref a :: st)) rfl rfl (hb hby hd)
theorem Wk.instY {index : Nat} {K : String} {a : Addr} (W : Wk p l e R s m args below meth c bytes mxl rt Z a0 EL own n0 h0 ws S0 V h cells slots (mkF m pc L (.ref a :: st))) (hd : decode bytes pc = .ok (.instanceof index, 3)) (w : (Jvm.Cond.classLink own index K).before a0 Z = true) (I : Ins Z h a K true) (hp : pc + 3 = pc') : Wk p l e R s m args below meth c bytes mxl rt Z a0 EL own n0 h0 ws S0 V h cells slots (mkF m pc' L (.int 1 :: st)) := by
  subst hp
  exact W.reads fun T locs X eT hx hby hZ hown => Jvm.RoadKit.instY X hx hZ hown w eT I (g := mkF m pc L (.ref a :: st)) rfl rfl (hb hby hd)
theorem Wk.putf {index kk : Nat} {R0 O n d C : String} {ty : FieldType} {a : Addr} {v old : Value} (W : Wk p l e R s m args below meth c bytes mxl rt Z a0 EL own n0 h0 ws S0 V h cells slots (mkF m pc L (v :: .ref a :: st))) (hd : decode bytes pc = .ok (.putfield index, 3)) (w : (Jvm.Cond.fieldLink own index R0 n d).before a0 Z = true) (via : Via Z R0 O n d) (F : Fld Z h a O n d old) (E : Exa Z h a C) (Lw : (Jvm.Cond.lays C O n d).before a0 Z = true ∨ ((Jvm.Cond.laysFinal C O n d).before a0 Z = true ∧ own = O ∧ meth.name = "<init>")) (wi : (Jvm.Cond.instantiable C kk).before a0 Z = true) (hty : parseFieldDescriptor d = some ty) (hn : narrow ty v = v) (hf : fits ty v = true) (sf : Safe Z EL V h a) (q : a ∈ ws ∨ h0.size ≤ a) (hp : pc + 3 = pc') :
    ∃ h', Wk p l e R s m args below meth c bytes mxl rt Z a0 EL own n0 h0 ws S0 V h' cells slots (mkF m pc' L st) ∧ Wr h h' a (Jvm.RoadKit.slotOf Z O n d) v ∧ ∀ x, Safe Z EL V h x → Safe Z EL V h' x := by
  subst hp
  exact W.wrote (cells' := 0) (slots' := 0) (h' := h) sf q fun T locs X eT hx hby hZ hown => putF X hx hZ hown (host := "") (Or.inl w) via eT F E Lw wi hty hn hf (g := mkF m pc L (v :: .ref a :: st)) rfl rfl (hb hby hd)
theorem Wk.initO {index : Nat} {a : Addr} {Wd : Nat} (W : Wk p l e R s m args below meth c bytes mxl rt Z a0 EL own n0 h0 ws S0 V h cells slots (mkF m pc L (.ref a :: st))) (hd : decode bytes pc = .ok (.invokespecial index, 3)) (w1 : (Jvm.Cond.methodLink own index Lib.objectInit).before a0 Z = true) (w2 : (Jvm.Cond.instanceMethod Lib.objectInit).before a0 Z = true) (w3 : (Jvm.Cond.code Lib.objectInit ⟨#[0xb1]⟩ 1 none).before a0 Z = true) (hL : L.size = mxl) (hW : (st.map fun v => v.category).sum = Wd) (hf : 1 ≤ R.frames) (hl : Wd + 12 ≤ R.locals) (hp : pc + 3 = pc') : Wk p l e R s m args below meth c bytes mxl rt Z a0 EL own n0 h0 ws S0 V h cells slots (mkF m pc' L st) := by
  subst hp hW
  have hml := W.1.2.2.1
  exact W.reads fun T locs X eT hx hby hZ hown => Jvm.RoadKit.initO X hx hZ hown w1 w2 w3 eT (g := mkF m pc L (.ref a :: st)) rfl (hL.trans hml.symm) rfl (hb hby hd) hf (by show 2 * 0 + _ ≤ _; exact Nat.le_of_eq (Nat.zero_add _)) hl
theorem Wk.ldcI {index : Nat} {v : Int32} (W : Wk p l e R s m args below meth c bytes mxl rt Z a0 EL own n0 h0 ws S0 V h cells slots (mkF m pc L st)) (hd : decode bytes pc = .ok (.ldc index, 2)) (w : (Jvm.Cond.constant own index v).before a0 Z = true) (hp : pc + 2 = pc') : Wk p l e R s m args below meth c bytes mxl rt Z a0 EL own n0 h0 ws S0 V h cells slots (mkF m pc' L (.int v :: st)) := by
  subst hp
  exact W.reads fun T locs X eT hx hby hZ hown => ⟨T, X, eT, X.ldcInt hx hown (mvT hZ w) (g := mkF m pc L st) rfl (hb hby hd)⟩
theorem Wk.ldc2 {index : Nat} {v : Int64} (W : Wk p l e R s m args below meth c bytes mxl rt Z a0 EL own n0 h0 ws S0 V h cells slots (mkF m pc L st)) (hd : decode bytes pc = .ok (.ldc2_w index, 3)) (w : (Jvm.Cond.constantLong own index v).before a0 Z = true) (hp : pc + 3 = pc') : Wk p l e R s m args below meth c bytes mxl rt Z a0 EL own n0 h0 ws S0 V h cells slots (mkF m pc' L (.long v :: st)) := by
  subst hp
  exact W.reads fun T locs X eT hx hby hZ hown => ⟨T, X, eT, X.ldc2Long hx hown (mvT hZ w) (g := mkF m pc L st) rfl (hb hby hd)⟩
section Arrays
variable {a : Addr} {k : ClassId} {z j : Int32} {vs : List Value} {dv w : Value} {ty : FieldType} {i : Nat}
theorem Wk.alen (W : Wk p l e R s m args below meth c bytes mxl rt Z a0 EL own n0 h0 ws S0 V h cells slots (mkF m pc L (.ref a :: st))) (hd : decode bytes pc = .ok (.arraylength, 1)) (A : Arv Z h a k ty z vs dv) (hp : pc + 1 = pc') : Wk p l e R s m args below meth c bytes mxl rt Z a0 EL own n0 h0 ws S0 V h cells slots (mkF m pc' L (.int z :: st)) := by
  subst hp
  obtain ⟨cl, A1, -, S, M, -, -⟩ := A
  exact W.reads fun T locs X eT hx hby hZ hown => ⟨T, X, eT, fun t q => X.arraylength hx (by rw [eT]; exact A1.1) (State.isArrayOf_alike hZ.alike A1.2.1) (g := mkF m pc L (.ref a :: st)) rfl rfl (hb hby hd) t (by rw [len_of S M]; exact q)⟩
theorem Wk.caload (W : Wk p l e R s m args below meth c bytes mxl rt Z a0 EL own n0 h0 ws S0 V h cells slots (mkF m pc L (.int j :: .ref a :: st))) (hd : decode bytes pc = .ok (.caload, 1)) (A : Arv Z h a k .char z vs dv) (hj : ¬ j < 0 ∧ j < z) (hv : vs.getD j.toNatClampNeg dv = w) (hp : pc + 1 = pc') : Wk p l e R s m args below meth c bytes mxl rt Z a0 EL own n0 h0 ws S0 V h cells slots (mkF m pc' L (w :: st)) := by
  subst hp
  obtain ⟨cl, A1, -, S, M, H, -⟩ := A
  have hin := inb_of S hj
  exact W.reads fun T locs X eT hx hby hZ hown => ⟨T, X, eT, X.caload hx (by rw [eT]; exact A1.1) (State.isArrayOf_alike hZ.alike A1.2.1) A1.2.2 hin (H.at hin hv) (g := mkF m pc L (.int j :: .ref a :: st)) rfl rfl (hb hby hd)⟩
theorem Wk.baload (W : Wk p l e R s m args below meth c bytes mxl rt Z a0 EL own n0 h0 ws S0 V h cells slots (mkF m pc L (.int j :: .ref a :: st))) (hd : decode bytes pc = .ok (.baload, 1)) (A : Arv Z h a k .byte z vs dv) (hj : ¬ j < 0 ∧ j < z) (hv : vs.getD j.toNatClampNeg dv = w) (hp : pc + 1 = pc') : Wk p l e R s m args below meth c bytes mxl rt Z a0 EL own n0 h0 ws S0 V h cells slots (mkF m pc' L (w :: st)) := by
  subst hp
  obtain ⟨cl, A1, -, S, M, H, -⟩ := A
  have hin := inb_of S hj
  exact W.reads fun T locs X eT hx hby hZ hown => ⟨T, X, eT, X.baloadBytes hx (by rw [eT]; exact A1.1) (State.isArrayOf_alike hZ.alike A1.2.1) A1.2.2 hin (H.at hin hv) (g := mkF m pc L (.int j :: .ref a :: st)) rfl rfl (hb hby hd)⟩
theorem Wk.iaload (W : Wk p l e R s m args below meth c bytes mxl rt Z a0 EL own n0 h0 ws S0 V h cells slots (mkF m pc L (.int j :: .ref a :: st))) (hd : decode bytes pc = .ok (.iaload, 1)) (A : Arv Z h a k .int z vs dv) (hj : ¬ j < 0 ∧ j < z) (hv : vs.getD j.toNatClampNeg dv = w) (hp : pc + 1 = pc') : Wk p l e R s m args below meth c bytes mxl rt Z a0 EL own n0 h0 ws S0 V h cells slots (mkF m pc' L (w :: st)) := by
  subst hp
  obtain ⟨cl, A1, -, S, M, H, -⟩ := A
  have hin := inb_of S hj
  exact W.reads fun T locs X eT hx hby hZ hown => ⟨T, X, eT, X.iaload hx (by rw [eT]; exact A1.1) (State.isArrayOf_alike hZ.alike A1.2.1) A1.2.2 hin (H.at hin hv) (g := mkF m pc L (.int j :: .ref a :: st)) rfl rfl (hb hby hd)⟩
theorem Wk.laload (W : Wk p l e R s m args below meth c bytes mxl rt Z a0 EL own n0 h0 ws S0 V h cells slots (mkF m pc L (.int j :: .ref a :: st))) (hd : decode bytes pc = .ok (.laload, 1)) (A : Arv Z h a k .long z vs dv) (hj : ¬ j < 0 ∧ j < z) (hv : vs.getD j.toNatClampNeg dv = w) (hp : pc + 1 = pc') : Wk p l e R s m args below meth c bytes mxl rt Z a0 EL own n0 h0 ws S0 V h cells slots (mkF m pc' L (w :: st)) := by
  subst hp
  obtain ⟨cl, A1, -, S, M, H, -⟩ := A
  have hin := inb_of S hj
  exact W.reads fun T locs X eT hx hby hZ hown => ⟨T, X, eT, X.laload hx (by rw [eT]; exact A1.1) (State.isArrayOf_alike hZ.alike A1.2.1) A1.2.2 hin (H.at hin hv) (g := mkF m pc L (.int j :: .ref a :: st)) rfl rfl (hb hby hd)⟩
theorem Wk.saload (W : Wk p l e R s m args below meth c bytes mxl rt Z a0 EL own n0 h0 ws S0 V h cells slots (mkF m pc L (.int j :: .ref a :: st))) (hd : decode bytes pc = .ok (.saload, 1)) (A : Arv Z h a k .short z vs dv) (hj : ¬ j < 0 ∧ j < z) (hv : vs.getD j.toNatClampNeg dv = w) (hp : pc + 1 = pc') : Wk p l e R s m args below meth c bytes mxl rt Z a0 EL own n0 h0 ws S0 V h cells slots (mkF m pc' L (w :: st)) := by
  subst hp
  obtain ⟨cl, A1, -, S, M, H, -⟩ := A
  have hin := inb_of S hj
  exact W.reads fun T locs X eT hx hby hZ hown => ⟨T, X, eT, X.saload hx (by rw [eT]; exact A1.1) (State.isArrayOf_alike hZ.alike A1.2.1) A1.2.2 hin (H.at hin hv) (g := mkF m pc L (.int j :: .ref a :: st)) rfl rfl (hb hby hd)⟩
theorem Wk.aaload (W : Wk p l e R s m args below meth c bytes mxl rt Z a0 EL own n0 h0 ws S0 V h cells slots (mkF m pc L (.int j :: .ref a :: st))) (hd : decode bytes pc = .ok (.aaload, 1)) (A : Arv Z h a k ty z vs dv) (ht : ty.isReference = true) (hj : ¬ j < 0 ∧ j < z) (hv : vs.getD j.toNatClampNeg dv = w) (hp : pc + 1 = pc') : Wk p l e R s m args below meth c bytes mxl rt Z a0 EL own n0 h0 ws S0 V h cells slots (mkF m pc' L (w :: st)) := by
  subst hp
  obtain ⟨cl, A1, -, S, M, H, -⟩ := A
  have hin := inb_of S hj
  exact W.reads fun T locs X eT hx hby hZ hown => ⟨T, X, eT, X.aaload hx (by rw [eT]; exact A1.1) (State.isArrayOf_alike hZ.alike A1.2.1) ht A1.2.2 hin (H.at hin hv) (g := mkF m pc L (.int j :: .ref a :: st)) rfl rfl (hb hby hd)⟩
theorem Wk.castore {x x' : Int32} (W : Wk p l e R s m args below meth c bytes mxl rt Z a0 EL own n0 h0 ws S0 V h cells slots (mkF m pc L (.int x :: .int j :: .ref a :: st))) (hd : decode bytes pc = .ok (.castore, 1)) (A : Arv Z h a k .char z vs dv) (hj : ¬ j < 0 ∧ j < z) (hi : j.toNatClampNeg = i) (hlt : i < vs.length) (hx' : nar .char x = x') (sf : Safe Z EL V h a) (q : a ∈ ws ∨ h0.size ≤ a) (hp : pc + 1 = pc') :
    ∃ h', Wk p l e R s m args below meth c bytes mxl rt Z a0 EL own n0 h0 ws S0 V h' cells slots (mkF m pc' L st) ∧ Wr h h' a j.toNatClampNeg (.int x') ∧ Arv Z h' a k .char z (vs.set i (.int x')) dv ∧ ∀ x, Safe Z EL V h x → Safe Z EL V h' x := by
  subst hp hx'
  obtain ⟨cl, A1, q1, S, M, H, G⟩ := A
  have hin := inb_of S hj
  obtain ⟨h', W', w', sf'⟩ := W.wrote (cells' := 0) (slots' := 0) (h' := h) sf q fun T locs X eT hx hby hZ hown => stC X hx hZ eT A1 hin (g := mkF m pc L (.int x :: .int j :: .ref a :: st)) rfl rfl (hb hby hd)
  exact ⟨h', W', w', Arv.set A1 q1 S M H G (fits_nar_char _) w' i hi hlt, sf'⟩
theorem Wk.bastore {x x' : Int32} (W : Wk p l e R s m args below meth c bytes mxl rt Z a0 EL own n0 h0 ws S0 V h cells slots (mkF m pc L (.int x :: .int j :: .ref a :: st))) (hd : decode bytes pc = .ok (.bastore, 1)) (A : Arv Z h a k .byte z vs dv) (hj : ¬ j < 0 ∧ j < z) (hi : j.toNatClampNeg = i) (hlt : i < vs.length) (hx' : nar .byte x = x') (sf : Safe Z EL V h a) (q : a ∈ ws ∨ h0.size ≤ a) (hp : pc + 1 = pc') :
    ∃ h', Wk p l e R s m args below meth c bytes mxl rt Z a0 EL own n0 h0 ws S0 V h' cells slots (mkF m pc' L st) ∧ Wr h h' a j.toNatClampNeg (.int x') ∧ Arv Z h' a k .byte z (vs.set i (.int x')) dv ∧ ∀ x, Safe Z EL V h x → Safe Z EL V h' x := by
  subst hp hx'
  obtain ⟨cl, A1, q1, S, M, H, G⟩ := A
  have hin := inb_of S hj
  obtain ⟨h', W', w', sf'⟩ := W.wrote (cells' := 0) (slots' := 0) (h' := h) sf q fun T locs X eT hx hby hZ hown => stB X hx hZ eT A1 hin (g := mkF m pc L (.int x :: .int j :: .ref a :: st)) rfl rfl (hb hby hd)
  exact ⟨h', W', w', Arv.set A1 q1 S M H G (fits_nar_byte _) w' i hi hlt, sf'⟩
theorem Wk.iastore {x x' : Int32} (W : Wk p l e R s m args below meth c bytes mxl rt Z a0 EL own n0 h0 ws S0 V h cells slots (mkF m pc L (.int x :: .int j :: .ref a :: st))) (hd : decode bytes pc = .ok (.iastore, 1)) (A : Arv Z h a k .int z vs dv) (hj : ¬ j < 0 ∧ j < z) (hi : j.toNatClampNeg = i) (hlt : i < vs.length) (hx' : x = x') (sf : Safe Z EL V h a) (q : a ∈ ws ∨ h0.size ≤ a) (hp : pc + 1 = pc') :
    ∃ h', Wk p l e R s m args below meth c bytes mxl rt Z a0 EL own n0 h0 ws S0 V h' cells slots (mkF m pc' L st) ∧ Wr h h' a j.toNatClampNeg (.int x') ∧ Arv Z h' a k .int z (vs.set i (.int x')) dv ∧ ∀ x, Safe Z EL V h x → Safe Z EL V h' x := by
  subst hp hx'
  obtain ⟨cl, A1, q1, S, M, H, G⟩ := A
  have hin := inb_of S hj
  obtain ⟨h', W', w', sf'⟩ := W.wrote (cells' := 0) (slots' := 0) (h' := h) sf q fun T locs X eT hx hby hZ hown => stI X hx hZ eT A1 hin (g := mkF m pc L (.int x :: .int j :: .ref a :: st)) rfl rfl (hb hby hd)
  exact ⟨h', W', w', Arv.set A1 q1 S M H G rfl w' i hi hlt, sf'⟩
theorem Wk.lastore {x x' : Int64} (W : Wk p l e R s m args below meth c bytes mxl rt Z a0 EL own n0 h0 ws S0 V h cells slots (mkF m pc L (.long x :: .int j :: .ref a :: st))) (hd : decode bytes pc = .ok (.lastore, 1)) (A : Arv Z h a k .long z vs dv) (hj : ¬ j < 0 ∧ j < z) (hi : j.toNatClampNeg = i) (hlt : i < vs.length) (hx' : x = x') (sf : Safe Z EL V h a) (q : a ∈ ws ∨ h0.size ≤ a) (hp : pc + 1 = pc') :
    ∃ h', Wk p l e R s m args below meth c bytes mxl rt Z a0 EL own n0 h0 ws S0 V h' cells slots (mkF m pc' L st) ∧ Wr h h' a j.toNatClampNeg (.long x') ∧ Arv Z h' a k .long z (vs.set i (.long x')) dv ∧ ∀ x, Safe Z EL V h x → Safe Z EL V h' x := by
  subst hp hx'
  obtain ⟨cl, A1, q1, S, M, H, G⟩ := A
  have hin := inb_of S hj
  obtain ⟨h', W', w', sf'⟩ := W.wrote (cells' := 0) (slots' := 0) (h' := h) sf q fun T locs X eT hx hby hZ hown => stJ X hx hZ eT A1 hin (g := mkF m pc L (.long x :: .int j :: .ref a :: st)) rfl rfl (hb hby hd)
  exact ⟨h', W', w', Arv.set A1 q1 S M H G rfl w' i hi hlt, sf'⟩
end Arrays

/-- what a walk owes at its end -/
def Done (p : Program) (e : Env) (below : List Frame) (S0 s : State) (Z : State) (EL : List (String × Nat)) (n0 : Nat) (h0 : Heap) (ws : List Addr) (R : Room) (Q : Option Value → Heap → Vm → Prop) : Prop :=
  ∃ s₂ o, Steps p.tables e below S0 s₂ ∧ s₂.status = .running ∧ Ended s₂ below o ∧ ∃ v L, o = .returned v ∧ (Fr n0 L ∧ Keep h0 s₂.heap ws ∧ Q v s₂.heap s₂.vm) ∧ CHr Z EL s.vm h0 s₂.vm s₂.heap ∧ ReturnedEndW s o s₂ L R.cells R.slots
theorem Wk.fin {g : JFrame} (W : Wk p l e R s m args below meth c bytes mxl rt Z a0 EL own n0 h0 ws S0 V h cells slots g) {v : Option Value} {Q : Option Value → Heap → Vm → Prop} (hv : rt = none → v = none) (hc : cells ≤ R.cells) (hs : slots ≤ R.slots) (hQ : ∀ V', (∀ x, x < h.size → Safe Z EL V h x → Safe Z EL V' h x) → Q v h V')
    (f : ∀ (T : State) (locs : List Loc) (fs : List Frame), Stand p l e R (s.setVm V) m args below meth c T locs cells slots → p.tables.exec = Jvm.exec → c.code = bytes → (∀ (f : JFrame) (acts : List Action), f.method = m → f.locked = none → f.entered = [] → (doReturn e (T.setTop f) acts v).1 = T.setFrames fs) → Steps p.tables e below (T.setTop g) (T.setFrames fs)) : Done p e below S0 s Z EL n0 h0 ws R Q := by
  obtain ⟨a1, b, T, locs, X, eT, N, k⟩ := W
  obtain ⟨k0, hS, hk⟩ := b.2.2.1
  obtain ⟨fs, hr, hrun, hended, r1, r2, r3, r4⟩ := X.leaveW hS (by rw [eT]; exact hk) (v := v) (fun z => hv (by rw [← a1.2.2.2.1]; exact z)) a1.2.2.2.2.1
  have hh : (T.setFrames fs).heap = h := eT
  have hC2 := CHv.at X b.1 a1.2.2.2.2.2.1 b.2.2.2.2.1.1
  have hC : CHr Z EL s.vm h0 (T.setFrames fs).vm (T.setFrames fs).heap := by
    rw [hh]
    exact b.2.2.2.2.1.trans hC2
  refine ⟨_, _, k _ (f T locs fs X a1.1 a1.2.1 hr), hrun, hended, v, locs, rfl, ⟨N, by rw [hh]; exact b.2.2.2.2.2, by rw [hh]; exact hQ _ fun x hx sx => hC2.safe hx sx⟩, hC, r1, r2, r3, r4.mono hc hs⟩
theorem Wk.vret (W : Wk p l e R s m args below meth c bytes mxl rt Z a0 EL own n0 h0 ws S0 V h cells slots (mkF m pc L [])) (hd : decode bytes pc = .ok (.return_, 1)) (hr : rt = none) {Q : Option Value → Heap → Vm → Prop} (hc : cells ≤ R.cells) (hs : slots ≤ R.slots) (hQ : ∀ V', (∀ x, x < h.size → Safe Z EL V h x → Safe Z EL V' h x) → Q none h V') : Done p e below S0 s Z EL n0 h0 ws R Q := by
  have hrt := W.1.2.2.2.1
  exact W.fin (v := none) (fun _ => rfl) hc hs hQ fun T locs fs X hx hby hr' => X.returnOut hx (hrt.trans hr) (hb hby hd) hr'
theorem Wk.aret {w : Value} {t : FieldType} (W : Wk p l e R s m args below meth c bytes mxl rt Z a0 EL own n0 h0 ws S0 V h cells slots (mkF m pc L (w :: st))) (hd : decode bytes pc = .ok (.areturn, 1)) (hr : rt = some t) (ht : t.isReference = true) (hw : w.isRef = true) (hn : narrow t w = w) {Q : Option Value → Heap → Vm → Prop} (hc : cells ≤ R.cells) (hs : slots ≤ R.slots) (hQ : ∀ V', (∀ x, x < h.size → Safe Z EL V h x → Safe Z EL V' h x) → Q (some w) h V') : Done p e below S0 s Z EL n0 h0 ws R Q := by
  have hrt := W.1.2.2.2.1
  exact W.fin (v := some w) (fun z => by rw [hr] at z; cases z) hc hs hQ fun T locs fs X hx hby hr' => retOut X hx (hrt.trans hr) hn (Or.inr (Or.inr (Or.inr (Or.inr ⟨rfl, ht, hw⟩)))) (hb hby hd) hr'
theorem Wk.iret {z : Int32} {t : FieldType} (W : Wk p l e R s m args below meth c bytes mxl rt Z a0 EL own n0 h0 ws S0 V h cells slots (mkF m pc L (.int z :: st))) (hd : decode bytes pc = .ok (.ireturn, 1)) (hr : rt = some t) (ht : t = .int ∨ t = .boolean ∨ t = .byte ∨ t = .char ∨ t = .short) (hn : narrow t (.int z) = .int z) {Q : Option Value → Heap → Vm → Prop} (hc : cells ≤ R.cells) (hs : slots ≤ R.slots) (hQ : ∀ V', (∀ x, x < h.size → Safe Z EL V h x → Safe Z EL V' h x) → Q (some (.int z)) h V') : Done p e below S0 s Z EL n0 h0 ws R Q := by
  have hrt := W.1.2.2.2.1
  exact W.fin (v := some (.int z)) (fun z => by rw [hr] at z; cases z) hc hs hQ fun T locs fs X hx hby hr' => retOut X hx (hrt.trans hr) hn (Or.inl ⟨rfl, ht, z, rfl⟩) (hb hby hd) hr'
theorem Wk.lret {z : Int64} (W : Wk p l e R s m args below meth c bytes mxl rt Z a0 EL own n0 h0 ws S0 V h cells slots (mkF m pc L (.long z :: st))) (hd : decode bytes pc = .ok (.lreturn, 1)) (hr : rt = some .long) {Q : Option Value → Heap → Vm → Prop} (hc : cells ≤ R.cells) (hs : slots ≤ R.slots) (hQ : ∀ V', (∀ x, x < h.size → Safe Z EL V h x → Safe Z EL V' h x) → Q (some (.long z)) h V') : Done p e below S0 s Z EL n0 h0 ws R Q := by
  have hrt := W.1.2.2.2.1
  exact W.fin (v := some (.long z)) (fun z => by rw [hr] at z; cases z) hc hs hQ fun T locs fs X hx hby hr' => retOut X hx (hrt.trans hr) rfl (Or.inr (Or.inl ⟨rfl, rfl, z, rfl⟩)) (hb hby hd) hr'
/-- a body's contract: called with as', on the heap h, it comes back; it has written at most the cells ws and new ones; Q holds of what it returned and of the heap -/
def Con (l : Launch) (Z : State) (EL : List (String × Nat)) (n0 : Nat) (y : MethodName) (bytes : ByteArray) (mxl : Nat) (rt : Option FieldType) (rm : Room) (as' : Array Value) (h : Heap) (ws : List Addr) (Q : Option Value → Heap → Vm → Prop) (wds : List Jvm.Cond) : Prop :=
  MetFree l y (head1 (Jvm.Cond.code y bytes mxl rt :: wds) rm) (fun a U => a = as' ∧ Z.Warmed39 U.vm ∧ U.heap = h ∧ CHv Z EL U.vm h ∧ ∀ x ∈ ws, Safe Z EL U.vm h x) (fun _ _ _ _ _ => True) (fun _ U o U' => ∃ v L, o = .returned v ∧ (Fr n0 L ∧ Keep h U'.heap ws ∧ Q v U'.heap U'.vm) ∧ CHr Z EL U.vm U.heap U'.vm U'.heap ∧ ReturnedEndW U o U' L rm.cells rm.slots)
theorem Con.of {y : MethodName} {rm : Room} {as' : Array Value} {Q : Option Value → Heap → Vm → Prop} {wds : List Jvm.Cond} {L0 : Array Slot} (hpn : plainFor y = true) (hef : ∀ m, entryFrame m as' mxl = mkF m 0 L0 []) (hws : ∀ x ∈ ws, n0 ≤ x) (hO : Old Z n0 h0) (hEL : EW Z a0 EL)
    (body : ∀ (p : Program) (e : Env) (s : State) (m : MethodId) (below : List Frame) (meth : Method) (c : Code) (S0 : State), meth.name = y.name → (∀ x ∈ ws, Safe Z EL s.vm h0 x) → Wk p l e rm s m as' below meth c bytes mxl rt Z a0 EL y.cls n0 h0 ws S0 s.vm h0 0 0 (mkF m 0 L0 []) → Done p e below S0 s Z EL n0 h0 ws rm Q) : Con l Z EL n0 y bytes mxl rt rm as' h0 ws Q wds := by
  refine MetFree.of_bodySF hpn hisR ?_
  intro p e s m args below meth c s₁ Bd hml hP hK
  obtain ⟨rfl, hZ, hh, hC, hsf⟩ := hP
  have hnm := (name_of_methodNamed Bd.named Bd.method).1
  have e0 : s₁.heap = h0 := by rw [← hh, Bd.state]; rfl
  have hn0 : n0 ≤ h0.size := by rw [← hO.1]; exact hO.2.1
  have X0 : Stand p l e rm (s.setVm s.vm) m args below meth c s₁ [] 0 0 := Stand.of_body Bd
  obtain ⟨s₂, o, g1, g2, g3, v, L, g4, g5, g6, g7⟩ := body p e s m below meth c (s₁.setTop (entryFrame m args mxl)) hnm hsf ⟨⟨Bd.exec, Bd.bytes, hml, Bd.returns, Bd.notSynchronized, hEL, hws, hn0, hh, hO⟩, ⟨hZ, findClass_of_methodNamed Bd.named, ⟨0, (State.WarmedH.refl s).since 0, Nat.zero_le _⟩, hO, CHr.refl hC, Keep.refl _ _⟩, s₁, [], X0, e0, Fr.nil n0, fun t k => castTop (hef m) k⟩
  exact ⟨s₂, o, g1, g2, g3, v, L, g4, g5, by rw [hh]; exact g6, g7⟩

theorem Con.back {y : MethodName} {bytes' : ByteArray} {mxl' : Nat} {rt' : Option FieldType} {rm : Room} {as' : Array Value} {ws' : List Addr} {Q : Option Value → Heap → Vm → Prop} {len Wd : Nat} (con : Con l Z EL n0 y bytes' mxl' rt' rm as' h ws' Q []) (hZ : Z.Warmed39 V) (wc : (Jvm.Cond.code y bytes' mxl' rt').before a0 Z = true) (wz : (Jvm.Cond.initialized y.cls).before a0 Z = true) (hf : rm.frames + 1 ≤ R.frames) (hl : Wd + (mxl' + 11) + rm.locals ≤ R.locals) (hEL : EW Z a0 EL) (H : CHv Z EL V h) (hsf : ∀ x ∈ ws', Safe Z EL V h x) :
    BackS l R p e below (s.setVm V) args y len Wd (fun A a => a = as' ∧ A.U.heap = h ∧ A.cells + rm.cells ≤ R.cells ∧ A.slots + rm.slots ≤ R.slots) (fun A _ v B => ∃ L, (Fr n0 L ∧ Keep h B.U.heap ws' ∧ Q v B.U.heap B.U.vm) ∧ B.locs = A.locs ++ L ∧ B.cells = A.cells + rm.cells ∧ B.slots = A.slots + rm.slots ∧ CHr Z EL V h B.U.vm B.U.heap) := by
  refine BackS.of_freeW (bytes := bytes') (maxL := mxl') (ret := rt') (E := fun _ first o t L k n => k = rm.cells ∧ n = rm.slots ∧ (∃ v, o = .returned v ∧ (Fr n0 L ∧ Keep h t.heap ws' ∧ Q v t.heap t.vm)) ∧ CHr Z EL first.vm first.heap t.vm t.heap) con hf hl ?_ ?_ (fun _ _ _ _ _ _ _ _ _ => trivial) ?_ ?_
  · intro m meth c A a Y hp
    have hU : Z.Warmed39 A.U.vm := wtrans (s := s.setVm V) hZ Y.warmed
    exact ⟨by show (Jvm.Cond.and _ .tt).before a A.U = true; rw [Cond.before_and, mv hU wc]; rfl, mv hU wc, mv hU wz, hp.2.2.1, hp.2.2.2⟩
  · intro m meth c A a g mk Y hp
    have q := CHv.at Y hZ hEL H
    exact ⟨hp.1, wtrans (s := s.setVm V) hZ Y.warmed, hp.2.1, q.1, fun x hx => (Nat.lt_or_ge x h.size).elim (fun z => q.safe z (hsf x hx)) (fun z => Safe.new z)⟩
  · rintro _ _ _ _ ⟨v, L, h1, h2, h3, h4⟩
    exact ⟨L, _, _, h4, rfl, rfl, ⟨v, h1, h2⟩, h3⟩
  · intro m meth c A a g mk v t L k n Y hp _ _ he
    obtain ⟨e1, e2, ⟨v', e3, e4⟩, e5⟩ := he
    cases e3; subst e1 e2
    exact ⟨L, e4, rfl, rfl, rfl, (CHv.at Y hZ hEL H).trans (by rw [← hp.2.1]; exact e5)⟩
theorem Wk.called {g : JFrame} {G : Option Value → JFrame} {rm : Room} {ws' : List Addr} {Q : Option Value → Heap → Vm → Prop} {cells' slots' : Nat} (W : Wk p l e R s m args below meth c bytes mxl rt Z a0 EL own n0 h0 ws S0 V h cells slots g) (hq : ∀ x ∈ ws', x ∈ ws ∨ h0.size ≤ x) (hc : cells + rm.cells = cells') (hs : slots + rm.slots = slots')
    (f : ∀ (T : State) (locs : List Loc), Stand p l e R (s.setVm V) m args below meth c T locs cells slots → T.heap = h → p.tables.exec = Jvm.exec → c.code = bytes → Z.Warmed39 (s.setVm V).vm → (s.setVm V).vm.findClass own = some m.cls → ∃ (v : Option Value) (vm₁ : Vm) (B : Pt), (s.setVm V).WarmedH vm₁ ∧ Stand p l e R ((s.setVm V).setVm B.U.vm) m args below meth c B.U B.locs B.cells B.slots ∧ (s.setVm V).Since B.U.vm B.U.heap.size ∧ T.heap.size ≤ B.U.heap.size ∧ (∃ L, (Fr n0 L ∧ Keep h B.U.heap ws' ∧ Q v B.U.heap B.U.vm) ∧ B.locs = locs ++ L ∧ B.cells = cells + rm.cells ∧ B.slots = slots + rm.slots ∧ CHr Z EL V h B.U.vm B.U.heap) ∧ Steps p.tables e below (T.setTop g) (B.U.setTop (G v))) :
    ∃ V' h' v, Wk p l e R s m args below meth c bytes mxl rt Z a0 EL own n0 h0 ws S0 V' h' cells' slots' (G v) ∧ Keep h h' ws' ∧ Q v h' V' ∧ ∀ x, x < h.size → Safe Z EL V h x → Safe Z EL V' h' x := by
  obtain ⟨a1, b, T, locs, X, eT, N, k⟩ := W
  obtain ⟨k0, hS, hk⟩ := b.2.2.1
  obtain ⟨v, vm₁, B, -, X', hS', hle, ⟨L', hQ, l1, l2, l3, hC⟩, stp⟩ := f T locs X eT a1.1 a1.2.1 b.1 b.2.1
  obtain ⟨X2, hS2, hZ2, hown2⟩ := rebS hS (by rw [eT]; exact hk) X' hS' hle b.1 b.2.1
  rw [l1, l2, l3, hc, hs] at X2
  have hge : ∀ x ∈ ws', n0 ≤ x := fun x hx => (hq x hx).elim (fun z => a1.2.2.2.2.2.2.1 x z) (fun z => Nat.le_trans a1.2.2.2.2.2.2.2.1 z)
  exact ⟨B.U.vm, B.U.heap, v, ⟨a1, ⟨hZ2, hown2, ⟨_, hS2, Nat.le_refl _⟩, b.2.2.2.1.keep hQ.2.1 hge, b.2.2.2.2.1.trans hC, b.2.2.2.2.2.trans hQ.2.1 hq⟩, B.U, _, X2, rfl, N.app hQ.1, fun t z => k t (stp.trans z)⟩, hQ.2.1, hQ.2.2, fun x hx sx => hC.safe hx sx⟩
section Calls
variable {y z : MethodName} {bytes' : ByteArray} {mxl' : Nat} {rt' : Option FieldType} {rm : Room} {ws' : List Addr} {Q : Option Value → Heap → Vm → Prop} {argsL rest stk : List Value} {index Wd cells' slots' : Nat}
theorem Wk.callS (W : Wk p l e R s m args below meth c bytes mxl rt Z a0 EL own n0 h0 ws S0 V h cells slots (mkF m pc L stk)) (hd : decode bytes pc = .ok (.invokestatic index, 3)) (con : Con l Z EL n0 y bytes' mxl' rt' rm argsL.toArray h ws' Q []) (w1 : (Jvm.Cond.methodLink own index y).before a0 Z = true) (w2 : (Jvm.Cond.static y).before a0 Z = true) (w3 : (Jvm.Cond.initialized y.cls).before a0 Z = true) (w4 : (Jvm.Cond.code y bytes' mxl' rt').before a0 Z = true) (hy : y.cls ≠ "java/lang/invoke/MethodHandle" ∧ y.cls ≠ "java/lang/invoke/VarHandle") (hlen : ∀ sig, parseMethodDescriptor y.desc = some sig → argsL.length = sig.parameters.length) (hstk : stk = argsL.reverse ++ rest) (hW : (rest.map fun v => v.category).sum = Wd) (hf : rm.frames + 1 ≤ R.frames) (hl : Wd + (mxl' + 11) + rm.locals ≤ R.locals) (hL : L.size = mxl) (hsf : ∀ x ∈ ws', Safe Z EL V h x) (hq : ∀ x ∈ ws', x ∈ ws ∨ h0.size ≤ x) (hp : pc + 3 = pc') (hc : cells + rm.cells = cells') (hs : slots + rm.slots = slots') (hc' : cells' ≤ R.cells) (hs' : slots' ≤ R.slots) :
    ∃ V' h' v, Wk p l e R s m args below meth c bytes mxl rt Z a0 EL own n0 h0 ws S0 V' h' cells' slots' (mkF m pc' L (v.toList ++ rest)) ∧ Keep h h' ws' ∧ Q v h' V' ∧ ∀ x, x < h.size → Safe Z EL V h x → Safe Z EL V' h' x := by
  subst hp
  have hml := W.1.2.2.1
  have hEL := W.el
  have H := W.chv
  refine W.called (G := fun v => mkF m (pc + 3) L (v.toList ++ rest)) hq hc hs fun T locs X eT hx hby hZ hown => ?_
  exact callSS X hx (y := y) hown (mvT hZ w1) (mvT hZ w2) (mvT hZ w3) (mvT hZ w4) hy (con.back hZ w4 w3 hf hl hEL H hsf) (g := mkF m pc L stk) rfl (hL.trans hml.symm) (argsL := argsL) (rest := rest) hlen hstk (by subst hW; show 2 * 0 + _ ≤ _; exact Nat.le_of_eq (Nat.zero_add _)) (hb hby hd) (fun _ _ => ⟨rfl, eT, by rw [← hc] at hc'; exact hc', by rw [← hs] at hs'; exact hs'⟩)
theorem Wk.callI {a : Addr} (W : Wk p l e R s m args below meth c bytes mxl rt Z a0 EL own n0 h0 ws S0 V h cells slots (mkF m pc L stk)) (hd : decode bytes pc = .ok (.invokespecial index, 3)) (con : Con l Z EL n0 y bytes' mxl' none rm (.ref a :: argsL).toArray h ws' Q []) (hy1 : y.name = "<init>") (w1 : (Jvm.Cond.methodLink own index y).before a0 Z = true) (w2 : (Jvm.Cond.instanceMethod y).before a0 Z = true) (w3 : (Jvm.Cond.initialized y.cls).before a0 Z = true) (w4 : (Jvm.Cond.code y bytes' mxl' none).before a0 Z = true) (hy : y.cls ≠ "java/lang/invoke/MethodHandle" ∧ y.cls ≠ "java/lang/invoke/VarHandle") (hlen : ∀ sig, parseMethodDescriptor y.desc = some sig → argsL.length = sig.parameters.length) (hstk : stk = argsL.reverse ++ .ref a :: rest) (hW : (rest.map fun v => v.category).sum = Wd) (hf : rm.frames + 1 ≤ R.frames) (hl : Wd + (mxl' + 11) + rm.locals ≤ R.locals) (hL : L.size = mxl) (hsf : ∀ x ∈ ws', Safe Z EL V h x) (hq : ∀ x ∈ ws', x ∈ ws ∨ h0.size ≤ x) (hp : pc + 3 = pc') (hc : cells + rm.cells = cells') (hs : slots + rm.slots = slots') (hc' : cells' ≤ R.cells) (hs' : slots' ≤ R.slots) :
    ∃ V' h' v, Wk p l e R s m args below meth c bytes mxl rt Z a0 EL own n0 h0 ws S0 V' h' cells' slots' (mkF m pc' L (v.toList ++ rest)) ∧ Keep h h' ws' ∧ Q v h' V' ∧ ∀ x, x < h.size → Safe Z EL V h x → Safe Z EL V' h' x := by
  subst hp
  have hml := W.1.2.2.1
  have hEL := W.el
  have H := W.chv
  refine W.called (G := fun v => mkF m (pc + 3) L (v.toList ++ rest)) hq hc hs fun T locs X eT hx hby hZ hown => ?_
  exact X.specialBackS hx (y := y) hy1 hown (mvT hZ w1) (mvT hZ w2) (mvT hZ w4) hy (con.back hZ w4 w3 hf hl hEL H hsf) (g := mkF m pc L stk) rfl (hL.trans hml.symm) (Steps.refl _) (a := a) (argsL := argsL) (rest := rest) hlen hstk (by subst hW; show 2 * 0 + _ ≤ _; exact Nat.le_of_eq (Nat.zero_add _)) (hb hby hd) (fun _ _ => ⟨rfl, eT, by rw [← hc] at hc'; exact hc', by rw [← hs] at hs'; exact hs'⟩)
theorem Wk.callV {a : Addr} {C : String} (W : Wk p l e R s m args below meth c bytes mxl rt Z a0 EL own n0 h0 ws S0 V h cells slots (mkF m pc L stk)) (hd : decode bytes pc = .ok (.invokevirtual index, 3)) (con : Con l Z EL n0 z bytes' mxl' rt' rm (.ref a :: argsL).toArray h ws' Q []) (E : Exa Z h a C) (w1 : (Jvm.Cond.methodLink own index y).before a0 Z = true) (wd : (Jvm.Cond.declares y).before a0 Z = true) (wn : (Jvm.Cond.selects C y y).before a0 Z = true ∨ ∃ S, (Jvm.Cond.superclass y.cls S).before a0 Z = true) (ws1 : (Jvm.Cond.selects C y z).before a0 Z = true) (w2 : (Jvm.Cond.instanceMethod z).before a0 Z = true) (w3 : (Jvm.Cond.initialized z.cls).before a0 Z = true) (w4 : (Jvm.Cond.code z bytes' mxl' rt').before a0 Z = true) (hy : y.cls ≠ "java/lang/invoke/MethodHandle" ∧ y.cls ≠ "java/lang/invoke/VarHandle") (hlen : ∀ sig, parseMethodDescriptor y.desc = some sig → argsL.length = sig.parameters.length) (hstk : stk = argsL.reverse ++ .ref a :: rest) (hW : (rest.map fun v => v.category).sum = Wd) (hf : rm.frames + 1 ≤ R.frames) (hl : Wd + (mxl' + 11) + rm.locals ≤ R.locals) (hL : L.size = mxl) (hsf : ∀ x ∈ ws', Safe Z EL V h x) (hq : ∀ x ∈ ws', x ∈ ws ∨ h0.size ≤ x) (hp : pc + 3 = pc') (hc : cells + rm.cells = cells') (hs : slots + rm.slots = slots') (hc' : cells' ≤ R.cells) (hs' : slots' ≤ R.slots) :
    ∃ V' h' v, Wk p l e R s m args below meth c bytes mxl rt Z a0 EL own n0 h0 ws S0 V' h' cells' slots' (mkF m pc' L (v.toList ++ rest)) ∧ Keep h h' ws' ∧ Q v h' V' ∧ ∀ x, x < h.size → Safe Z EL V h x → Safe Z EL V' h' x := by
  subst hp
  have hml := W.1.2.2.1
  have hEL := W.el
  have H := W.chv
  refine W.called (G := fun v => mkF m (pc + 3) L (v.toList ++ rest)) hq hc hs fun T locs X eT hx hby hZ hown => ?_
  obtain ⟨cB, kB, q1, q2, q3⟩ := isOf hZ eT E
  have hnf : NotFace (s.setVm V) y := wn.elim (fun w => notFace_of_selects (args := #[]) (mvT hZ w)) (fun ⟨S, w⟩ => nf_super (args := #[]) (mvT hZ w))
  exact X.virtualBackS hx (y := y) (z := z) hown (mvT hZ w1) (mvT hZ wd) hnf (mvT hZ ws1) (mvT hZ w2) hy (con.back hZ w4 w3 hf hl hEL H hsf) q1 q3 (g := mkF m pc L stk) rfl (hL.trans hml.symm) (Steps.refl _) (argsL := argsL) (rest := rest) hlen hstk (by subst hW; show 2 * 0 + _ ≤ _; exact Nat.le_of_eq (Nat.zero_add _)) (hb hby hd) (fun _ _ => ⟨rfl, eT, by rw [← hc] at hc'; exact hc', by rw [← hs] at hs'; exact hs'⟩)
/-- a private method, called by invokevirtual -/
theorem Wk.callP {a : Addr} {C : String} (W : Wk p l e R s m args below meth c bytes mxl rt Z a0 EL own n0 h0 ws S0 V h cells slots (mkF m pc L stk)) (hd : decode bytes pc = .ok (.invokevirtual index, 3)) (con : Con l Z EL n0 y bytes' mxl' rt' rm (.ref a :: argsL).toArray h ws' Q []) (E : Exa Z h a C) (w1 : (Jvm.Cond.methodLink own index y).before a0 Z = true) (w2 : (Jvm.Cond.instanceMethod y).before a0 Z = true) (ws1 : (Jvm.Cond.selects y.cls y y).before a0 Z = true) (wp : (Jvm.Cond.privateMethod y).before a0 Z = true) (w3 : (Jvm.Cond.initialized y.cls).before a0 Z = true) (w4 : (Jvm.Cond.code y bytes' mxl' rt').before a0 Z = true) (hy : y.cls ≠ "java/lang/invoke/MethodHandle" ∧ y.cls ≠ "java/lang/invoke/VarHandle") (hlen : ∀ sig, parseMethodDescriptor y.desc = some sig → argsL.length = sig.parameters.length) (hstk : stk = argsL.reverse ++ .ref a :: rest) (hW : (rest.map fun v => v.category).sum = Wd) (hf : rm.frames + 1 ≤ R.frames) (hl : Wd + (mxl' + 11) + rm.locals ≤ R.locals) (hL : L.size = mxl) (hsf : ∀ x ∈ ws', Safe Z EL V h x) (hq : ∀ x ∈ ws', x ∈ ws ∨ h0.size ≤ x) (hp : pc + 3 = pc') (hc : cells + rm.cells = cells') (hs : slots + rm.slots = slots') (hc' : cells' ≤ R.cells) (hs' : slots' ≤ R.slots) :
    ∃ V' h' v, Wk p l e R s m args below meth c bytes mxl rt Z a0 EL own n0 h0 ws S0 V' h' cells' slots' (mkF m pc' L (v.toList ++ rest)) ∧ Keep h h' ws' ∧ Q v h' V' ∧ ∀ x, x < h.size → Safe Z EL V h x → Safe Z EL V' h' x := by
  subst hp
  have hml := W.1.2.2.1
  have hEL := W.el
  have H := W.chv
  refine W.called (G := fun v => mkF m (pc + 3) L (v.toList ++ rest)) hq hc hs fun T locs X eT hx hby hZ hown => ?_
  obtain ⟨cl, q1, q2⟩ := (Ins.self E).cell
  exact X.privateBackS hx (y := y) hown (mvT hZ w1) (mvT hZ w2) (mvT hZ ws1) (Cond.privateMethod_at (mvP hZ wp (args := #[]))) (mvT hZ w4) hy (con.back hZ w4 w3 hf hl hEL H hsf) (g := mkF m pc L stk) rfl (hL.trans hml.symm) (Steps.refl _) (a := a) (by rw [eT]; exact q1) q2 (argsL := argsL) (rest := rest) hlen hstk (by subst hW; show 2 * 0 + _ ≤ _; exact Nat.le_of_eq (Nat.zero_add _)) (hb hby hd) (fun _ _ => ⟨rfl, eT, by rw [← hc] at hc'; exact hc', by rw [← hs] at hs'; exact hs'⟩)
/-- .. the entry names a subclass of the declaring one -/
theorem Wk.callU {a : Addr} {C owner : String} (W : Wk p l e R s m args below meth c bytes mxl rt Z a0 EL own n0 h0 ws S0 V h cells slots (mkF m pc L stk)) (hd : decode bytes pc = .ok (.invokevirtual index, 3)) (con : Con l Z EL n0 z bytes' mxl' rt' rm (.ref a :: argsL).toArray h ws' Q []) (E : Exa Z h a C) (w1 : (Jvm.Cond.methodLink own index y).before a0 Z = true) (wsm : (Jvm.Cond.sameMethod y.cls owner y.name y.desc).before a0 Z = true) (wd : (Jvm.Cond.declares ⟨owner, y.name, y.desc⟩).before a0 Z = true) (how : owner ≠ "java/lang/invoke/MethodHandle" ∧ owner ≠ "java/lang/invoke/VarHandle") (ws1 : (Jvm.Cond.selects C y z).before a0 Z = true) (w2 : (Jvm.Cond.instanceMethod z).before a0 Z = true) (w3 : (Jvm.Cond.initialized z.cls).before a0 Z = true) (w4 : (Jvm.Cond.code z bytes' mxl' rt').before a0 Z = true) (hlen : ∀ sig, parseMethodDescriptor y.desc = some sig → argsL.length = sig.parameters.length) (hstk : stk = argsL.reverse ++ .ref a :: rest) (hW : (rest.map fun v => v.category).sum = Wd) (hf : rm.frames + 1 ≤ R.frames) (hl : Wd + (mxl' + 11) + rm.locals ≤ R.locals) (hL : L.size = mxl) (hsf : ∀ x ∈ ws', Safe Z EL V h x) (hq : ∀ x ∈ ws', x ∈ ws ∨ h0.size ≤ x) (hp : pc + 3 = pc') (hc : cells + rm.cells = cells') (hs : slots + rm.slots = slots') (hc' : cells' ≤ R.cells) (hs' : slots' ≤ R.slots) :
    ∃ V' h' v, Wk p l e R s m args below meth c bytes mxl rt Z a0 EL own n0 h0 ws S0 V' h' cells' slots' (mkF m pc' L (v.toList ++ rest)) ∧ Keep h h' ws' ∧ Q v h' V' ∧ ∀ x, x < h.size → Safe Z EL V h x → Safe Z EL V' h' x := by
  subst hp
  have hml := W.1.2.2.1
  have hEL := W.el
  have H := W.chv
  refine W.called (G := fun v => mkF m (pc + 3) L (v.toList ++ rest)) hq hc hs fun T locs X eT hx hby hZ hown => ?_
  obtain ⟨cB, kB, q1, q2, q3⟩ := isOf hZ eT E
  exact X.virtualBackUpS hx (x := y) (y := z) hown (mvT hZ w1) (mvT hZ wsm) (mvT hZ wd) how (mvT hZ ws1) (mvT hZ w2) (con.back hZ w4 w3 hf hl hEL H hsf) q1 q3 (g := mkF m pc L stk) rfl (hL.trans hml.symm) (Steps.refl _) (argsL := argsL) (rest := rest) hlen hstk (by subst hW; show 2 * 0 + _ ≤ _; exact Nat.le_of_eq (Nat.zero_add _)) (hb hby hd) (fun _ _ => ⟨rfl, eT, by rw [← hc] at hc'; exact hc', by rw [← hs] at hs'; exact hs'⟩)
end Calls

/-- 'ldc' of a String constant of EL, its text read -/
theorem Wk.ldcT {index : Nat} {text : String} {vs : List Value} {z : Int32} {n cells' slots' : Nat} (W : Wk p l e R s m args below meth c bytes mxl rt Z a0 EL own n0 h0 ws S0 V h cells slots (mkF m pc L st)) (hd : decode bytes pc = .ok (.ldc index, 2)) (w : (Jvm.Cond.stringLink own index text).before a0 Z = true) (wS : ∀ a ∈ Bundle.stringAtoms, a.before a0 Z = true) (hmem : (own, index) ∈ EL) (ht : (∀ c ∈ text.toList, c.toNat < 256) ∧ text.toList.map (fun c => Value.int (Jvm.Lit.byteI c.toNat.toUInt16)) = vs) (hz : ¬ z < 0) (hl : z.toNatClampNeg = vs.length) (hn : 4 * text.toList.length ≤ n) (hbig : n ≤ 536870912) (hp : pc + 2 = pc') (hc : cells + 2 = cells') (hs : slots + (n + 4) = slots') (hc' : cells' ≤ R.cells) (hs' : slots' ≤ R.slots) :
    ∃ V' h' a b k, Wk p l e R s m args below meth c bytes mxl rt Z a0 EL own n0 h0 ws S0 V' h' cells' slots' (mkF m pc' L (.ref a :: st)) ∧ Ext h h' ∧ Exa Z h' a "java/lang/String" ∧ Fld Z h' a "java/lang/String" "coder" "B" (.int 0) ∧ Fld Z h' a "java/lang/String" "value" "[B" (.ref b) ∧ Arv Z h' b k .byte z vs (.int 0) ∧ Lit (s.setVm V') own index a ∧ (∀ x, Safe Z EL V' h' x → x ≠ a ∧ x ≠ b) ∧ ∀ x, x < h.size → Safe Z EL V h x → Safe Z EL V' h' x := by
  subst hp hc hs
  obtain ⟨a1, b, T, locs, X, eT, N, k⟩ := W
  obtain ⟨k0, hS, hk⟩ := b.2.2.1
  obtain ⟨a, T', h', k1, bb, kk, X', eT', E, hS', hk', hZ', hown', A1, A2, A3, A4, -, -, hC, hL, hne, stp⟩ := ldcCH X a1.1 b.1 b.2.1 w wS eT hS hk a1.2.2.2.2.2.1 hmem b.2.2.2.2.1.1 ht hz hl (g := mkF m pc L st) rfl (hb a1.2.1 hd) hn hbig hc' hs'
  exact ⟨T'.vm, h', a, bb, kk, ⟨a1, ⟨hZ', hown', ⟨k1, hS', hk'⟩, b.2.2.2.1.ext E, b.2.2.2.2.1.trans hC, b.2.2.2.2.2.ext E⟩, T', locs, X', eT', N, fun t q => k t (stp t q)⟩, E, A1, A2, A3, A4, hL, hne, fun x hx sx => hC.safe hx sx⟩
/-- 'ldc' of any String constant, handed on unread -/
theorem Wk.ldcO {index : Nat} {text : String} {n cells' slots' : Nat} (W : Wk p l e R s m args below meth c bytes mxl rt Z a0 EL own n0 h0 ws S0 V h cells slots (mkF m pc L st)) (hd : decode bytes pc = .ok (.ldc index, 2)) (w : (Jvm.Cond.stringLink own index text).before a0 Z = true) (wS : ∀ a ∈ Bundle.stringAtoms, a.before a0 Z = true) (hn : 4 * text.toList.length ≤ n) (hbig : n ≤ 536870912) (hp : pc + 2 = pc') (hc : cells + 2 = cells') (hs : slots + (n + 4) = slots') (hc' : cells' ≤ R.cells) (hs' : slots' ≤ R.slots) :
    ∃ V' h' a, Wk p l e R s m args below meth c bytes mxl rt Z a0 EL own n0 h0 ws S0 V' h' cells' slots' (mkF m pc' L (.ref a :: st)) ∧ Ext h h' ∧ Lit (s.setVm V') own index a ∧ ∀ x, x < h.size → Safe Z EL V h x → Safe Z EL V' h' x := by
  subst hp hc hs
  obtain ⟨a1, b, T, locs, X, eT, N, k⟩ := W
  obtain ⟨k0, hS, hk⟩ := b.2.2.1
  obtain ⟨a, T', h', k1, X', eT', E, hS', hk', hZ', hown', hC, hL, stp⟩ := ldcOH X a1.1 b.1 b.2.1 w wS eT hS hk a1.2.2.2.2.2.1 b.2.2.2.2.1.1 (g := mkF m pc L st) rfl (hb a1.2.1 hd) hn hbig hc' hs'
  exact ⟨T'.vm, h', a, ⟨a1, ⟨hZ', hown', ⟨k1, hS', hk'⟩, b.2.2.2.1.ext E, b.2.2.2.2.1.trans hC, b.2.2.2.2.2.ext E⟩, T', locs, X', eT', N, fun t q => k t (stp t q)⟩, E, hL, fun x hx sx => hC.safe hx sx⟩
/-- the same entry again, the tables' base being the same -/
theorem Wk.ldcA {index : Nat} {text : String} {a : Addr} (W : Wk p l e R s m args below meth c bytes mxl rt Z a0 EL own n0 h0 ws S0 V h cells slots (mkF m pc L st)) (hd : decode bytes pc = .ok (.ldc index, 2)) (w : (Jvm.Cond.stringLink own index text).before a0 Z = true) (hL : Lit (s.setVm V) own index a) (hp : pc + 2 = pc') : Wk p l e R s m args below meth c bytes mxl rt Z a0 EL own n0 h0 ws S0 V h cells slots (mkF m pc' L (.ref a :: st)) := by
  subst hp
  exact W.reads fun T locs X eT hx hby hZ hown => ⟨T, X, eT, ldcAgain X hx hZ hown w hL (g := mkF m pc L st) rfl (hb hby hd)⟩
/-- a String whose value is not yet set is no constant's -/
theorem safeNull {V : Vm} {a : Addr} (hal : Z.vm.Alike V) (E : Exa Z h a "java/lang/String") (F : Fld Z h a "java/lang/String" "value" "[B" .null) : Safe Z EL V h a := fun B => by
  obtain ⟨cell, cf, k, i, f, h1, h2, h3, h4, h5, h6, h7⟩ := F
  obtain ⟨p, -, u, b, -, q, -, G, e1 | e1⟩ := B
  · subst e1
    cases (show h[q.sa]? = some q.sC from G.ha).symm.trans h1
    obtain ⟨cS, ⟨⟨-, -, -, ⟨c1, k1, i1, f1, -⟩, -, -, -, v1, -⟩, -⟩, -⟩ := G
    obtain ⟨k', f2, -⟩ := State.fieldFound?_setVm (s := Z) hal h2
    have f2' : (Wst Z V h).fieldFound? "java/lang/String" "value" "[B" = some (cf, k', i, f) := f2
    have e4 := f2'.symm.trans f1
    simp only [Option.some.injEq, Prod.mk.injEq] at e4
    rw [e4.2.2.2, v1] at h7
    cases h7
  · subst e1
    obtain ⟨cell2, k2, e1, e2, -⟩ := E
    cases (show h[q.sd]? = some q.SA from G.hd).symm.trans e1
    obtain ⟨cS, -, -, f1, -⟩ := G
    have f1 : V.findClass "[B" = some q.SA.cls := f1
    rw [hal.findClass] at f1
    obtain ⟨k3, q1, q2⟩ := Vm.findClass_spec f1
    obtain ⟨k4, q3, q4⟩ := Vm.findClass_spec e2
    cases q1.symm.trans q3
    exact absurd (q2.symm.trans q4) (by decide)
end Layer
theorem safe0 {Z : State} {h : Heap} {V : Vm} {a : Addr} : Safe Z [] V h a := fun B => by obtain ⟨p, hp, -⟩ := B; cases hp


theorem own_small {c : Int32} (h0 : ¬ c < 0) (h1 : ¬ (255 : Int32) < c) : ∃ k : Fin 256, c = Int32.ofNat k.val := by
  rw [Int32.lt_iff_toInt_lt] at h0 h1
  have e1 : (255 : Int32).toInt = 255 := rfl
  have e0 : (0 : Int32).toInt = 0 := rfl
  refine ⟨⟨c.toInt.toNat, by omega⟩, ?_⟩
  apply Int32.toInt_inj.mp
  show c.toInt = (Int32.ofNat c.toInt.toNat).toInt
  rw [Int32.toInt_ofNat_of_lt (by omega)]
  omega
theorem own_narb (x : Int32) : nar .byte (x.toInt8.toInt32) = x.toInt8.toInt32 := by
  show (x.toInt8.toInt32).toInt8.toInt32 = x.toInt8.toInt32
  simp
theorem own_narc {c : Int32} (h : ¬ c < 0 ∧ ¬ (65535 : Int32) < c) : nar .char c = c := by
  show c.toUInt32.toUInt16.toUInt32.toInt32 = c
  have h0 := h.1
  have h1 := h.2
  rw [Int32.lt_iff_toInt_lt] at h0 h1
  have e1 : (65535 : Int32).toInt = 65535 := rfl
  have e0 : (0 : Int32).toInt = 0 := rfl
  obtain ⟨q1, q2, q3⟩ := c_i2c c
  apply Int32.toInt_inj.mp
  omega
theorem own_up {c : Int32} (h : ¬ c < 0 ∧ ¬ (255 : Int32) < c) : ¬ c < 0 ∧ ¬ (65535 : Int32) < c := by
  refine ⟨h.1, fun q => h.2 ?_⟩
  rw [Int32.lt_iff_toInt_lt] at q ⊢
  have e1 : (65535 : Int32).toInt = 65535 := rfl
  have e0 : (255 : Int32).toInt = 255 := rfl
  omega
theorem own_narrow_char {c : Int32} (h : ¬ c < 0 ∧ ¬ (65535 : Int32) < c) : narrow .char (.int c) = .int c := congrArg Value.int (own_narc h)
theorem own_and255 (x : Int32) : ¬ (x &&& (255 : Int32)) < 0 ∧ ¬ (255 : Int32) < (x &&& (255 : Int32)) := by
  obtain ⟨q1, q2⟩ := c_and x 255 (by decide)
  rw [Int32.lt_iff_toInt_lt, Int32.lt_iff_toInt_lt]
  have e1 : (255 : Int32).toInt = 255 := rfl
  have e0 : (0 : Int32).toInt = 0 := rfl
  omega
theorem own_fits_ref {t : FieldType} {v : Value} (h : v.isRef = true) (ht : t.isReference = true) : fits t v = true := by
  rcases ref_cases h with rfl | ⟨a, rfl⟩ <;> cases t <;> simp_all [fits, FieldType.isReference]
theorem own_nar_ref {t : FieldType} {v : Value} (h : v.isRef = true) (ht : t.isReference = true) : narrow t v = v := by
  rcases ref_cases h with rfl | ⟨a, rfl⟩ <;> cases t <;> simp_all [narrow, FieldType.isReference]

def pk (x : Int32) : Int32 := if (x &&& (768 : Int32)) = (0 : Int32) then (61 : Int32) else (x &&& (255 : Int32))
theorem pk_rng (x : Int32) : ¬ pk x < 0 ∧ ¬ (255 : Int32) < pk x := by
  unfold pk
  split
  · decide
  · exact own_and255 x
def ix (d : Int32) : List Int32 → Int32 → Int32
  | [], _ => (-1 : Int32)
  | b :: r, i => if b = d then i else ix d r (i + 1)
def isc (l : List Int32) : Int32 := if (0 : Int32) < ix (61 : Int32) l (0 : Int32) then (1 : Int32) else (0 : Int32)
theorem own_b61 {c : Int32} (h : ¬ c < 0 ∧ ¬ (255 : Int32) < c) : (c.toInt8.toInt32 = (61 : Int32)) ↔ c = (61 : Int32) := by
  obtain ⟨k, rfl⟩ := own_small h.1 h.2
  revert k; decide +kernel
theorem own_toInt {X : Nat} (h : X < 2147483648) : (Int32.ofNat X).toInt = X := Int32.toInt_ofNat_of_lt (by omega)
theorem own_addsub (a b : Int32) : a + b - a = b := by
  rw [Int32.add_comm, Int32.add_sub_cancel]
theorem own_div {X m : Nat} (hX : X < 2147483648) (hm : 0 < m) (hm' : m < 2147483648) : Int32.ofNat X / Int32.ofNat m = Int32.ofNat (X / m) := by
  apply Int32.toInt_inj.mp
  have hq : X / m ≤ X := Nat.div_le_self _ _
  rw [Int32.toInt_div, own_toInt hX, own_toInt hm', own_toInt (by omega)]
  have e : ((X : Int).tdiv (m : Int)) = ((X / m : Nat) : Int) := by
    rw [Int.tdiv_eq_ediv_of_nonneg (by omega)]; rfl
  rw [e]
  have h1 : ((X / m : Nat) : Int) ≤ X := by exact_mod_cast hq
  have h2 : (0 : Int) ≤ ((X / m : Nat) : Int) := Int.natCast_nonneg _
  generalize ((X / m : Nat) : Int) = y at *
  rw [Int.bmod_eq_of_le (by omega) (by omega)]
theorem own_masked (a : Int32) : ∃ X : Nat, X < 2147483648 ∧ (a &&& (2147483647 : Int32)) = Int32.ofNat X := by
  obtain ⟨q1, q2⟩ := c_and a 2147483647 (by decide)
  have e1 : (2147483647 : Int32).toInt = 2147483647 := rfl
  refine ⟨(a &&& 2147483647).toInt.toNat, by omega, ?_⟩
  apply Int32.toInt_inj.mp
  rw [own_toInt (by omega)]
  omega
theorem own_rem {a : Int32} {m : Nat} (hm : 0 < m) (hm' : m < 2147483648) : ∃ r : Nat, r < m ∧ (a &&& (2147483647 : Int32)) - (a &&& (2147483647 : Int32)) / Int32.ofNat m * Int32.ofNat m = Int32.ofNat r := by
  obtain ⟨X, hX, eX⟩ := own_masked a
  rw [eX]
  refine ⟨X % m, Nat.mod_lt _ hm, ?_⟩
  rw [own_div hX hm hm', ← Int32.ofNat_mul]
  have hs : X = X / m * m + X % m := by rw [Nat.mul_comm]; exact (Nat.div_add_mod X m).symm
  have e2 : Int32.ofNat X = Int32.ofNat (X / m * m) + Int32.ofNat (X % m) := by rw [← Int32.ofNat_add, ← hs]
  rw [e2, own_addsub]

theorem own_rem6 {n q : Int32} (h : ((n &&& (2147483647 : Int32)) - ((n &&& (2147483647 : Int32)) / (6 : Int32)) * (6 : Int32)) = q) : q = (0 : Int32) ∨ q = (1 : Int32) ∨ q = (2 : Int32) ∨ q = (3 : Int32) ∨ q = (4 : Int32) ∨ q = (5 : Int32) := by
  obtain ⟨r, hr, e⟩ := own_rem (a := n) (m := 6) (by omega) (by omega)
  have e2 : q = Int32.ofNat r := h.symm.trans e
  rw [e2]
  have : r = 0 ∨ r = 1 ∨ r = 2 ∨ r = 3 ∨ r = 4 ∨ r = 5 := by omega
  rcases this with rfl | rfl | rfl | rfl | rfl | rfl <;> decide

theorem w0 {Z : State} {a0 : Array Value} (hw : ∀ d ∈ tables_1, d.before a0 Z = true) : (Jvm.Cond.constant "com/example/holdfast/holdfast/rules/WhereIsConditionPinLaw" (12 : Nat) (2147483647 : Int32)).before a0 Z = true := hw _ (List.mem_of_getElem? (i := 0) rfl)
theorem w1 {Z : State} {a0 : Array Value} (hw : ∀ d ∈ tables_1, d.before a0 Z = true) : (Jvm.Cond.methodLink "com/example/holdfast/holdfast/rules/WhereIsConditionPinLaw" (13 : Nat) ({ cls := "com/example/holdfast/holdfast/rules/WhereIsConditionPinLaw", name := "pick", desc := "(I)C" } : Jvm.MethodName)).before a0 Z = true := hw _ (List.mem_of_getElem? (i := 1) rfl)
theorem w2 {Z : State} {a0 : Array Value} (hw : ∀ d ∈ tables_1, d.before a0 Z = true) : (Jvm.Cond.static ({ cls := "com/example/holdfast/holdfast/rules/WhereIsConditionPinLaw", name := "pick", desc := "(I)C" } : Jvm.MethodName)).before a0 Z = true := hw _ (List.mem_of_getElem? (i := 2) rfl)
theorem w3 {Z : State} {a0 : Array Value} (hw : ∀ d ∈ tables_1, d.before a0 Z = true) : (Jvm.Cond.initialized "com/example/holdfast/holdfast/rules/WhereIsConditionPinLaw").before a0 Z = true := hw _ (List.mem_of_getElem? (i := 3) rfl)
theorem w4 {Z : State} {a0 : Array Value} (hw : ∀ d ∈ tables_1, d.before a0 Z = true) : (Jvm.Cond.code ({ cls := "com/example/holdfast/holdfast/rules/WhereIsConditionPinLaw", name := "pick", desc := "(I)C" } : Jvm.MethodName) method_2_code (1 : Nat) (Option.some Jvm.ClassFile.FieldType.char)).before a0 Z = true := hw _ (List.mem_of_getElem? (i := 4) rfl)
theorem w5 {Z : State} {a0 : Array Value} (hw : ∀ d ∈ tables_1, d.before a0 Z = true) : (Jvm.Cond.methodLink "com/example/holdfast/holdfast/rules/WhereIsConditionPinLaw" (19 : Nat) ({ cls := "com/example/holdfast/holdfast/rules/WhereIsConditionPinLaw", name := "make", desc := "(ICCCCC)Ljava/lang/String;" } : Jvm.MethodName)).before a0 Z = true := hw _ (List.mem_of_getElem? (i := 5) rfl)
theorem w6 {Z : State} {a0 : Array Value} (hw : ∀ d ∈ tables_1, d.before a0 Z = true) : (Jvm.Cond.static ({ cls := "com/example/holdfast/holdfast/rules/WhereIsConditionPinLaw", name := "make", desc := "(ICCCCC)Ljava/lang/String;" } : Jvm.MethodName)).before a0 Z = true := hw _ (List.mem_of_getElem? (i := 6) rfl)
theorem w7 {Z : State} {a0 : Array Value} (hw : ∀ d ∈ tables_1, d.before a0 Z = true) : (Jvm.Cond.code ({ cls := "com/example/holdfast/holdfast/rules/WhereIsConditionPinLaw", name := "make", desc := "(ICCCCC)Ljava/lang/String;" } : Jvm.MethodName) method_3_code (6 : Nat) (Option.some (Jvm.ClassFile.FieldType.object "java/lang/String"))).before a0 Z = true := hw _ (List.mem_of_getElem? (i := 7) rfl)
theorem w8 {Z : State} {a0 : Array Value} (hw : ∀ d ∈ tables_1, d.before a0 Z = true) : (Jvm.Cond.classLink "com/example/holdfast/holdfast/rules/WhereIsConditionPinLaw" (7 : Nat) "java/lang/String").before a0 Z = true := hw _ (List.mem_of_getElem? (i := 8) rfl)
theorem w9 {Z : State} {a0 : Array Value} (hw : ∀ d ∈ tables_1, d.before a0 Z = true) : (Jvm.Cond.instantiable "java/lang/String" (4 : Nat)).before a0 Z = true := hw _ (List.mem_of_getElem? (i := 9) rfl)
theorem w10 {Z : State} {a0 : Array Value} (hw : ∀ d ∈ tables_1, d.before a0 Z = true) : (Jvm.Cond.initialized "java/lang/String").before a0 Z = true := hw _ (List.mem_of_getElem? (i := 10) rfl)
theorem w11 {Z : State} {a0 : Array Value} (hw : ∀ d ∈ tables_1, d.before a0 Z = true) : (Jvm.Cond.arrayClass Jvm.ClassFile.FieldType.char).before a0 Z = true := hw _ (List.mem_of_getElem? (i := 11) rfl)
theorem w12 {Z : State} {a0 : Array Value} (hw : ∀ d ∈ tables_1, d.before a0 Z = true) : (Jvm.Cond.methodLink "com/example/holdfast/holdfast/rules/WhereIsConditionPinLaw" (9 : Nat) ({ cls := "java/lang/String", name := "<init>", desc := "([C)V" } : Jvm.MethodName)).before a0 Z = true := hw _ (List.mem_of_getElem? (i := 12) rfl)
theorem w13 {Z : State} {a0 : Array Value} (hw : ∀ d ∈ tables_1, d.before a0 Z = true) : (Jvm.Cond.instanceMethod ({ cls := "java/lang/String", name := "<init>", desc := "([C)V" } : Jvm.MethodName)).before a0 Z = true := hw _ (List.mem_of_getElem? (i := 13) rfl)
theorem w14 {Z : State} {a0 : Array Value} (hw : ∀ d ∈ tables_1, d.before a0 Z = true) : (Jvm.Cond.code ({ cls := "java/lang/String", name := "<init>", desc := "([C)V" } : Jvm.MethodName) jdk_42_method_3_code (2 : Nat) (Option.none : Option Jvm.ClassFile.FieldType)).before a0 Z = true := hw _ (List.mem_of_getElem? (i := 14) rfl)
theorem w15 {Z : State} {a0 : Array Value} (hw : ∀ d ∈ tables_1, d.before a0 Z = true) : (Jvm.Cond.methodLink "java/lang/String" (27 : Nat) ({ cls := "java/lang/String", name := "<init>", desc := "([CIILjava/lang/Void;)V" } : Jvm.MethodName)).before a0 Z = true := hw _ (List.mem_of_getElem? (i := 15) rfl)
theorem w16 {Z : State} {a0 : Array Value} (hw : ∀ d ∈ tables_1, d.before a0 Z = true) : (Jvm.Cond.instanceMethod ({ cls := "java/lang/String", name := "<init>", desc := "([CIILjava/lang/Void;)V" } : Jvm.MethodName)).before a0 Z = true := hw _ (List.mem_of_getElem? (i := 16) rfl)
theorem w18 {Z : State} {a0 : Array Value} (hw : ∀ d ∈ tables_1, d.before a0 Z = true) : (Jvm.Cond.code ({ cls := "java/lang/String", name := "<init>", desc := "([CIILjava/lang/Void;)V" } : Jvm.MethodName) jdk_42_method_149_code (6 : Nat) (Option.none : Option Jvm.ClassFile.FieldType)).before a0 Z = true := hw _ (List.mem_of_getElem? (i := 18) rfl)
theorem w19 {Z : State} {a0 : Array Value} (hw : ∀ d ∈ tables_1, d.before a0 Z = true) : (Jvm.Cond.methodLink "java/lang/String" (1 : Nat) ({ cls := "java/lang/Object", name := "<init>", desc := "()V" } : Jvm.MethodName)).before a0 Z = true := hw _ (List.mem_of_getElem? (i := 19) rfl)
theorem w20 {Z : State} {a0 : Array Value} (hw : ∀ d ∈ tables_1, d.before a0 Z = true) : (Jvm.Cond.instanceMethod ({ cls := "java/lang/Object", name := "<init>", desc := "()V" } : Jvm.MethodName)).before a0 Z = true := hw _ (List.mem_of_getElem? (i := 20) rfl)
theorem w21 {Z : State} {a0 : Array Value} (hw : ∀ d ∈ tables_1, d.before a0 Z = true) : (Jvm.Cond.code ({ cls := "java/lang/Object", name := "<init>", desc := "()V" } : Jvm.MethodName) object_method_1_code (1 : Nat) (Option.none : Option Jvm.ClassFile.FieldType)).before a0 Z = true := hw _ (List.mem_of_getElem? (i := 21) rfl)
theorem w22 {Z : State} {a0 : Array Value} (hw : ∀ d ∈ tables_1, d.before a0 Z = true) : (Jvm.Cond.stringLink "java/lang/String" (7 : Nat) "").before a0 Z = true := hw _ (List.mem_of_getElem? (i := 22) rfl)
theorem w23 {Z : State} {a0 : Array Value} (hw : ∀ d ∈ tables_1, d.before a0 Z = true) : (Jvm.Cond.arrayClass Jvm.ClassFile.FieldType.byte).before a0 Z = true := hw _ (List.mem_of_getElem? (i := 23) rfl)
theorem w24 {Z : State} {a0 : Array Value} (hw : ∀ d ∈ tables_1, d.before a0 Z = true) : (Jvm.Cond.laysFinal "java/lang/String" "java/lang/String" "value" "[B").before a0 Z = true := hw _ (List.mem_of_getElem? (i := 24) rfl)
theorem w25 {Z : State} {a0 : Array Value} (hw : ∀ d ∈ tables_1, d.before a0 Z = true) : (Jvm.Cond.laysFinal "java/lang/String" "java/lang/String" "coder" "B").before a0 Z = true := hw _ (List.mem_of_getElem? (i := 25) rfl)
theorem w28 {Z : State} {a0 : Array Value} (hw : ∀ d ∈ tables_1, d.before a0 Z = true) : (Jvm.Cond.fieldLink "java/lang/String" (9 : Nat) "java/lang/String" "value" "[B").before a0 Z = true := hw _ (List.mem_of_getElem? (i := 28) rfl)
theorem w29 {Z : State} {a0 : Array Value} (hw : ∀ d ∈ tables_1, d.before a0 Z = true) : (Jvm.Cond.fieldLink "java/lang/String" (15 : Nat) "java/lang/String" "coder" "B").before a0 Z = true := hw _ (List.mem_of_getElem? (i := 29) rfl)
theorem w30 {Z : State} {a0 : Array Value} (hw : ∀ d ∈ tables_1, d.before a0 Z = true) : (Jvm.Cond.methodLink "com/example/holdfast/holdfast/rules/WhereIsConditionPinLaw" (23 : Nat) ({ cls := "com/example/holdfast/holdfast/rules/Where", name := "isCondition", desc := "(Ljava/lang/String;)Z" } : Jvm.MethodName)).before a0 Z = true := hw _ (List.mem_of_getElem? (i := 30) rfl)
theorem w31 {Z : State} {a0 : Array Value} (hw : ∀ d ∈ tables_1, d.before a0 Z = true) : (Jvm.Cond.static ({ cls := "com/example/holdfast/holdfast/rules/Where", name := "isCondition", desc := "(Ljava/lang/String;)Z" } : Jvm.MethodName)).before a0 Z = true := hw _ (List.mem_of_getElem? (i := 31) rfl)
theorem w32 {Z : State} {a0 : Array Value} (hw : ∀ d ∈ tables_1, d.before a0 Z = true) : (Jvm.Cond.initialized "com/example/holdfast/holdfast/rules/Where").before a0 Z = true := hw _ (List.mem_of_getElem? (i := 32) rfl)
theorem w33 {Z : State} {a0 : Array Value} (hw : ∀ d ∈ tables_1, d.before a0 Z = true) : (Jvm.Cond.code ({ cls := "com/example/holdfast/holdfast/rules/Where", name := "isCondition", desc := "(Ljava/lang/String;)Z" } : Jvm.MethodName) prog_28_method_2_code (1 : Nat) (Option.some Jvm.ClassFile.FieldType.boolean)).before a0 Z = true := hw _ (List.mem_of_getElem? (i := 33) rfl)
theorem w34 {Z : State} {a0 : Array Value} (hw : ∀ d ∈ tables_1, d.before a0 Z = true) : (Jvm.Cond.methodLink "com/example/holdfast/holdfast/rules/Where" (43 : Nat) ({ cls := "java/lang/String", name := "indexOf", desc := "(I)I" } : Jvm.MethodName)).before a0 Z = true := hw _ (List.mem_of_getElem? (i := 34) rfl)
theorem w35 {Z : State} {a0 : Array Value} (hw : ∀ d ∈ tables_1, d.before a0 Z = true) : (Jvm.Cond.declares ({ cls := "java/lang/String", name := "indexOf", desc := "(I)I" } : Jvm.MethodName)).before a0 Z = true := hw _ (List.mem_of_getElem? (i := 35) rfl)
theorem w36 {Z : State} {a0 : Array Value} (hw : ∀ d ∈ tables_1, d.before a0 Z = true) : (Jvm.Cond.instanceMethod ({ cls := "java/lang/String", name := "indexOf", desc := "(I)I" } : Jvm.MethodName)).before a0 Z = true := hw _ (List.mem_of_getElem? (i := 36) rfl)
theorem w37 {Z : State} {a0 : Array Value} (hw : ∀ d ∈ tables_1, d.before a0 Z = true) : (Jvm.Cond.selects "java/lang/String" ({ cls := "java/lang/String", name := "indexOf", desc := "(I)I" } : Jvm.MethodName) ({ cls := "java/lang/String", name := "indexOf", desc := "(I)I" } : Jvm.MethodName)).before a0 Z = true := hw _ (List.mem_of_getElem? (i := 37) rfl)
theorem w38 {Z : State} {a0 : Array Value} (hw : ∀ d ∈ tables_1, d.before a0 Z = true) : (Jvm.Cond.code ({ cls := "java/lang/String", name := "indexOf", desc := "(I)I" } : Jvm.MethodName) jdk_42_method_79_code (2 : Nat) (Option.some Jvm.ClassFile.FieldType.int)).before a0 Z = true := hw _ (List.mem_of_getElem? (i := 38) rfl)
theorem w39 {Z : State} {a0 : Array Value} (hw : ∀ d ∈ tables_1, d.before a0 Z = true) : (Jvm.Cond.methodLink "java/lang/String" (633 : Nat) ({ cls := "java/lang/String", name := "indexOf", desc := "(II)I" } : Jvm.MethodName)).before a0 Z = true := hw _ (List.mem_of_getElem? (i := 39) rfl)
theorem w40 {Z : State} {a0 : Array Value} (hw : ∀ d ∈ tables_1, d.before a0 Z = true) : (Jvm.Cond.declares ({ cls := "java/lang/String", name := "indexOf", desc := "(II)I" } : Jvm.MethodName)).before a0 Z = true := hw _ (List.mem_of_getElem? (i := 40) rfl)
theorem w41 {Z : State} {a0 : Array Value} (hw : ∀ d ∈ tables_1, d.before a0 Z = true) : (Jvm.Cond.instanceMethod ({ cls := "java/lang/String", name := "indexOf", desc := "(II)I" } : Jvm.MethodName)).before a0 Z = true := hw _ (List.mem_of_getElem? (i := 41) rfl)
theorem w42 {Z : State} {a0 : Array Value} (hw : ∀ d ∈ tables_1, d.before a0 Z = true) : (Jvm.Cond.selects "java/lang/String" ({ cls := "java/lang/String", name := "indexOf", desc := "(II)I" } : Jvm.MethodName) ({ cls := "java/lang/String", name := "indexOf", desc := "(II)I" } : Jvm.MethodName)).before a0 Z = true := hw _ (List.mem_of_getElem? (i := 42) rfl)
theorem w43 {Z : State} {a0 : Array Value} (hw : ∀ d ∈ tables_1, d.before a0 Z = true) : (Jvm.Cond.code ({ cls := "java/lang/String", name := "indexOf", desc := "(II)I" } : Jvm.MethodName) jdk_42_method_80_code (3 : Nat) (Option.some Jvm.ClassFile.FieldType.int)).before a0 Z = true := hw _ (List.mem_of_getElem? (i := 43) rfl)
theorem w44 {Z : State} {a0 : Array Value} (hw : ∀ d ∈ tables_1, d.before a0 Z = true) : (Jvm.Cond.methodLink "java/lang/String" (492 : Nat) ({ cls := "java/lang/String", name := "isLatin1", desc := "()Z" } : Jvm.MethodName)).before a0 Z = true := hw _ (List.mem_of_getElem? (i := 44) rfl)
theorem w45 {Z : State} {a0 : Array Value} (hw : ∀ d ∈ tables_1, d.before a0 Z = true) : (Jvm.Cond.declares ({ cls := "java/lang/String", name := "isLatin1", desc := "()Z" } : Jvm.MethodName)).before a0 Z = true := hw _ (List.mem_of_getElem? (i := 45) rfl)
theorem w46 {Z : State} {a0 : Array Value} (hw : ∀ d ∈ tables_1, d.before a0 Z = true) : (Jvm.Cond.instanceMethod ({ cls := "java/lang/String", name := "isLatin1", desc := "()Z" } : Jvm.MethodName)).before a0 Z = true := hw _ (List.mem_of_getElem? (i := 46) rfl)
theorem w47 {Z : State} {a0 : Array Value} (hw : ∀ d ∈ tables_1, d.before a0 Z = true) : (Jvm.Cond.selects "java/lang/String" ({ cls := "java/lang/String", name := "isLatin1", desc := "()Z" } : Jvm.MethodName) ({ cls := "java/lang/String", name := "isLatin1", desc := "()Z" } : Jvm.MethodName)).before a0 Z = true := hw _ (List.mem_of_getElem? (i := 47) rfl)
theorem w48 {Z : State} {a0 : Array Value} (hw : ∀ d ∈ tables_1, d.before a0 Z = true) : (Jvm.Cond.code ({ cls := "java/lang/String", name := "isLatin1", desc := "()Z" } : Jvm.MethodName) jdk_42_method_154_code (1 : Nat) (Option.some Jvm.ClassFile.FieldType.boolean)).before a0 Z = true := hw _ (List.mem_of_getElem? (i := 48) rfl)
theorem w49 {Z : State} {a0 : Array Value} (hw : ∀ d ∈ tables_1, d.before a0 Z = true) : (Jvm.Cond.fieldLink "java/lang/String" (38 : Nat) "java/lang/String" "COMPACT_STRINGS" "Z").before a0 Z = true := hw _ (List.mem_of_getElem? (i := 49) rfl)
theorem w50 {Z : State} {a0 : Array Value} (hw : ∀ d ∈ tables_1, d.before a0 Z = true) : (Jvm.Cond.methodLink "java/lang/String" (505 : Nat) ({ cls := "java/lang/String", name := "length", desc := "()I" } : Jvm.MethodName)).before a0 Z = true := hw _ (List.mem_of_getElem? (i := 50) rfl)
theorem w51 {Z : State} {a0 : Array Value} (hw : ∀ d ∈ tables_1, d.before a0 Z = true) : (Jvm.Cond.declares ({ cls := "java/lang/String", name := "length", desc := "()I" } : Jvm.MethodName)).before a0 Z = true := hw _ (List.mem_of_getElem? (i := 51) rfl)
theorem w52 {Z : State} {a0 : Array Value} (hw : ∀ d ∈ tables_1, d.before a0 Z = true) : (Jvm.Cond.instanceMethod ({ cls := "java/lang/String", name := "length", desc := "()I" } : Jvm.MethodName)).before a0 Z = true := hw _ (List.mem_of_getElem? (i := 52) rfl)
theorem w53 {Z : State} {a0 : Array Value} (hw : ∀ d ∈ tables_1, d.before a0 Z = true) : (Jvm.Cond.selects "java/lang/String" ({ cls := "java/lang/String", name := "length", desc := "()I" } : Jvm.MethodName) ({ cls := "java/lang/String", name := "length", desc := "()I" } : Jvm.MethodName)).before a0 Z = true := hw _ (List.mem_of_getElem? (i := 53) rfl)
theorem w54 {Z : State} {a0 : Array Value} (hw : ∀ d ∈ tables_1, d.before a0 Z = true) : (Jvm.Cond.code ({ cls := "java/lang/String", name := "length", desc := "()I" } : Jvm.MethodName) jdk_42_method_54_code (1 : Nat) (Option.some Jvm.ClassFile.FieldType.int)).before a0 Z = true := hw _ (List.mem_of_getElem? (i := 54) rfl)
theorem w55 {Z : State} {a0 : Array Value} (hw : ∀ d ∈ tables_1, d.before a0 Z = true) : (Jvm.Cond.methodLink "java/lang/String" (335 : Nat) ({ cls := "java/lang/String", name := "coder", desc := "()B" } : Jvm.MethodName)).before a0 Z = true := hw _ (List.mem_of_getElem? (i := 55) rfl)
theorem w56 {Z : State} {a0 : Array Value} (hw : ∀ d ∈ tables_1, d.before a0 Z = true) : (Jvm.Cond.declares ({ cls := "java/lang/String", name := "coder", desc := "()B" } : Jvm.MethodName)).before a0 Z = true := hw _ (List.mem_of_getElem? (i := 56) rfl)
theorem w57 {Z : State} {a0 : Array Value} (hw : ∀ d ∈ tables_1, d.before a0 Z = true) : (Jvm.Cond.instanceMethod ({ cls := "java/lang/String", name := "coder", desc := "()B" } : Jvm.MethodName)).before a0 Z = true := hw _ (List.mem_of_getElem? (i := 57) rfl)
theorem w58 {Z : State} {a0 : Array Value} (hw : ∀ d ∈ tables_1, d.before a0 Z = true) : (Jvm.Cond.selects "java/lang/String" ({ cls := "java/lang/String", name := "coder", desc := "()B" } : Jvm.MethodName) ({ cls := "java/lang/String", name := "coder", desc := "()B" } : Jvm.MethodName)).before a0 Z = true := hw _ (List.mem_of_getElem? (i := 58) rfl)
theorem w59 {Z : State} {a0 : Array Value} (hw : ∀ d ∈ tables_1, d.before a0 Z = true) : (Jvm.Cond.code ({ cls := "java/lang/String", name := "coder", desc := "()B" } : Jvm.MethodName) jdk_42_method_152_code (1 : Nat) (Option.some Jvm.ClassFile.FieldType.byte)).before a0 Z = true := hw _ (List.mem_of_getElem? (i := 59) rfl)
theorem w60 {Z : State} {a0 : Array Value} (hw : ∀ d ∈ tables_1, d.before a0 Z = true) : (Jvm.Cond.methodLink "java/lang/String" (637 : Nat) ({ cls := "java/lang/StringLatin1", name := "indexOf", desc := "([BIII)I" } : Jvm.MethodName)).before a0 Z = true := hw _ (List.mem_of_getElem? (i := 60) rfl)
theorem w61 {Z : State} {a0 : Array Value} (hw : ∀ d ∈ tables_1, d.before a0 Z = true) : (Jvm.Cond.static ({ cls := "java/lang/StringLatin1", name := "indexOf", desc := "([BIII)I" } : Jvm.MethodName)).before a0 Z = true := hw _ (List.mem_of_getElem? (i := 61) rfl)
theorem w62 {Z : State} {a0 : Array Value} (hw : ∀ d ∈ tables_1, d.before a0 Z = true) : (Jvm.Cond.initialized "java/lang/StringLatin1").before a0 Z = true := hw _ (List.mem_of_getElem? (i := 62) rfl)
theorem w63 {Z : State} {a0 : Array Value} (hw : ∀ d ∈ tables_1, d.before a0 Z = true) : (Jvm.Cond.code ({ cls := "java/lang/StringLatin1", name := "indexOf", desc := "([BIII)I" } : Jvm.MethodName) jdk_43_method_22_code (4 : Nat) (Option.some Jvm.ClassFile.FieldType.int)).before a0 Z = true := hw _ (List.mem_of_getElem? (i := 63) rfl)
theorem w64 {Z : State} {a0 : Array Value} (hw : ∀ d ∈ tables_1, d.before a0 Z = true) : (Jvm.Cond.methodLink "java/lang/StringLatin1" (88 : Nat) ({ cls := "java/lang/StringLatin1", name := "canEncode", desc := "(I)Z" } : Jvm.MethodName)).before a0 Z = true := hw _ (List.mem_of_getElem? (i := 64) rfl)
theorem w65 {Z : State} {a0 : Array Value} (hw : ∀ d ∈ tables_1, d.before a0 Z = true) : (Jvm.Cond.static ({ cls := "java/lang/StringLatin1", name := "canEncode", desc := "(I)Z" } : Jvm.MethodName)).before a0 Z = true := hw _ (List.mem_of_getElem? (i := 65) rfl)
theorem w66 {Z : State} {a0 : Array Value} (hw : ∀ d ∈ tables_1, d.before a0 Z = true) : (Jvm.Cond.code ({ cls := "java/lang/StringLatin1", name := "canEncode", desc := "(I)Z" } : Jvm.MethodName) jdk_43_method_4_code (1 : Nat) (Option.some Jvm.ClassFile.FieldType.boolean)).before a0 Z = true := hw _ (List.mem_of_getElem? (i := 66) rfl)
theorem w67 {Z : State} {a0 : Array Value} (hw : ∀ d ∈ tables_1, d.before a0 Z = true) : (Jvm.Cond.methodLink "java/lang/StringLatin1" (92 : Nat) ({ cls := "java/lang/Math", name := "max", desc := "(II)I" } : Jvm.MethodName)).before a0 Z = true := hw _ (List.mem_of_getElem? (i := 67) rfl)
theorem w68 {Z : State} {a0 : Array Value} (hw : ∀ d ∈ tables_1, d.before a0 Z = true) : (Jvm.Cond.static ({ cls := "java/lang/Math", name := "max", desc := "(II)I" } : Jvm.MethodName)).before a0 Z = true := hw _ (List.mem_of_getElem? (i := 68) rfl)
theorem w69 {Z : State} {a0 : Array Value} (hw : ∀ d ∈ tables_1, d.before a0 Z = true) : (Jvm.Cond.initialized "java/lang/Math").before a0 Z = true := hw _ (List.mem_of_getElem? (i := 69) rfl)
theorem w70 {Z : State} {a0 : Array Value} (hw : ∀ d ∈ tables_1, d.before a0 Z = true) : (Jvm.Cond.code ({ cls := "java/lang/Math", name := "max", desc := "(II)I" } : Jvm.MethodName) jdk_29_method_65_code (2 : Nat) (Option.some Jvm.ClassFile.FieldType.int)).before a0 Z = true := hw _ (List.mem_of_getElem? (i := 70) rfl)
theorem w71 {Z : State} {a0 : Array Value} (hw : ∀ d ∈ tables_1, d.before a0 Z = true) : (Jvm.Cond.methodLink "java/lang/StringLatin1" (38 : Nat) ({ cls := "java/lang/Math", name := "min", desc := "(II)I" } : Jvm.MethodName)).before a0 Z = true := hw _ (List.mem_of_getElem? (i := 71) rfl)
theorem w72 {Z : State} {a0 : Array Value} (hw : ∀ d ∈ tables_1, d.before a0 Z = true) : (Jvm.Cond.static ({ cls := "java/lang/Math", name := "min", desc := "(II)I" } : Jvm.MethodName)).before a0 Z = true := hw _ (List.mem_of_getElem? (i := 72) rfl)
theorem w73 {Z : State} {a0 : Array Value} (hw : ∀ d ∈ tables_1, d.before a0 Z = true) : (Jvm.Cond.code ({ cls := "java/lang/Math", name := "min", desc := "(II)I" } : Jvm.MethodName) jdk_29_method_69_code (2 : Nat) (Option.some Jvm.ClassFile.FieldType.int)).before a0 Z = true := hw _ (List.mem_of_getElem? (i := 73) rfl)
theorem w74 {Z : State} {a0 : Array Value} (hw : ∀ d ∈ tables_1, d.before a0 Z = true) : (Jvm.Cond.methodLink "java/lang/String" (177 : Nat) ({ cls := "java/lang/StringUTF16", name := "compress", desc := "([CII)[B" } : Jvm.MethodName)).before a0 Z = true := hw _ (List.mem_of_getElem? (i := 74) rfl)
theorem w75 {Z : State} {a0 : Array Value} (hw : ∀ d ∈ tables_1, d.before a0 Z = true) : (Jvm.Cond.static ({ cls := "java/lang/StringUTF16", name := "compress", desc := "([CII)[B" } : Jvm.MethodName)).before a0 Z = true := hw _ (List.mem_of_getElem? (i := 75) rfl)
theorem w76 {Z : State} {a0 : Array Value} (hw : ∀ d ∈ tables_1, d.before a0 Z = true) : (Jvm.Cond.initialized "java/lang/StringUTF16").before a0 Z = true := hw _ (List.mem_of_getElem? (i := 76) rfl)
theorem w77 {Z : State} {a0 : Array Value} (hw : ∀ d ∈ tables_1, d.before a0 Z = true) : (Jvm.Cond.code ({ cls := "java/lang/StringUTF16", name := "compress", desc := "([CII)[B" } : Jvm.MethodName) jdk_52_method_16_code (6 : Nat) (Option.some (Jvm.ClassFile.FieldType.array Jvm.ClassFile.FieldType.byte))).before a0 Z = true := hw _ (List.mem_of_getElem? (i := 77) rfl)
theorem w78 {Z : State} {a0 : Array Value} (hw : ∀ d ∈ tables_1, d.before a0 Z = true) : (Jvm.Cond.methodLink "java/lang/StringUTF16" (115 : Nat) ({ cls := "java/lang/StringUTF16", name := "compress", desc := "([CI[BII)I" } : Jvm.MethodName)).before a0 Z = true := hw _ (List.mem_of_getElem? (i := 78) rfl)
theorem w79 {Z : State} {a0 : Array Value} (hw : ∀ d ∈ tables_1, d.before a0 Z = true) : (Jvm.Cond.static ({ cls := "java/lang/StringUTF16", name := "compress", desc := "([CI[BII)I" } : Jvm.MethodName)).before a0 Z = true := hw _ (List.mem_of_getElem? (i := 79) rfl)
theorem w80 {Z : State} {a0 : Array Value} (hw : ∀ d ∈ tables_1, d.before a0 Z = true) : (Jvm.Cond.code ({ cls := "java/lang/StringUTF16", name := "compress", desc := "([CI[BII)I" } : Jvm.MethodName) jdk_52_method_21_code (7 : Nat) (Option.some Jvm.ClassFile.FieldType.int)).before a0 Z = true := hw _ (List.mem_of_getElem? (i := 80) rfl)
theorem w81 {Z : State} {a0 : Array Value} (hw : ∀ d ∈ tables_1, d.before a0 Z = true) : (Jvm.Cond.methodLink "java/lang/String" (47 : Nat) ({ cls := "java/lang/StringUTF16", name := "coderFromArrayLen", desc := "([BI)B" } : Jvm.MethodName)).before a0 Z = true := hw _ (List.mem_of_getElem? (i := 81) rfl)
theorem w82 {Z : State} {a0 : Array Value} (hw : ∀ d ∈ tables_1, d.before a0 Z = true) : (Jvm.Cond.static ({ cls := "java/lang/StringUTF16", name := "coderFromArrayLen", desc := "([BI)B" } : Jvm.MethodName)).before a0 Z = true := hw _ (List.mem_of_getElem? (i := 82) rfl)
theorem w83 {Z : State} {a0 : Array Value} (hw : ∀ d ∈ tables_1, d.before a0 Z = true) : (Jvm.Cond.code ({ cls := "java/lang/StringUTF16", name := "coderFromArrayLen", desc := "([BI)B" } : Jvm.MethodName) jdk_52_method_15_code (2 : Nat) (Option.some Jvm.ClassFile.FieldType.byte)).before a0 Z = true := hw _ (List.mem_of_getElem? (i := 83) rfl)
theorem w84 {Z : State} {a0 : Array Value} (hw : ∀ d ∈ tables_1, d.before a0 Z = true) : (Jvm.Cond.methodLink "java/lang/StringLatin1" (95 : Nat) ({ cls := "java/lang/StringLatin1", name := "indexOfChar", desc := "([BIII)I" } : Jvm.MethodName)).before a0 Z = true := hw _ (List.mem_of_getElem? (i := 84) rfl)
theorem w85 {Z : State} {a0 : Array Value} (hw : ∀ d ∈ tables_1, d.before a0 Z = true) : (Jvm.Cond.static ({ cls := "java/lang/StringLatin1", name := "indexOfChar", desc := "([BIII)I" } : Jvm.MethodName)).before a0 Z = true := hw _ (List.mem_of_getElem? (i := 85) rfl)
theorem w86 {Z : State} {a0 : Array Value} (hw : ∀ d ∈ tables_1, d.before a0 Z = true) : (Jvm.Cond.code ({ cls := "java/lang/StringLatin1", name := "indexOfChar", desc := "([BIII)I" } : Jvm.MethodName) jdk_43_method_23_code (6 : Nat) (Option.some Jvm.ClassFile.FieldType.int)).before a0 Z = true := hw _ (List.mem_of_getElem? (i := 86) rfl)
theorem pd0 : parseMethodDescriptor "([CIILjava/lang/Void;)V" = some ⟨[(.array .char), .int, .int, (.object "java/lang/Void")], none⟩ := by decide +kernel
theorem pd1 : parseMethodDescriptor "([CI[BII)I" = some ⟨[(.array .char), .int, (.array .byte), .int, .int], some .int⟩ := by decide +kernel
theorem pd2 : parseMethodDescriptor "([CII)[B" = some ⟨[(.array .char), .int, .int], some (.array .byte)⟩ := by decide +kernel
theorem pd3 : parseMethodDescriptor "([BI)B" = some ⟨[(.array .byte), .int], some .byte⟩ := by decide +kernel
theorem pd4 : parseMethodDescriptor "()B" = some ⟨[], some .byte⟩ := by decide +kernel
theorem pd5 : parseMethodDescriptor "(I)Z" = some ⟨[.int], some .boolean⟩ := by decide +kernel
theorem pd6 : parseMethodDescriptor "(II)I" = some ⟨[.int, .int], some .int⟩ := by decide +kernel
theorem pd7 : parseMethodDescriptor "()Z" = some ⟨[], some .boolean⟩ := by decide +kernel
theorem pd8 : parseMethodDescriptor "()I" = some ⟨[], some .int⟩ := by decide +kernel
theorem pd9 : parseMethodDescriptor "([BIII)I" = some ⟨[(.array .byte), .int, .int, .int], some .int⟩ := by decide +kernel
theorem pd10 : parseMethodDescriptor "(I)I" = some ⟨[.int], some .int⟩ := by decide +kernel
theorem pd11 : parseMethodDescriptor "([C)V" = some ⟨[(.array .char)], none⟩ := by decide +kernel
theorem pd12 : parseMethodDescriptor "(I)C" = some ⟨[.int], some .char⟩ := by decide +kernel
theorem pd13 : parseMethodDescriptor "(ICCCCC)Ljava/lang/String;" = some ⟨[.int, .char, .char, .char, .char, .char], some (.object "java/lang/String")⟩ := by decide +kernel
theorem pd14 : parseMethodDescriptor "(Ljava/lang/String;)Z" = some ⟨[(.object "java/lang/String")], some .boolean⟩ := by decide +kernel
theorem dm_2_0 : decode method_2_code 0 = .ok (.iload_n 0, 1) := by decide +kernel
theorem dm_2_1 : decode method_2_code 1 = .ok (.sipush 768, 3) := by decide +kernel
theorem dm_2_4 : decode method_2_code 4 = .ok (.iand, 1) := by decide +kernel
theorem dm_2_5 : decode method_2_code 5 = .ok (.ifCond .ne 6, 3) := by decide +kernel
theorem dm_2_8 : decode method_2_code 8 = .ok (.bipush 61, 2) := by decide +kernel
theorem dm_2_10 : decode method_2_code 10 = .ok (.ireturn, 1) := by decide +kernel
theorem dm_2_11 : decode method_2_code 11 = .ok (.iload_n 0, 1) := by decide +kernel
theorem dm_2_12 : decode method_2_code 12 = .ok (.sipush 255, 3) := by decide +kernel
theorem dm_2_15 : decode method_2_code 15 = .ok (.iand, 1) := by decide +kernel
theorem dm_2_16 : decode method_2_code 16 = .ok (.i2c, 1) := by decide +kernel
theorem dm_2_17 : decode method_2_code 17 = .ok (.ireturn, 1) := by decide +kernel
theorem djdk_42_149_0 : decode jdk_42_method_149_code 0 = .ok (.aload_n 0, 1) := by decide +kernel
theorem djdk_42_149_1 : decode jdk_42_method_149_code 1 = .ok (.invokespecial 1, 3) := by decide +kernel
theorem djdk_42_149_4 : decode jdk_42_method_149_code 4 = .ok (.iload_n 3, 1) := by decide +kernel
theorem djdk_42_149_5 : decode jdk_42_method_149_code 5 = .ok (.ifCond .ne 22, 3) := by decide +kernel
theorem djdk_42_149_8 : decode jdk_42_method_149_code 8 = .ok (.aload_n 0, 1) := by decide +kernel
theorem djdk_42_149_9 : decode jdk_42_method_149_code 9 = .ok (.ldc 7, 2) := by decide +kernel
theorem djdk_42_149_11 : decode jdk_42_method_149_code 11 = .ok (.getfield 9, 3) := by decide +kernel
theorem djdk_42_149_14 : decode jdk_42_method_149_code 14 = .ok (.putfield 9, 3) := by decide +kernel
theorem djdk_42_149_17 : decode jdk_42_method_149_code 17 = .ok (.aload_n 0, 1) := by decide +kernel
theorem djdk_42_149_18 : decode jdk_42_method_149_code 18 = .ok (.ldc 7, 2) := by decide +kernel
theorem djdk_42_149_20 : decode jdk_42_method_149_code 20 = .ok (.getfield 15, 3) := by decide +kernel
theorem djdk_42_149_23 : decode jdk_42_method_149_code 23 = .ok (.putfield 15, 3) := by decide +kernel
theorem djdk_42_149_26 : decode jdk_42_method_149_code 26 = .ok (.return_, 1) := by decide +kernel
theorem djdk_42_3_0 : decode jdk_42_method_3_code 0 = .ok (.aload_n 0, 1) := by decide +kernel
theorem djdk_42_3_1 : decode jdk_42_method_3_code 1 = .ok (.aload_n 1, 1) := by decide +kernel
theorem djdk_42_3_2 : decode jdk_42_method_3_code 2 = .ok (.iconst 0, 1) := by decide +kernel
theorem djdk_42_3_3 : decode jdk_42_method_3_code 3 = .ok (.aload_n 1, 1) := by decide +kernel
theorem djdk_42_3_4 : decode jdk_42_method_3_code 4 = .ok (.arraylength, 1) := by decide +kernel
theorem djdk_42_3_5 : decode jdk_42_method_3_code 5 = .ok (.aconst_null, 1) := by decide +kernel
theorem djdk_42_3_6 : decode jdk_42_method_3_code 6 = .ok (.invokespecial 27, 3) := by decide +kernel
theorem djdk_42_3_9 : decode jdk_42_method_3_code 9 = .ok (.return_, 1) := by decide +kernel
theorem djdk_52_21_0 : decode jdk_52_method_21_code 0 = .ok (.iconst 0, 1) := by decide +kernel
theorem djdk_52_21_1 : decode jdk_52_method_21_code 1 = .ok (.istore 5, 2) := by decide +kernel
theorem djdk_52_21_3 : decode jdk_52_method_21_code 3 = .ok (.iload 5, 2) := by decide +kernel
theorem djdk_52_21_5 : decode jdk_52_method_21_code 5 = .ok (.iload 4, 2) := by decide +kernel
theorem djdk_52_21_7 : decode jdk_52_method_21_code 7 = .ok (.if_icmp .ge 37, 3) := by decide +kernel
theorem djdk_52_21_10 : decode jdk_52_method_21_code 10 = .ok (.aload_n 0, 1) := by decide +kernel
theorem djdk_52_21_11 : decode jdk_52_method_21_code 11 = .ok (.iload_n 1, 1) := by decide +kernel
theorem djdk_52_21_12 : decode jdk_52_method_21_code 12 = .ok (.caload, 1) := by decide +kernel
theorem djdk_52_21_13 : decode jdk_52_method_21_code 13 = .ok (.istore 6, 2) := by decide +kernel
theorem djdk_52_21_15 : decode jdk_52_method_21_code 15 = .ok (.iload 6, 2) := by decide +kernel
theorem djdk_52_21_17 : decode jdk_52_method_21_code 17 = .ok (.sipush 255, 3) := by decide +kernel
theorem djdk_52_21_20 : decode jdk_52_method_21_code 20 = .ok (.if_icmp .le 6, 3) := by decide +kernel
theorem djdk_52_21_26 : decode jdk_52_method_21_code 26 = .ok (.aload_n 2, 1) := by decide +kernel
theorem djdk_52_21_27 : decode jdk_52_method_21_code 27 = .ok (.iload_n 3, 1) := by decide +kernel
theorem djdk_52_21_28 : decode jdk_52_method_21_code 28 = .ok (.iload 6, 2) := by decide +kernel
theorem djdk_52_21_30 : decode jdk_52_method_21_code 30 = .ok (.i2b, 1) := by decide +kernel
theorem djdk_52_21_31 : decode jdk_52_method_21_code 31 = .ok (.bastore, 1) := by decide +kernel
theorem djdk_52_21_32 : decode jdk_52_method_21_code 32 = .ok (.iinc 1 1, 3) := by decide +kernel
theorem djdk_52_21_35 : decode jdk_52_method_21_code 35 = .ok (.iinc 3 1, 3) := by decide +kernel
theorem djdk_52_21_38 : decode jdk_52_method_21_code 38 = .ok (.iinc 5 1, 3) := by decide +kernel
theorem djdk_52_21_41 : decode jdk_52_method_21_code 41 = .ok (.goto (-38), 3) := by decide +kernel
theorem djdk_52_21_44 : decode jdk_52_method_21_code 44 = .ok (.iload 4, 2) := by decide +kernel
theorem djdk_52_21_46 : decode jdk_52_method_21_code 46 = .ok (.ireturn, 1) := by decide +kernel
theorem djdk_52_16_0 : decode jdk_52_method_16_code 0 = .ok (.iload_n 2, 1) := by decide +kernel
theorem djdk_52_16_1 : decode jdk_52_method_16_code 1 = .ok (.newarray .byte, 2) := by decide +kernel
theorem djdk_52_16_3 : decode jdk_52_method_16_code 3 = .ok (.astore_n 3, 1) := by decide +kernel
theorem djdk_52_16_4 : decode jdk_52_method_16_code 4 = .ok (.aload_n 0, 1) := by decide +kernel
theorem djdk_52_16_5 : decode jdk_52_method_16_code 5 = .ok (.iload_n 1, 1) := by decide +kernel
theorem djdk_52_16_6 : decode jdk_52_method_16_code 6 = .ok (.aload_n 3, 1) := by decide +kernel
theorem djdk_52_16_7 : decode jdk_52_method_16_code 7 = .ok (.iconst 0, 1) := by decide +kernel
theorem djdk_52_16_8 : decode jdk_52_method_16_code 8 = .ok (.iload_n 2, 1) := by decide +kernel
theorem djdk_52_16_9 : decode jdk_52_method_16_code 9 = .ok (.invokestatic 115, 3) := by decide +kernel
theorem djdk_52_16_12 : decode jdk_52_method_16_code 12 = .ok (.istore 4, 2) := by decide +kernel
theorem djdk_52_16_14 : decode jdk_52_method_16_code 14 = .ok (.iload 4, 2) := by decide +kernel
theorem djdk_52_16_16 : decode jdk_52_method_16_code 16 = .ok (.iload_n 2, 1) := by decide +kernel
theorem djdk_52_16_17 : decode jdk_52_method_16_code 17 = .ok (.if_icmp .eq 40, 3) := by decide +kernel
theorem djdk_52_16_57 : decode jdk_52_method_16_code 57 = .ok (.aload_n 3, 1) := by decide +kernel
theorem djdk_52_16_58 : decode jdk_52_method_16_code 58 = .ok (.areturn, 1) := by decide +kernel
theorem djdk_52_15_0 : decode jdk_52_method_15_code 0 = .ok (.iload_n 1, 1) := by decide +kernel
theorem djdk_52_15_1 : decode jdk_52_method_15_code 1 = .ok (.aload_n 0, 1) := by decide +kernel
theorem djdk_52_15_2 : decode jdk_52_method_15_code 2 = .ok (.arraylength, 1) := by decide +kernel
theorem djdk_52_15_3 : decode jdk_52_method_15_code 3 = .ok (.isub, 1) := by decide +kernel
theorem djdk_52_15_4 : decode jdk_52_method_15_code 4 = .ok (.bipush 31, 2) := by decide +kernel
theorem djdk_52_15_6 : decode jdk_52_method_15_code 6 = .ok (.iushr, 1) := by decide +kernel
theorem djdk_52_15_7 : decode jdk_52_method_15_code 7 = .ok (.i2b, 1) := by decide +kernel
theorem djdk_52_15_8 : decode jdk_52_method_15_code 8 = .ok (.ireturn, 1) := by decide +kernel
theorem djdk_42_149_27 : decode jdk_42_method_149_code 27 = .ok (.getstatic 38, 3) := by decide +kernel
theorem djdk_42_149_30 : decode jdk_42_method_149_code 30 = .ok (.ifCond .eq 28, 3) := by decide +kernel
theorem djdk_42_149_33 : decode jdk_42_method_149_code 33 = .ok (.aload_n 1, 1) := by decide +kernel
theorem djdk_42_149_34 : decode jdk_42_method_149_code 34 = .ok (.iload_n 2, 1) := by decide +kernel
theorem djdk_42_149_35 : decode jdk_42_method_149_code 35 = .ok (.iload_n 3, 1) := by decide +kernel
theorem djdk_42_149_36 : decode jdk_42_method_149_code 36 = .ok (.invokestatic 177, 3) := by decide +kernel
theorem djdk_42_149_39 : decode jdk_42_method_149_code 39 = .ok (.astore 5, 2) := by decide +kernel
theorem djdk_42_149_41 : decode jdk_42_method_149_code 41 = .ok (.aload_n 0, 1) := by decide +kernel
theorem djdk_42_149_42 : decode jdk_42_method_149_code 42 = .ok (.aload 5, 2) := by decide +kernel
theorem djdk_42_149_44 : decode jdk_42_method_149_code 44 = .ok (.iload_n 3, 1) := by decide +kernel
theorem djdk_42_149_45 : decode jdk_42_method_149_code 45 = .ok (.invokestatic 47, 3) := by decide +kernel
theorem djdk_42_149_48 : decode jdk_42_method_149_code 48 = .ok (.putfield 15, 3) := by decide +kernel
theorem djdk_42_149_51 : decode jdk_42_method_149_code 51 = .ok (.aload_n 0, 1) := by decide +kernel
theorem djdk_42_149_52 : decode jdk_42_method_149_code 52 = .ok (.aload 5, 2) := by decide +kernel
theorem djdk_42_149_54 : decode jdk_42_method_149_code 54 = .ok (.putfield 9, 3) := by decide +kernel
theorem djdk_42_149_57 : decode jdk_42_method_149_code 57 = .ok (.return_, 1) := by decide +kernel
theorem djdk_43_4_0 : decode jdk_43_method_4_code 0 = .ok (.iload_n 0, 1) := by decide +kernel
theorem djdk_43_4_1 : decode jdk_43_method_4_code 1 = .ok (.ifCond .lt 14, 3) := by decide +kernel
theorem djdk_43_4_4 : decode jdk_43_method_4_code 4 = .ok (.iload_n 0, 1) := by decide +kernel
theorem djdk_43_4_5 : decode jdk_43_method_4_code 5 = .ok (.sipush 255, 3) := by decide +kernel
theorem djdk_43_4_8 : decode jdk_43_method_4_code 8 = .ok (.if_icmp .gt 7, 3) := by decide +kernel
theorem djdk_43_4_11 : decode jdk_43_method_4_code 11 = .ok (.iconst 1, 1) := by decide +kernel
theorem djdk_43_4_12 : decode jdk_43_method_4_code 12 = .ok (.goto 4, 3) := by decide +kernel
theorem djdk_43_4_16 : decode jdk_43_method_4_code 16 = .ok (.ireturn, 1) := by decide +kernel
theorem djdk_42_154_0 : decode jdk_42_method_154_code 0 = .ok (.getstatic 38, 3) := by decide +kernel
theorem djdk_42_154_3 : decode jdk_42_method_154_code 3 = .ok (.ifCond .eq 14, 3) := by decide +kernel
theorem djdk_42_154_6 : decode jdk_42_method_154_code 6 = .ok (.aload_n 0, 1) := by decide +kernel
theorem djdk_42_154_7 : decode jdk_42_method_154_code 7 = .ok (.getfield 15, 3) := by decide +kernel
theorem djdk_42_154_10 : decode jdk_42_method_154_code 10 = .ok (.ifCond .ne 7, 3) := by decide +kernel
theorem djdk_42_154_13 : decode jdk_42_method_154_code 13 = .ok (.iconst 1, 1) := by decide +kernel
theorem djdk_42_154_14 : decode jdk_42_method_154_code 14 = .ok (.goto 4, 3) := by decide +kernel
theorem djdk_42_154_18 : decode jdk_42_method_154_code 18 = .ok (.ireturn, 1) := by decide +kernel
theorem djdk_42_152_0 : decode jdk_42_method_152_code 0 = .ok (.getstatic 38, 3) := by decide +kernel
theorem djdk_42_152_3 : decode jdk_42_method_152_code 3 = .ok (.ifCond .eq 10, 3) := by decide +kernel
theorem djdk_42_152_6 : decode jdk_42_method_152_code 6 = .ok (.aload_n 0, 1) := by decide +kernel
theorem djdk_42_152_7 : decode jdk_42_method_152_code 7 = .ok (.getfield 15, 3) := by decide +kernel
theorem djdk_42_152_10 : decode jdk_42_method_152_code 10 = .ok (.goto 4, 3) := by decide +kernel
theorem djdk_42_152_14 : decode jdk_42_method_152_code 14 = .ok (.ireturn, 1) := by decide +kernel
theorem djdk_42_54_0 : decode jdk_42_method_54_code 0 = .ok (.aload_n 0, 1) := by decide +kernel
theorem djdk_42_54_1 : decode jdk_42_method_54_code 1 = .ok (.getfield 9, 3) := by decide +kernel
theorem djdk_42_54_4 : decode jdk_42_method_54_code 4 = .ok (.arraylength, 1) := by decide +kernel
theorem djdk_42_54_5 : decode jdk_42_method_54_code 5 = .ok (.aload_n 0, 1) := by decide +kernel
theorem djdk_42_54_6 : decode jdk_42_method_54_code 6 = .ok (.invokevirtual 335, 3) := by decide +kernel
theorem djdk_42_54_9 : decode jdk_42_method_54_code 9 = .ok (.ishr, 1) := by decide +kernel
theorem djdk_42_54_10 : decode jdk_42_method_54_code 10 = .ok (.ireturn, 1) := by decide +kernel
theorem djdk_29_65_0 : decode jdk_29_method_65_code 0 = .ok (.iload_n 0, 1) := by decide +kernel
theorem djdk_29_65_1 : decode jdk_29_method_65_code 1 = .ok (.iload_n 1, 1) := by decide +kernel
theorem djdk_29_65_2 : decode jdk_29_method_65_code 2 = .ok (.if_icmp .lt 7, 3) := by decide +kernel
theorem djdk_29_65_5 : decode jdk_29_method_65_code 5 = .ok (.iload_n 0, 1) := by decide +kernel
theorem djdk_29_65_6 : decode jdk_29_method_65_code 6 = .ok (.goto 4, 3) := by decide +kernel
theorem djdk_29_65_10 : decode jdk_29_method_65_code 10 = .ok (.ireturn, 1) := by decide +kernel
theorem djdk_29_69_0 : decode jdk_29_method_69_code 0 = .ok (.iload_n 0, 1) := by decide +kernel
theorem djdk_29_69_1 : decode jdk_29_method_69_code 1 = .ok (.iload_n 1, 1) := by decide +kernel
theorem djdk_29_69_2 : decode jdk_29_method_69_code 2 = .ok (.if_icmp .gt 7, 3) := by decide +kernel
theorem djdk_29_69_5 : decode jdk_29_method_69_code 5 = .ok (.iload_n 0, 1) := by decide +kernel
theorem djdk_29_69_6 : decode jdk_29_method_69_code 6 = .ok (.goto 4, 3) := by decide +kernel
theorem djdk_29_69_10 : decode jdk_29_method_69_code 10 = .ok (.ireturn, 1) := by decide +kernel
theorem djdk_43_22_0 : decode jdk_43_method_22_code 0 = .ok (.iload_n 1, 1) := by decide +kernel
theorem djdk_43_22_1 : decode jdk_43_method_22_code 1 = .ok (.invokestatic 88, 3) := by decide +kernel
theorem djdk_43_22_4 : decode jdk_43_method_22_code 4 = .ok (.ifCond .ne 5, 3) := by decide +kernel
theorem djdk_43_22_9 : decode jdk_43_method_22_code 9 = .ok (.iload_n 2, 1) := by decide +kernel
theorem djdk_43_22_10 : decode jdk_43_method_22_code 10 = .ok (.iconst 0, 1) := by decide +kernel
theorem djdk_43_22_11 : decode jdk_43_method_22_code 11 = .ok (.invokestatic 92, 3) := by decide +kernel
theorem djdk_43_22_14 : decode jdk_43_method_22_code 14 = .ok (.istore_n 2, 1) := by decide +kernel
theorem djdk_43_22_15 : decode jdk_43_method_22_code 15 = .ok (.iload_n 3, 1) := by decide +kernel
theorem djdk_43_22_16 : decode jdk_43_method_22_code 16 = .ok (.aload_n 0, 1) := by decide +kernel
theorem djdk_43_22_17 : decode jdk_43_method_22_code 17 = .ok (.arraylength, 1) := by decide +kernel
theorem djdk_43_22_18 : decode jdk_43_method_22_code 18 = .ok (.invokestatic 38, 3) := by decide +kernel
theorem djdk_43_22_21 : decode jdk_43_method_22_code 21 = .ok (.istore_n 3, 1) := by decide +kernel
theorem djdk_43_22_22 : decode jdk_43_method_22_code 22 = .ok (.iload_n 2, 1) := by decide +kernel
theorem djdk_43_22_23 : decode jdk_43_method_22_code 23 = .ok (.iload_n 3, 1) := by decide +kernel
theorem djdk_43_22_24 : decode jdk_43_method_22_code 24 = .ok (.if_icmp .lt 5, 3) := by decide +kernel
theorem djdk_43_22_27 : decode jdk_43_method_22_code 27 = .ok (.iconst (-1), 1) := by decide +kernel
theorem djdk_43_22_28 : decode jdk_43_method_22_code 28 = .ok (.ireturn, 1) := by decide +kernel
theorem djdk_42_80_0 : decode jdk_42_method_80_code 0 = .ok (.aload_n 0, 1) := by decide +kernel
theorem djdk_42_80_1 : decode jdk_42_method_80_code 1 = .ok (.invokevirtual 492, 3) := by decide +kernel
theorem djdk_42_80_4 : decode jdk_42_method_80_code 4 = .ok (.ifCond .eq 19, 3) := by decide +kernel
theorem djdk_42_80_7 : decode jdk_42_method_80_code 7 = .ok (.aload_n 0, 1) := by decide +kernel
theorem djdk_42_80_8 : decode jdk_42_method_80_code 8 = .ok (.getfield 9, 3) := by decide +kernel
theorem djdk_42_80_11 : decode jdk_42_method_80_code 11 = .ok (.iload_n 1, 1) := by decide +kernel
theorem djdk_42_80_12 : decode jdk_42_method_80_code 12 = .ok (.iload_n 2, 1) := by decide +kernel
theorem djdk_42_80_13 : decode jdk_42_method_80_code 13 = .ok (.aload_n 0, 1) := by decide +kernel
theorem djdk_42_80_14 : decode jdk_42_method_80_code 14 = .ok (.invokevirtual 505, 3) := by decide +kernel
theorem djdk_42_80_17 : decode jdk_42_method_80_code 17 = .ok (.invokestatic 637, 3) := by decide +kernel
theorem djdk_42_80_20 : decode jdk_42_method_80_code 20 = .ok (.goto 16, 3) := by decide +kernel
theorem djdk_42_80_36 : decode jdk_42_method_80_code 36 = .ok (.ireturn, 1) := by decide +kernel
theorem djdk_42_79_0 : decode jdk_42_method_79_code 0 = .ok (.aload_n 0, 1) := by decide +kernel
theorem djdk_42_79_1 : decode jdk_42_method_79_code 1 = .ok (.iload_n 1, 1) := by decide +kernel
theorem djdk_42_79_2 : decode jdk_42_method_79_code 2 = .ok (.iconst 0, 1) := by decide +kernel
theorem djdk_42_79_3 : decode jdk_42_method_79_code 3 = .ok (.invokevirtual 633, 3) := by decide +kernel
theorem djdk_42_79_6 : decode jdk_42_method_79_code 6 = .ok (.ireturn, 1) := by decide +kernel
theorem dprog_28_2_0 : decode prog_28_method_2_code 0 = .ok (.aload_n 0, 1) := by decide +kernel
theorem dprog_28_2_1 : decode prog_28_method_2_code 1 = .ok (.bipush 61, 2) := by decide +kernel
theorem dprog_28_2_3 : decode prog_28_method_2_code 3 = .ok (.invokevirtual 43, 3) := by decide +kernel
theorem dprog_28_2_6 : decode prog_28_method_2_code 6 = .ok (.ifCond .le 7, 3) := by decide +kernel
theorem dprog_28_2_13 : decode prog_28_method_2_code 13 = .ok (.iconst 0, 1) := by decide +kernel
theorem dprog_28_2_14 : decode prog_28_method_2_code 14 = .ok (.ireturn, 1) := by decide +kernel
theorem dm_3_0 : decode method_3_code 0 = .ok (.iload_n 0, 1) := by decide +kernel
theorem dm_3_1 : decode method_3_code 1 = .ok (.ifCond .ne 14, 3) := by decide +kernel
theorem dm_3_4 : decode method_3_code 4 = .ok (.new 7, 3) := by decide +kernel
theorem dm_3_7 : decode method_3_code 7 = .ok (.dup, 1) := by decide +kernel
theorem dm_3_8 : decode method_3_code 8 = .ok (.iconst 0, 1) := by decide +kernel
theorem dm_3_9 : decode method_3_code 9 = .ok (.newarray .char, 2) := by decide +kernel
theorem dm_3_11 : decode method_3_code 11 = .ok (.invokespecial 9, 3) := by decide +kernel
theorem dm_3_14 : decode method_3_code 14 = .ok (.areturn, 1) := by decide +kernel
theorem djdk_43_23_0 : decode jdk_43_method_23_code 0 = .ok (.iload_n 1, 1) := by decide +kernel
theorem djdk_43_23_1 : decode jdk_43_method_23_code 1 = .ok (.i2b, 1) := by decide +kernel
theorem djdk_43_23_2 : decode jdk_43_method_23_code 2 = .ok (.istore 4, 2) := by decide +kernel
theorem djdk_43_23_4 : decode jdk_43_method_23_code 4 = .ok (.iload_n 2, 1) := by decide +kernel
theorem djdk_43_23_5 : decode jdk_43_method_23_code 5 = .ok (.istore 5, 2) := by decide +kernel
theorem djdk_43_23_7 : decode jdk_43_method_23_code 7 = .ok (.iload 5, 2) := by decide +kernel
theorem djdk_43_23_9 : decode jdk_43_method_23_code 9 = .ok (.iload_n 3, 1) := by decide +kernel
theorem djdk_43_23_10 : decode jdk_43_method_23_code 10 = .ok (.if_icmp .ge 21, 3) := by decide +kernel
theorem djdk_43_23_13 : decode jdk_43_method_23_code 13 = .ok (.aload_n 0, 1) := by decide +kernel
theorem djdk_43_23_14 : decode jdk_43_method_23_code 14 = .ok (.iload 5, 2) := by decide +kernel
theorem djdk_43_23_16 : decode jdk_43_method_23_code 16 = .ok (.baload, 1) := by decide +kernel
theorem djdk_43_23_17 : decode jdk_43_method_23_code 17 = .ok (.iload 4, 2) := by decide +kernel
theorem djdk_43_23_19 : decode jdk_43_method_23_code 19 = .ok (.if_icmp .ne 6, 3) := by decide +kernel
theorem djdk_43_23_22 : decode jdk_43_method_23_code 22 = .ok (.iload 5, 2) := by decide +kernel
theorem djdk_43_23_24 : decode jdk_43_method_23_code 24 = .ok (.ireturn, 1) := by decide +kernel
theorem djdk_43_23_25 : decode jdk_43_method_23_code 25 = .ok (.iinc 5 1, 3) := by decide +kernel
theorem djdk_43_23_28 : decode jdk_43_method_23_code 28 = .ok (.goto (-21), 3) := by decide +kernel
theorem djdk_43_23_31 : decode jdk_43_method_23_code 31 = .ok (.iconst (-1), 1) := by decide +kernel
theorem djdk_43_23_32 : decode jdk_43_method_23_code 32 = .ok (.ireturn, 1) := by decide +kernel
theorem djdk_43_22_29 : decode jdk_43_method_22_code 29 = .ok (.aload_n 0, 1) := by decide +kernel
theorem djdk_43_22_30 : decode jdk_43_method_22_code 30 = .ok (.iload_n 1, 1) := by decide +kernel
theorem djdk_43_22_31 : decode jdk_43_method_22_code 31 = .ok (.iload_n 2, 1) := by decide +kernel
theorem djdk_43_22_32 : decode jdk_43_method_22_code 32 = .ok (.iload_n 3, 1) := by decide +kernel
theorem djdk_43_22_33 : decode jdk_43_method_22_code 33 = .ok (.invokestatic 95, 3) := by decide +kernel
theorem djdk_43_22_36 : decode jdk_43_method_22_code 36 = .ok (.ireturn, 1) := by decide +kernel
theorem dprog_28_2_9 : decode prog_28_method_2_code 9 = .ok (.iconst 1, 1) := by decide +kernel
theorem dprog_28_2_10 : decode prog_28_method_2_code 10 = .ok (.goto 4, 3) := by decide +kernel
theorem dm_3_15 : decode method_3_code 15 = .ok (.iload_n 0, 1) := by decide +kernel
theorem dm_3_16 : decode method_3_code 16 = .ok (.iconst 1, 1) := by decide +kernel
theorem dm_3_17 : decode method_3_code 17 = .ok (.if_icmp .ne 18, 3) := by decide +kernel
theorem dm_3_20 : decode method_3_code 20 = .ok (.new 7, 3) := by decide +kernel
theorem dm_3_23 : decode method_3_code 23 = .ok (.dup, 1) := by decide +kernel
theorem dm_3_24 : decode method_3_code 24 = .ok (.iconst 1, 1) := by decide +kernel
theorem dm_3_25 : decode method_3_code 25 = .ok (.newarray .char, 2) := by decide +kernel
theorem dm_3_27 : decode method_3_code 27 = .ok (.dup, 1) := by decide +kernel
theorem dm_3_28 : decode method_3_code 28 = .ok (.iconst 0, 1) := by decide +kernel
theorem dm_3_29 : decode method_3_code 29 = .ok (.iload_n 1, 1) := by decide +kernel
theorem dm_3_30 : decode method_3_code 30 = .ok (.castore, 1) := by decide +kernel
theorem dm_3_31 : decode method_3_code 31 = .ok (.invokespecial 9, 3) := by decide +kernel
theorem dm_3_34 : decode method_3_code 34 = .ok (.areturn, 1) := by decide +kernel
theorem dm_3_35 : decode method_3_code 35 = .ok (.iload_n 0, 1) := by decide +kernel
theorem dm_3_36 : decode method_3_code 36 = .ok (.iconst 2, 1) := by decide +kernel
theorem dm_3_37 : decode method_3_code 37 = .ok (.if_icmp .ne 22, 3) := by decide +kernel
theorem dm_3_40 : decode method_3_code 40 = .ok (.new 7, 3) := by decide +kernel
theorem dm_3_43 : decode method_3_code 43 = .ok (.dup, 1) := by decide +kernel
theorem dm_3_44 : decode method_3_code 44 = .ok (.iconst 2, 1) := by decide +kernel
theorem dm_3_45 : decode method_3_code 45 = .ok (.newarray .char, 2) := by decide +kernel
theorem dm_3_47 : decode method_3_code 47 = .ok (.dup, 1) := by decide +kernel
theorem dm_3_48 : decode method_3_code 48 = .ok (.iconst 0, 1) := by decide +kernel
theorem dm_3_49 : decode method_3_code 49 = .ok (.iload_n 1, 1) := by decide +kernel
theorem dm_3_50 : decode method_3_code 50 = .ok (.castore, 1) := by decide +kernel
theorem dm_3_51 : decode method_3_code 51 = .ok (.dup, 1) := by decide +kernel
theorem dm_3_52 : decode method_3_code 52 = .ok (.iconst 1, 1) := by decide +kernel
theorem dm_3_53 : decode method_3_code 53 = .ok (.iload_n 2, 1) := by decide +kernel
theorem dm_3_54 : decode method_3_code 54 = .ok (.castore, 1) := by decide +kernel
theorem dm_3_55 : decode method_3_code 55 = .ok (.invokespecial 9, 3) := by decide +kernel
theorem dm_3_58 : decode method_3_code 58 = .ok (.areturn, 1) := by decide +kernel
theorem dm_3_59 : decode method_3_code 59 = .ok (.iload_n 0, 1) := by decide +kernel
theorem dm_3_60 : decode method_3_code 60 = .ok (.iconst 3, 1) := by decide +kernel
theorem dm_3_61 : decode method_3_code 61 = .ok (.if_icmp .ne 26, 3) := by decide +kernel
theorem dm_3_64 : decode method_3_code 64 = .ok (.new 7, 3) := by decide +kernel
theorem dm_3_67 : decode method_3_code 67 = .ok (.dup, 1) := by decide +kernel
theorem dm_3_68 : decode method_3_code 68 = .ok (.iconst 3, 1) := by decide +kernel
theorem dm_3_69 : decode method_3_code 69 = .ok (.newarray .char, 2) := by decide +kernel
theorem dm_3_71 : decode method_3_code 71 = .ok (.dup, 1) := by decide +kernel
theorem dm_3_72 : decode method_3_code 72 = .ok (.iconst 0, 1) := by decide +kernel
theorem dm_3_73 : decode method_3_code 73 = .ok (.iload_n 1, 1) := by decide +kernel
theorem dm_3_74 : decode method_3_code 74 = .ok (.castore, 1) := by decide +kernel
theorem dm_3_75 : decode method_3_code 75 = .ok (.dup, 1) := by decide +kernel
theorem dm_3_76 : decode method_3_code 76 = .ok (.iconst 1, 1) := by decide +kernel
theorem dm_3_77 : decode method_3_code 77 = .ok (.iload_n 2, 1) := by decide +kernel
theorem dm_3_78 : decode method_3_code 78 = .ok (.castore, 1) := by decide +kernel
theorem dm_3_79 : decode method_3_code 79 = .ok (.dup, 1) := by decide +kernel
theorem dm_3_80 : decode method_3_code 80 = .ok (.iconst 2, 1) := by decide +kernel
theorem dm_3_81 : decode method_3_code 81 = .ok (.iload_n 3, 1) := by decide +kernel
theorem dm_3_82 : decode method_3_code 82 = .ok (.castore, 1) := by decide +kernel
theorem dm_3_83 : decode method_3_code 83 = .ok (.invokespecial 9, 3) := by decide +kernel
theorem dm_3_86 : decode method_3_code 86 = .ok (.areturn, 1) := by decide +kernel
theorem dm_3_87 : decode method_3_code 87 = .ok (.iload_n 0, 1) := by decide +kernel
theorem dm_3_88 : decode method_3_code 88 = .ok (.iconst 4, 1) := by decide +kernel
theorem dm_3_89 : decode method_3_code 89 = .ok (.if_icmp .ne 31, 3) := by decide +kernel
theorem dm_3_92 : decode method_3_code 92 = .ok (.new 7, 3) := by decide +kernel
theorem dm_3_95 : decode method_3_code 95 = .ok (.dup, 1) := by decide +kernel
theorem dm_3_96 : decode method_3_code 96 = .ok (.iconst 4, 1) := by decide +kernel
theorem dm_3_97 : decode method_3_code 97 = .ok (.newarray .char, 2) := by decide +kernel
theorem dm_3_99 : decode method_3_code 99 = .ok (.dup, 1) := by decide +kernel
theorem dm_3_100 : decode method_3_code 100 = .ok (.iconst 0, 1) := by decide +kernel
theorem dm_3_101 : decode method_3_code 101 = .ok (.iload_n 1, 1) := by decide +kernel
theorem dm_3_102 : decode method_3_code 102 = .ok (.castore, 1) := by decide +kernel
theorem dm_3_103 : decode method_3_code 103 = .ok (.dup, 1) := by decide +kernel
theorem dm_3_104 : decode method_3_code 104 = .ok (.iconst 1, 1) := by decide +kernel
theorem dm_3_105 : decode method_3_code 105 = .ok (.iload_n 2, 1) := by decide +kernel
theorem dm_3_106 : decode method_3_code 106 = .ok (.castore, 1) := by decide +kernel
theorem dm_3_107 : decode method_3_code 107 = .ok (.dup, 1) := by decide +kernel
theorem dm_3_108 : decode method_3_code 108 = .ok (.iconst 2, 1) := by decide +kernel
theorem dm_3_109 : decode method_3_code 109 = .ok (.iload_n 3, 1) := by decide +kernel
theorem dm_3_110 : decode method_3_code 110 = .ok (.castore, 1) := by decide +kernel
theorem dm_3_111 : decode method_3_code 111 = .ok (.dup, 1) := by decide +kernel
theorem dm_3_112 : decode method_3_code 112 = .ok (.iconst 3, 1) := by decide +kernel
theorem dm_3_113 : decode method_3_code 113 = .ok (.iload 4, 2) := by decide +kernel
theorem dm_3_115 : decode method_3_code 115 = .ok (.castore, 1) := by decide +kernel
theorem dm_3_116 : decode method_3_code 116 = .ok (.invokespecial 9, 3) := by decide +kernel
theorem dm_3_119 : decode method_3_code 119 = .ok (.areturn, 1) := by decide +kernel
theorem dm_3_120 : decode method_3_code 120 = .ok (.new 7, 3) := by decide +kernel
theorem dm_3_123 : decode method_3_code 123 = .ok (.dup, 1) := by decide +kernel
theorem dm_3_124 : decode method_3_code 124 = .ok (.iconst 5, 1) := by decide +kernel
theorem dm_3_125 : decode method_3_code 125 = .ok (.newarray .char, 2) := by decide +kernel
theorem dm_3_127 : decode method_3_code 127 = .ok (.dup, 1) := by decide +kernel
theorem dm_3_128 : decode method_3_code 128 = .ok (.iconst 0, 1) := by decide +kernel
theorem dm_3_129 : decode method_3_code 129 = .ok (.iload_n 1, 1) := by decide +kernel
theorem dm_3_130 : decode method_3_code 130 = .ok (.castore, 1) := by decide +kernel
theorem dm_3_131 : decode method_3_code 131 = .ok (.dup, 1) := by decide +kernel
theorem dm_3_132 : decode method_3_code 132 = .ok (.iconst 1, 1) := by decide +kernel
theorem dm_3_133 : decode method_3_code 133 = .ok (.iload_n 2, 1) := by decide +kernel
theorem dm_3_134 : decode method_3_code 134 = .ok (.castore, 1) := by decide +kernel
theorem dm_3_135 : decode method_3_code 135 = .ok (.dup, 1) := by decide +kernel
theorem dm_3_136 : decode method_3_code 136 = .ok (.iconst 2, 1) := by decide +kernel
theorem dm_3_137 : decode method_3_code 137 = .ok (.iload_n 3, 1) := by decide +kernel
theorem dm_3_138 : decode method_3_code 138 = .ok (.castore, 1) := by decide +kernel
theorem dm_3_139 : decode method_3_code 139 = .ok (.dup, 1) := by decide +kernel
theorem dm_3_140 : decode method_3_code 140 = .ok (.iconst 3, 1) := by decide +kernel
theorem dm_3_141 : decode method_3_code 141 = .ok (.iload 4, 2) := by decide +kernel
theorem dm_3_143 : decode method_3_code 143 = .ok (.castore, 1) := by decide +kernel
theorem dm_3_144 : decode method_3_code 144 = .ok (.dup, 1) := by decide +kernel
theorem dm_3_145 : decode method_3_code 145 = .ok (.iconst 4, 1) := by decide +kernel
theorem dm_3_146 : decode method_3_code 146 = .ok (.iload 5, 2) := by decide +kernel
theorem dm_3_148 : decode method_3_code 148 = .ok (.castore, 1) := by decide +kernel
theorem dm_3_149 : decode method_3_code 149 = .ok (.invokespecial 9, 3) := by decide +kernel
theorem dm_3_152 : decode method_3_code 152 = .ok (.areturn, 1) := by decide +kernel
theorem pf0 : plainFor (⟨"com/example/holdfast/holdfast/rules/WhereIsConditionPinLaw", "pick", "(I)C"⟩ : MethodName) = true := by first | exact plainFor_of_name (by first | (simp [plainName, overriddenIn]; done) | decide +kernel) | decide +kernel
theorem pf1 : plainFor (⟨"java/lang/String", "<init>", "([CIILjava/lang/Void;)V"⟩ : MethodName) = true := by first | exact plainFor_of_name (by first | (simp [plainName, overriddenIn]; done) | decide +kernel) | decide +kernel
theorem pf2 : plainFor (⟨"java/lang/String", "<init>", "([C)V"⟩ : MethodName) = true := by first | exact plainFor_of_name (by first | (simp [plainName, overriddenIn]; done) | decide +kernel) | decide +kernel
theorem pf3 : plainFor (⟨"java/lang/StringUTF16", "compress", "([CI[BII)I"⟩ : MethodName) = true := by first | exact plainFor_of_name (by first | (simp [plainName, overriddenIn]; done) | decide +kernel) | decide +kernel
theorem pf4 : plainFor (⟨"java/lang/StringUTF16", "compress", "([CII)[B"⟩ : MethodName) = true := by first | exact plainFor_of_name (by first | (simp [plainName, overriddenIn]; done) | decide +kernel) | decide +kernel
theorem pf5 : plainFor (⟨"java/lang/StringUTF16", "coderFromArrayLen", "([BI)B"⟩ : MethodName) = true := by first | exact plainFor_of_name (by first | (simp [plainName, overriddenIn]; done) | decide +kernel) | decide +kernel
theorem pf6 : plainFor (⟨"java/lang/StringLatin1", "canEncode", "(I)Z"⟩ : MethodName) = true := by first | exact plainFor_of_name (by first | (simp [plainName, overriddenIn]; done) | decide +kernel) | decide +kernel
theorem pf7 : plainFor (⟨"java/lang/String", "isLatin1", "()Z"⟩ : MethodName) = true := by first | exact plainFor_of_name (by first | (simp [plainName, overriddenIn]; done) | decide +kernel) | decide +kernel
theorem pf8 : plainFor (⟨"java/lang/String", "coder", "()B"⟩ : MethodName) = true := by first | exact plainFor_of_name (by first | (simp [plainName, overriddenIn]; done) | decide +kernel) | decide +kernel
theorem pf9 : plainFor (⟨"java/lang/String", "length", "()I"⟩ : MethodName) = true := by first | exact plainFor_of_name (by first | (simp [plainName, overriddenIn]; done) | decide +kernel) | decide +kernel
theorem pf10 : plainFor (⟨"java/lang/Math", "max", "(II)I"⟩ : MethodName) = true := by first | exact plainFor_of_name (by first | (simp [plainName, overriddenIn]; done) | decide +kernel) | decide +kernel
theorem pf11 : plainFor (⟨"java/lang/Math", "min", "(II)I"⟩ : MethodName) = true := by first | exact plainFor_of_name (by first | (simp [plainName, overriddenIn]; done) | decide +kernel) | decide +kernel
theorem pf12 : plainFor (⟨"java/lang/StringLatin1", "indexOf", "([BIII)I"⟩ : MethodName) = true := by first | exact plainFor_of_name (by first | (simp [plainName, overriddenIn]; done) | decide +kernel) | decide +kernel
theorem pf13 : plainFor (⟨"java/lang/String", "indexOf", "(II)I"⟩ : MethodName) = true := by first | exact plainFor_of_name (by first | (simp [plainName, overriddenIn]; done) | decide +kernel) | decide +kernel
theorem pf14 : plainFor (⟨"java/lang/String", "indexOf", "(I)I"⟩ : MethodName) = true := by first | exact plainFor_of_name (by first | (simp [plainName, overriddenIn]; done) | decide +kernel) | decide +kernel
theorem pf15 : plainFor (⟨"com/example/holdfast/holdfast/rules/Where", "isCondition", "(Ljava/lang/String;)Z"⟩ : MethodName) = true := by first | exact plainFor_of_name (by first | (simp [plainName, overriddenIn]; done) | decide +kernel) | decide +kernel
theorem pf16 : plainFor (⟨"com/example/holdfast/holdfast/rules/WhereIsConditionPinLaw", "make", "(ICCCCC)Ljava/lang/String;"⟩ : MethodName) = true := by first | exact plainFor_of_name (by first | (simp [plainName, overriddenIn]; done) | decide +kernel) | decide +kernel
theorem pf17 : plainFor (⟨"java/lang/StringLatin1", "indexOfChar", "([BIII)I"⟩ : MethodName) = true := by first | exact plainFor_of_name (by first | (simp [plainName, overriddenIn]; done) | decide +kernel) | decide +kernel
theorem pf18 : plainFor (⟨"com/example/holdfast/holdfast/rules/WhereIsConditionPinLaw", "law", "(IIIIII)Z"⟩ : MethodName) = true := by first | exact plainFor_of_name (by first | (simp [plainName, overriddenIn]; done) | decide +kernel) | decide +kernel
theorem hSA {Z : State} {a0 : Array Value} (hw : ∀ d ∈ tables_1, d.before a0 Z = true) : ∀ a ∈ Bundle.stringAtoms, a.before a0 Z = true := fun d hd => hw d ((by decide +kernel : ∀ d ∈ Bundle.stringAtoms, d ∈ tables_1) d hd)
theorem hELs {Z : State} {a0 : Array Value} (hw : ∀ d ∈ tables_1, d.before a0 Z = true) : EW Z a0 consts_1 := (EW.cons (w22 hw) (by decide) EW.nil)
theorem ef_pick_c (m : MethodId) (x : Int32) : entryFrame m #[(.int x)] 1 = mkF m 0 #[.val (.int x)] [] := by first | (simp [entryFrame, mkF, argsToLocals, Value.category]; done) | rfl
set_option maxRecDepth 65536 in
set_option maxHeartbeats 40000000 in
theorem pick_c (l : Launch) (Z : State) (a0 : Array Value) (n0 : Nat) (hw : ∀ d ∈ tables_1, d.before a0 Z = true) (hEL : EW Z a0 consts_1) (G1 : Int32) (O1 : Sta Z Z.heap "java/lang/String" "COMPACT_STRINGS" "Z" (.int G1)) (P1 : ¬ (G1 = (0 : Int32))) (x : Int32) (h0 : Heap) (hO : Old Z n0 h0)  :
    Con l Z consts_1 n0 (⟨"com/example/holdfast/holdfast/rules/WhereIsConditionPinLaw", "pick", "(I)C"⟩ : MethodName) method_2_code 1 (some .char) ({ frames := 0, cells := 0, slots := 0, locals := 0 } : Room) #[(.int x)] h0 [] (fun v h V' => v = some (.int (pk x)) ∧ h0 = h) [] := by
  refine Con.of (a0 := a0) pf0 (fun m => ef_pick_c m x) all0 hO hEL ?_
  intro p e s m below meth c S0 hnm hsf W
  replace W := W.iloadN (pc' := 1) dm_2_0 rfl rfl
  replace W := W.sipush (pc' := 4) (v := (768 : Int32)) dm_2_1 rfl rfl
  replace W := W.iand (pc' := 5) (v := (x &&& (768 : Int32))) dm_2_4 rfl rfl
  by_cases c1 : (x &&& (768 : Int32)) = (0 : Int32)
  · replace W := W.ifF (pc' := 8) dm_2_5 (teq c1).2 rfl
    replace W := W.bipush (pc' := 10) (v := (61 : Int32)) dm_2_8 rfl rfl
    exact W.iret (t := .char) dm_2_10 rfl (by simp) (by decide) (by decide) (by decide) (fun V' cv => ⟨(by simp [pk, c1]), rfl⟩)
  · replace W := W.ifT (pc' := 11) dm_2_5 (feq c1).2 (by decide) (by decide)
    replace W := W.iloadN (pc' := 12) dm_2_11 rfl rfl
    replace W := W.sipush (pc' := 15) (v := (255 : Int32)) dm_2_12 rfl rfl
    replace W := W.iand (pc' := 16) (v := (x &&& (255 : Int32))) dm_2_15 rfl rfl
    replace W := W.i2c (pc' := 17) (v := (x &&& (255 : Int32))) dm_2_16 (i2c_mask _) rfl
    exact W.iret (t := .char) dm_2_17 rfl (by simp) (congrArg Value.int (i2c_mask _)) (by decide) (by decide) (fun V' cv => ⟨(by simp [pk, c1]), rfl⟩)
theorem ef_new4_0 (m : MethodId) (xa : Addr) (ca : Addr) (kc : ClassId) : entryFrame m #[(.ref xa), (.ref ca), (.int (0 : Int32)), (.int (0 : Int32)), .null] 6 = mkF m 0 #[.val (.ref xa), .val (.ref ca), .val (.int (0 : Int32)), .val (.int (0 : Int32)), .val .null, .unset] [] := by first | (simp [entryFrame, mkF, argsToLocals, Value.category]; done) | rfl
set_option maxRecDepth 65536 in
set_option maxHeartbeats 40000000 in
theorem new4_0 (l : Launch) (Z : State) (a0 : Array Value) (n0 : Nat) (hw : ∀ d ∈ tables_1, d.before a0 Z = true) (hEL : EW Z a0 consts_1) (G1 : Int32) (O1 : Sta Z Z.heap "java/lang/String" "COMPACT_STRINGS" "Z" (.int G1)) (P1 : ¬ (G1 = (0 : Int32))) (xa : Addr) (ca : Addr) (kc : ClassId) (h0 : Heap) (hO : Old Z n0 h0) (E_xa : Exa Z h0 xa "java/lang/String") (F_xa_value : Fld Z h0 xa "java/lang/String" "value" "[B" .null) (F_xa_coder : Fld Z h0 xa "java/lang/String" "coder" "B" (.int (0 : Int32))) (V_ca : Arv Z h0 ca kc .char (0 : Int32) [] (.int (0 : Int32))) (g_xa : n0 ≤ xa) :
    Con l Z consts_1 n0 (⟨"java/lang/String", "<init>", "([CIILjava/lang/Void;)V"⟩ : MethodName) jdk_42_method_149_code 6 none ({ frames := 1, cells := 2, slots := 4, locals := 12 } : Room) #[(.ref xa), (.ref ca), (.int (0 : Int32)), (.int (0 : Int32)), .null] h0 [xa] (fun v h V' => ∃ (t : Addr) (kt : ClassId), v = none ∧ Exa Z h xa "java/lang/String" ∧ Fld Z h xa "java/lang/String" "coder" "B" (.int (0 : Int32)) ∧ Fld Z h xa "java/lang/String" "value" "[B" (.ref t) ∧ Arv Z h t kt .byte (0 : Int32) [] (.int (0 : Int32))) [] := by
  refine Con.of (a0 := a0) pf1 (fun m => ef_new4_0 m xa ca kc) (allS g_xa all0) hO hEL ?_
  intro p e s m below meth c S0 hnm hsf W
  replace W := W.aloadN (pc' := 1) djdk_42_149_0 rfl rfl rfl
  replace W := W.initO (pc' := 4) (Wd := 0) djdk_42_149_1 (w19 hw) (w20 hw) (w21 hw) rfl rfl (by decide) (by decide) rfl
  replace W := W.iloadN (pc' := 5) djdk_42_149_4 rfl rfl
  replace W := W.ifF (pc' := 8) djdk_42_149_5 (teq (by decide : (0 : Int32) = (0 : Int32))).2 rfl
  replace W := W.aloadN (pc' := 9) djdk_42_149_8 rfl rfl rfl
  obtain ⟨V1, h1, a1, b1, k1, W1, E1, A1, C1, F1, B1, t1, ne1, SF1⟩ := W.ldcT (pc' := 11) (n := 0) (vs := []) (z := (0 : Int32)) (cells' := 2) (slots' := 4) djdk_42_149_9 (w22 hw) (hSA hw) (by decide) ⟨by decide, by decide⟩ (by decide) (by decide) (by decide) (by decide) rfl rfl rfl (by decide) (by decide)
  clear W
  have z1 : h0.size ≤ h1.size := E1.1
  have sf2 := (SF1 xa E_xa.lt (hsf _ (List.mem_of_getElem? (i := 0) rfl)))
  replace W1 := W1.getf (pc' := 14) djdk_42_149_11 (w28 hw) Via.refl F1 rfl
  have f3 := (F_xa_value.ext E1)
  have e4 := (E_xa.ext E1)
  obtain ⟨h5, W5, w5, SF5⟩ := W1.putf (pc' := 17) (ty := (.array .byte)) djdk_42_149_14 (w28 hw) Via.refl f3 e4 (Or.inr ⟨(w24 hw), rfl, hnm⟩) (w9 hw) (by decide) rfl rfl sf2 (Or.inl (List.mem_of_getElem? (i := 0) rfl)) rfl
  clear W1
  have z5 : h1.size ≤ h5.size := Nat.le_of_eq w5.size.symm
  have f5 := f3.same w5
  replace W5 := W5.aloadN (pc' := 18) djdk_42_149_17 rfl rfl rfl
  replace W5 := W5.ldcA (pc' := 20) djdk_42_149_18 (w22 hw) t1 rfl
  have f6 := (C1.other w5 (Or.inl (Ne.symm (ne1 _ sf2).1)))
  replace W5 := W5.getf (pc' := 23) djdk_42_149_20 (w29 hw) Via.refl f6 rfl
  have f7 := ((F_xa_coder.ext E1).other w5 (Or.inr (slot_ne (C := "java/lang/String") (Or.inr (w25 hw)) (Or.inr (w24 hw)) (by decide) (t := .byte) (t' := (.array .byte)) (by decide) (by decide))))
  have e8 := (e4.wr w5)
  have sf9 := (SF5 xa sf2)
  obtain ⟨h10, W10, w10, SF10⟩ := W5.putf (pc' := 26) (ty := .byte) djdk_42_149_23 (w29 hw) Via.refl f7 e8 (Or.inr ⟨(w25 hw), rfl, hnm⟩) (w9 hw) (by decide) rfl rfl sf9 (Or.inl (List.mem_of_getElem? (i := 0) rfl)) rfl
  clear W5
  have z10 : h5.size ≤ h10.size := Nat.le_of_eq w10.size.symm
  have f10 := f7.same w10
  have e11 := (e8.wr w10)
  have f12 := (f5.other w10 (Or.inr (slot_ne (C := "java/lang/String") (Or.inr (w24 hw)) (Or.inr (w25 hw)) (by decide) (t := (.array .byte)) (t' := .byte) (by decide) (by decide))))
  have v13 := ((B1.other w5 (Ne.symm (ne1 _ sf2).2)).other w10 (Ne.symm (ne1 _ sf2).2))
  exact W10.vret djdk_42_149_26 rfl (by decide) (by decide) (fun V' cv => ⟨b1, k1, rfl, e11, f10, f12, v13⟩)
theorem ef_new1_0 (m : MethodId) (xa : Addr) (ca : Addr) (kc : ClassId) : entryFrame m #[(.ref xa), (.ref ca)] 2 = mkF m 0 #[.val (.ref xa), .val (.ref ca)] [] := by first | (simp [entryFrame, mkF, argsToLocals, Value.category]; done) | rfl
set_option maxRecDepth 65536 in
set_option maxHeartbeats 40000000 in
theorem new1_0 (l : Launch) (Z : State) (a0 : Array Value) (n0 : Nat) (hw : ∀ d ∈ tables_1, d.before a0 Z = true) (hEL : EW Z a0 consts_1) (G1 : Int32) (O1 : Sta Z Z.heap "java/lang/String" "COMPACT_STRINGS" "Z" (.int G1)) (P1 : ¬ (G1 = (0 : Int32))) (xa : Addr) (ca : Addr) (kc : ClassId) (h0 : Heap) (hO : Old Z n0 h0) (E_xa : Exa Z h0 xa "java/lang/String") (F_xa_value : Fld Z h0 xa "java/lang/String" "value" "[B" .null) (F_xa_coder : Fld Z h0 xa "java/lang/String" "coder" "B" (.int (0 : Int32))) (V_ca : Arv Z h0 ca kc .char (0 : Int32) [] (.int (0 : Int32))) (g_xa : n0 ≤ xa) :
    Con l Z consts_1 n0 (⟨"java/lang/String", "<init>", "([C)V"⟩ : MethodName) jdk_42_method_3_code 2 none ({ frames := 2, cells := 2, slots := 4, locals := 29 } : Room) #[(.ref xa), (.ref ca)] h0 [xa] (fun v h V' => ∃ (t : Addr) (kt : ClassId), v = none ∧ Exa Z h xa "java/lang/String" ∧ Fld Z h xa "java/lang/String" "coder" "B" (.int (0 : Int32)) ∧ Fld Z h xa "java/lang/String" "value" "[B" (.ref t) ∧ Arv Z h t kt .byte (0 : Int32) [] (.int (0 : Int32))) [] := by
  refine Con.of (a0 := a0) pf2 (fun m => ef_new1_0 m xa ca kc) (allS g_xa all0) hO hEL ?_
  intro p e s m below meth c S0 hnm hsf W
  replace W := W.aloadN (pc' := 1) djdk_42_3_0 rfl rfl rfl
  replace W := W.aloadN (pc' := 2) djdk_42_3_1 rfl rfl rfl
  replace W := W.iconst (pc' := 3) (v := (0 : Int32)) djdk_42_3_2 rfl rfl
  replace W := W.aloadN (pc' := 4) djdk_42_3_3 rfl rfl rfl
  replace W := W.alen (pc' := 5) djdk_42_3_4 V_ca rfl
  replace W := W.aconstNull (pc' := 6) djdk_42_3_5 rfl
  obtain ⟨V1, h1, r1, W1, K1, hQ1, SF1⟩ := W.callI (pc' := 9) (argsL := [(.ref ca), (.int (0 : Int32)), (.int (0 : Int32)), .null]) (rest := []) (Wd := 0) (cells' := 2) (slots' := 4) (a := xa) (y := (⟨"java/lang/String", "<init>", "([CIILjava/lang/Void;)V"⟩ : MethodName)) djdk_42_3_6 (new4_0 l Z a0 n0 hw hEL G1 O1 P1 xa ca kc h0 W.old E_xa F_xa_value F_xa_coder V_ca g_xa) rfl (w15 hw) (w16 hw) (w10 hw) (w18 hw) (by decide) (lenOf pd0 rfl) rfl rfl (by decide) (by decide) rfl (sfS (hsf _ (List.mem_of_getElem? (i := 0) rfl)) sf0) (allS (Or.inl (List.mem_of_getElem? (i := 0) rfl)) all0) rfl rfl rfl (by decide) (by decide)
  clear W
  obtain ⟨t1, kt1, rfl, q1_1, q1_2, q1_3, q1_4⟩ := hQ1
  have z1 : h0.size ≤ h1.size := K1.1
  replace W1 := W1.cast (st' := []) rfl
  exact W1.vret djdk_42_3_9 rfl (by decide) (by decide) (fun V' cv => ⟨t1, kt1, rfl, q1_1, q1_2, q1_3, q1_4⟩)
theorem ef_cmp5_1 (m : MethodId) (ca : Addr) (kc : ClassId) (ba : Addr) (kb : ClassId) (c0 : Int32) : entryFrame m #[(.ref ca), (.int (0 : Int32)), (.ref ba), (.int (0 : Int32)), (.int (1 : Int32))] 7 = mkF m 0 #[.val (.ref ca), .val (.int (0 : Int32)), .val (.ref ba), .val (.int (0 : Int32)), .val (.int (1 : Int32)), .unset, .unset] [] := by first | (simp [entryFrame, mkF, argsToLocals, Value.category]; done) | rfl
set_option maxRecDepth 65536 in
set_option maxHeartbeats 40000000 in
theorem cmp5_1 (l : Launch) (Z : State) (a0 : Array Value) (n0 : Nat) (hw : ∀ d ∈ tables_1, d.before a0 Z = true) (hEL : EW Z a0 consts_1) (G1 : Int32) (O1 : Sta Z Z.heap "java/lang/String" "COMPACT_STRINGS" "Z" (.int G1)) (P1 : ¬ (G1 = (0 : Int32))) (ca : Addr) (kc : ClassId) (ba : Addr) (kb : ClassId) (c0 : Int32) (h0 : Heap) (hO : Old Z n0 h0) (V_ca : Arv Z h0 ca kc .char (1 : Int32) [(.int c0)] (.int (0 : Int32))) (V_ba : Arv Z h0 ba kb .byte (1 : Int32) [(.int (0 : Int32))] (.int (0 : Int32))) (N_ca_ba : ca ≠ ba) (hp_c0 : ¬ c0 < 0 ∧ ¬ (255 : Int32) < c0) (g_ba : n0 ≤ ba) :
    Con l Z consts_1 n0 (⟨"java/lang/StringUTF16", "compress", "([CI[BII)I"⟩ : MethodName) jdk_52_method_21_code 7 (some .int) ({ frames := 0, cells := 0, slots := 0, locals := 0 } : Room) #[(.ref ca), (.int (0 : Int32)), (.ref ba), (.int (0 : Int32)), (.int (1 : Int32))] h0 [ba] (fun v h V' => v = some (.int (1 : Int32)) ∧ Arv Z h ba kb .byte (1 : Int32) [(.int (c0.toInt8.toInt32))] (.int (0 : Int32))) [] := by
  refine Con.of (a0 := a0) pf3 (fun m => ef_cmp5_1 m ca kc ba kb c0) (allS g_ba all0) hO hEL ?_
  intro p e s m below meth c S0 hnm hsf W
  replace W := W.iconst (pc' := 1) (v := (0 : Int32)) djdk_52_21_0 rfl rfl
  replace W := W.istore (pc' := 3) (L' := #[.val (.ref ca), .val (.int (0 : Int32)), .val (.ref ba), .val (.int (0 : Int32)), .val (.int (1 : Int32)), .val (.int (0 : Int32)), .unset]) djdk_52_21_1 rfl rfl
  replace W := W.iload (pc' := 5) djdk_52_21_3 rfl rfl
  replace W := W.iload (pc' := 7) djdk_52_21_5 rfl rfl
  replace W := W.icmpF (pc' := 10) djdk_52_21_7 (tlt (by decide : (0 : Int32) < (1 : Int32))).2.1 rfl
  replace W := W.aloadN (pc' := 11) djdk_52_21_10 rfl rfl rfl
  replace W := W.iloadN (pc' := 12) djdk_52_21_11 rfl rfl
  replace W := W.caload (pc' := 13) (w := (.int c0)) djdk_52_21_12 V_ca ⟨by decide, by decide⟩ rfl rfl
  replace W := W.istore (pc' := 15) (L' := #[.val (.ref ca), .val (.int (0 : Int32)), .val (.ref ba), .val (.int (0 : Int32)), .val (.int (1 : Int32)), .val (.int (0 : Int32)), .val (.int c0)]) djdk_52_21_13 rfl rfl
  replace W := W.iload (pc' := 17) djdk_52_21_15 rfl rfl
  replace W := W.sipush (pc' := 20) (v := (255 : Int32)) djdk_52_21_17 rfl rfl
  replace W := W.icmpT (pc' := 26) djdk_52_21_20 (flt hp_c0.2).2.2.2 (by decide) (by decide)
  replace W := W.aloadN (pc' := 27) djdk_52_21_26 rfl rfl rfl
  replace W := W.iloadN (pc' := 28) djdk_52_21_27 rfl rfl
  replace W := W.iload (pc' := 30) djdk_52_21_28 rfl rfl
  replace W := W.i2b (pc' := 31) (v := (c0.toInt8.toInt32)) djdk_52_21_30 rfl rfl
  obtain ⟨h1, W1, w1, A1, SF1⟩ := W.bastore (pc' := 32) (i := 0) (x' := (c0.toInt8.toInt32)) djdk_52_21_31 V_ba ⟨by decide, by decide⟩ rfl (by show 0 < 1; decide) (own_narb _) (hsf _ (List.mem_of_getElem? (i := 0) rfl)) (Or.inl (List.mem_of_getElem? (i := 0) rfl)) rfl
  clear W
  have z1 : h0.size ≤ h1.size := Nat.le_of_eq w1.size.symm
  have v1 : Arv Z h1 ba kb .byte (1 : Int32) [(.int (c0.toInt8.toInt32))] (.int (0 : Int32)) := A1
  replace W1 := W1.iinc (pc' := 35) (v := (1 : Int32)) (L' := #[.val (.ref ca), .val (.int (1 : Int32)), .val (.ref ba), .val (.int (0 : Int32)), .val (.int (1 : Int32)), .val (.int (0 : Int32)), .val (.int c0)]) djdk_52_21_32 rfl (by decide) rfl rfl
  replace W1 := W1.iinc (pc' := 38) (v := (1 : Int32)) (L' := #[.val (.ref ca), .val (.int (1 : Int32)), .val (.ref ba), .val (.int (1 : Int32)), .val (.int (1 : Int32)), .val (.int (0 : Int32)), .val (.int c0)]) djdk_52_21_35 rfl (by decide) rfl rfl
  replace W1 := W1.iinc (pc' := 41) (v := (1 : Int32)) (L' := #[.val (.ref ca), .val (.int (1 : Int32)), .val (.ref ba), .val (.int (1 : Int32)), .val (.int (1 : Int32)), .val (.int (1 : Int32)), .val (.int c0)]) djdk_52_21_38 rfl (by decide) rfl rfl
  replace W1 := W1.goto (pc' := 3) djdk_52_21_41 (by decide) (by decide)
  replace W1 := W1.iload (pc' := 5) djdk_52_21_3 rfl rfl
  replace W1 := W1.iload (pc' := 7) djdk_52_21_5 rfl rfl
  replace W1 := W1.icmpT (pc' := 44) djdk_52_21_7 (flt (by decide : ¬ ((1 : Int32) < (1 : Int32)))).2.1 (by decide) (by decide)
  replace W1 := W1.iload (pc' := 46) djdk_52_21_44 rfl rfl
  exact W1.iret (t := .int) djdk_52_21_46 rfl (by simp) rfl (by decide) (by decide) (fun V' cv => ⟨rfl, v1⟩)
theorem ef_cmp3_1 (m : MethodId) (ca : Addr) (kc : ClassId) (c0 : Int32) : entryFrame m #[(.ref ca), (.int (0 : Int32)), (.int (1 : Int32))] 6 = mkF m 0 #[.val (.ref ca), .val (.int (0 : Int32)), .val (.int (1 : Int32)), .unset, .unset, .unset] [] := by first | (simp [entryFrame, mkF, argsToLocals, Value.category]; done) | rfl
set_option maxRecDepth 65536 in
set_option maxHeartbeats 40000000 in
theorem cmp3_1 (l : Launch) (Z : State) (a0 : Array Value) (n0 : Nat) (hw : ∀ d ∈ tables_1, d.before a0 Z = true) (hEL : EW Z a0 consts_1) (G1 : Int32) (O1 : Sta Z Z.heap "java/lang/String" "COMPACT_STRINGS" "Z" (.int G1)) (P1 : ¬ (G1 = (0 : Int32))) (ca : Addr) (kc : ClassId) (c0 : Int32) (h0 : Heap) (hO : Old Z n0 h0) (V_ca : Arv Z h0 ca kc .char (1 : Int32) [(.int c0)] (.int (0 : Int32))) (hp_c0 : ¬ c0 < 0 ∧ ¬ (255 : Int32) < c0) :
    Con l Z consts_1 n0 (⟨"java/lang/StringUTF16", "compress", "([CII)[B"⟩ : MethodName) jdk_52_method_16_code 6 (some (.array .byte)) ({ frames := 1, cells := 1, slots := 1, locals := 18 } : Room) #[(.ref ca), (.int (0 : Int32)), (.int (1 : Int32))] h0 [] (fun v h V' => ∃ (t : Addr) (kt : ClassId), v = some (.ref t) ∧ Arv Z h t kt .byte (1 : Int32) [(.int (c0.toInt8.toInt32))] (.int (0 : Int32)) ∧ h0.size ≤ t) [] := by
  refine Con.of (a0 := a0) pf4 (fun m => ef_cmp3_1 m ca kc c0) all0 hO hEL ?_
  intro p e s m below meth c S0 hnm hsf W
  replace W := W.iloadN (pc' := 1) djdk_52_16_0 rfl rfl
  obtain ⟨h1, a1, W1, E1, g1, ⟨k1, A1⟩, sf1, SF1⟩ := W.newarr (pc' := 3) (cap := 1) (cells' := 1) (slots' := 1) djdk_52_16_1 (w23 hw) (by decide) (by decide) (by decide) rfl rfl rfl (by decide) (by decide)
  clear W
  rw [← g1] at A1
  have z1 : h0.size ≤ h1.size := E1.1
  have v1 : Arv Z h1 a1 k1 .byte (1 : Int32) [(.int (0 : Int32))] (.int (0 : Int32)) := A1.pad (pad_rep [] (.int (0 : Int32)) 1)
  replace W1 := W1.astoreN (pc' := 4) (L' := #[.val (.ref ca), .val (.int (0 : Int32)), .val (.int (1 : Int32)), .val (.ref a1), .unset, .unset]) djdk_52_16_3 rfl rfl rfl
  replace W1 := W1.aloadN (pc' := 5) djdk_52_16_4 rfl rfl rfl
  replace W1 := W1.iloadN (pc' := 6) djdk_52_16_5 rfl rfl
  replace W1 := W1.aloadN (pc' := 7) djdk_52_16_6 rfl rfl rfl
  replace W1 := W1.iconst (pc' := 8) (v := (0 : Int32)) djdk_52_16_7 rfl rfl
  replace W1 := W1.iloadN (pc' := 9) djdk_52_16_8 rfl rfl
  have v2 := (V_ca.ext E1)
  obtain ⟨V3, h3, r3, W3, K3, hQ3, SF3⟩ := W1.callS (pc' := 12) (argsL := [(.ref ca), (.int (0 : Int32)), (.ref a1), (.int (0 : Int32)), (.int (1 : Int32))]) (rest := []) (Wd := 0) (cells' := 1) (slots' := 1) (y := (⟨"java/lang/StringUTF16", "compress", "([CI[BII)I"⟩ : MethodName)) djdk_52_16_9 (cmp5_1 l Z a0 n0 hw hEL G1 O1 P1 ca kc a1 k1 c0 h1 W1.old v2 v1 (Nat.ne_of_lt (Nat.lt_of_lt_of_le V_ca.lt (Nat.le_of_eq g1.symm))) hp_c0 (Nat.le_trans W1.1.2.2.2.2.2.2.2.1 (Nat.le_of_eq g1.symm))) (w78 hw) (w79 hw) (w76 hw) (w80 hw) (by decide) (lenOf pd1 rfl) rfl rfl (by decide) (by decide) rfl (sfS sf1 sf0) (allS (Or.inr (Nat.le_of_eq g1.symm)) all0) rfl rfl rfl (by decide) (by decide)
  clear W1
  obtain ⟨rfl, q3_1⟩ := hQ3
  have z3 : h1.size ≤ h3.size := K3.1
  replace W3 := W3.cast (st' := [(.int (1 : Int32))]) rfl
  replace W3 := W3.istore (pc' := 14) (L' := #[.val (.ref ca), .val (.int (0 : Int32)), .val (.int (1 : Int32)), .val (.ref a1), .val (.int (1 : Int32)), .unset]) djdk_52_16_12 rfl rfl
  replace W3 := W3.iload (pc' := 16) djdk_52_16_14 rfl rfl
  replace W3 := W3.iloadN (pc' := 17) djdk_52_16_16 rfl rfl
  replace W3 := W3.icmpT (pc' := 57) djdk_52_16_17 (teq (by decide : (1 : Int32) = (1 : Int32))).1 (by decide) (by decide)
  replace W3 := W3.aloadN (pc' := 58) djdk_52_16_57 rfl rfl rfl
  exact W3.aret (t := (.array .byte)) djdk_52_16_58 rfl rfl rfl rfl (by decide) (by decide) (fun V' cv => ⟨a1, k1, rfl, q3_1, (Nat.le_of_eq g1.symm)⟩)
theorem ef_codl_1 (m : MethodId) (ta : Addr) (kt : ClassId) (vt : List Value) : entryFrame m #[(.ref ta), (.int (1 : Int32))] 2 = mkF m 0 #[.val (.ref ta), .val (.int (1 : Int32))] [] := by first | (simp [entryFrame, mkF, argsToLocals, Value.category]; done) | rfl
set_option maxRecDepth 65536 in
set_option maxHeartbeats 40000000 in
theorem codl_1 (l : Launch) (Z : State) (a0 : Array Value) (n0 : Nat) (hw : ∀ d ∈ tables_1, d.before a0 Z = true) (hEL : EW Z a0 consts_1) (G1 : Int32) (O1 : Sta Z Z.heap "java/lang/String" "COMPACT_STRINGS" "Z" (.int G1)) (P1 : ¬ (G1 = (0 : Int32))) (ta : Addr) (kt : ClassId) (vt : List Value) (h0 : Heap) (hO : Old Z n0 h0) (V_ta : Arv Z h0 ta kt .byte (1 : Int32) vt (.int (0 : Int32))) :
    Con l Z consts_1 n0 (⟨"java/lang/StringUTF16", "coderFromArrayLen", "([BI)B"⟩ : MethodName) jdk_52_method_15_code 2 (some .byte) ({ frames := 0, cells := 0, slots := 0, locals := 0 } : Room) #[(.ref ta), (.int (1 : Int32))] h0 [] (fun v h V' => v = some (.int (0 : Int32)) ∧ h0 = h) [] := by
  refine Con.of (a0 := a0) pf5 (fun m => ef_codl_1 m ta kt vt) all0 hO hEL ?_
  intro p e s m below meth c S0 hnm hsf W
  replace W := W.iloadN (pc' := 1) djdk_52_15_0 rfl rfl
  replace W := W.aloadN (pc' := 2) djdk_52_15_1 rfl rfl rfl
  replace W := W.alen (pc' := 3) djdk_52_15_2 V_ta rfl
  replace W := W.isub (pc' := 4) (v := (0 : Int32)) djdk_52_15_3 (by decide) rfl
  replace W := W.bipush (pc' := 6) (v := (31 : Int32)) djdk_52_15_4 rfl rfl
  replace W := W.iushr (pc' := 7) (v := (0 : Int32)) djdk_52_15_6 (by decide) rfl
  replace W := W.i2b (pc' := 8) (v := (0 : Int32)) djdk_52_15_7 (by decide) rfl
  exact W.iret (t := .byte) djdk_52_15_8 rfl (by simp) (by decide) (by decide) (by decide) (fun V' cv => ⟨rfl, rfl⟩)
theorem ef_new4_1 (m : MethodId) (xa : Addr) (ca : Addr) (kc : ClassId) (c0 : Int32) : entryFrame m #[(.ref xa), (.ref ca), (.int (0 : Int32)), (.int (1 : Int32)), .null] 6 = mkF m 0 #[.val (.ref xa), .val (.ref ca), .val (.int (0 : Int32)), .val (.int (1 : Int32)), .val .null, .unset] [] := by first | (simp [entryFrame, mkF, argsToLocals, Value.category]; done) | rfl
set_option maxRecDepth 65536 in
set_option maxHeartbeats 40000000 in
theorem new4_1 (l : Launch) (Z : State) (a0 : Array Value) (n0 : Nat) (hw : ∀ d ∈ tables_1, d.before a0 Z = true) (hEL : EW Z a0 consts_1) (G1 : Int32) (O1 : Sta Z Z.heap "java/lang/String" "COMPACT_STRINGS" "Z" (.int G1)) (P1 : ¬ (G1 = (0 : Int32))) (xa : Addr) (ca : Addr) (kc : ClassId) (c0 : Int32) (h0 : Heap) (hO : Old Z n0 h0) (E_xa : Exa Z h0 xa "java/lang/String") (F_xa_value : Fld Z h0 xa "java/lang/String" "value" "[B" .null) (F_xa_coder : Fld Z h0 xa "java/lang/String" "coder" "B" (.int (0 : Int32))) (V_ca : Arv Z h0 ca kc .char (1 : Int32) [(.int c0)] (.int (0 : Int32))) (hp_c0 : ¬ c0 < 0 ∧ ¬ (255 : Int32) < c0) (g_xa : n0 ≤ xa) :
    Con l Z consts_1 n0 (⟨"java/lang/String", "<init>", "([CIILjava/lang/Void;)V"⟩ : MethodName) jdk_42_method_149_code 6 none ({ frames := 2, cells := 1, slots := 1, locals := 35 } : Room) #[(.ref xa), (.ref ca), (.int (0 : Int32)), (.int (1 : Int32)), .null] h0 [xa] (fun v h V' => ∃ (t : Addr) (kt : ClassId), v = none ∧ Exa Z h xa "java/lang/String" ∧ Fld Z h xa "java/lang/String" "coder" "B" (.int (0 : Int32)) ∧ Fld Z h xa "java/lang/String" "value" "[B" (.ref t) ∧ Arv Z h t kt .byte (1 : Int32) [(.int (c0.toInt8.toInt32))] (.int (0 : Int32))) [] := by
  refine Con.of (a0 := a0) pf1 (fun m => ef_new4_1 m xa ca kc c0) (allS g_xa all0) hO hEL ?_
  intro p e s m below meth c S0 hnm hsf W
  replace W := W.aloadN (pc' := 1) djdk_42_149_0 rfl rfl rfl
  replace W := W.initO (pc' := 4) (Wd := 0) djdk_42_149_1 (w19 hw) (w20 hw) (w21 hw) rfl rfl (by decide) (by decide) rfl
  replace W := W.iloadN (pc' := 5) djdk_42_149_4 rfl rfl
  replace W := W.ifT (pc' := 27) djdk_42_149_5 (feq (by decide : ¬ ((1 : Int32) = (0 : Int32)))).2 (by decide) (by decide)
  replace W := W.gets (pc' := 30) djdk_42_149_27 (w49 hw) O1 rfl
  replace W := W.ifF (pc' := 33) djdk_42_149_30 (feq P1).1 rfl
  replace W := W.aloadN (pc' := 34) djdk_42_149_33 rfl rfl rfl
  replace W := W.iloadN (pc' := 35) djdk_42_149_34 rfl rfl
  replace W := W.iloadN (pc' := 36) djdk_42_149_35 rfl rfl
  obtain ⟨V1, h1, r1, W1, K1, hQ1, SF1⟩ := W.callS (pc' := 39) (argsL := [(.ref ca), (.int (0 : Int32)), (.int (1 : Int32))]) (rest := []) (Wd := 0) (cells' := 1) (slots' := 1) (y := (⟨"java/lang/StringUTF16", "compress", "([CII)[B"⟩ : MethodName)) djdk_42_149_36 (cmp3_1 l Z a0 n0 hw hEL G1 O1 P1 ca kc c0 h0 W.old V_ca hp_c0) (w74 hw) (w75 hw) (w76 hw) (w77 hw) (by decide) (lenOf pd2 rfl) rfl rfl (by decide) (by decide) rfl sf0 all0 rfl rfl rfl (by decide) (by decide)
  clear W
  obtain ⟨t1, kt1, rfl, q1_1, q1_2⟩ := hQ1
  have z1 : h0.size ≤ h1.size := K1.1
  replace W1 := W1.cast (st' := [(.ref t1)]) rfl
  replace W1 := W1.astore (pc' := 41) (L' := #[.val (.ref xa), .val (.ref ca), .val (.int (0 : Int32)), .val (.int (1 : Int32)), .val .null, .val (.ref t1)]) djdk_42_149_39 rfl rfl rfl
  replace W1 := W1.aloadN (pc' := 42) djdk_42_149_41 rfl rfl rfl
  replace W1 := W1.aload (pc' := 44) djdk_42_149_42 rfl rfl rfl
  replace W1 := W1.iloadN (pc' := 45) djdk_42_149_44 rfl rfl
  obtain ⟨V2, h2, r2, W2, K2, hQ2, SF2⟩ := W1.callS (pc' := 48) (argsL := [(.ref t1), (.int (1 : Int32))]) (rest := [(.ref xa)]) (Wd := 1) (cells' := 1) (slots' := 1) (y := (⟨"java/lang/StringUTF16", "coderFromArrayLen", "([BI)B"⟩ : MethodName)) djdk_42_149_45 (codl_1 l Z a0 n0 hw hEL G1 O1 P1 t1 kt1 ([(.int (c0.toInt8.toInt32))]) h1 W1.old q1_1) (w81 hw) (w82 hw) (w76 hw) (w83 hw) (by decide) (lenOf pd3 rfl) rfl rfl (by decide) (by decide) rfl sf0 all0 rfl rfl rfl (by decide) (by decide)
  clear W1
  obtain ⟨rfl, hs2⟩ := hQ2
  subst hs2
  have sf3 := (SF1 xa E_xa.lt (hsf _ (List.mem_of_getElem? (i := 0) rfl)))
  have sf4 := SF2 xa (Nat.lt_of_lt_of_le E_xa.lt z1) sf3
  replace W2 := W2.cast (st' := [(.int (0 : Int32)), (.ref xa)]) rfl
  have f5 := (F_xa_coder.keep K1 nin0)
  have e6 := (E_xa.keep K1)
  obtain ⟨h7, W7, w7, SF7⟩ := W2.putf (pc' := 51) (ty := .byte) djdk_42_149_48 (w29 hw) Via.refl f5 e6 (Or.inr ⟨(w25 hw), rfl, hnm⟩) (w9 hw) (by decide) rfl rfl sf4 (Or.inl (List.mem_of_getElem? (i := 0) rfl)) rfl
  clear W2
  have z7 : h1.size ≤ h7.size := Nat.le_of_eq w7.size.symm
  have f7 := f5.same w7
  replace W7 := W7.aloadN (pc' := 52) djdk_42_149_51 rfl rfl rfl
  replace W7 := W7.aload (pc' := 54) djdk_42_149_52 rfl rfl rfl
  have f8 := ((F_xa_value.keep K1 nin0).other w7 (Or.inr (slot_ne (C := "java/lang/String") (Or.inr (w24 hw)) (Or.inr (w25 hw)) (by decide) (t := (.array .byte)) (t' := .byte) (by decide) (by decide))))
  have e9 := (e6.wr w7)
  have sf10 := (SF7 xa sf4)
  obtain ⟨h11, W11, w11, SF11⟩ := W7.putf (pc' := 57) (ty := (.array .byte)) djdk_42_149_54 (w28 hw) Via.refl f8 e9 (Or.inr ⟨(w24 hw), rfl, hnm⟩) (w9 hw) (by decide) rfl rfl sf10 (Or.inl (List.mem_of_getElem? (i := 0) rfl)) rfl
  clear W7
  have z11 : h7.size ≤ h11.size := Nat.le_of_eq w11.size.symm
  have f11 := f8.same w11
  have e12 := (e9.wr w11)
  have f13 := (f7.other w11 (Or.inr (slot_ne (C := "java/lang/String") (Or.inr (w25 hw)) (Or.inr (w24 hw)) (by decide) (t := .byte) (t' := (.array .byte)) (by decide) (by decide))))
  have v14 := ((q1_1.other w7 (Nat.ne_of_gt (Nat.lt_of_lt_of_le E_xa.lt q1_2))).other w11 (Nat.ne_of_gt (Nat.lt_of_lt_of_le E_xa.lt q1_2)))
  exact W11.vret djdk_42_149_57 rfl (by decide) (by decide) (fun V' cv => ⟨t1, kt1, rfl, e12, f13, f11, v14⟩)
theorem ef_new1_1 (m : MethodId) (xa : Addr) (ca : Addr) (kc : ClassId) (c0 : Int32) : entryFrame m #[(.ref xa), (.ref ca)] 2 = mkF m 0 #[.val (.ref xa), .val (.ref ca)] [] := by first | (simp [entryFrame, mkF, argsToLocals, Value.category]; done) | rfl
set_option maxRecDepth 65536 in
set_option maxHeartbeats 40000000 in
theorem new1_1 (l : Launch) (Z : State) (a0 : Array Value) (n0 : Nat) (hw : ∀ d ∈ tables_1, d.before a0 Z = true) (hEL : EW Z a0 consts_1) (G1 : Int32) (O1 : Sta Z Z.heap "java/lang/String" "COMPACT_STRINGS" "Z" (.int G1)) (P1 : ¬ (G1 = (0 : Int32))) (xa : Addr) (ca : Addr) (kc : ClassId) (c0 : Int32) (h0 : Heap) (hO : Old Z n0 h0) (E_xa : Exa Z h0 xa "java/lang/String") (F_xa_value : Fld Z h0 xa "java/lang/String" "value" "[B" .null) (F_xa_coder : Fld Z h0 xa "java/lang/String" "coder" "B" (.int (0 : Int32))) (V_ca : Arv Z h0 ca kc .char (1 : Int32) [(.int c0)] (.int (0 : Int32))) (hp_c0 : ¬ c0 < 0 ∧ ¬ (255 : Int32) < c0) (g_xa : n0 ≤ xa) :
    Con l Z consts_1 n0 (⟨"java/lang/String", "<init>", "([C)V"⟩ : MethodName) jdk_42_method_3_code 2 none ({ frames := 3, cells := 1, slots := 1, locals := 52 } : Room) #[(.ref xa), (.ref ca)] h0 [xa] (fun v h V' => ∃ (t : Addr) (kt : ClassId), v = none ∧ Exa Z h xa "java/lang/String" ∧ Fld Z h xa "java/lang/String" "coder" "B" (.int (0 : Int32)) ∧ Fld Z h xa "java/lang/String" "value" "[B" (.ref t) ∧ Arv Z h t kt .byte (1 : Int32) [(.int (c0.toInt8.toInt32))] (.int (0 : Int32))) [] := by
  refine Con.of (a0 := a0) pf2 (fun m => ef_new1_1 m xa ca kc c0) (allS g_xa all0) hO hEL ?_
  intro p e s m below meth c S0 hnm hsf W
  replace W := W.aloadN (pc' := 1) djdk_42_3_0 rfl rfl rfl
  replace W := W.aloadN (pc' := 2) djdk_42_3_1 rfl rfl rfl
  replace W := W.iconst (pc' := 3) (v := (0 : Int32)) djdk_42_3_2 rfl rfl
  replace W := W.aloadN (pc' := 4) djdk_42_3_3 rfl rfl rfl
  replace W := W.alen (pc' := 5) djdk_42_3_4 V_ca rfl
  replace W := W.aconstNull (pc' := 6) djdk_42_3_5 rfl
  obtain ⟨V1, h1, r1, W1, K1, hQ1, SF1⟩ := W.callI (pc' := 9) (argsL := [(.ref ca), (.int (0 : Int32)), (.int (1 : Int32)), .null]) (rest := []) (Wd := 0) (cells' := 1) (slots' := 1) (a := xa) (y := (⟨"java/lang/String", "<init>", "([CIILjava/lang/Void;)V"⟩ : MethodName)) djdk_42_3_6 (new4_1 l Z a0 n0 hw hEL G1 O1 P1 xa ca kc c0 h0 W.old E_xa F_xa_value F_xa_coder V_ca hp_c0 g_xa) rfl (w15 hw) (w16 hw) (w10 hw) (w18 hw) (by decide) (lenOf pd0 rfl) rfl rfl (by decide) (by decide) rfl (sfS (hsf _ (List.mem_of_getElem? (i := 0) rfl)) sf0) (allS (Or.inl (List.mem_of_getElem? (i := 0) rfl)) all0) rfl rfl rfl (by decide) (by decide)
  clear W
  obtain ⟨t1, kt1, rfl, q1_1, q1_2, q1_3, q1_4⟩ := hQ1
  have z1 : h0.size ≤ h1.size := K1.1
  replace W1 := W1.cast (st' := []) rfl
  exact W1.vret djdk_42_3_9 rfl (by decide) (by decide) (fun V' cv => ⟨t1, kt1, rfl, q1_1, q1_2, q1_3, q1_4⟩)
theorem ef_cmp5_2 (m : MethodId) (ca : Addr) (kc : ClassId) (ba : Addr) (kb : ClassId) (c0 : Int32) (c1 : Int32) : entryFrame m #[(.ref ca), (.int (0 : Int32)), (.ref ba), (.int (0 : Int32)), (.int (2 : Int32))] 7 = mkF m 0 #[.val (.ref ca), .val (.int (0 : Int32)), .val (.ref ba), .val (.int (0 : Int32)), .val (.int (2 : Int32)), .unset, .unset] [] := by first | (simp [entryFrame, mkF, argsToLocals, Value.category]; done) | rfl
set_option maxRecDepth 65536 in
set_option maxHeartbeats 40000000 in
theorem cmp5_2 (l : Launch) (Z : State) (a0 : Array Value) (n0 : Nat) (hw : ∀ d ∈ tables_1, d.before a0 Z = true) (hEL : EW Z a0 consts_1) (G1 : Int32) (O1 : Sta Z Z.heap "java/lang/String" "COMPACT_STRINGS" "Z" (.int G1)) (P1 : ¬ (G1 = (0 : Int32))) (ca : Addr) (kc : ClassId) (ba : Addr) (kb : ClassId) (c0 : Int32) (c1 : Int32) (h0 : Heap) (hO : Old Z n0 h0) (V_ca : Arv Z h0 ca kc .char (2 : Int32) [(.int c0), (.int c1)] (.int (0 : Int32))) (V_ba : Arv Z h0 ba kb .byte (2 : Int32) [(.int (0 : Int32)), (.int (0 : Int32))] (.int (0 : Int32))) (N_ca_ba : ca ≠ ba) (hp_c0 : ¬ c0 < 0 ∧ ¬ (255 : Int32) < c0) (hp_c1 : ¬ c1 < 0 ∧ ¬ (255 : Int32) < c1) (g_ba : n0 ≤ ba) :
    Con l Z consts_1 n0 (⟨"java/lang/StringUTF16", "compress", "([CI[BII)I"⟩ : MethodName) jdk_52_method_21_code 7 (some .int) ({ frames := 0, cells := 0, slots := 0, locals := 0 } : Room) #[(.ref ca), (.int (0 : Int32)), (.ref ba), (.int (0 : Int32)), (.int (2 : Int32))] h0 [ba] (fun v h V' => v = some (.int (2 : Int32)) ∧ Arv Z h ba kb .byte (2 : Int32) [(.int (c0.toInt8.toInt32)), (.int (c1.toInt8.toInt32))] (.int (0 : Int32))) [] := by
  refine Con.of (a0 := a0) pf3 (fun m => ef_cmp5_2 m ca kc ba kb c0 c1) (allS g_ba all0) hO hEL ?_
  intro p e s m below meth c S0 hnm hsf W
  replace W := W.iconst (pc' := 1) (v := (0 : Int32)) djdk_52_21_0 rfl rfl
  replace W := W.istore (pc' := 3) (L' := #[.val (.ref ca), .val (.int (0 : Int32)), .val (.ref ba), .val (.int (0 : Int32)), .val (.int (2 : Int32)), .val (.int (0 : Int32)), .unset]) djdk_52_21_1 rfl rfl
  replace W := W.iload (pc' := 5) djdk_52_21_3 rfl rfl
  replace W := W.iload (pc' := 7) djdk_52_21_5 rfl rfl
  replace W := W.icmpF (pc' := 10) djdk_52_21_7 (tlt (by decide : (0 : Int32) < (2 : Int32))).2.1 rfl
  replace W := W.aloadN (pc' := 11) djdk_52_21_10 rfl rfl rfl
  replace W := W.iloadN (pc' := 12) djdk_52_21_11 rfl rfl
  replace W := W.caload (pc' := 13) (w := (.int c0)) djdk_52_21_12 V_ca ⟨by decide, by decide⟩ rfl rfl
  replace W := W.istore (pc' := 15) (L' := #[.val (.ref ca), .val (.int (0 : Int32)), .val (.ref ba), .val (.int (0 : Int32)), .val (.int (2 : Int32)), .val (.int (0 : Int32)), .val (.int c0)]) djdk_52_21_13 rfl rfl
  replace W := W.iload (pc' := 17) djdk_52_21_15 rfl rfl
  replace W := W.sipush (pc' := 20) (v := (255 : Int32)) djdk_52_21_17 rfl rfl
  replace W := W.icmpT (pc' := 26) djdk_52_21_20 (flt hp_c0.2).2.2.2 (by decide) (by decide)
  replace W := W.aloadN (pc' := 27) djdk_52_21_26 rfl rfl rfl
  replace W := W.iloadN (pc' := 28) djdk_52_21_27 rfl rfl
  replace W := W.iload (pc' := 30) djdk_52_21_28 rfl rfl
  replace W := W.i2b (pc' := 31) (v := (c0.toInt8.toInt32)) djdk_52_21_30 rfl rfl
  obtain ⟨h1, W1, w1, A1, SF1⟩ := W.bastore (pc' := 32) (i := 0) (x' := (c0.toInt8.toInt32)) djdk_52_21_31 V_ba ⟨by decide, by decide⟩ rfl (by show 0 < 2; decide) (own_narb _) (hsf _ (List.mem_of_getElem? (i := 0) rfl)) (Or.inl (List.mem_of_getElem? (i := 0) rfl)) rfl
  clear W
  have z1 : h0.size ≤ h1.size := Nat.le_of_eq w1.size.symm
  have v1 : Arv Z h1 ba kb .byte (2 : Int32) [(.int (c0.toInt8.toInt32)), (.int (0 : Int32))] (.int (0 : Int32)) := A1
  replace W1 := W1.iinc (pc' := 35) (v := (1 : Int32)) (L' := #[.val (.ref ca), .val (.int (1 : Int32)), .val (.ref ba), .val (.int (0 : Int32)), .val (.int (2 : Int32)), .val (.int (0 : Int32)), .val (.int c0)]) djdk_52_21_32 rfl (by decide) rfl rfl
  replace W1 := W1.iinc (pc' := 38) (v := (1 : Int32)) (L' := #[.val (.ref ca), .val (.int (1 : Int32)), .val (.ref ba), .val (.int (1 : Int32)), .val (.int (2 : Int32)), .val (.int (0 : Int32)), .val (.int c0)]) djdk_52_21_35 rfl (by decide) rfl rfl
  replace W1 := W1.iinc (pc' := 41) (v := (1 : Int32)) (L' := #[.val (.ref ca), .val (.int (1 : Int32)), .val (.ref ba), .val (.int (1 : Int32)), .val (.int (2 : Int32)), .val (.int (1 : Int32)), .val (.int c0)]) djdk_52_21_38 rfl (by decide) rfl rfl
  replace W1 := W1.goto (pc' := 3) djdk_52_21_41 (by decide) (by decide)
  replace W1 := W1.iload (pc' := 5) djdk_52_21_3 rfl rfl
  replace W1 := W1.iload (pc' := 7) djdk_52_21_5 rfl rfl
  replace W1 := W1.icmpF (pc' := 10) djdk_52_21_7 (tlt (by decide : (1 : Int32) < (2 : Int32))).2.1 rfl
  replace W1 := W1.aloadN (pc' := 11) djdk_52_21_10 rfl rfl rfl
  replace W1 := W1.iloadN (pc' := 12) djdk_52_21_11 rfl rfl
  have v2 := (V_ca.other w1 N_ca_ba)
  replace W1 := W1.caload (pc' := 13) (w := (.int c1)) djdk_52_21_12 v2 ⟨by decide, by decide⟩ rfl rfl
  replace W1 := W1.istore (pc' := 15) (L' := #[.val (.ref ca), .val (.int (1 : Int32)), .val (.ref ba), .val (.int (1 : Int32)), .val (.int (2 : Int32)), .val (.int (1 : Int32)), .val (.int c1)]) djdk_52_21_13 rfl rfl
  replace W1 := W1.iload (pc' := 17) djdk_52_21_15 rfl rfl
  replace W1 := W1.sipush (pc' := 20) (v := (255 : Int32)) djdk_52_21_17 rfl rfl
  replace W1 := W1.icmpT (pc' := 26) djdk_52_21_20 (flt hp_c1.2).2.2.2 (by decide) (by decide)
  replace W1 := W1.aloadN (pc' := 27) djdk_52_21_26 rfl rfl rfl
  replace W1 := W1.iloadN (pc' := 28) djdk_52_21_27 rfl rfl
  replace W1 := W1.iload (pc' := 30) djdk_52_21_28 rfl rfl
  replace W1 := W1.i2b (pc' := 31) (v := (c1.toInt8.toInt32)) djdk_52_21_30 rfl rfl
  have sf3 := (SF1 ba (hsf _ (List.mem_of_getElem? (i := 0) rfl)))
  obtain ⟨h4, W4, w4, A4, SF4⟩ := W1.bastore (pc' := 32) (i := 1) (x' := (c1.toInt8.toInt32)) djdk_52_21_31 v1 ⟨by decide, by decide⟩ rfl (by show 1 < 2; decide) (own_narb _) sf3 (Or.inl (List.mem_of_getElem? (i := 0) rfl)) rfl
  clear W1
  have z4 : h1.size ≤ h4.size := Nat.le_of_eq w4.size.symm
  have v4 : Arv Z h4 ba kb .byte (2 : Int32) [(.int (c0.toInt8.toInt32)), (.int (c1.toInt8.toInt32))] (.int (0 : Int32)) := A4
  replace W4 := W4.iinc (pc' := 35) (v := (2 : Int32)) (L' := #[.val (.ref ca), .val (.int (2 : Int32)), .val (.ref ba), .val (.int (1 : Int32)), .val (.int (2 : Int32)), .val (.int (1 : Int32)), .val (.int c1)]) djdk_52_21_32 rfl (by decide) rfl rfl
  replace W4 := W4.iinc (pc' := 38) (v := (2 : Int32)) (L' := #[.val (.ref ca), .val (.int (2 : Int32)), .val (.ref ba), .val (.int (2 : Int32)), .val (.int (2 : Int32)), .val (.int (1 : Int32)), .val (.int c1)]) djdk_52_21_35 rfl (by decide) rfl rfl
  replace W4 := W4.iinc (pc' := 41) (v := (2 : Int32)) (L' := #[.val (.ref ca), .val (.int (2 : Int32)), .val (.ref ba), .val (.int (2 : Int32)), .val (.int (2 : Int32)), .val (.int (2 : Int32)), .val (.int c1)]) djdk_52_21_38 rfl (by decide) rfl rfl
  replace W4 := W4.goto (pc' := 3) djdk_52_21_41 (by decide) (by decide)
  replace W4 := W4.iload (pc' := 5) djdk_52_21_3 rfl rfl
  replace W4 := W4.iload (pc' := 7) djdk_52_21_5 rfl rfl
  replace W4 := W4.icmpT (pc' := 44) djdk_52_21_7 (flt (by decide : ¬ ((2 : Int32) < (2 : Int32)))).2.1 (by decide) (by decide)
  replace W4 := W4.iload (pc' := 46) djdk_52_21_44 rfl rfl
  exact W4.iret (t := .int) djdk_52_21_46 rfl (by simp) rfl (by decide) (by decide) (fun V' cv => ⟨rfl, v4⟩)
theorem ef_cmp3_2 (m : MethodId) (ca : Addr) (kc : ClassId) (c0 : Int32) (c1 : Int32) : entryFrame m #[(.ref ca), (.int (0 : Int32)), (.int (2 : Int32))] 6 = mkF m 0 #[.val (.ref ca), .val (.int (0 : Int32)), .val (.int (2 : Int32)), .unset, .unset, .unset] [] := by first | (simp [entryFrame, mkF, argsToLocals, Value.category]; done) | rfl
set_option maxRecDepth 65536 in
set_option maxHeartbeats 40000000 in
theorem cmp3_2 (l : Launch) (Z : State) (a0 : Array Value) (n0 : Nat) (hw : ∀ d ∈ tables_1, d.before a0 Z = true) (hEL : EW Z a0 consts_1) (G1 : Int32) (O1 : Sta Z Z.heap "java/lang/String" "COMPACT_STRINGS" "Z" (.int G1)) (P1 : ¬ (G1 = (0 : Int32))) (ca : Addr) (kc : ClassId) (c0 : Int32) (c1 : Int32) (h0 : Heap) (hO : Old Z n0 h0) (V_ca : Arv Z h0 ca kc .char (2 : Int32) [(.int c0), (.int c1)] (.int (0 : Int32))) (hp_c0 : ¬ c0 < 0 ∧ ¬ (255 : Int32) < c0) (hp_c1 : ¬ c1 < 0 ∧ ¬ (255 : Int32) < c1) :
    Con l Z consts_1 n0 (⟨"java/lang/StringUTF16", "compress", "([CII)[B"⟩ : MethodName) jdk_52_method_16_code 6 (some (.array .byte)) ({ frames := 1, cells := 1, slots := 2, locals := 18 } : Room) #[(.ref ca), (.int (0 : Int32)), (.int (2 : Int32))] h0 [] (fun v h V' => ∃ (t : Addr) (kt : ClassId), v = some (.ref t) ∧ Arv Z h t kt .byte (2 : Int32) [(.int (c0.toInt8.toInt32)), (.int (c1.toInt8.toInt32))] (.int (0 : Int32)) ∧ h0.size ≤ t) [] := by
  refine Con.of (a0 := a0) pf4 (fun m => ef_cmp3_2 m ca kc c0 c1) all0 hO hEL ?_
  intro p e s m below meth c S0 hnm hsf W
  replace W := W.iloadN (pc' := 1) djdk_52_16_0 rfl rfl
  obtain ⟨h1, a1, W1, E1, g1, ⟨k1, A1⟩, sf1, SF1⟩ := W.newarr (pc' := 3) (cap := 2) (cells' := 1) (slots' := 2) djdk_52_16_1 (w23 hw) (by decide) (by decide) (by decide) rfl rfl rfl (by decide) (by decide)
  clear W
  rw [← g1] at A1
  have z1 : h0.size ≤ h1.size := E1.1
  have v1 : Arv Z h1 a1 k1 .byte (2 : Int32) [(.int (0 : Int32)), (.int (0 : Int32))] (.int (0 : Int32)) := A1.pad (pad_rep [] (.int (0 : Int32)) 2)
  replace W1 := W1.astoreN (pc' := 4) (L' := #[.val (.ref ca), .val (.int (0 : Int32)), .val (.int (2 : Int32)), .val (.ref a1), .unset, .unset]) djdk_52_16_3 rfl rfl rfl
  replace W1 := W1.aloadN (pc' := 5) djdk_52_16_4 rfl rfl rfl
  replace W1 := W1.iloadN (pc' := 6) djdk_52_16_5 rfl rfl
  replace W1 := W1.aloadN (pc' := 7) djdk_52_16_6 rfl rfl rfl
  replace W1 := W1.iconst (pc' := 8) (v := (0 : Int32)) djdk_52_16_7 rfl rfl
  replace W1 := W1.iloadN (pc' := 9) djdk_52_16_8 rfl rfl
  have v2 := (V_ca.ext E1)
  obtain ⟨V3, h3, r3, W3, K3, hQ3, SF3⟩ := W1.callS (pc' := 12) (argsL := [(.ref ca), (.int (0 : Int32)), (.ref a1), (.int (0 : Int32)), (.int (2 : Int32))]) (rest := []) (Wd := 0) (cells' := 1) (slots' := 2) (y := (⟨"java/lang/StringUTF16", "compress", "([CI[BII)I"⟩ : MethodName)) djdk_52_16_9 (cmp5_2 l Z a0 n0 hw hEL G1 O1 P1 ca kc a1 k1 c0 c1 h1 W1.old v2 v1 (Nat.ne_of_lt (Nat.lt_of_lt_of_le V_ca.lt (Nat.le_of_eq g1.symm))) hp_c0 hp_c1 (Nat.le_trans W1.1.2.2.2.2.2.2.2.1 (Nat.le_of_eq g1.symm))) (w78 hw) (w79 hw) (w76 hw) (w80 hw) (by decide) (lenOf pd1 rfl) rfl rfl (by decide) (by decide) rfl (sfS sf1 sf0) (allS (Or.inr (Nat.le_of_eq g1.symm)) all0) rfl rfl rfl (by decide) (by decide)
  clear W1
  obtain ⟨rfl, q3_1⟩ := hQ3
  have z3 : h1.size ≤ h3.size := K3.1
  replace W3 := W3.cast (st' := [(.int (2 : Int32))]) rfl
  replace W3 := W3.istore (pc' := 14) (L' := #[.val (.ref ca), .val (.int (0 : Int32)), .val (.int (2 : Int32)), .val (.ref a1), .val (.int (2 : Int32)), .unset]) djdk_52_16_12 rfl rfl
  replace W3 := W3.iload (pc' := 16) djdk_52_16_14 rfl rfl
  replace W3 := W3.iloadN (pc' := 17) djdk_52_16_16 rfl rfl
  replace W3 := W3.icmpT (pc' := 57) djdk_52_16_17 (teq (by decide : (2 : Int32) = (2 : Int32))).1 (by decide) (by decide)
  replace W3 := W3.aloadN (pc' := 58) djdk_52_16_57 rfl rfl rfl
  exact W3.aret (t := (.array .byte)) djdk_52_16_58 rfl rfl rfl rfl (by decide) (by decide) (fun V' cv => ⟨a1, k1, rfl, q3_1, (Nat.le_of_eq g1.symm)⟩)
theorem ef_codl_2 (m : MethodId) (ta : Addr) (kt : ClassId) (vt : List Value) : entryFrame m #[(.ref ta), (.int (2 : Int32))] 2 = mkF m 0 #[.val (.ref ta), .val (.int (2 : Int32))] [] := by first | (simp [entryFrame, mkF, argsToLocals, Value.category]; done) | rfl
set_option maxRecDepth 65536 in
set_option maxHeartbeats 40000000 in
theorem codl_2 (l : Launch) (Z : State) (a0 : Array Value) (n0 : Nat) (hw : ∀ d ∈ tables_1, d.before a0 Z = true) (hEL : EW Z a0 consts_1) (G1 : Int32) (O1 : Sta Z Z.heap "java/lang/String" "COMPACT_STRINGS" "Z" (.int G1)) (P1 : ¬ (G1 = (0 : Int32))) (ta : Addr) (kt : ClassId) (vt : List Value) (h0 : Heap) (hO : Old Z n0 h0) (V_ta : Arv Z h0 ta kt .byte (2 : Int32) vt (.int (0 : Int32))) :
    Con l Z consts_1 n0 (⟨"java/lang/StringUTF16", "coderFromArrayLen", "([BI)B"⟩ : MethodName) jdk_52_method_15_code 2 (some .byte) ({ frames := 0, cells := 0, slots := 0, locals := 0 } : Room) #[(.ref ta), (.int (2 : Int32))] h0 [] (fun v h V' => v = some (.int (0 : Int32)) ∧ h0 = h) [] := by
  refine Con.of (a0 := a0) pf5 (fun m => ef_codl_2 m ta kt vt) all0 hO hEL ?_
  intro p e s m below meth c S0 hnm hsf W
  replace W := W.iloadN (pc' := 1) djdk_52_15_0 rfl rfl
  replace W := W.aloadN (pc' := 2) djdk_52_15_1 rfl rfl rfl
  replace W := W.alen (pc' := 3) djdk_52_15_2 V_ta rfl
  replace W := W.isub (pc' := 4) (v := (0 : Int32)) djdk_52_15_3 (by decide) rfl
  replace W := W.bipush (pc' := 6) (v := (31 : Int32)) djdk_52_15_4 rfl rfl
  replace W := W.iushr (pc' := 7) (v := (0 : Int32)) djdk_52_15_6 (by decide) rfl
  replace W := W.i2b (pc' := 8) (v := (0 : Int32)) djdk_52_15_7 (by decide) rfl
  exact W.iret (t := .byte) djdk_52_15_8 rfl (by simp) (by decide) (by decide) (by decide) (fun V' cv => ⟨rfl, rfl⟩)
theorem ef_new4_2 (m : MethodId) (xa : Addr) (ca : Addr) (kc : ClassId) (c0 : Int32) (c1 : Int32) : entryFrame m #[(.ref xa), (.ref ca), (.int (0 : Int32)), (.int (2 : Int32)), .null] 6 = mkF m 0 #[.val (.ref xa), .val (.ref ca), .val (.int (0 : Int32)), .val (.int (2 : Int32)), .val .null, .unset] [] := by first | (simp [entryFrame, mkF, argsToLocals, Value.category]; done) | rfl
set_option maxRecDepth 65536 in
set_option maxHeartbeats 40000000 in
theorem new4_2 (l : Launch) (Z : State) (a0 : Array Value) (n0 : Nat) (hw : ∀ d ∈ tables_1, d.before a0 Z = true) (hEL : EW Z a0 consts_1) (G1 : Int32) (O1 : Sta Z Z.heap "java/lang/String" "COMPACT_STRINGS" "Z" (.int G1)) (P1 : ¬ (G1 = (0 : Int32))) (xa : Addr) (ca : Addr) (kc : ClassId) (c0 : Int32) (c1 : Int32) (h0 : Heap) (hO : Old Z n0 h0) (E_xa : Exa Z h0 xa "java/lang/String") (F_xa_value : Fld Z h0 xa "java/lang/String" "value" "[B" .null) (F_xa_coder : Fld Z h0 xa "java/lang/String" "coder" "B" (.int (0 : Int32))) (V_ca : Arv Z h0 ca kc .char (2 : Int32) [(.int c0), (.int c1)] (.int (0 : Int32))) (hp_c0 : ¬ c0 < 0 ∧ ¬ (255 : Int32) < c0) (hp_c1 : ¬ c1 < 0 ∧ ¬ (255 : Int32) < c1) (g_xa : n0 ≤ xa) :
    Con l Z consts_1 n0 (⟨"java/lang/String", "<init>", "([CIILjava/lang/Void;)V"⟩ : MethodName) jdk_42_method_149_code 6 none ({ frames := 2, cells := 1, slots := 2, locals := 35 } : Room) #[(.ref xa), (.ref ca), (.int (0 : Int32)), (.int (2 : Int32)), .null] h0 [xa] (fun v h V' => ∃ (t : Addr) (kt : ClassId), v = none ∧ Exa Z h xa "java/lang/String" ∧ Fld Z h xa "java/lang/String" "coder" "B" (.int (0 : Int32)) ∧ Fld Z h xa "java/lang/String" "value" "[B" (.ref t) ∧ Arv Z h t kt .byte (2 : Int32) [(.int (c0.toInt8.toInt32)), (.int (c1.toInt8.toInt32))] (.int (0 : Int32))) [] := by
  refine Con.of (a0 := a0) pf1 (fun m => ef_new4_2 m xa ca kc c0 c1) (allS g_xa all0) hO hEL ?_
  intro p e s m below meth c S0 hnm hsf W
  replace W := W.aloadN (pc' := 1) djdk_42_149_0 rfl rfl rfl
  replace W := W.initO (pc' := 4) (Wd := 0) djdk_42_149_1 (w19 hw) (w20 hw) (w21 hw) rfl rfl (by decide) (by decide) rfl
  replace W := W.iloadN (pc' := 5) djdk_42_149_4 rfl rfl
  replace W := W.ifT (pc' := 27) djdk_42_149_5 (feq (by decide : ¬ ((2 : Int32) = (0 : Int32)))).2 (by decide) (by decide)
  replace W := W.gets (pc' := 30) djdk_42_149_27 (w49 hw) O1 rfl
  replace W := W.ifF (pc' := 33) djdk_42_149_30 (feq P1).1 rfl
  replace W := W.aloadN (pc' := 34) djdk_42_149_33 rfl rfl rfl
  replace W := W.iloadN (pc' := 35) djdk_42_149_34 rfl rfl
  replace W := W.iloadN (pc' := 36) djdk_42_149_35 rfl rfl
  obtain ⟨V1, h1, r1, W1, K1, hQ1, SF1⟩ := W.callS (pc' := 39) (argsL := [(.ref ca), (.int (0 : Int32)), (.int (2 : Int32))]) (rest := []) (Wd := 0) (cells' := 1) (slots' := 2) (y := (⟨"java/lang/StringUTF16", "compress", "([CII)[B"⟩ : MethodName)) djdk_42_149_36 (cmp3_2 l Z a0 n0 hw hEL G1 O1 P1 ca kc c0 c1 h0 W.old V_ca hp_c0 hp_c1) (w74 hw) (w75 hw) (w76 hw) (w77 hw) (by decide) (lenOf pd2 rfl) rfl rfl (by decide) (by decide) rfl sf0 all0 rfl rfl rfl (by decide) (by decide)
  clear W
  obtain ⟨t1, kt1, rfl, q1_1, q1_2⟩ := hQ1
  have z1 : h0.size ≤ h1.size := K1.1
  replace W1 := W1.cast (st' := [(.ref t1)]) rfl
  replace W1 := W1.astore (pc' := 41) (L' := #[.val (.ref xa), .val (.ref ca), .val (.int (0 : Int32)), .val (.int (2 : Int32)), .val .null, .val (.ref t1)]) djdk_42_149_39 rfl rfl rfl
  replace W1 := W1.aloadN (pc' := 42) djdk_42_149_41 rfl rfl rfl
  replace W1 := W1.aload (pc' := 44) djdk_42_149_42 rfl rfl rfl
  replace W1 := W1.iloadN (pc' := 45) djdk_42_149_44 rfl rfl
  obtain ⟨V2, h2, r2, W2, K2, hQ2, SF2⟩ := W1.callS (pc' := 48) (argsL := [(.ref t1), (.int (2 : Int32))]) (rest := [(.ref xa)]) (Wd := 1) (cells' := 1) (slots' := 2) (y := (⟨"java/lang/StringUTF16", "coderFromArrayLen", "([BI)B"⟩ : MethodName)) djdk_42_149_45 (codl_2 l Z a0 n0 hw hEL G1 O1 P1 t1 kt1 ([(.int (c0.toInt8.toInt32)), (.int (c1.toInt8.toInt32))]) h1 W1.old q1_1) (w81 hw) (w82 hw) (w76 hw) (w83 hw) (by decide) (lenOf pd3 rfl) rfl rfl (by decide) (by decide) rfl sf0 all0 rfl rfl rfl (by decide) (by decide)
  clear W1
  obtain ⟨rfl, hs2⟩ := hQ2
  subst hs2
  have sf3 := (SF1 xa E_xa.lt (hsf _ (List.mem_of_getElem? (i := 0) rfl)))
  have sf4 := SF2 xa (Nat.lt_of_lt_of_le E_xa.lt z1) sf3
  replace W2 := W2.cast (st' := [(.int (0 : Int32)), (.ref xa)]) rfl
  have f5 := (F_xa_coder.keep K1 nin0)
  have e6 := (E_xa.keep K1)
  obtain ⟨h7, W7, w7, SF7⟩ := W2.putf (pc' := 51) (ty := .byte) djdk_42_149_48 (w29 hw) Via.refl f5 e6 (Or.inr ⟨(w25 hw), rfl, hnm⟩) (w9 hw) (by decide) rfl rfl sf4 (Or.inl (List.mem_of_getElem? (i := 0) rfl)) rfl
  clear W2
  have z7 : h1.size ≤ h7.size := Nat.le_of_eq w7.size.symm
  have f7 := f5.same w7
  replace W7 := W7.aloadN (pc' := 52) djdk_42_149_51 rfl rfl rfl
  replace W7 := W7.aload (pc' := 54) djdk_42_149_52 rfl rfl rfl
  have f8 := ((F_xa_value.keep K1 nin0).other w7 (Or.inr (slot_ne (C := "java/lang/String") (Or.inr (w24 hw)) (Or.inr (w25 hw)) (by decide) (t := (.array .byte)) (t' := .byte) (by decide) (by decide))))
  have e9 := (e6.wr w7)
  have sf10 := (SF7 xa sf4)
  obtain ⟨h11, W11, w11, SF11⟩ := W7.putf (pc' := 57) (ty := (.array .byte)) djdk_42_149_54 (w28 hw) Via.refl f8 e9 (Or.inr ⟨(w24 hw), rfl, hnm⟩) (w9 hw) (by decide) rfl rfl sf10 (Or.inl (List.mem_of_getElem? (i := 0) rfl)) rfl
  clear W7
  have z11 : h7.size ≤ h11.size := Nat.le_of_eq w11.size.symm
  have f11 := f8.same w11
  have e12 := (e9.wr w11)
  have f13 := (f7.other w11 (Or.inr (slot_ne (C := "java/lang/String") (Or.inr (w25 hw)) (Or.inr (w24 hw)) (by decide) (t := .byte) (t' := (.array .byte)) (by decide) (by decide))))
  have v14 := ((q1_1.other w7 (Nat.ne_of_gt (Nat.lt_of_lt_of_le E_xa.lt q1_2))).other w11 (Nat.ne_of_gt (Nat.lt_of_lt_of_le E_xa.lt q1_2)))
  exact W11.vret djdk_42_149_57 rfl (by decide) (by decide) (fun V' cv => ⟨t1, kt1, rfl, e12, f13, f11, v14⟩)
theorem ef_new1_2 (m : MethodId) (xa : Addr) (ca : Addr) (kc : ClassId) (c0 : Int32) (c1 : Int32) : entryFrame m #[(.ref xa), (.ref ca)] 2 = mkF m 0 #[.val (.ref xa), .val (.ref ca)] [] := by first | (simp [entryFrame, mkF, argsToLocals, Value.category]; done) | rfl
set_option maxRecDepth 65536 in
set_option maxHeartbeats 40000000 in
theorem new1_2 (l : Launch) (Z : State) (a0 : Array Value) (n0 : Nat) (hw : ∀ d ∈ tables_1, d.before a0 Z = true) (hEL : EW Z a0 consts_1) (G1 : Int32) (O1 : Sta Z Z.heap "java/lang/String" "COMPACT_STRINGS" "Z" (.int G1)) (P1 : ¬ (G1 = (0 : Int32))) (xa : Addr) (ca : Addr) (kc : ClassId) (c0 : Int32) (c1 : Int32) (h0 : Heap) (hO : Old Z n0 h0) (E_xa : Exa Z h0 xa "java/lang/String") (F_xa_value : Fld Z h0 xa "java/lang/String" "value" "[B" .null) (F_xa_coder : Fld Z h0 xa "java/lang/String" "coder" "B" (.int (0 : Int32))) (V_ca : Arv Z h0 ca kc .char (2 : Int32) [(.int c0), (.int c1)] (.int (0 : Int32))) (hp_c0 : ¬ c0 < 0 ∧ ¬ (255 : Int32) < c0) (hp_c1 : ¬ c1 < 0 ∧ ¬ (255 : Int32) < c1) (g_xa : n0 ≤ xa) :
    Con l Z consts_1 n0 (⟨"java/lang/String", "<init>", "([C)V"⟩ : MethodName) jdk_42_method_3_code 2 none ({ frames := 3, cells := 1, slots := 2, locals := 52 } : Room) #[(.ref xa), (.ref ca)] h0 [xa] (fun v h V' => ∃ (t : Addr) (kt : ClassId), v = none ∧ Exa Z h xa "java/lang/String" ∧ Fld Z h xa "java/lang/String" "coder" "B" (.int (0 : Int32)) ∧ Fld Z h xa "java/lang/String" "value" "[B" (.ref t) ∧ Arv Z h t kt .byte (2 : Int32) [(.int (c0.toInt8.toInt32)), (.int (c1.toInt8.toInt32))] (.int (0 : Int32))) [] := by
  refine Con.of (a0 := a0) pf2 (fun m => ef_new1_2 m xa ca kc c0 c1) (allS g_xa all0) hO hEL ?_
  intro p e s m below meth c S0 hnm hsf W
  replace W := W.aloadN (pc' := 1) djdk_42_3_0 rfl rfl rfl
  replace W := W.aloadN (pc' := 2) djdk_42_3_1 rfl rfl rfl
  replace W := W.iconst (pc' := 3) (v := (0 : Int32)) djdk_42_3_2 rfl rfl
  replace W := W.aloadN (pc' := 4) djdk_42_3_3 rfl rfl rfl
  replace W := W.alen (pc' := 5) djdk_42_3_4 V_ca rfl
  replace W := W.aconstNull (pc' := 6) djdk_42_3_5 rfl
  obtain ⟨V1, h1, r1, W1, K1, hQ1, SF1⟩ := W.callI (pc' := 9) (argsL := [(.ref ca), (.int (0 : Int32)), (.int (2 : Int32)), .null]) (rest := []) (Wd := 0) (cells' := 1) (slots' := 2) (a := xa) (y := (⟨"java/lang/String", "<init>", "([CIILjava/lang/Void;)V"⟩ : MethodName)) djdk_42_3_6 (new4_2 l Z a0 n0 hw hEL G1 O1 P1 xa ca kc c0 c1 h0 W.old E_xa F_xa_value F_xa_coder V_ca hp_c0 hp_c1 g_xa) rfl (w15 hw) (w16 hw) (w10 hw) (w18 hw) (by decide) (lenOf pd0 rfl) rfl rfl (by decide) (by decide) rfl (sfS (hsf _ (List.mem_of_getElem? (i := 0) rfl)) sf0) (allS (Or.inl (List.mem_of_getElem? (i := 0) rfl)) all0) rfl rfl rfl (by decide) (by decide)
  clear W
  obtain ⟨t1, kt1, rfl, q1_1, q1_2, q1_3, q1_4⟩ := hQ1
  have z1 : h0.size ≤ h1.size := K1.1
  replace W1 := W1.cast (st' := []) rfl
  exact W1.vret djdk_42_3_9 rfl (by decide) (by decide) (fun V' cv => ⟨t1, kt1, rfl, q1_1, q1_2, q1_3, q1_4⟩)
theorem ef_cmp5_3 (m : MethodId) (ca : Addr) (kc : ClassId) (ba : Addr) (kb : ClassId) (c0 : Int32) (c1 : Int32) (c2 : Int32) : entryFrame m #[(.ref ca), (.int (0 : Int32)), (.ref ba), (.int (0 : Int32)), (.int (3 : Int32))] 7 = mkF m 0 #[.val (.ref ca), .val (.int (0 : Int32)), .val (.ref ba), .val (.int (0 : Int32)), .val (.int (3 : Int32)), .unset, .unset] [] := by first | (simp [entryFrame, mkF, argsToLocals, Value.category]; done) | rfl
set_option maxRecDepth 65536 in
set_option maxHeartbeats 40000000 in
theorem cmp5_3 (l : Launch) (Z : State) (a0 : Array Value) (n0 : Nat) (hw : ∀ d ∈ tables_1, d.before a0 Z = true) (hEL : EW Z a0 consts_1) (G1 : Int32) (O1 : Sta Z Z.heap "java/lang/String" "COMPACT_STRINGS" "Z" (.int G1)) (P1 : ¬ (G1 = (0 : Int32))) (ca : Addr) (kc : ClassId) (ba : Addr) (kb : ClassId) (c0 : Int32) (c1 : Int32) (c2 : Int32) (h0 : Heap) (hO : Old Z n0 h0) (V_ca : Arv Z h0 ca kc .char (3 : Int32) [(.int c0), (.int c1), (.int c2)] (.int (0 : Int32))) (V_ba : Arv Z h0 ba kb .byte (3 : Int32) [(.int (0 : Int32)), (.int (0 : Int32)), (.int (0 : Int32))] (.int (0 : Int32))) (N_ca_ba : ca ≠ ba) (hp_c0 : ¬ c0 < 0 ∧ ¬ (255 : Int32) < c0) (hp_c1 : ¬ c1 < 0 ∧ ¬ (255 : Int32) < c1) (hp_c2 : ¬ c2 < 0 ∧ ¬ (255 : Int32) < c2) (g_ba : n0 ≤ ba) :
    Con l Z consts_1 n0 (⟨"java/lang/StringUTF16", "compress", "([CI[BII)I"⟩ : MethodName) jdk_52_method_21_code 7 (some .int) ({ frames := 0, cells := 0, slots := 0, locals := 0 } : Room) #[(.ref ca), (.int (0 : Int32)), (.ref ba), (.int (0 : Int32)), (.int (3 : Int32))] h0 [ba] (fun v h V' => v = some (.int (3 : Int32)) ∧ Arv Z h ba kb .byte (3 : Int32) [(.int (c0.toInt8.toInt32)), (.int (c1.toInt8.toInt32)), (.int (c2.toInt8.toInt32))] (.int (0 : Int32))) [] := by
  refine Con.of (a0 := a0) pf3 (fun m => ef_cmp5_3 m ca kc ba kb c0 c1 c2) (allS g_ba all0) hO hEL ?_
  intro p e s m below meth c S0 hnm hsf W
  replace W := W.iconst (pc' := 1) (v := (0 : Int32)) djdk_52_21_0 rfl rfl
  replace W := W.istore (pc' := 3) (L' := #[.val (.ref ca), .val (.int (0 : Int32)), .val (.ref ba), .val (.int (0 : Int32)), .val (.int (3 : Int32)), .val (.int (0 : Int32)), .unset]) djdk_52_21_1 rfl rfl
  replace W := W.iload (pc' := 5) djdk_52_21_3 rfl rfl
  replace W := W.iload (pc' := 7) djdk_52_21_5 rfl rfl
  replace W := W.icmpF (pc' := 10) djdk_52_21_7 (tlt (by decide : (0 : Int32) < (3 : Int32))).2.1 rfl
  replace W := W.aloadN (pc' := 11) djdk_52_21_10 rfl rfl rfl
  replace W := W.iloadN (pc' := 12) djdk_52_21_11 rfl rfl
  replace W := W.caload (pc' := 13) (w := (.int c0)) djdk_52_21_12 V_ca ⟨by decide, by decide⟩ rfl rfl
  replace W := W.istore (pc' := 15) (L' := #[.val (.ref ca), .val (.int (0 : Int32)), .val (.ref ba), .val (.int (0 : Int32)), .val (.int (3 : Int32)), .val (.int (0 : Int32)), .val (.int c0)]) djdk_52_21_13 rfl rfl
  replace W := W.iload (pc' := 17) djdk_52_21_15 rfl rfl
  replace W := W.sipush (pc' := 20) (v := (255 : Int32)) djdk_52_21_17 rfl rfl
  replace W := W.icmpT (pc' := 26) djdk_52_21_20 (flt hp_c0.2).2.2.2 (by decide) (by decide)
  replace W := W.aloadN (pc' := 27) djdk_52_21_26 rfl rfl rfl
  replace W := W.iloadN (pc' := 28) djdk_52_21_27 rfl rfl
  replace W := W.iload (pc' := 30) djdk_52_21_28 rfl rfl
  replace W := W.i2b (pc' := 31) (v := (c0.toInt8.toInt32)) djdk_52_21_30 rfl rfl
  obtain ⟨h1, W1, w1, A1, SF1⟩ := W.bastore (pc' := 32) (i := 0) (x' := (c0.toInt8.toInt32)) djdk_52_21_31 V_ba ⟨by decide, by decide⟩ rfl (by show 0 < 3; decide) (own_narb _) (hsf _ (List.mem_of_getElem? (i := 0) rfl)) (Or.inl (List.mem_of_getElem? (i := 0) rfl)) rfl
  clear W
  have z1 : h0.size ≤ h1.size := Nat.le_of_eq w1.size.symm
  have v1 : Arv Z h1 ba kb .byte (3 : Int32) [(.int (c0.toInt8.toInt32)), (.int (0 : Int32)), (.int (0 : Int32))] (.int (0 : Int32)) := A1
  replace W1 := W1.iinc (pc' := 35) (v := (1 : Int32)) (L' := #[.val (.ref ca), .val (.int (1 : Int32)), .val (.ref ba), .val (.int (0 : Int32)), .val (.int (3 : Int32)), .val (.int (0 : Int32)), .val (.int c0)]) djdk_52_21_32 rfl (by decide) rfl rfl
  replace W1 := W1.iinc (pc' := 38) (v := (1 : Int32)) (L' := #[.val (.ref ca), .val (.int (1 : Int32)), .val (.ref ba), .val (.int (1 : Int32)), .val (.int (3 : Int32)), .val (.int (0 : Int32)), .val (.int c0)]) djdk_52_21_35 rfl (by decide) rfl rfl
  replace W1 := W1.iinc (pc' := 41) (v := (1 : Int32)) (L' := #[.val (.ref ca), .val (.int (1 : Int32)), .val (.ref ba), .val (.int (1 : Int32)), .val (.int (3 : Int32)), .val (.int (1 : Int32)), .val (.int c0)]) djdk_52_21_38 rfl (by decide) rfl rfl
  replace W1 := W1.goto (pc' := 3) djdk_52_21_41 (by decide) (by decide)
  replace W1 := W1.iload (pc' := 5) djdk_52_21_3 rfl rfl
  replace W1 := W1.iload (pc' := 7) djdk_52_21_5 rfl rfl
  replace W1 := W1.icmpF (pc' := 10) djdk_52_21_7 (tlt (by decide : (1 : Int32) < (3 : Int32))).2.1 rfl
  replace W1 := W1.aloadN (pc' := 11) djdk_52_21_10 rfl rfl rfl
  replace W1 := W1.iloadN (pc' := 12) djdk_52_21_11 rfl rfl
  have v2 := (V_ca.other w1 N_ca_ba)
  replace W1 := W1.caload (pc' := 13) (w := (.int c1)) djdk_52_21_12 v2 ⟨by decide, by decide⟩ rfl rfl
  replace W1 := W1.istore (pc' := 15) (L' := #[.val (.ref ca), .val (.int (1 : Int32)), .val (.ref ba), .val (.int (1 : Int32)), .val (.int (3 : Int32)), .val (.int (1 : Int32)), .val (.int c1)]) djdk_52_21_13 rfl rfl
  replace W1 := W1.iload (pc' := 17) djdk_52_21_15 rfl rfl
  replace W1 := W1.sipush (pc' := 20) (v := (255 : Int32)) djdk_52_21_17 rfl rfl
  replace W1 := W1.icmpT (pc' := 26) djdk_52_21_20 (flt hp_c1.2).2.2.2 (by decide) (by decide)
  replace W1 := W1.aloadN (pc' := 27) djdk_52_21_26 rfl rfl rfl
  replace W1 := W1.iloadN (pc' := 28) djdk_52_21_27 rfl rfl
  replace W1 := W1.iload (pc' := 30) djdk_52_21_28 rfl rfl
  replace W1 := W1.i2b (pc' := 31) (v := (c1.toInt8.toInt32)) djdk_52_21_30 rfl rfl
  have sf3 := (SF1 ba (hsf _ (List.mem_of_getElem? (i := 0) rfl)))
  obtain ⟨h4, W4, w4, A4, SF4⟩ := W1.bastore (pc' := 32) (i := 1) (x' := (c1.toInt8.toInt32)) djdk_52_21_31 v1 ⟨by decide, by decide⟩ rfl (by show 1 < 3; decide) (own_narb _) sf3 (Or.inl (List.mem_of_getElem? (i := 0) rfl)) rfl
  clear W1
  have z4 : h1.size ≤ h4.size := Nat.le_of_eq w4.size.symm
  have v4 : Arv Z h4 ba kb .byte (3 : Int32) [(.int (c0.toInt8.toInt32)), (.int (c1.toInt8.toInt32)), (.int (0 : Int32))] (.int (0 : Int32)) := A4
  replace W4 := W4.iinc (pc' := 35) (v := (2 : Int32)) (L' := #[.val (.ref ca), .val (.int (2 : Int32)), .val (.ref ba), .val (.int (1 : Int32)), .val (.int (3 : Int32)), .val (.int (1 : Int32)), .val (.int c1)]) djdk_52_21_32 rfl (by decide) rfl rfl
  replace W4 := W4.iinc (pc' := 38) (v := (2 : Int32)) (L' := #[.val (.ref ca), .val (.int (2 : Int32)), .val (.ref ba), .val (.int (2 : Int32)), .val (.int (3 : Int32)), .val (.int (1 : Int32)), .val (.int c1)]) djdk_52_21_35 rfl (by decide) rfl rfl
  replace W4 := W4.iinc (pc' := 41) (v := (2 : Int32)) (L' := #[.val (.ref ca), .val (.int (2 : Int32)), .val (.ref ba), .val (.int (2 : Int32)), .val (.int (3 : Int32)), .val (.int (2 : Int32)), .val (.int c1)]) djdk_52_21_38 rfl (by decide) rfl rfl
  replace W4 := W4.goto (pc' := 3) djdk_52_21_41 (by decide) (by decide)
  replace W4 := W4.iload (pc' := 5) djdk_52_21_3 rfl rfl
  replace W4 := W4.iload (pc' := 7) djdk_52_21_5 rfl rfl
  replace W4 := W4.icmpF (pc' := 10) djdk_52_21_7 (tlt (by decide : (2 : Int32) < (3 : Int32))).2.1 rfl
  replace W4 := W4.aloadN (pc' := 11) djdk_52_21_10 rfl rfl rfl
  replace W4 := W4.iloadN (pc' := 12) djdk_52_21_11 rfl rfl
  have v5 := (v2.other w4 N_ca_ba)
  replace W4 := W4.caload (pc' := 13) (w := (.int c2)) djdk_52_21_12 v5 ⟨by decide, by decide⟩ rfl rfl
  replace W4 := W4.istore (pc' := 15) (L' := #[.val (.ref ca), .val (.int (2 : Int32)), .val (.ref ba), .val (.int (2 : Int32)), .val (.int (3 : Int32)), .val (.int (2 : Int32)), .val (.int c2)]) djdk_52_21_13 rfl rfl
  replace W4 := W4.iload (pc' := 17) djdk_52_21_15 rfl rfl
  replace W4 := W4.sipush (pc' := 20) (v := (255 : Int32)) djdk_52_21_17 rfl rfl
  replace W4 := W4.icmpT (pc' := 26) djdk_52_21_20 (flt hp_c2.2).2.2.2 (by decide) (by decide)
  replace W4 := W4.aloadN (pc' := 27) djdk_52_21_26 rfl rfl rfl
  replace W4 := W4.iloadN (pc' := 28) djdk_52_21_27 rfl rfl
  replace W4 := W4.iload (pc' := 30) djdk_52_21_28 rfl rfl
  replace W4 := W4.i2b (pc' := 31) (v := (c2.toInt8.toInt32)) djdk_52_21_30 rfl rfl
  have sf6 := (SF4 ba sf3)
  obtain ⟨h7, W7, w7, A7, SF7⟩ := W4.bastore (pc' := 32) (i := 2) (x' := (c2.toInt8.toInt32)) djdk_52_21_31 v4 ⟨by decide, by decide⟩ rfl (by show 2 < 3; decide) (own_narb _) sf6 (Or.inl (List.mem_of_getElem? (i := 0) rfl)) rfl
  clear W4
  have z7 : h4.size ≤ h7.size := Nat.le_of_eq w7.size.symm
  have v7 : Arv Z h7 ba kb .byte (3 : Int32) [(.int (c0.toInt8.toInt32)), (.int (c1.toInt8.toInt32)), (.int (c2.toInt8.toInt32))] (.int (0 : Int32)) := A7
  replace W7 := W7.iinc (pc' := 35) (v := (3 : Int32)) (L' := #[.val (.ref ca), .val (.int (3 : Int32)), .val (.ref ba), .val (.int (2 : Int32)), .val (.int (3 : Int32)), .val (.int (2 : Int32)), .val (.int c2)]) djdk_52_21_32 rfl (by decide) rfl rfl
  replace W7 := W7.iinc (pc' := 38) (v := (3 : Int32)) (L' := #[.val (.ref ca), .val (.int (3 : Int32)), .val (.ref ba), .val (.int (3 : Int32)), .val (.int (3 : Int32)), .val (.int (2 : Int32)), .val (.int c2)]) djdk_52_21_35 rfl (by decide) rfl rfl
  replace W7 := W7.iinc (pc' := 41) (v := (3 : Int32)) (L' := #[.val (.ref ca), .val (.int (3 : Int32)), .val (.ref ba), .val (.int (3 : Int32)), .val (.int (3 : Int32)), .val (.int (3 : Int32)), .val (.int c2)]) djdk_52_21_38 rfl (by decide) rfl rfl
  replace W7 := W7.goto (pc' := 3) djdk_52_21_41 (by decide) (by decide)
  replace W7 := W7.iload (pc' := 5) djdk_52_21_3 rfl rfl
  replace W7 := W7.iload (pc' := 7) djdk_52_21_5 rfl rfl
  replace W7 := W7.icmpT (pc' := 44) djdk_52_21_7 (flt (by decide : ¬ ((3 : Int32) < (3 : Int32)))).2.1 (by decide) (by decide)
  replace W7 := W7.iload (pc' := 46) djdk_52_21_44 rfl rfl
  exact W7.iret (t := .int) djdk_52_21_46 rfl (by simp) rfl (by decide) (by decide) (fun V' cv => ⟨rfl, v7⟩)
theorem ef_cmp3_3 (m : MethodId) (ca : Addr) (kc : ClassId) (c0 : Int32) (c1 : Int32) (c2 : Int32) : entryFrame m #[(.ref ca), (.int (0 : Int32)), (.int (3 : Int32))] 6 = mkF m 0 #[.val (.ref ca), .val (.int (0 : Int32)), .val (.int (3 : Int32)), .unset, .unset, .unset] [] := by first | (simp [entryFrame, mkF, argsToLocals, Value.category]; done) | rfl
set_option maxRecDepth 65536 in
set_option maxHeartbeats 40000000 in
theorem cmp3_3 (l : Launch) (Z : State) (a0 : Array Value) (n0 : Nat) (hw : ∀ d ∈ tables_1, d.before a0 Z = true) (hEL : EW Z a0 consts_1) (G1 : Int32) (O1 : Sta Z Z.heap "java/lang/String" "COMPACT_STRINGS" "Z" (.int G1)) (P1 : ¬ (G1 = (0 : Int32))) (ca : Addr) (kc : ClassId) (c0 : Int32) (c1 : Int32) (c2 : Int32) (h0 : Heap) (hO : Old Z n0 h0) (V_ca : Arv Z h0 ca kc .char (3 : Int32) [(.int c0), (.int c1), (.int c2)] (.int (0 : Int32))) (hp_c0 : ¬ c0 < 0 ∧ ¬ (255 : Int32) < c0) (hp_c1 : ¬ c1 < 0 ∧ ¬ (255 : Int32) < c1) (hp_c2 : ¬ c2 < 0 ∧ ¬ (255 : Int32) < c2) :
    Con l Z consts_1 n0 (⟨"java/lang/StringUTF16", "compress", "([CII)[B"⟩ : MethodName) jdk_52_method_16_code 6 (some (.array .byte)) ({ frames := 1, cells := 1, slots := 3, locals := 18 } : Room) #[(.ref ca), (.int (0 : Int32)), (.int (3 : Int32))] h0 [] (fun v h V' => ∃ (t : Addr) (kt : ClassId), v = some (.ref t) ∧ Arv Z h t kt .byte (3 : Int32) [(.int (c0.toInt8.toInt32)), (.int (c1.toInt8.toInt32)), (.int (c2.toInt8.toInt32))] (.int (0 : Int32)) ∧ h0.size ≤ t) [] := by
  refine Con.of (a0 := a0) pf4 (fun m => ef_cmp3_3 m ca kc c0 c1 c2) all0 hO hEL ?_
  intro p e s m below meth c S0 hnm hsf W
  replace W := W.iloadN (pc' := 1) djdk_52_16_0 rfl rfl
  obtain ⟨h1, a1, W1, E1, g1, ⟨k1, A1⟩, sf1, SF1⟩ := W.newarr (pc' := 3) (cap := 3) (cells' := 1) (slots' := 3) djdk_52_16_1 (w23 hw) (by decide) (by decide) (by decide) rfl rfl rfl (by decide) (by decide)
  clear W
  rw [← g1] at A1
  have z1 : h0.size ≤ h1.size := E1.1
  have v1 : Arv Z h1 a1 k1 .byte (3 : Int32) [(.int (0 : Int32)), (.int (0 : Int32)), (.int (0 : Int32))] (.int (0 : Int32)) := A1.pad (pad_rep [] (.int (0 : Int32)) 3)
  replace W1 := W1.astoreN (pc' := 4) (L' := #[.val (.ref ca), .val (.int (0 : Int32)), .val (.int (3 : Int32)), .val (.ref a1), .unset, .unset]) djdk_52_16_3 rfl rfl rfl
  replace W1 := W1.aloadN (pc' := 5) djdk_52_16_4 rfl rfl rfl
  replace W1 := W1.iloadN (pc' := 6) djdk_52_16_5 rfl rfl
  replace W1 := W1.aloadN (pc' := 7) djdk_52_16_6 rfl rfl rfl
  replace W1 := W1.iconst (pc' := 8) (v := (0 : Int32)) djdk_52_16_7 rfl rfl
  replace W1 := W1.iloadN (pc' := 9) djdk_52_16_8 rfl rfl
  have v2 := (V_ca.ext E1)
  obtain ⟨V3, h3, r3, W3, K3, hQ3, SF3⟩ := W1.callS (pc' := 12) (argsL := [(.ref ca), (.int (0 : Int32)), (.ref a1), (.int (0 : Int32)), (.int (3 : Int32))]) (rest := []) (Wd := 0) (cells' := 1) (slots' := 3) (y := (⟨"java/lang/StringUTF16", "compress", "([CI[BII)I"⟩ : MethodName)) djdk_52_16_9 (cmp5_3 l Z a0 n0 hw hEL G1 O1 P1 ca kc a1 k1 c0 c1 c2 h1 W1.old v2 v1 (Nat.ne_of_lt (Nat.lt_of_lt_of_le V_ca.lt (Nat.le_of_eq g1.symm))) hp_c0 hp_c1 hp_c2 (Nat.le_trans W1.1.2.2.2.2.2.2.2.1 (Nat.le_of_eq g1.symm))) (w78 hw) (w79 hw) (w76 hw) (w80 hw) (by decide) (lenOf pd1 rfl) rfl rfl (by decide) (by decide) rfl (sfS sf1 sf0) (allS (Or.inr (Nat.le_of_eq g1.symm)) all0) rfl rfl rfl (by decide) (by decide)
  clear W1
  obtain ⟨rfl, q3_1⟩ := hQ3
  have z3 : h1.size ≤ h3.size := K3.1
  replace W3 := W3.cast (st' := [(.int (3 : Int32))]) rfl
  replace W3 := W3.istore (pc' := 14) (L' := #[.val (.ref ca), .val (.int (0 : Int32)), .val (.int (3 : Int32)), .val (.ref a1), .val (.int (3 : Int32)), .unset]) djdk_52_16_12 rfl rfl
  replace W3 := W3.iload (pc' := 16) djdk_52_16_14 rfl rfl
  replace W3 := W3.iloadN (pc' := 17) djdk_52_16_16 rfl rfl
  replace W3 := W3.icmpT (pc' := 57) djdk_52_16_17 (teq (by decide : (3 : Int32) = (3 : Int32))).1 (by decide) (by decide)
  replace W3 := W3.aloadN (pc' := 58) djdk_52_16_57 rfl rfl rfl
  exact W3.aret (t := (.array .byte)) djdk_52_16_58 rfl rfl rfl rfl (by decide) (by decide) (fun V' cv => ⟨a1, k1, rfl, q3_1, (Nat.le_of_eq g1.symm)⟩)
theorem ef_codl_3 (m : MethodId) (ta : Addr) (kt : ClassId) (vt : List Value) : entryFrame m #[(.ref ta), (.int (3 : Int32))] 2 = mkF m 0 #[.val (.ref ta), .val (.int (3 : Int32))] [] := by first | (simp [entryFrame, mkF, argsToLocals, Value.category]; done) | rfl
set_option maxRecDepth 65536 in
set_option maxHeartbeats 40000000 in
theorem codl_3 (l : Launch) (Z : State) (a0 : Array Value) (n0 : Nat) (hw : ∀ d ∈ tables_1, d.before a0 Z = true) (hEL : EW Z a0 consts_1) (G1 : Int32) (O1 : Sta Z Z.heap "java/lang/String" "COMPACT_STRINGS" "Z" (.int G1)) (P1 : ¬ (G1 = (0 : Int32))) (ta : Addr) (kt : ClassId) (vt : List Value) (h0 : Heap) (hO : Old Z n0 h0) (V_ta : Arv Z h0 ta kt .byte (3 : Int32) vt (.int (0 : Int32))) :
    Con l Z consts_1 n0 (⟨"java/lang/StringUTF16", "coderFromArrayLen", "([BI)B"⟩ : MethodName) jdk_52_method_15_code 2 (some .byte) ({ frames := 0, cells := 0, slots := 0, locals := 0 } : Room) #[(.ref ta), (.int (3 : Int32))] h0 [] (fun v h V' => v = some (.int (0 : Int32)) ∧ h0 = h) [] := by
  refine Con.of (a0 := a0) pf5 (fun m => ef_codl_3 m ta kt vt) all0 hO hEL ?_
  intro p e s m below meth c S0 hnm hsf W
  replace W := W.iloadN (pc' := 1) djdk_52_15_0 rfl rfl
  replace W := W.aloadN (pc' := 2) djdk_52_15_1 rfl rfl rfl
  replace W := W.alen (pc' := 3) djdk_52_15_2 V_ta rfl
  replace W := W.isub (pc' := 4) (v := (0 : Int32)) djdk_52_15_3 (by decide) rfl
  replace W := W.bipush (pc' := 6) (v := (31 : Int32)) djdk_52_15_4 rfl rfl
  replace W := W.iushr (pc' := 7) (v := (0 : Int32)) djdk_52_15_6 (by decide) rfl
  replace W := W.i2b (pc' := 8) (v := (0 : Int32)) djdk_52_15_7 (by decide) rfl
  exact W.iret (t := .byte) djdk_52_15_8 rfl (by simp) (by decide) (by decide) (by decide) (fun V' cv => ⟨rfl, rfl⟩)
theorem ef_new4_3 (m : MethodId) (xa : Addr) (ca : Addr) (kc : ClassId) (c0 : Int32) (c1 : Int32) (c2 : Int32) : entryFrame m #[(.ref xa), (.ref ca), (.int (0 : Int32)), (.int (3 : Int32)), .null] 6 = mkF m 0 #[.val (.ref xa), .val (.ref ca), .val (.int (0 : Int32)), .val (.int (3 : Int32)), .val .null, .unset] [] := by first | (simp [entryFrame, mkF, argsToLocals, Value.category]; done) | rfl
set_option maxRecDepth 65536 in
set_option maxHeartbeats 40000000 in
theorem new4_3 (l : Launch) (Z : State) (a0 : Array Value) (n0 : Nat) (hw : ∀ d ∈ tables_1, d.before a0 Z = true) (hEL : EW Z a0 consts_1) (G1 : Int32) (O1 : Sta Z Z.heap "java/lang/String" "COMPACT_STRINGS" "Z" (.int G1)) (P1 : ¬ (G1 = (0 : Int32))) (xa : Addr) (ca : Addr) (kc : ClassId) (c0 : Int32) (c1 : Int32) (c2 : Int32) (h0 : Heap) (hO : Old Z n0 h0) (E_xa : Exa Z h0 xa "java/lang/String") (F_xa_value : Fld Z h0 xa "java/lang/String" "value" "[B" .null) (F_xa_coder : Fld Z h0 xa "java/lang/String" "coder" "B" (.int (0 : Int32))) (V_ca : Arv Z h0 ca kc .char (3 : Int32) [(.int c0), (.int c1), (.int c2)] (.int (0 : Int32))) (hp_c0 : ¬ c0 < 0 ∧ ¬ (255 : Int32) < c0) (hp_c1 : ¬ c1 < 0 ∧ ¬ (255 : Int32) < c1) (hp_c2 : ¬ c2 < 0 ∧ ¬ (255 : Int32) < c2) (g_xa : n0 ≤ xa) :
    Con l Z consts_1 n0 (⟨"java/lang/String", "<init>", "([CIILjava/lang/Void;)V"⟩ : MethodName) jdk_42_method_149_code 6 none ({ frames := 2, cells := 1, slots := 3, locals := 35 } : Room) #[(.ref xa), (.ref ca), (.int (0 : Int32)), (.int (3 : Int32)), .null] h0 [xa] (fun v h V' => ∃ (t : Addr) (kt : ClassId), v = none ∧ Exa Z h xa "java/lang/String" ∧ Fld Z h xa "java/lang/String" "coder" "B" (.int (0 : Int32)) ∧ Fld Z h xa "java/lang/String" "value" "[B" (.ref t) ∧ Arv Z h t kt .byte (3 : Int32) [(.int (c0.toInt8.toInt32)), (.int (c1.toInt8.toInt32)), (.int (c2.toInt8.toInt32))] (.int (0 : Int32))) [] := by
  refine Con.of (a0 := a0) pf1 (fun m => ef_new4_3 m xa ca kc c0 c1 c2) (allS g_xa all0) hO hEL ?_
  intro p e s m below meth c S0 hnm hsf W
  replace W := W.aloadN (pc' := 1) djdk_42_149_0 rfl rfl rfl
  replace W := W.initO (pc' := 4) (Wd := 0) djdk_42_149_1 (w19 hw) (w20 hw) (w21 hw) rfl rfl (by decide) (by decide) rfl
  replace W := W.iloadN (pc' := 5) djdk_42_149_4 rfl rfl
  replace W := W.ifT (pc' := 27) djdk_42_149_5 (feq (by decide : ¬ ((3 : Int32) = (0 : Int32)))).2 (by decide) (by decide)
  replace W := W.gets (pc' := 30) djdk_42_149_27 (w49 hw) O1 rfl
  replace W := W.ifF (pc' := 33) djdk_42_149_30 (feq P1).1 rfl
  replace W := W.aloadN (pc' := 34) djdk_42_149_33 rfl rfl rfl
  replace W := W.iloadN (pc' := 35) djdk_42_149_34 rfl rfl
  replace W := W.iloadN (pc' := 36) djdk_42_149_35 rfl rfl
  obtain ⟨V1, h1, r1, W1, K1, hQ1, SF1⟩ := W.callS (pc' := 39) (argsL := [(.ref ca), (.int (0 : Int32)), (.int (3 : Int32))]) (rest := []) (Wd := 0) (cells' := 1) (slots' := 3) (y := (⟨"java/lang/StringUTF16", "compress", "([CII)[B"⟩ : MethodName)) djdk_42_149_36 (cmp3_3 l Z a0 n0 hw hEL G1 O1 P1 ca kc c0 c1 c2 h0 W.old V_ca hp_c0 hp_c1 hp_c2) (w74 hw) (w75 hw) (w76 hw) (w77 hw) (by decide) (lenOf pd2 rfl) rfl rfl (by decide) (by decide) rfl sf0 all0 rfl rfl rfl (by decide) (by decide)
  clear W
  obtain ⟨t1, kt1, rfl, q1_1, q1_2⟩ := hQ1
  have z1 : h0.size ≤ h1.size := K1.1
  replace W1 := W1.cast (st' := [(.ref t1)]) rfl
  replace W1 := W1.astore (pc' := 41) (L' := #[.val (.ref xa), .val (.ref ca), .val (.int (0 : Int32)), .val (.int (3 : Int32)), .val .null, .val (.ref t1)]) djdk_42_149_39 rfl rfl rfl
  replace W1 := W1.aloadN (pc' := 42) djdk_42_149_41 rfl rfl rfl
  replace W1 := W1.aload (pc' := 44) djdk_42_149_42 rfl rfl rfl
  replace W1 := W1.iloadN (pc' := 45) djdk_42_149_44 rfl rfl
  obtain ⟨V2, h2, r2, W2, K2, hQ2, SF2⟩ := W1.callS (pc' := 48) (argsL := [(.ref t1), (.int (3 : Int32))]) (rest := [(.ref xa)]) (Wd := 1) (cells' := 1) (slots' := 3) (y := (⟨"java/lang/StringUTF16", "coderFromArrayLen", "([BI)B"⟩ : MethodName)) djdk_42_149_45 (codl_3 l Z a0 n0 hw hEL G1 O1 P1 t1 kt1 ([(.int (c0.toInt8.toInt32)), (.int (c1.toInt8.toInt32)), (.int (c2.toInt8.toInt32))]) h1 W1.old q1_1) (w81 hw) (w82 hw) (w76 hw) (w83 hw) (by decide) (lenOf pd3 rfl) rfl rfl (by decide) (by decide) rfl sf0 all0 rfl rfl rfl (by decide) (by decide)
  clear W1
  obtain ⟨rfl, hs2⟩ := hQ2
  subst hs2
  have sf3 := (SF1 xa E_xa.lt (hsf _ (List.mem_of_getElem? (i := 0) rfl)))
  have sf4 := SF2 xa (Nat.lt_of_lt_of_le E_xa.lt z1) sf3
  replace W2 := W2.cast (st' := [(.int (0 : Int32)), (.ref xa)]) rfl
  have f5 := (F_xa_coder.keep K1 nin0)
  have e6 := (E_xa.keep K1)
  obtain ⟨h7, W7, w7, SF7⟩ := W2.putf (pc' := 51) (ty := .byte) djdk_42_149_48 (w29 hw) Via.refl f5 e6 (Or.inr ⟨(w25 hw), rfl, hnm⟩) (w9 hw) (by decide) rfl rfl sf4 (Or.inl (List.mem_of_getElem? (i := 0) rfl)) rfl
  clear W2
  have z7 : h1.size ≤ h7.size := Nat.le_of_eq w7.size.symm
  have f7 := f5.same w7
  replace W7 := W7.aloadN (pc' := 52) djdk_42_149_51 rfl rfl rfl
  replace W7 := W7.aload (pc' := 54) djdk_42_149_52 rfl rfl rfl
  have f8 := ((F_xa_value.keep K1 nin0).other w7 (Or.inr (slot_ne (C := "java/lang/String") (Or.inr (w24 hw)) (Or.inr (w25 hw)) (by decide) (t := (.array .byte)) (t' := .byte) (by decide) (by decide))))
  have e9 := (e6.wr w7)
  have sf10 := (SF7 xa sf4)
  obtain ⟨h11, W11, w11, SF11⟩ := W7.putf (pc' := 57) (ty := (.array .byte)) djdk_42_149_54 (w28 hw) Via.refl f8 e9 (Or.inr ⟨(w24 hw), rfl, hnm⟩) (w9 hw) (by decide) rfl rfl sf10 (Or.inl (List.mem_of_getElem? (i := 0) rfl)) rfl
  clear W7
  have z11 : h7.size ≤ h11.size := Nat.le_of_eq w11.size.symm
  have f11 := f8.same w11
  have e12 := (e9.wr w11)
  have f13 := (f7.other w11 (Or.inr (slot_ne (C := "java/lang/String") (Or.inr (w25 hw)) (Or.inr (w24 hw)) (by decide) (t := .byte) (t' := (.array .byte)) (by decide) (by decide))))
  have v14 := ((q1_1.other w7 (Nat.ne_of_gt (Nat.lt_of_lt_of_le E_xa.lt q1_2))).other w11 (Nat.ne_of_gt (Nat.lt_of_lt_of_le E_xa.lt q1_2)))
  exact W11.vret djdk_42_149_57 rfl (by decide) (by decide) (fun V' cv => ⟨t1, kt1, rfl, e12, f13, f11, v14⟩)
theorem ef_new1_3 (m : MethodId) (xa : Addr) (ca : Addr) (kc : ClassId) (c0 : Int32) (c1 : Int32) (c2 : Int32) : entryFrame m #[(.ref xa), (.ref ca)] 2 = mkF m 0 #[.val (.ref xa), .val (.ref ca)] [] := by first | (simp [entryFrame, mkF, argsToLocals, Value.category]; done) | rfl
set_option maxRecDepth 65536 in
set_option maxHeartbeats 40000000 in
theorem new1_3 (l : Launch) (Z : State) (a0 : Array Value) (n0 : Nat) (hw : ∀ d ∈ tables_1, d.before a0 Z = true) (hEL : EW Z a0 consts_1) (G1 : Int32) (O1 : Sta Z Z.heap "java/lang/String" "COMPACT_STRINGS" "Z" (.int G1)) (P1 : ¬ (G1 = (0 : Int32))) (xa : Addr) (ca : Addr) (kc : ClassId) (c0 : Int32) (c1 : Int32) (c2 : Int32) (h0 : Heap) (hO : Old Z n0 h0) (E_xa : Exa Z h0 xa "java/lang/String") (F_xa_value : Fld Z h0 xa "java/lang/String" "value" "[B" .null) (F_xa_coder : Fld Z h0 xa "java/lang/String" "coder" "B" (.int (0 : Int32))) (V_ca : Arv Z h0 ca kc .char (3 : Int32) [(.int c0), (.int c1), (.int c2)] (.int (0 : Int32))) (hp_c0 : ¬ c0 < 0 ∧ ¬ (255 : Int32) < c0) (hp_c1 : ¬ c1 < 0 ∧ ¬ (255 : Int32) < c1) (hp_c2 : ¬ c2 < 0 ∧ ¬ (255 : Int32) < c2) (g_xa : n0 ≤ xa) :
    Con l Z consts_1 n0 (⟨"java/lang/String", "<init>", "([C)V"⟩ : MethodName) jdk_42_method_3_code 2 none ({ frames := 3, cells := 1, slots := 3, locals := 52 } : Room) #[(.ref xa), (.ref ca)] h0 [xa] (fun v h V' => ∃ (t : Addr) (kt : ClassId), v = none ∧ Exa Z h xa "java/lang/String" ∧ Fld Z h xa "java/lang/String" "coder" "B" (.int (0 : Int32)) ∧ Fld Z h xa "java/lang/String" "value" "[B" (.ref t) ∧ Arv Z h t kt .byte (3 : Int32) [(.int (c0.toInt8.toInt32)), (.int (c1.toInt8.toInt32)), (.int (c2.toInt8.toInt32))] (.int (0 : Int32))) [] := by
  refine Con.of (a0 := a0) pf2 (fun m => ef_new1_3 m xa ca kc c0 c1 c2) (allS g_xa all0) hO hEL ?_
  intro p e s m below meth c S0 hnm hsf W
  replace W := W.aloadN (pc' := 1) djdk_42_3_0 rfl rfl rfl
  replace W := W.aloadN (pc' := 2) djdk_42_3_1 rfl rfl rfl
  replace W := W.iconst (pc' := 3) (v := (0 : Int32)) djdk_42_3_2 rfl rfl
  replace W := W.aloadN (pc' := 4) djdk_42_3_3 rfl rfl rfl
  replace W := W.alen (pc' := 5) djdk_42_3_4 V_ca rfl
  replace W := W.aconstNull (pc' := 6) djdk_42_3_5 rfl
  obtain ⟨V1, h1, r1, W1, K1, hQ1, SF1⟩ := W.callI (pc' := 9) (argsL := [(.ref ca), (.int (0 : Int32)), (.int (3 : Int32)), .null]) (rest := []) (Wd := 0) (cells' := 1) (slots' := 3) (a := xa) (y := (⟨"java/lang/String", "<init>", "([CIILjava/lang/Void;)V"⟩ : MethodName)) djdk_42_3_6 (new4_3 l Z a0 n0 hw hEL G1 O1 P1 xa ca kc c0 c1 c2 h0 W.old E_xa F_xa_value F_xa_coder V_ca hp_c0 hp_c1 hp_c2 g_xa) rfl (w15 hw) (w16 hw) (w10 hw) (w18 hw) (by decide) (lenOf pd0 rfl) rfl rfl (by decide) (by decide) rfl (sfS (hsf _ (List.mem_of_getElem? (i := 0) rfl)) sf0) (allS (Or.inl (List.mem_of_getElem? (i := 0) rfl)) all0) rfl rfl rfl (by decide) (by decide)
  clear W
  obtain ⟨t1, kt1, rfl, q1_1, q1_2, q1_3, q1_4⟩ := hQ1
  have z1 : h0.size ≤ h1.size := K1.1
  replace W1 := W1.cast (st' := []) rfl
  exact W1.vret djdk_42_3_9 rfl (by decide) (by decide) (fun V' cv => ⟨t1, kt1, rfl, q1_1, q1_2, q1_3, q1_4⟩)
theorem ef_cmp5_4 (m : MethodId) (ca : Addr) (kc : ClassId) (ba : Addr) (kb : ClassId) (c0 : Int32) (c1 : Int32) (c2 : Int32) (c3 : Int32) : entryFrame m #[(.ref ca), (.int (0 : Int32)), (.ref ba), (.int (0 : Int32)), (.int (4 : Int32))] 7 = mkF m 0 #[.val (.ref ca), .val (.int (0 : Int32)), .val (.ref ba), .val (.int (0 : Int32)), .val (.int (4 : Int32)), .unset, .unset] [] := by first | (simp [entryFrame, mkF, argsToLocals, Value.category]; done) | rfl
set_option maxRecDepth 65536 in
set_option maxHeartbeats 40000000 in
theorem cmp5_4 (l : Launch) (Z : State) (a0 : Array Value) (n0 : Nat) (hw : ∀ d ∈ tables_1, d.before a0 Z = true) (hEL : EW Z a0 consts_1) (G1 : Int32) (O1 : Sta Z Z.heap "java/lang/String" "COMPACT_STRINGS" "Z" (.int G1)) (P1 : ¬ (G1 = (0 : Int32))) (ca : Addr) (kc : ClassId) (ba : Addr) (kb : ClassId) (c0 : Int32) (c1 : Int32) (c2 : Int32) (c3 : Int32) (h0 : Heap) (hO : Old Z n0 h0) (V_ca : Arv Z h0 ca kc .char (4 : Int32) [(.int c0), (.int c1), (.int c2), (.int c3)] (.int (0 : Int32))) (V_ba : Arv Z h0 ba kb .byte (4 : Int32) [(.int (0 : Int32)), (.int (0 : Int32)), (.int (0 : Int32)), (.int (0 : Int32))] (.int (0 : Int32))) (N_ca_ba : ca ≠ ba) (hp_c0 : ¬ c0 < 0 ∧ ¬ (255 : Int32) < c0) (hp_c1 : ¬ c1 < 0 ∧ ¬ (255 : Int32) < c1) (hp_c2 : ¬ c2 < 0 ∧ ¬ (255 : Int32) < c2) (hp_c3 : ¬ c3 < 0 ∧ ¬ (255 : Int32) < c3) (g_ba : n0 ≤ ba) :
    Con l Z consts_1 n0 (⟨"java/lang/StringUTF16", "compress", "([CI[BII)I"⟩ : MethodName) jdk_52_method_21_code 7 (some .int) ({ frames := 0, cells := 0, slots := 0, locals := 0 } : Room) #[(.ref ca), (.int (0 : Int32)), (.ref ba), (.int (0 : Int32)), (.int (4 : Int32))] h0 [ba] (fun v h V' => v = some (.int (4 : Int32)) ∧ Arv Z h ba kb .byte (4 : Int32) [(.int (c0.toInt8.toInt32)), (.int (c1.toInt8.toInt32)), (.int (c2.toInt8.toInt32)), (.int (c3.toInt8.toInt32))] (.int (0 : Int32))) [] := by
  refine Con.of (a0 := a0) pf3 (fun m => ef_cmp5_4 m ca kc ba kb c0 c1 c2 c3) (allS g_ba all0) hO hEL ?_
  intro p e s m below meth c S0 hnm hsf W
  replace W := W.iconst (pc' := 1) (v := (0 : Int32)) djdk_52_21_0 rfl rfl
  replace W := W.istore (pc' := 3) (L' := #[.val (.ref ca), .val (.int (0 : Int32)), .val (.ref ba), .val (.int (0 : Int32)), .val (.int (4 : Int32)), .val (.int (0 : Int32)), .unset]) djdk_52_21_1 rfl rfl
  replace W := W.iload (pc' := 5) djdk_52_21_3 rfl rfl
  replace W := W.iload (pc' := 7) djdk_52_21_5 rfl rfl
  replace W := W.icmpF (pc' := 10) djdk_52_21_7 (tlt (by decide : (0 : Int32) < (4 : Int32))).2.1 rfl
  replace W := W.aloadN (pc' := 11) djdk_52_21_10 rfl rfl rfl
  replace W := W.iloadN (pc' := 12) djdk_52_21_11 rfl rfl
  replace W := W.caload (pc' := 13) (w := (.int c0)) djdk_52_21_12 V_ca ⟨by decide, by decide⟩ rfl rfl
  replace W := W.istore (pc' := 15) (L' := #[.val (.ref ca), .val (.int (0 : Int32)), .val (.ref ba), .val (.int (0 : Int32)), .val (.int (4 : Int32)), .val (.int (0 : Int32)), .val (.int c0)]) djdk_52_21_13 rfl rfl
  replace W := W.iload (pc' := 17) djdk_52_21_15 rfl rfl
  replace W := W.sipush (pc' := 20) (v := (255 : Int32)) djdk_52_21_17 rfl rfl
  replace W := W.icmpT (pc' := 26) djdk_52_21_20 (flt hp_c0.2).2.2.2 (by decide) (by decide)
  replace W := W.aloadN (pc' := 27) djdk_52_21_26 rfl rfl rfl
  replace W := W.iloadN (pc' := 28) djdk_52_21_27 rfl rfl
  replace W := W.iload (pc' := 30) djdk_52_21_28 rfl rfl
  replace W := W.i2b (pc' := 31) (v := (c0.toInt8.toInt32)) djdk_52_21_30 rfl rfl
  obtain ⟨h1, W1, w1, A1, SF1⟩ := W.bastore (pc' := 32) (i := 0) (x' := (c0.toInt8.toInt32)) djdk_52_21_31 V_ba ⟨by decide, by decide⟩ rfl (by show 0 < 4; decide) (own_narb _) (hsf _ (List.mem_of_getElem? (i := 0) rfl)) (Or.inl (List.mem_of_getElem? (i := 0) rfl)) rfl
  clear W
  have z1 : h0.size ≤ h1.size := Nat.le_of_eq w1.size.symm
  have v1 : Arv Z h1 ba kb .byte (4 : Int32) [(.int (c0.toInt8.toInt32)), (.int (0 : Int32)), (.int (0 : Int32)), (.int (0 : Int32))] (.int (0 : Int32)) := A1
  replace W1 := W1.iinc (pc' := 35) (v := (1 : Int32)) (L' := #[.val (.ref ca), .val (.int (1 : Int32)), .val (.ref ba), .val (.int (0 : Int32)), .val (.int (4 : Int32)), .val (.int (0 : Int32)), .val (.int c0)]) djdk_52_21_32 rfl (by decide) rfl rfl
  replace W1 := W1.iinc (pc' := 38) (v := (1 : Int32)) (L' := #[.val (.ref ca), .val (.int (1 : Int32)), .val (.ref ba), .val (.int (1 : Int32)), .val (.int (4 : Int32)), .val (.int (0 : Int32)), .val (.int c0)]) djdk_52_21_35 rfl (by decide) rfl rfl
  replace W1 := W1.iinc (pc' := 41) (v := (1 : Int32)) (L' := #[.val (.ref ca), .val (.int (1 : Int32)), .val (.ref ba), .val (.int (1 : Int32)), .val (.int (4 : Int32)), .val (.int (1 : Int32)), .val (.int c0)]) djdk_52_21_38 rfl (by decide) rfl rfl
  replace W1 := W1.goto (pc' := 3) djdk_52_21_41 (by decide) (by decide)
  replace W1 := W1.iload (pc' := 5) djdk_52_21_3 rfl rfl
  replace W1 := W1.iload (pc' := 7) djdk_52_21_5 rfl rfl
  replace W1 := W1.icmpF (pc' := 10) djdk_52_21_7 (tlt (by decide : (1 : Int32) < (4 : Int32))).2.1 rfl
  replace W1 := W1.aloadN (pc' := 11) djdk_52_21_10 rfl rfl rfl
  replace W1 := W1.iloadN (pc' := 12) djdk_52_21_11 rfl rfl
  have v2 := (V_ca.other w1 N_ca_ba)
  replace W1 := W1.caload (pc' := 13) (w := (.int c1)) djdk_52_21_12 v2 ⟨by decide, by decide⟩ rfl rfl
  replace W1 := W1.istore (pc' := 15) (L' := #[.val (.ref ca), .val (.int (1 : Int32)), .val (.ref ba), .val (.int (1 : Int32)), .val (.int (4 : Int32)), .val (.int (1 : Int32)), .val (.int c1)]) djdk_52_21_13 rfl rfl
  replace W1 := W1.iload (pc' := 17) djdk_52_21_15 rfl rfl
  replace W1 := W1.sipush (pc' := 20) (v := (255 : Int32)) djdk_52_21_17 rfl rfl
  replace W1 := W1.icmpT (pc' := 26) djdk_52_21_20 (flt hp_c1.2).2.2.2 (by decide) (by decide)
  replace W1 := W1.aloadN (pc' := 27) djdk_52_21_26 rfl rfl rfl
  replace W1 := W1.iloadN (pc' := 28) djdk_52_21_27 rfl rfl
  replace W1 := W1.iload (pc' := 30) djdk_52_21_28 rfl rfl
  replace W1 := W1.i2b (pc' := 31) (v := (c1.toInt8.toInt32)) djdk_52_21_30 rfl rfl
  have sf3 := (SF1 ba (hsf _ (List.mem_of_getElem? (i := 0) rfl)))
  obtain ⟨h4, W4, w4, A4, SF4⟩ := W1.bastore (pc' := 32) (i := 1) (x' := (c1.toInt8.toInt32)) djdk_52_21_31 v1 ⟨by decide, by decide⟩ rfl (by show 1 < 4; decide) (own_narb _) sf3 (Or.inl (List.mem_of_getElem? (i := 0) rfl)) rfl
  clear W1
  have z4 : h1.size ≤ h4.size := Nat.le_of_eq w4.size.symm
  have v4 : Arv Z h4 ba kb .byte (4 : Int32) [(.int (c0.toInt8.toInt32)), (.int (c1.toInt8.toInt32)), (.int (0 : Int32)), (.int (0 : Int32))] (.int (0 : Int32)) := A4
  replace W4 := W4.iinc (pc' := 35) (v := (2 : Int32)) (L' := #[.val (.ref ca), .val (.int (2 : Int32)), .val (.ref ba), .val (.int (1 : Int32)), .val (.int (4 : Int32)), .val (.int (1 : Int32)), .val (.int c1)]) djdk_52_21_32 rfl (by decide) rfl rfl
  replace W4 := W4.iinc (pc' := 38) (v := (2 : Int32)) (L' := #[.val (.ref ca), .val (.int (2 : Int32)), .val (.ref ba), .val (.int (2 : Int32)), .val (.int (4 : Int32)), .val (.int (1 : Int32)), .val (.int c1)]) djdk_52_21_35 rfl (by decide) rfl rfl
  replace W4 := W4.iinc (pc' := 41) (v := (2 : Int32)) (L' := #[.val (.ref ca), .val (.int (2 : Int32)), .val (.ref ba), .val (.int (2 : Int32)), .val (.int (4 : Int32)), .val (.int (2 : Int32)), .val (.int c1)]) djdk_52_21_38 rfl (by decide) rfl rfl
  replace W4 := W4.goto (pc' := 3) djdk_52_21_41 (by decide) (by decide)
  replace W4 := W4.iload (pc' := 5) djdk_52_21_3 rfl rfl
  replace W4 := W4.iload (pc' := 7) djdk_52_21_5 rfl rfl
  replace W4 := W4.icmpF (pc' := 10) djdk_52_21_7 (tlt (by decide : (2 : Int32) < (4 : Int32))).2.1 rfl
  replace W4 := W4.aloadN (pc' := 11) djdk_52_21_10 rfl rfl rfl
  replace W4 := W4.iloadN (pc' := 12) djdk_52_21_11 rfl rfl
  have v5 := (v2.other w4 N_ca_ba)
  replace W4 := W4.caload (pc' := 13) (w := (.int c2)) djdk_52_21_12 v5 ⟨by decide, by decide⟩ rfl rfl
  replace W4 := W4.istore (pc' := 15) (L' := #[.val (.ref ca), .val (.int (2 : Int32)), .val (.ref ba), .val (.int (2 : Int32)), .val (.int (4 : Int32)), .val (.int (2 : Int32)), .val (.int c2)]) djdk_52_21_13 rfl rfl
  replace W4 := W4.iload (pc' := 17) djdk_52_21_15 rfl rfl
  replace W4 := W4.sipush (pc' := 20) (v := (255 : Int32)) djdk_52_21_17 rfl rfl
  replace W4 := W4.icmpT (pc' := 26) djdk_52_21_20 (flt hp_c2.2).2.2.2 (by decide) (by decide)
  replace W4 := W4.aloadN (pc' := 27) djdk_52_21_26 rfl rfl rfl
  replace W4 := W4.iloadN (pc' := 28) djdk_52_21_27 rfl rfl
  replace W4 := W4.iload (pc' := 30) djdk_52_21_28 rfl rfl
  replace W4 := W4.i2b (pc' := 31) (v := (c2.toInt8.toInt32)) djdk_52_21_30 rfl rfl
  have sf6 := (SF4 ba sf3)
  obtain ⟨h7, W7, w7, A7, SF7⟩ := W4.bastore (pc' := 32) (i := 2) (x' := (c2.toInt8.toInt32)) djdk_52_21_31 v4 ⟨by decide, by decide⟩ rfl (by show 2 < 4; decide) (own_narb _) sf6 (Or.inl (List.mem_of_getElem? (i := 0) rfl)) rfl
  clear W4
  have z7 : h4.size ≤ h7.size := Nat.le_of_eq w7.size.symm
  have v7 : Arv Z h7 ba kb .byte (4 : Int32) [(.int (c0.toInt8.toInt32)), (.int (c1.toInt8.toInt32)), (.int (c2.toInt8.toInt32)), (.int (0 : Int32))] (.int (0 : Int32)) := A7
  replace W7 := W7.iinc (pc' := 35) (v := (3 : Int32)) (L' := #[.val (.ref ca), .val (.int (3 : Int32)), .val (.ref ba), .val (.int (2 : Int32)), .val (.int (4 : Int32)), .val (.int (2 : Int32)), .val (.int c2)]) djdk_52_21_32 rfl (by decide) rfl rfl
  replace W7 := W7.iinc (pc' := 38) (v := (3 : Int32)) (L' := #[.val (.ref ca), .val (.int (3 : Int32)), .val (.ref ba), .val (.int (3 : Int32)), .val (.int (4 : Int32)), .val (.int (2 : Int32)), .val (.int c2)]) djdk_52_21_35 rfl (by decide) rfl rfl
  replace W7 := W7.iinc (pc' := 41) (v := (3 : Int32)) (L' := #[.val (.ref ca), .val (.int (3 : Int32)), .val (.ref ba), .val (.int (3 : Int32)), .val (.int (4 : Int32)), .val (.int (3 : Int32)), .val (.int c2)]) djdk_52_21_38 rfl (by decide) rfl rfl
  replace W7 := W7.goto (pc' := 3) djdk_52_21_41 (by decide) (by decide)
  replace W7 := W7.iload (pc' := 5) djdk_52_21_3 rfl rfl
  replace W7 := W7.iload (pc' := 7) djdk_52_21_5 rfl rfl
  replace W7 := W7.icmpF (pc' := 10) djdk_52_21_7 (tlt (by decide : (3 : Int32) < (4 : Int32))).2.1 rfl
  replace W7 := W7.aloadN (pc' := 11) djdk_52_21_10 rfl rfl rfl
  replace W7 := W7.iloadN (pc' := 12) djdk_52_21_11 rfl rfl
  have v8 := (v5.other w7 N_ca_ba)
  replace W7 := W7.caload (pc' := 13) (w := (.int c3)) djdk_52_21_12 v8 ⟨by decide, by decide⟩ rfl rfl
  replace W7 := W7.istore (pc' := 15) (L' := #[.val (.ref ca), .val (.int (3 : Int32)), .val (.ref ba), .val (.int (3 : Int32)), .val (.int (4 : Int32)), .val (.int (3 : Int32)), .val (.int c3)]) djdk_52_21_13 rfl rfl
  replace W7 := W7.iload (pc' := 17) djdk_52_21_15 rfl rfl
  replace W7 := W7.sipush (pc' := 20) (v := (255 : Int32)) djdk_52_21_17 rfl rfl
  replace W7 := W7.icmpT (pc' := 26) djdk_52_21_20 (flt hp_c3.2).2.2.2 (by decide) (by decide)
  replace W7 := W7.aloadN (pc' := 27) djdk_52_21_26 rfl rfl rfl
  replace W7 := W7.iloadN (pc' := 28) djdk_52_21_27 rfl rfl
  replace W7 := W7.iload (pc' := 30) djdk_52_21_28 rfl rfl
  replace W7 := W7.i2b (pc' := 31) (v := (c3.toInt8.toInt32)) djdk_52_21_30 rfl rfl
  have sf9 := (SF7 ba sf6)
  obtain ⟨h10, W10, w10, A10, SF10⟩ := W7.bastore (pc' := 32) (i := 3) (x' := (c3.toInt8.toInt32)) djdk_52_21_31 v7 ⟨by decide, by decide⟩ rfl (by show 3 < 4; decide) (own_narb _) sf9 (Or.inl (List.mem_of_getElem? (i := 0) rfl)) rfl
  clear W7
  have z10 : h7.size ≤ h10.size := Nat.le_of_eq w10.size.symm
  have v10 : Arv Z h10 ba kb .byte (4 : Int32) [(.int (c0.toInt8.toInt32)), (.int (c1.toInt8.toInt32)), (.int (c2.toInt8.toInt32)), (.int (c3.toInt8.toInt32))] (.int (0 : Int32)) := A10
  replace W10 := W10.iinc (pc' := 35) (v := (4 : Int32)) (L' := #[.val (.ref ca), .val (.int (4 : Int32)), .val (.ref ba), .val (.int (3 : Int32)), .val (.int (4 : Int32)), .val (.int (3 : Int32)), .val (.int c3)]) djdk_52_21_32 rfl (by decide) rfl rfl
  replace W10 := W10.iinc (pc' := 38) (v := (4 : Int32)) (L' := #[.val (.ref ca), .val (.int (4 : Int32)), .val (.ref ba), .val (.int (4 : Int32)), .val (.int (4 : Int32)), .val (.int (3 : Int32)), .val (.int c3)]) djdk_52_21_35 rfl (by decide) rfl rfl
  replace W10 := W10.iinc (pc' := 41) (v := (4 : Int32)) (L' := #[.val (.ref ca), .val (.int (4 : Int32)), .val (.ref ba), .val (.int (4 : Int32)), .val (.int (4 : Int32)), .val (.int (4 : Int32)), .val (.int c3)]) djdk_52_21_38 rfl (by decide) rfl rfl
  replace W10 := W10.goto (pc' := 3) djdk_52_21_41 (by decide) (by decide)
  replace W10 := W10.iload (pc' := 5) djdk_52_21_3 rfl rfl
  replace W10 := W10.iload (pc' := 7) djdk_52_21_5 rfl rfl
  replace W10 := W10.icmpT (pc' := 44) djdk_52_21_7 (flt (by decide : ¬ ((4 : Int32) < (4 : Int32)))).2.1 (by decide) (by decide)
  replace W10 := W10.iload (pc' := 46) djdk_52_21_44 rfl rfl
  exact W10.iret (t := .int) djdk_52_21_46 rfl (by simp) rfl (by decide) (by decide) (fun V' cv => ⟨rfl, v10⟩)
theorem ef_cmp3_4 (m : MethodId) (ca : Addr) (kc : ClassId) (c0 : Int32) (c1 : Int32) (c2 : Int32) (c3 : Int32) : entryFrame m #[(.ref ca), (.int (0 : Int32)), (.int (4 : Int32))] 6 = mkF m 0 #[.val (.ref ca), .val (.int (0 : Int32)), .val (.int (4 : Int32)), .unset, .unset, .unset] [] := by first | (simp [entryFrame, mkF, argsToLocals, Value.category]; done) | rfl
set_option maxRecDepth 65536 in
set_option maxHeartbeats 40000000 in
theorem cmp3_4 (l : Launch) (Z : State) (a0 : Array Value) (n0 : Nat) (hw : ∀ d ∈ tables_1, d.before a0 Z = true) (hEL : EW Z a0 consts_1) (G1 : Int32) (O1 : Sta Z Z.heap "java/lang/String" "COMPACT_STRINGS" "Z" (.int G1)) (P1 : ¬ (G1 = (0 : Int32))) (ca : Addr) (kc : ClassId) (c0 : Int32) (c1 : Int32) (c2 : Int32) (c3 : Int32) (h0 : Heap) (hO : Old Z n0 h0) (V_ca : Arv Z h0 ca kc .char (4 : Int32) [(.int c0), (.int c1), (.int c2), (.int c3)] (.int (0 : Int32))) (hp_c0 : ¬ c0 < 0 ∧ ¬ (255 : Int32) < c0) (hp_c1 : ¬ c1 < 0 ∧ ¬ (255 : Int32) < c1) (hp_c2 : ¬ c2 < 0 ∧ ¬ (255 : Int32) < c2) (hp_c3 : ¬ c3 < 0 ∧ ¬ (255 : Int32) < c3) :
    Con l Z consts_1 n0 (⟨"java/lang/StringUTF16", "compress", "([CII)[B"⟩ : MethodName) jdk_52_method_16_code 6 (some (.array .byte)) ({ frames := 1, cells := 1, slots := 4, locals := 18 } : Room) #[(.ref ca), (.int (0 : Int32)), (.int (4 : Int32))] h0 [] (fun v h V' => ∃ (t : Addr) (kt : ClassId), v = some (.ref t) ∧ Arv Z h t kt .byte (4 : Int32) [(.int (c0.toInt8.toInt32)), (.int (c1.toInt8.toInt32)), (.int (c2.toInt8.toInt32)), (.int (c3.toInt8.toInt32))] (.int (0 : Int32)) ∧ h0.size ≤ t) [] := by
  refine Con.of (a0 := a0) pf4 (fun m => ef_cmp3_4 m ca kc c0 c1 c2 c3) all0 hO hEL ?_
  intro p e s m below meth c S0 hnm hsf W
  replace W := W.iloadN (pc' := 1) djdk_52_16_0 rfl rfl
  obtain ⟨h1, a1, W1, E1, g1, ⟨k1, A1⟩, sf1, SF1⟩ := W.newarr (pc' := 3) (cap := 4) (cells' := 1) (slots' := 4) djdk_52_16_1 (w23 hw) (by decide) (by decide) (by decide) rfl rfl rfl (by decide) (by decide)
  clear W
  rw [← g1] at A1
  have z1 : h0.size ≤ h1.size := E1.1
  have v1 : Arv Z h1 a1 k1 .byte (4 : Int32) [(.int (0 : Int32)), (.int (0 : Int32)), (.int (0 : Int32)), (.int (0 : Int32))] (.int (0 : Int32)) := A1.pad (pad_rep [] (.int (0 : Int32)) 4)
  replace W1 := W1.astoreN (pc' := 4) (L' := #[.val (.ref ca), .val (.int (0 : Int32)), .val (.int (4 : Int32)), .val (.ref a1), .unset, .unset]) djdk_52_16_3 rfl rfl rfl
  replace W1 := W1.aloadN (pc' := 5) djdk_52_16_4 rfl rfl rfl
  replace W1 := W1.iloadN (pc' := 6) djdk_52_16_5 rfl rfl
  replace W1 := W1.aloadN (pc' := 7) djdk_52_16_6 rfl rfl rfl
  replace W1 := W1.iconst (pc' := 8) (v := (0 : Int32)) djdk_52_16_7 rfl rfl
  replace W1 := W1.iloadN (pc' := 9) djdk_52_16_8 rfl rfl
  have v2 := (V_ca.ext E1)
  obtain ⟨V3, h3, r3, W3, K3, hQ3, SF3⟩ := W1.callS (pc' := 12) (argsL := [(.ref ca), (.int (0 : Int32)), (.ref a1), (.int (0 : Int32)), (.int (4 : Int32))]) (rest := []) (Wd := 0) (cells' := 1) (slots' := 4) (y := (⟨"java/lang/StringUTF16", "compress", "([CI[BII)I"⟩ : MethodName)) djdk_52_16_9 (cmp5_4 l Z a0 n0 hw hEL G1 O1 P1 ca kc a1 k1 c0 c1 c2 c3 h1 W1.old v2 v1 (Nat.ne_of_lt (Nat.lt_of_lt_of_le V_ca.lt (Nat.le_of_eq g1.symm))) hp_c0 hp_c1 hp_c2 hp_c3 (Nat.le_trans W1.1.2.2.2.2.2.2.2.1 (Nat.le_of_eq g1.symm))) (w78 hw) (w79 hw) (w76 hw) (w80 hw) (by decide) (lenOf pd1 rfl) rfl rfl (by decide) (by decide) rfl (sfS sf1 sf0) (allS (Or.inr (Nat.le_of_eq g1.symm)) all0) rfl rfl rfl (by decide) (by decide)
  clear W1
  obtain ⟨rfl, q3_1⟩ := hQ3
  have z3 : h1.size ≤ h3.size := K3.1
  replace W3 := W3.cast (st' := [(.int (4 : Int32))]) rfl
  replace W3 := W3.istore (pc' := 14) (L' := #[.val (.ref ca), .val (.int (0 : Int32)), .val (.int (4 : Int32)), .val (.ref a1), .val (.int (4 : Int32)), .unset]) djdk_52_16_12 rfl rfl
  replace W3 := W3.iload (pc' := 16) djdk_52_16_14 rfl rfl
  replace W3 := W3.iloadN (pc' := 17) djdk_52_16_16 rfl rfl
  replace W3 := W3.icmpT (pc' := 57) djdk_52_16_17 (teq (by decide : (4 : Int32) = (4 : Int32))).1 (by decide) (by decide)
  replace W3 := W3.aloadN (pc' := 58) djdk_52_16_57 rfl rfl rfl
  exact W3.aret (t := (.array .byte)) djdk_52_16_58 rfl rfl rfl rfl (by decide) (by decide) (fun V' cv => ⟨a1, k1, rfl, q3_1, (Nat.le_of_eq g1.symm)⟩)
theorem ef_codl_4 (m : MethodId) (ta : Addr) (kt : ClassId) (vt : List Value) : entryFrame m #[(.ref ta), (.int (4 : Int32))] 2 = mkF m 0 #[.val (.ref ta), .val (.int (4 : Int32))] [] := by first | (simp [entryFrame, mkF, argsToLocals, Value.category]; done) | rfl
set_option maxRecDepth 65536 in
set_option maxHeartbeats 40000000 in
theorem codl_4 (l : Launch) (Z : State) (a0 : Array Value) (n0 : Nat) (hw : ∀ d ∈ tables_1, d.before a0 Z = true) (hEL : EW Z a0 consts_1) (G1 : Int32) (O1 : Sta Z Z.heap "java/lang/String" "COMPACT_STRINGS" "Z" (.int G1)) (P1 : ¬ (G1 = (0 : Int32))) (ta : Addr) (kt : ClassId) (vt : List Value) (h0 : Heap) (hO : Old Z n0 h0) (V_ta : Arv Z h0 ta kt .byte (4 : Int32) vt (.int (0 : Int32))) :
    Con l Z consts_1 n0 (⟨"java/lang/StringUTF16", "coderFromArrayLen", "([BI)B"⟩ : MethodName) jdk_52_method_15_code 2 (some .byte) ({ frames := 0, cells := 0, slots := 0, locals := 0 } : Room) #[(.ref ta), (.int (4 : Int32))] h0 [] (fun v h V' => v = some (.int (0 : Int32)) ∧ h0 = h) [] := by
  refine Con.of (a0 := a0) pf5 (fun m => ef_codl_4 m ta kt vt) all0 hO hEL ?_
  intro p e s m below meth c S0 hnm hsf W
  replace W := W.iloadN (pc' := 1) djdk_52_15_0 rfl rfl
  replace W := W.aloadN (pc' := 2) djdk_52_15_1 rfl rfl rfl
  replace W := W.alen (pc' := 3) djdk_52_15_2 V_ta rfl
  replace W := W.isub (pc' := 4) (v := (0 : Int32)) djdk_52_15_3 (by decide) rfl
  replace W := W.bipush (pc' := 6) (v := (31 : Int32)) djdk_52_15_4 rfl rfl
  replace W := W.iushr (pc' := 7) (v := (0 : Int32)) djdk_52_15_6 (by decide) rfl
  replace W := W.i2b (pc' := 8) (v := (0 : Int32)) djdk_52_15_7 (by decide) rfl
  exact W.iret (t := .byte) djdk_52_15_8 rfl (by simp) (by decide) (by decide) (by decide) (fun V' cv => ⟨rfl, rfl⟩)
theorem ef_new4_4 (m : MethodId) (xa : Addr) (ca : Addr) (kc : ClassId) (c0 : Int32) (c1 : Int32) (c2 : Int32) (c3 : Int32) : entryFrame m #[(.ref xa), (.ref ca), (.int (0 : Int32)), (.int (4 : Int32)), .null] 6 = mkF m 0 #[.val (.ref xa), .val (.ref ca), .val (.int (0 : Int32)), .val (.int (4 : Int32)), .val .null, .unset] [] := by first | (simp [entryFrame, mkF, argsToLocals, Value.category]; done) | rfl
set_option maxRecDepth 65536 in
set_option maxHeartbeats 40000000 in
theorem new4_4 (l : Launch) (Z : State) (a0 : Array Value) (n0 : Nat) (hw : ∀ d ∈ tables_1, d.before a0 Z = true) (hEL : EW Z a0 consts_1) (G1 : Int32) (O1 : Sta Z Z.heap "java/lang/String" "COMPACT_STRINGS" "Z" (.int G1)) (P1 : ¬ (G1 = (0 : Int32))) (xa : Addr) (ca : Addr) (kc : ClassId) (c0 : Int32) (c1 : Int32) (c2 : Int32) (c3 : Int32) (h0 : Heap) (hO : Old Z n0 h0) (E_xa : Exa Z h0 xa "java/lang/String") (F_xa_value : Fld Z h0 xa "java/lang/String" "value" "[B" .null) (F_xa_coder : Fld Z h0 xa "java/lang/String" "coder" "B" (.int (0 : Int32))) (V_ca : Arv Z h0 ca kc .char (4 : Int32) [(.int c0), (.int c1), (.int c2), (.int c3)] (.int (0 : Int32))) (hp_c0 : ¬ c0 < 0 ∧ ¬ (255 : Int32) < c0) (hp_c1 : ¬ c1 < 0 ∧ ¬ (255 : Int32) < c1) (hp_c2 : ¬ c2 < 0 ∧ ¬ (255 : Int32) < c2) (hp_c3 : ¬ c3 < 0 ∧ ¬ (255 : Int32) < c3) (g_xa : n0 ≤ xa) :
    Con l Z consts_1 n0 (⟨"java/lang/String", "<init>", "([CIILjava/lang/Void;)V"⟩ : MethodName) jdk_42_method_149_code 6 none ({ frames := 2, cells := 1, slots := 4, locals := 35 } : Room) #[(.ref xa), (.ref ca), (.int (0 : Int32)), (.int (4 : Int32)), .null] h0 [xa] (fun v h V' => ∃ (t : Addr) (kt : ClassId), v = none ∧ Exa Z h xa "java/lang/String" ∧ Fld Z h xa "java/lang/String" "coder" "B" (.int (0 : Int32)) ∧ Fld Z h xa "java/lang/String" "value" "[B" (.ref t) ∧ Arv Z h t kt .byte (4 : Int32) [(.int (c0.toInt8.toInt32)), (.int (c1.toInt8.toInt32)), (.int (c2.toInt8.toInt32)), (.int (c3.toInt8.toInt32))] (.int (0 : Int32))) [] := by
  refine Con.of (a0 := a0) pf1 (fun m => ef_new4_4 m xa ca kc c0 c1 c2 c3) (allS g_xa all0) hO hEL ?_
  intro p e s m below meth c S0 hnm hsf W
  replace W := W.aloadN (pc' := 1) djdk_42_149_0 rfl rfl rfl
  replace W := W.initO (pc' := 4) (Wd := 0) djdk_42_149_1 (w19 hw) (w20 hw) (w21 hw) rfl rfl (by decide) (by decide) rfl
  replace W := W.iloadN (pc' := 5) djdk_42_149_4 rfl rfl
  replace W := W.ifT (pc' := 27) djdk_42_149_5 (feq (by decide : ¬ ((4 : Int32) = (0 : Int32)))).2 (by decide) (by decide)
  replace W := W.gets (pc' := 30) djdk_42_149_27 (w49 hw) O1 rfl
  replace W := W.ifF (pc' := 33) djdk_42_149_30 (feq P1).1 rfl
  replace W := W.aloadN (pc' := 34) djdk_42_149_33 rfl rfl rfl
  replace W := W.iloadN (pc' := 35) djdk_42_149_34 rfl rfl
  replace W := W.iloadN (pc' := 36) djdk_42_149_35 rfl rfl
  obtain ⟨V1, h1, r1, W1, K1, hQ1, SF1⟩ := W.callS (pc' := 39) (argsL := [(.ref ca), (.int (0 : Int32)), (.int (4 : Int32))]) (rest := []) (Wd := 0) (cells' := 1) (slots' := 4) (y := (⟨"java/lang/StringUTF16", "compress", "([CII)[B"⟩ : MethodName)) djdk_42_149_36 (cmp3_4 l Z a0 n0 hw hEL G1 O1 P1 ca kc c0 c1 c2 c3 h0 W.old V_ca hp_c0 hp_c1 hp_c2 hp_c3) (w74 hw) (w75 hw) (w76 hw) (w77 hw) (by decide) (lenOf pd2 rfl) rfl rfl (by decide) (by decide) rfl sf0 all0 rfl rfl rfl (by decide) (by decide)
  clear W
  obtain ⟨t1, kt1, rfl, q1_1, q1_2⟩ := hQ1
  have z1 : h0.size ≤ h1.size := K1.1
  replace W1 := W1.cast (st' := [(.ref t1)]) rfl
  replace W1 := W1.astore (pc' := 41) (L' := #[.val (.ref xa), .val (.ref ca), .val (.int (0 : Int32)), .val (.int (4 : Int32)), .val .null, .val (.ref t1)]) djdk_42_149_39 rfl rfl rfl
  replace W1 := W1.aloadN (pc' := 42) djdk_42_149_41 rfl rfl rfl
  replace W1 := W1.aload (pc' := 44) djdk_42_149_42 rfl rfl rfl
  replace W1 := W1.iloadN (pc' := 45) djdk_42_149_44 rfl rfl
  obtain ⟨V2, h2, r2, W2, K2, hQ2, SF2⟩ := W1.callS (pc' := 48) (argsL := [(.ref t1), (.int (4 : Int32))]) (rest := [(.ref xa)]) (Wd := 1) (cells' := 1) (slots' := 4) (y := (⟨"java/lang/StringUTF16", "coderFromArrayLen", "([BI)B"⟩ : MethodName)) djdk_42_149_45 (codl_4 l Z a0 n0 hw hEL G1 O1 P1 t1 kt1 ([(.int (c0.toInt8.toInt32)), (.int (c1.toInt8.toInt32)), (.int (c2.toInt8.toInt32)), (.int (c3.toInt8.toInt32))]) h1 W1.old q1_1) (w81 hw) (w82 hw) (w76 hw) (w83 hw) (by decide) (lenOf pd3 rfl) rfl rfl (by decide) (by decide) rfl sf0 all0 rfl rfl rfl (by decide) (by decide)
  clear W1
  obtain ⟨rfl, hs2⟩ := hQ2
  subst hs2
  have sf3 := (SF1 xa E_xa.lt (hsf _ (List.mem_of_getElem? (i := 0) rfl)))
  have sf4 := SF2 xa (Nat.lt_of_lt_of_le E_xa.lt z1) sf3
  replace W2 := W2.cast (st' := [(.int (0 : Int32)), (.ref xa)]) rfl
  have f5 := (F_xa_coder.keep K1 nin0)
  have e6 := (E_xa.keep K1)
  obtain ⟨h7, W7, w7, SF7⟩ := W2.putf (pc' := 51) (ty := .byte) djdk_42_149_48 (w29 hw) Via.refl f5 e6 (Or.inr ⟨(w25 hw), rfl, hnm⟩) (w9 hw) (by decide) rfl rfl sf4 (Or.inl (List.mem_of_getElem? (i := 0) rfl)) rfl
  clear W2
  have z7 : h1.size ≤ h7.size := Nat.le_of_eq w7.size.symm
  have f7 := f5.same w7
  replace W7 := W7.aloadN (pc' := 52) djdk_42_149_51 rfl rfl rfl
  replace W7 := W7.aload (pc' := 54) djdk_42_149_52 rfl rfl rfl
  have f8 := ((F_xa_value.keep K1 nin0).other w7 (Or.inr (slot_ne (C := "java/lang/String") (Or.inr (w24 hw)) (Or.inr (w25 hw)) (by decide) (t := (.array .byte)) (t' := .byte) (by decide) (by decide))))
  have e9 := (e6.wr w7)
  have sf10 := (SF7 xa sf4)
  obtain ⟨h11, W11, w11, SF11⟩ := W7.putf (pc' := 57) (ty := (.array .byte)) djdk_42_149_54 (w28 hw) Via.refl f8 e9 (Or.inr ⟨(w24 hw), rfl, hnm⟩) (w9 hw) (by decide) rfl rfl sf10 (Or.inl (List.mem_of_getElem? (i := 0) rfl)) rfl
  clear W7
  have z11 : h7.size ≤ h11.size := Nat.le_of_eq w11.size.symm
  have f11 := f8.same w11
  have e12 := (e9.wr w11)
  have f13 := (f7.other w11 (Or.inr (slot_ne (C := "java/lang/String") (Or.inr (w25 hw)) (Or.inr (w24 hw)) (by decide) (t := .byte) (t' := (.array .byte)) (by decide) (by decide))))
  have v14 := ((q1_1.other w7 (Nat.ne_of_gt (Nat.lt_of_lt_of_le E_xa.lt q1_2))).other w11 (Nat.ne_of_gt (Nat.lt_of_lt_of_le E_xa.lt q1_2)))
  exact W11.vret djdk_42_149_57 rfl (by decide) (by decide) (fun V' cv => ⟨t1, kt1, rfl, e12, f13, f11, v14⟩)
theorem ef_new1_4 (m : MethodId) (xa : Addr) (ca : Addr) (kc : ClassId) (c0 : Int32) (c1 : Int32) (c2 : Int32) (c3 : Int32) : entryFrame m #[(.ref xa), (.ref ca)] 2 = mkF m 0 #[.val (.ref xa), .val (.ref ca)] [] := by first | (simp [entryFrame, mkF, argsToLocals, Value.category]; done) | rfl
set_option maxRecDepth 65536 in
set_option maxHeartbeats 40000000 in
theorem new1_4 (l : Launch) (Z : State) (a0 : Array Value) (n0 : Nat) (hw : ∀ d ∈ tables_1, d.before a0 Z = true) (hEL : EW Z a0 consts_1) (G1 : Int32) (O1 : Sta Z Z.heap "java/lang/String" "COMPACT_STRINGS" "Z" (.int G1)) (P1 : ¬ (G1 = (0 : Int32))) (xa : Addr) (ca : Addr) (kc : ClassId) (c0 : Int32) (c1 : Int32) (c2 : Int32) (c3 : Int32) (h0 : Heap) (hO : Old Z n0 h0) (E_xa : Exa Z h0 xa "java/lang/String") (F_xa_value : Fld Z h0 xa "java/lang/String" "value" "[B" .null) (F_xa_coder : Fld Z h0 xa "java/lang/String" "coder" "B" (.int (0 : Int32))) (V_ca : Arv Z h0 ca kc .char (4 : Int32) [(.int c0), (.int c1), (.int c2), (.int c3)] (.int (0 : Int32))) (hp_c0 : ¬ c0 < 0 ∧ ¬ (255 : Int32) < c0) (hp_c1 : ¬ c1 < 0 ∧ ¬ (255 : Int32) < c1) (hp_c2 : ¬ c2 < 0 ∧ ¬ (255 : Int32) < c2) (hp_c3 : ¬ c3 < 0 ∧ ¬ (255 : Int32) < c3) (g_xa : n0 ≤ xa) :
    Con l Z consts_1 n0 (⟨"java/lang/String", "<init>", "([C)V"⟩ : MethodName) jdk_42_method_3_code 2 none ({ frames := 3, cells := 1, slots := 4, locals := 52 } : Room) #[(.ref xa), (.ref ca)] h0 [xa] (fun v h V' => ∃ (t : Addr) (kt : ClassId), v = none ∧ Exa Z h xa "java/lang/String" ∧ Fld Z h xa "java/lang/String" "coder" "B" (.int (0 : Int32)) ∧ Fld Z h xa "java/lang/String" "value" "[B" (.ref t) ∧ Arv Z h t kt .byte (4 : Int32) [(.int (c0.toInt8.toInt32)), (.int (c1.toInt8.toInt32)), (.int (c2.toInt8.toInt32)), (.int (c3.toInt8.toInt32))] (.int (0 : Int32))) [] := by
  refine Con.of (a0 := a0) pf2 (fun m => ef_new1_4 m xa ca kc c0 c1 c2 c3) (allS g_xa all0) hO hEL ?_
  intro p e s m below meth c S0 hnm hsf W
  replace W := W.aloadN (pc' := 1) djdk_42_3_0 rfl rfl rfl
  replace W := W.aloadN (pc' := 2) djdk_42_3_1 rfl rfl rfl
  replace W := W.iconst (pc' := 3) (v := (0 : Int32)) djdk_42_3_2 rfl rfl
  replace W := W.aloadN (pc' := 4) djdk_42_3_3 rfl rfl rfl
  replace W := W.alen (pc' := 5) djdk_42_3_4 V_ca rfl
  replace W := W.aconstNull (pc' := 6) djdk_42_3_5 rfl
  obtain ⟨V1, h1, r1, W1, K1, hQ1, SF1⟩ := W.callI (pc' := 9) (argsL := [(.ref ca), (.int (0 : Int32)), (.int (4 : Int32)), .null]) (rest := []) (Wd := 0) (cells' := 1) (slots' := 4) (a := xa) (y := (⟨"java/lang/String", "<init>", "([CIILjava/lang/Void;)V"⟩ : MethodName)) djdk_42_3_6 (new4_4 l Z a0 n0 hw hEL G1 O1 P1 xa ca kc c0 c1 c2 c3 h0 W.old E_xa F_xa_value F_xa_coder V_ca hp_c0 hp_c1 hp_c2 hp_c3 g_xa) rfl (w15 hw) (w16 hw) (w10 hw) (w18 hw) (by decide) (lenOf pd0 rfl) rfl rfl (by decide) (by decide) rfl (sfS (hsf _ (List.mem_of_getElem? (i := 0) rfl)) sf0) (allS (Or.inl (List.mem_of_getElem? (i := 0) rfl)) all0) rfl rfl rfl (by decide) (by decide)
  clear W
  obtain ⟨t1, kt1, rfl, q1_1, q1_2, q1_3, q1_4⟩ := hQ1
  have z1 : h0.size ≤ h1.size := K1.1
  replace W1 := W1.cast (st' := []) rfl
  exact W1.vret djdk_42_3_9 rfl (by decide) (by decide) (fun V' cv => ⟨t1, kt1, rfl, q1_1, q1_2, q1_3, q1_4⟩)
theorem ef_cmp5_5 (m : MethodId) (ca : Addr) (kc : ClassId) (ba : Addr) (kb : ClassId) (c0 : Int32) (c1 : Int32) (c2 : Int32) (c3 : Int32) (c4 : Int32) : entryFrame m #[(.ref ca), (.int (0 : Int32)), (.ref ba), (.int (0 : Int32)), (.int (5 : Int32))] 7 = mkF m 0 #[.val (.ref ca), .val (.int (0 : Int32)), .val (.ref ba), .val (.int (0 : Int32)), .val (.int (5 : Int32)), .unset, .unset] [] := by first | (simp [entryFrame, mkF, argsToLocals, Value.category]; done) | rfl
set_option maxRecDepth 65536 in
set_option maxHeartbeats 40000000 in
theorem cmp5_5 (l : Launch) (Z : State) (a0 : Array Value) (n0 : Nat) (hw : ∀ d ∈ tables_1, d.before a0 Z = true) (hEL : EW Z a0 consts_1) (G1 : Int32) (O1 : Sta Z Z.heap "java/lang/String" "COMPACT_STRINGS" "Z" (.int G1)) (P1 : ¬ (G1 = (0 : Int32))) (ca : Addr) (kc : ClassId) (ba : Addr) (kb : ClassId) (c0 : Int32) (c1 : Int32) (c2 : Int32) (c3 : Int32) (c4 : Int32) (h0 : Heap) (hO : Old Z n0 h0) (V_ca : Arv Z h0 ca kc .char (5 : Int32) [(.int c0), (.int c1), (.int c2), (.int c3), (.int c4)] (.int (0 : Int32))) (V_ba : Arv Z h0 ba kb .byte (5 : Int32) [(.int (0 : Int32)), (.int (0 : Int32)), (.int (0 : Int32)), (.int (0 : Int32)), (.int (0 : Int32))] (.int (0 : Int32))) (N_ca_ba : ca ≠ ba) (hp_c0 : ¬ c0 < 0 ∧ ¬ (255 : Int32) < c0) (hp_c1 : ¬ c1 < 0 ∧ ¬ (255 : Int32) < c1) (hp_c2 : ¬ c2 < 0 ∧ ¬ (255 : Int32) < c2) (hp_c3 : ¬ c3 < 0 ∧ ¬ (255 : Int32) < c3) (hp_c4 : ¬ c4 < 0 ∧ ¬ (255 : Int32) < c4) (g_ba : n0 ≤ ba) :
    Con l Z consts_1 n0 (⟨"java/lang/StringUTF16", "compress", "([CI[BII)I"⟩ : MethodName) jdk_52_method_21_code 7 (some .int) ({ frames := 0, cells := 0, slots := 0, locals := 0 } : Room) #[(.ref ca), (.int (0 : Int32)), (.ref ba), (.int (0 : Int32)), (.int (5 : Int32))] h0 [ba] (fun v h V' => v = some (.int (5 : Int32)) ∧ Arv Z h ba kb .byte (5 : Int32) [(.int (c0.toInt8.toInt32)), (.int (c1.toInt8.toInt32)), (.int (c2.toInt8.toInt32)), (.int (c3.toInt8.toInt32)), (.int (c4.toInt8.toInt32))] (.int (0 : Int32))) [] := by
  refine Con.of (a0 := a0) pf3 (fun m => ef_cmp5_5 m ca kc ba kb c0 c1 c2 c3 c4) (allS g_ba all0) hO hEL ?_
  intro p e s m below meth c S0 hnm hsf W
  replace W := W.iconst (pc' := 1) (v := (0 : Int32)) djdk_52_21_0 rfl rfl
  replace W := W.istore (pc' := 3) (L' := #[.val (.ref ca), .val (.int (0 : Int32)), .val (.ref ba), .val (.int (0 : Int32)), .val (.int (5 : Int32)), .val (.int (0 : Int32)), .unset]) djdk_52_21_1 rfl rfl
  replace W := W.iload (pc' := 5) djdk_52_21_3 rfl rfl
  replace W := W.iload (pc' := 7) djdk_52_21_5 rfl rfl
  replace W := W.icmpF (pc' := 10) djdk_52_21_7 (tlt (by decide : (0 : Int32) < (5 : Int32))).2.1 rfl
  replace W := W.aloadN (pc' := 11) djdk_52_21_10 rfl rfl rfl
  replace W := W.iloadN (pc' := 12) djdk_52_21_11 rfl rfl
  replace W := W.caload (pc' := 13) (w := (.int c0)) djdk_52_21_12 V_ca ⟨by decide, by decide⟩ rfl rfl
  replace W := W.istore (pc' := 15) (L' := #[.val (.ref ca), .val (.int (0 : Int32)), .val (.ref ba), .val (.int (0 : Int32)), .val (.int (5 : Int32)), .val (.int (0 : Int32)), .val (.int c0)]) djdk_52_21_13 rfl rfl
  replace W := W.iload (pc' := 17) djdk_52_21_15 rfl rfl
  replace W := W.sipush (pc' := 20) (v := (255 : Int32)) djdk_52_21_17 rfl rfl
  replace W := W.icmpT (pc' := 26) djdk_52_21_20 (flt hp_c0.2).2.2.2 (by decide) (by decide)
  replace W := W.aloadN (pc' := 27) djdk_52_21_26 rfl rfl rfl
  replace W := W.iloadN (pc' := 28) djdk_52_21_27 rfl rfl
  replace W := W.iload (pc' := 30) djdk_52_21_28 rfl rfl
  replace W := W.i2b (pc' := 31) (v := (c0.toInt8.toInt32)) djdk_52_21_30 rfl rfl
  obtain ⟨h1, W1, w1, A1, SF1⟩ := W.bastore (pc' := 32) (i := 0) (x' := (c0.toInt8.toInt32)) djdk_52_21_31 V_ba ⟨by decide, by decide⟩ rfl (by show 0 < 5; decide) (own_narb _) (hsf _ (List.mem_of_getElem? (i := 0) rfl)) (Or.inl (List.mem_of_getElem? (i := 0) rfl)) rfl
  clear W
  have z1 : h0.size ≤ h1.size := Nat.le_of_eq w1.size.symm
  have v1 : Arv Z h1 ba kb .byte (5 : Int32) [(.int (c0.toInt8.toInt32)), (.int (0 : Int32)), (.int (0 : Int32)), (.int (0 : Int32)), (.int (0 : Int32))] (.int (0 : Int32)) := A1
  replace W1 := W1.iinc (pc' := 35) (v := (1 : Int32)) (L' := #[.val (.ref ca), .val (.int (1 : Int32)), .val (.ref ba), .val (.int (0 : Int32)), .val (.int (5 : Int32)), .val (.int (0 : Int32)), .val (.int c0)]) djdk_52_21_32 rfl (by decide) rfl rfl
  replace W1 := W1.iinc (pc' := 38) (v := (1 : Int32)) (L' := #[.val (.ref ca), .val (.int (1 : Int32)), .val (.ref ba), .val (.int (1 : Int32)), .val (.int (5 : Int32)), .val (.int (0 : Int32)), .val (.int c0)]) djdk_52_21_35 rfl (by decide) rfl rfl
  replace W1 := W1.iinc (pc' := 41) (v := (1 : Int32)) (L' := #[.val (.ref ca), .val (.int (1 : Int32)), .val (.ref ba), .val (.int (1 : Int32)), .val (.int (5 : Int32)), .val (.int (1 : Int32)), .val (.int c0)]) djdk_52_21_38 rfl (by decide) rfl rfl
  replace W1 := W1.goto (pc' := 3) djdk_52_21_41 (by decide) (by decide)
  replace W1 := W1.iload (pc' := 5) djdk_52_21_3 rfl rfl
  replace W1 := W1.iload (pc' := 7) djdk_52_21_5 rfl rfl
  replace W1 := W1.icmpF (pc' := 10) djdk_52_21_7 (tlt (by decide : (1 : Int32) < (5 : Int32))).2.1 rfl
  replace W1 := W1.aloadN (pc' := 11) djdk_52_21_10 rfl rfl rfl
  replace W1 := W1.iloadN (pc' := 12) djdk_52_21_11 rfl rfl
  have v2 := (V_ca.other w1 N_ca_ba)
  replace W1 := W1.caload (pc' := 13) (w := (.int c1)) djdk_52_21_12 v2 ⟨by decide, by decide⟩ rfl rfl
  replace W1 := W1.istore (pc' := 15) (L' := #[.val (.ref ca), .val (.int (1 : Int32)), .val (.ref ba), .val (.int (1 : Int32)), .val (.int (5 : Int32)), .val (.int (1 : Int32)), .val (.int c1)]) djdk_52_21_13 rfl rfl
  replace W1 := W1.iload (pc' := 17) djdk_52_21_15 rfl rfl
  replace W1 := W1.sipush (pc' := 20) (v := (255 : Int32)) djdk_52_21_17 rfl rfl
  replace W1 := W1.icmpT (pc' := 26) djdk_52_21_20 (flt hp_c1.2).2.2.2 (by decide) (by decide)
  replace W1 := W1.aloadN (pc' := 27) djdk_52_21_26 rfl rfl rfl
  replace W1 := W1.iloadN (pc' := 28) djdk_52_21_27 rfl rfl
  replace W1 := W1.iload (pc' := 30) djdk_52_21_28 rfl rfl
  replace W1 := W1.i2b (pc' := 31) (v := (c1.toInt8.toInt32)) djdk_52_21_30 rfl rfl
  have sf3 := (SF1 ba (hsf _ (List.mem_of_getElem? (i := 0) rfl)))
  obtain ⟨h4, W4, w4, A4, SF4⟩ := W1.bastore (pc' := 32) (i := 1) (x' := (c1.toInt8.toInt32)) djdk_52_21_31 v1 ⟨by decide, by decide⟩ rfl (by show 1 < 5; decide) (own_narb _) sf3 (Or.inl (List.mem_of_getElem? (i := 0) rfl)) rfl
  clear W1
  have z4 : h1.size ≤ h4.size := Nat.le_of_eq w4.size.symm
  have v4 : Arv Z h4 ba kb .byte (5 : Int32) [(.int (c0.toInt8.toInt32)), (.int (c1.toInt8.toInt32)), (.int (0 : Int32)), (.int (0 : Int32)), (.int (0 : Int32))] (.int (0 : Int32)) := A4
  replace W4 := W4.iinc (pc' := 35) (v := (2 : Int32)) (L' := #[.val (.ref ca), .val (.int (2 : Int32)), .val (.ref ba), .val (.int (1 : Int32)), .val (.int (5 : Int32)), .val (.int (1 : Int32)), .val (.int c1)]) djdk_52_21_32 rfl (by decide) rfl rfl
  replace W4 := W4.iinc (pc' := 38) (v := (2 : Int32)) (L' := #[.val (.ref ca), .val (.int (2 : Int32)), .val (.ref ba), .val (.int (2 : Int32)), .val (.int (5 : Int32)), .val (.int (1 : Int32)), .val (.int c1)]) djdk_52_21_35 rfl (by decide) rfl rfl
  replace W4 := W4.iinc (pc' := 41) (v := (2 : Int32)) (L' := #[.val (.ref ca), .val (.int (2 : Int32)), .val (.ref ba), .val (.int (2 : Int32)), .val (.int (5 : Int32)), .val (.int (2 : Int32)), .val (.int c1)]) djdk_52_21_38 rfl (by decide) rfl rfl
  replace W4 := W4.goto (pc' := 3) djdk_52_21_41 (by decide) (by decide)
  replace W4 := W4.iload (pc' := 5) djdk_52_21_3 rfl rfl
  replace W4 := W4.iload (pc' := 7) djdk_52_21_5 rfl rfl
  replace W4 := W4.icmpF (pc' := 10) djdk_52_21_7 (tlt (by decide : (2 : Int32) < (5 : Int32))).2.1 rfl
  replace W4 := W4.aloadN (pc' := 11) djdk_52_21_10 rfl rfl rfl
  replace W4 := W4.iloadN (pc' := 12) djdk_52_21_11 rfl rfl
  have v5 := (v2.other w4 N_ca_ba)
  replace W4 := W4.caload (pc' := 13) (w := (.int c2)) djdk_52_21_12 v5 ⟨by decide, by decide⟩ rfl rfl
  replace W4 := W4.istore (pc' := 15) (L' := #[.val (.ref ca), .val (.int (2 : Int32)), .val (.ref ba), .val (.int (2 : Int32)), .val (.int (5 : Int32)), .val (.int (2 : Int32)), .val (.int c2)]) djdk_52_21_13 rfl rfl
  replace W4 := W4.iload (pc' := 17) djdk_52_21_15 rfl rfl
  replace W4 := W4.sipush (pc' := 20) (v := (255 : Int32)) djdk_52_21_17 rfl rfl
  replace W4 := W4.icmpT (pc' := 26) djdk_52_21_20 (flt hp_c2.2).2.2.2 (by decide) (by decide)
  replace W4 := W4.aloadN (pc' := 27) djdk_52_21_26 rfl rfl rfl
  replace W4 := W4.iloadN (pc' := 28) djdk_52_21_27 rfl rfl
  replace W4 := W4.iload (pc' := 30) djdk_52_21_28 rfl rfl
  replace W4 := W4.i2b (pc' := 31) (v := (c2.toInt8.toInt32)) djdk_52_21_30 rfl rfl
  have sf6 := (SF4 ba sf3)
  obtain ⟨h7, W7, w7, A7, SF7⟩ := W4.bastore (pc' := 32) (i := 2) (x' := (c2.toInt8.toInt32)) djdk_52_21_31 v4 ⟨by decide, by decide⟩ rfl (by show 2 < 5; decide) (own_narb _) sf6 (Or.inl (List.mem_of_getElem? (i := 0) rfl)) rfl
  clear W4
  have z7 : h4.size ≤ h7.size := Nat.le_of_eq w7.size.symm
  have v7 : Arv Z h7 ba kb .byte (5 : Int32) [(.int (c0.toInt8.toInt32)), (.int (c1.toInt8.toInt32)), (.int (c2.toInt8.toInt32)), (.int (0 : Int32)), (.int (0 : Int32))] (.int (0 : Int32)) := A7
  replace W7 := W7.iinc (pc' := 35) (v := (3 : Int32)) (L' := #[.val (.ref ca), .val (.int (3 : Int32)), .val (.ref ba), .val (.int (2 : Int32)), .val (.int (5 : Int32)), .val (.int (2 : Int32)), .val (.int c2)]) djdk_52_21_32 rfl (by decide) rfl rfl
  replace W7 := W7.iinc (pc' := 38) (v := (3 : Int32)) (L' := #[.val (.ref ca), .val (.int (3 : Int32)), .val (.ref ba), .val (.int (3 : Int32)), .val (.int (5 : Int32)), .val (.int (2 : Int32)), .val (.int c2)]) djdk_52_21_35 rfl (by decide) rfl rfl
  replace W7 := W7.iinc (pc' := 41) (v := (3 : Int32)) (L' := #[.val (.ref ca), .val (.int (3 : Int32)), .val (.ref ba), .val (.int (3 : Int32)), .val (.int (5 : Int32)), .val (.int (3 : Int32)), .val (.int c2)]) djdk_52_21_38 rfl (by decide) rfl rfl
  replace W7 := W7.goto (pc' := 3) djdk_52_21_41 (by decide) (by decide)
  replace W7 := W7.iload (pc' := 5) djdk_52_21_3 rfl rfl
  replace W7 := W7.iload (pc' := 7) djdk_52_21_5 rfl rfl
  replace W7 := W7.icmpF (pc' := 10) djdk_52_21_7 (tlt (by decide : (3 : Int32) < (5 : Int32))).2.1 rfl
  replace W7 := W7.aloadN (pc' := 11) djdk_52_21_10 rfl rfl rfl
  replace W7 := W7.iloadN (pc' := 12) djdk_52_21_11 rfl rfl
  have v8 := (v5.other w7 N_ca_ba)
  replace W7 := W7.caload (pc' := 13) (w := (.int c3)) djdk_52_21_12 v8 ⟨by decide, by decide⟩ rfl rfl
  replace W7 := W7.istore (pc' := 15) (L' := #[.val (.ref ca), .val (.int (3 : Int32)), .val (.ref ba), .val (.int (3 : Int32)), .val (.int (5 : Int32)), .val (.int (3 : Int32)), .val (.int c3)]) djdk_52_21_13 rfl rfl
  replace W7 := W7.iload (pc' := 17) djdk_52_21_15 rfl rfl
  replace W7 := W7.sipush (pc' := 20) (v := (255 : Int32)) djdk_52_21_17 rfl rfl
  replace W7 := W7.icmpT (pc' := 26) djdk_52_21_20 (flt hp_c3.2).2.2.2 (by decide) (by decide)
  replace W7 := W7.aloadN (pc' := 27) djdk_52_21_26 rfl rfl rfl
  replace W7 := W7.iloadN (pc' := 28) djdk_52_21_27 rfl rfl
  replace W7 := W7.iload (pc' := 30) djdk_52_21_28 rfl rfl
  replace W7 := W7.i2b (pc' := 31) (v := (c3.toInt8.toInt32)) djdk_52_21_30 rfl rfl
  have sf9 := (SF7 ba sf6)
  obtain ⟨h10, W10, w10, A10, SF10⟩ := W7.bastore (pc' := 32) (i := 3) (x' := (c3.toInt8.toInt32)) djdk_52_21_31 v7 ⟨by decide, by decide⟩ rfl (by show 3 < 5; decide) (own_narb _) sf9 (Or.inl (List.mem_of_getElem? (i := 0) rfl)) rfl
  clear W7
  have z10 : h7.size ≤ h10.size := Nat.le_of_eq w10.size.symm
  have v10 : Arv Z h10 ba kb .byte (5 : Int32) [(.int (c0.toInt8.toInt32)), (.int (c1.toInt8.toInt32)), (.int (c2.toInt8.toInt32)), (.int (c3.toInt8.toInt32)), (.int (0 : Int32))] (.int (0 : Int32)) := A10
  replace W10 := W10.iinc (pc' := 35) (v := (4 : Int32)) (L' := #[.val (.ref ca), .val (.int (4 : Int32)), .val (.ref ba), .val (.int (3 : Int32)), .val (.int (5 : Int32)), .val (.int (3 : Int32)), .val (.int c3)]) djdk_52_21_32 rfl (by decide) rfl rfl
  replace W10 := W10.iinc (pc' := 38) (v := (4 : Int32)) (L' := #[.val (.ref ca), .val (.int (4 : Int32)), .val (.ref ba), .val (.int (4 : Int32)), .val (.int (5 : Int32)), .val (.int (3 : Int32)), .val (.int c3)]) djdk_52_21_35 rfl (by decide) rfl rfl
  replace W10 := W10.iinc (pc' := 41) (v := (4 : Int32)) (L' := #[.val (.ref ca), .val (.int (4 : Int32)), .val (.ref ba), .val (.int (4 : Int32)), .val (.int (5 : Int32)), .val (.int (4 : Int32)), .val (.int c3)]) djdk_52_21_38 rfl (by decide) rfl rfl
  replace W10 := W10.goto (pc' := 3) djdk_52_21_41 (by decide) (by decide)
  replace W10 := W10.iload (pc' := 5) djdk_52_21_3 rfl rfl
  replace W10 := W10.iload (pc' := 7) djdk_52_21_5 rfl rfl
  replace W10 := W10.icmpF (pc' := 10) djdk_52_21_7 (tlt (by decide : (4 : Int32) < (5 : Int32))).2.1 rfl
  replace W10 := W10.aloadN (pc' := 11) djdk_52_21_10 rfl rfl rfl
  replace W10 := W10.iloadN (pc' := 12) djdk_52_21_11 rfl rfl
  have v11 := (v8.other w10 N_ca_ba)
  replace W10 := W10.caload (pc' := 13) (w := (.int c4)) djdk_52_21_12 v11 ⟨by decide, by decide⟩ rfl rfl
  replace W10 := W10.istore (pc' := 15) (L' := #[.val (.ref ca), .val (.int (4 : Int32)), .val (.ref ba), .val (.int (4 : Int32)), .val (.int (5 : Int32)), .val (.int (4 : Int32)), .val (.int c4)]) djdk_52_21_13 rfl rfl
  replace W10 := W10.iload (pc' := 17) djdk_52_21_15 rfl rfl
  replace W10 := W10.sipush (pc' := 20) (v := (255 : Int32)) djdk_52_21_17 rfl rfl
  replace W10 := W10.icmpT (pc' := 26) djdk_52_21_20 (flt hp_c4.2).2.2.2 (by decide) (by decide)
  replace W10 := W10.aloadN (pc' := 27) djdk_52_21_26 rfl rfl rfl
  replace W10 := W10.iloadN (pc' := 28) djdk_52_21_27 rfl rfl
  replace W10 := W10.iload (pc' := 30) djdk_52_21_28 rfl rfl
  replace W10 := W10.i2b (pc' := 31) (v := (c4.toInt8.toInt32)) djdk_52_21_30 rfl rfl
  have sf12 := (SF10 ba sf9)
  obtain ⟨h13, W13, w13, A13, SF13⟩ := W10.bastore (pc' := 32) (i := 4) (x' := (c4.toInt8.toInt32)) djdk_52_21_31 v10 ⟨by decide, by decide⟩ rfl (by show 4 < 5; decide) (own_narb _) sf12 (Or.inl (List.mem_of_getElem? (i := 0) rfl)) rfl
  clear W10
  have z13 : h10.size ≤ h13.size := Nat.le_of_eq w13.size.symm
  have v13 : Arv Z h13 ba kb .byte (5 : Int32) [(.int (c0.toInt8.toInt32)), (.int (c1.toInt8.toInt32)), (.int (c2.toInt8.toInt32)), (.int (c3.toInt8.toInt32)), (.int (c4.toInt8.toInt32))] (.int (0 : Int32)) := A13
  replace W13 := W13.iinc (pc' := 35) (v := (5 : Int32)) (L' := #[.val (.ref ca), .val (.int (5 : Int32)), .val (.ref ba), .val (.int (4 : Int32)), .val (.int (5 : Int32)), .val (.int (4 : Int32)), .val (.int c4)]) djdk_52_21_32 rfl (by decide) rfl rfl
  replace W13 := W13.iinc (pc' := 38) (v := (5 : Int32)) (L' := #[.val (.ref ca), .val (.int (5 : Int32)), .val (.ref ba), .val (.int (5 : Int32)), .val (.int (5 : Int32)), .val (.int (4 : Int32)), .val (.int c4)]) djdk_52_21_35 rfl (by decide) rfl rfl
  replace W13 := W13.iinc (pc' := 41) (v := (5 : Int32)) (L' := #[.val (.ref ca), .val (.int (5 : Int32)), .val (.ref ba), .val (.int (5 : Int32)), .val (.int (5 : Int32)), .val (.int (5 : Int32)), .val (.int c4)]) djdk_52_21_38 rfl (by decide) rfl rfl
  replace W13 := W13.goto (pc' := 3) djdk_52_21_41 (by decide) (by decide)
  replace W13 := W13.iload (pc' := 5) djdk_52_21_3 rfl rfl
  replace W13 := W13.iload (pc' := 7) djdk_52_21_5 rfl rfl
  replace W13 := W13.icmpT (pc' := 44) djdk_52_21_7 (flt (by decide : ¬ ((5 : Int32) < (5 : Int32)))).2.1 (by decide) (by decide)
  replace W13 := W13.iload (pc' := 46) djdk_52_21_44 rfl rfl
  exact W13.iret (t := .int) djdk_52_21_46 rfl (by simp) rfl (by decide) (by decide) (fun V' cv => ⟨rfl, v13⟩)
theorem ef_cmp3_5 (m : MethodId) (ca : Addr) (kc : ClassId) (c0 : Int32) (c1 : Int32) (c2 : Int32) (c3 : Int32) (c4 : Int32) : entryFrame m #[(.ref ca), (.int (0 : Int32)), (.int (5 : Int32))] 6 = mkF m 0 #[.val (.ref ca), .val (.int (0 : Int32)), .val (.int (5 : Int32)), .unset, .unset, .unset] [] := by first | (simp [entryFrame, mkF, argsToLocals, Value.category]; done) | rfl
set_option maxRecDepth 65536 in
set_option maxHeartbeats 40000000 in
theorem cmp3_5 (l : Launch) (Z : State) (a0 : Array Value) (n0 : Nat) (hw : ∀ d ∈ tables_1, d.before a0 Z = true) (hEL : EW Z a0 consts_1) (G1 : Int32) (O1 : Sta Z Z.heap "java/lang/String" "COMPACT_STRINGS" "Z" (.int G1)) (P1 : ¬ (G1 = (0 : Int32))) (ca : Addr) (kc : ClassId) (c0 : Int32) (c1 : Int32) (c2 : Int32) (c3 : Int32) (c4 : Int32) (h0 : Heap) (hO : Old Z n0 h0) (V_ca : Arv Z h0 ca kc .char (5 : Int32) [(.int c0), (.int c1), (.int c2), (.int c3), (.int c4)] (.int (0 : Int32))) (hp_c0 : ¬ c0 < 0 ∧ ¬ (255 : Int32) < c0) (hp_c1 : ¬ c1 < 0 ∧ ¬ (255 : Int32) < c1) (hp_c2 : ¬ c2 < 0 ∧ ¬ (255 : Int32) < c2) (hp_c3 : ¬ c3 < 0 ∧ ¬ (255 : Int32) < c3) (hp_c4 : ¬ c4 < 0 ∧ ¬ (255 : Int32) < c4) :
    Con l Z consts_1 n0 (⟨"java/lang/StringUTF16", "compress", "([CII)[B"⟩ : MethodName) jdk_52_method_16_code 6 (some (.array .byte)) ({ frames := 1, cells := 1, slots := 5, locals := 18 } : Room) #[(.ref ca), (.int (0 : Int32)), (.int (5 : Int32))] h0 [] (fun v h V' => ∃ (t : Addr) (kt : ClassId), v = some (.ref t) ∧ Arv Z h t kt .byte (5 : Int32) [(.int (c0.toInt8.toInt32)), (.int (c1.toInt8.toInt32)), (.int (c2.toInt8.toInt32)), (.int (c3.toInt8.toInt32)), (.int (c4.toInt8.toInt32))] (.int (0 : Int32)) ∧ h0.size ≤ t) [] := by
  refine Con.of (a0 := a0) pf4 (fun m => ef_cmp3_5 m ca kc c0 c1 c2 c3 c4) all0 hO hEL ?_
  intro p e s m below meth c S0 hnm hsf W
  replace W := W.iloadN (pc' := 1) djdk_52_16_0 rfl rfl
  obtain ⟨h1, a1, W1, E1, g1, ⟨k1, A1⟩, sf1, SF1⟩ := W.newarr (pc' := 3) (cap := 5) (cells' := 1) (slots' := 5) djdk_52_16_1 (w23 hw) (by decide) (by decide) (by decide) rfl rfl rfl (by decide) (by decide)
  clear W
  rw [← g1] at A1
  have z1 : h0.size ≤ h1.size := E1.1
  have v1 : Arv Z h1 a1 k1 .byte (5 : Int32) [(.int (0 : Int32)), (.int (0 : Int32)), (.int (0 : Int32)), (.int (0 : Int32)), (.int (0 : Int32))] (.int (0 : Int32)) := A1.pad (pad_rep [] (.int (0 : Int32)) 5)
  replace W1 := W1.astoreN (pc' := 4) (L' := #[.val (.ref ca), .val (.int (0 : Int32)), .val (.int (5 : Int32)), .val (.ref a1), .unset, .unset]) djdk_52_16_3 rfl rfl rfl
  replace W1 := W1.aloadN (pc' := 5) djdk_52_16_4 rfl rfl rfl
  replace W1 := W1.iloadN (pc' := 6) djdk_52_16_5 rfl rfl
  replace W1 := W1.aloadN (pc' := 7) djdk_52_16_6 rfl rfl rfl
  replace W1 := W1.iconst (pc' := 8) (v := (0 : Int32)) djdk_52_16_7 rfl rfl
  replace W1 := W1.iloadN (pc' := 9) djdk_52_16_8 rfl rfl
  have v2 := (V_ca.ext E1)
  obtain ⟨V3, h3, r3, W3, K3, hQ3, SF3⟩ := W1.callS (pc' := 12) (argsL := [(.ref ca), (.int (0 : Int32)), (.ref a1), (.int (0 : Int32)), (.int (5 : Int32))]) (rest := []) (Wd := 0) (cells' := 1) (slots' := 5) (y := (⟨"java/lang/StringUTF16", "compress", "([CI[BII)I"⟩ : MethodName)) djdk_52_16_9 (cmp5_5 l Z a0 n0 hw hEL G1 O1 P1 ca kc a1 k1 c0 c1 c2 c3 c4 h1 W1.old v2 v1 (Nat.ne_of_lt (Nat.lt_of_lt_of_le V_ca.lt (Nat.le_of_eq g1.symm))) hp_c0 hp_c1 hp_c2 hp_c3 hp_c4 (Nat.le_trans W1.1.2.2.2.2.2.2.2.1 (Nat.le_of_eq g1.symm))) (w78 hw) (w79 hw) (w76 hw) (w80 hw) (by decide) (lenOf pd1 rfl) rfl rfl (by decide) (by decide) rfl (sfS sf1 sf0) (allS (Or.inr (Nat.le_of_eq g1.symm)) all0) rfl rfl rfl (by decide) (by decide)
  clear W1
  obtain ⟨rfl, q3_1⟩ := hQ3
  have z3 : h1.size ≤ h3.size := K3.1
  replace W3 := W3.cast (st' := [(.int (5 : Int32))]) rfl
  replace W3 := W3.istore (pc' := 14) (L' := #[.val (.ref ca), .val (.int (0 : Int32)), .val (.int (5 : Int32)), .val (.ref a1), .val (.int (5 : Int32)), .unset]) djdk_52_16_12 rfl rfl
  replace W3 := W3.iload (pc' := 16) djdk_52_16_14 rfl rfl
  replace W3 := W3.iloadN (pc' := 17) djdk_52_16_16 rfl rfl
  replace W3 := W3.icmpT (pc' := 57) djdk_52_16_17 (teq (by decide : (5 : Int32) = (5 : Int32))).1 (by decide) (by decide)
  replace W3 := W3.aloadN (pc' := 58) djdk_52_16_57 rfl rfl rfl
  exact W3.aret (t := (.array .byte)) djdk_52_16_58 rfl rfl rfl rfl (by decide) (by decide) (fun V' cv => ⟨a1, k1, rfl, q3_1, (Nat.le_of_eq g1.symm)⟩)
theorem ef_codl_5 (m : MethodId) (ta : Addr) (kt : ClassId) (vt : List Value) : entryFrame m #[(.ref ta), (.int (5 : Int32))] 2 = mkF m 0 #[.val (.ref ta), .val (.int (5 : Int32))] [] := by first | (simp [entryFrame, mkF, argsToLocals, Value.category]; done) | rfl
set_option maxRecDepth 65536 in
set_option maxHeartbeats 40000000 in
theorem codl_5 (l : Launch) (Z : State) (a0 : Array Value) (n0 : Nat) (hw : ∀ d ∈ tables_1, d.before a0 Z = true) (hEL : EW Z a0 consts_1) (G1 : Int32) (O1 : Sta Z Z.heap "java/lang/String" "COMPACT_STRINGS" "Z" (.int G1)) (P1 : ¬ (G1 = (0 : Int32))) (ta : Addr) (kt : ClassId) (vt : List Value) (h0 : Heap) (hO : Old Z n0 h0) (V_ta : Arv Z h0 ta kt .byte (5 : Int32) vt (.int (0 : Int32))) :
    Con l Z consts_1 n0 (⟨"java/lang/StringUTF16", "coderFromArrayLen", "([BI)B"⟩ : MethodName) jdk_52_method_15_code 2 (some .byte) ({ frames := 0, cells := 0, slots := 0, locals := 0 } : Room) #[(.ref ta), (.int (5 : Int32))] h0 [] (fun v h V' => v = some (.int (0 : Int32)) ∧ h0 = h) [] := by
  refine Con.of (a0 := a0) pf5 (fun m => ef_codl_5 m ta kt vt) all0 hO hEL ?_
  intro p e s m below meth c S0 hnm hsf W
  replace W := W.iloadN (pc' := 1) djdk_52_15_0 rfl rfl
  replace W := W.aloadN (pc' := 2) djdk_52_15_1 rfl rfl rfl
  replace W := W.alen (pc' := 3) djdk_52_15_2 V_ta rfl
  replace W := W.isub (pc' := 4) (v := (0 : Int32)) djdk_52_15_3 (by decide) rfl
  replace W := W.bipush (pc' := 6) (v := (31 : Int32)) djdk_52_15_4 rfl rfl
  replace W := W.iushr (pc' := 7) (v := (0 : Int32)) djdk_52_15_6 (by decide) rfl
  replace W := W.i2b (pc' := 8) (v := (0 : Int32)) djdk_52_15_7 (by decide) rfl
  exact W.iret (t := .byte) djdk_52_15_8 rfl (by simp) (by decide) (by decide) (by decide) (fun V' cv => ⟨rfl, rfl⟩)
theorem ef_new4_5 (m : MethodId) (xa : Addr) (ca : Addr) (kc : ClassId) (c0 : Int32) (c1 : Int32) (c2 : Int32) (c3 : Int32) (c4 : Int32) : entryFrame m #[(.ref xa), (.ref ca), (.int (0 : Int32)), (.int (5 : Int32)), .null] 6 = mkF m 0 #[.val (.ref xa), .val (.ref ca), .val (.int (0 : Int32)), .val (.int (5 : Int32)), .val .null, .unset] [] := by first | (simp [entryFrame, mkF, argsToLocals, Value.category]; done) | rfl
set_option maxRecDepth 65536 in
set_option maxHeartbeats 40000000 in
theorem new4_5 (l : Launch) (Z : State) (a0 : Array Value) (n0 : Nat) (hw : ∀ d ∈ tables_1, d.before a0 Z = true) (hEL : EW Z a0 consts_1) (G1 : Int32) (O1 : Sta Z Z.heap "java/lang/String" "COMPACT_STRINGS" "Z" (.int G1)) (P1 : ¬ (G1 = (0 : Int32))) (xa : Addr) (ca : Addr) (kc : ClassId) (c0 : Int32) (c1 : Int32) (c2 : Int32) (c3 : Int32) (c4 : Int32) (h0 : Heap) (hO : Old Z n0 h0) (E_xa : Exa Z h0 xa "java/lang/String") (F_xa_value : Fld Z h0 xa "java/lang/String" "value" "[B" .null) (F_xa_coder : Fld Z h0 xa "java/lang/String" "coder" "B" (.int (0 : Int32))) (V_ca : Arv Z h0 ca kc .char (5 : Int32) [(.int c0), (.int c1), (.int c2), (.int c3), (.int c4)] (.int (0 : Int32))) (hp_c0 : ¬ c0 < 0 ∧ ¬ (255 : Int32) < c0) (hp_c1 : ¬ c1 < 0 ∧ ¬ (255 : Int32) < c1) (hp_c2 : ¬ c2 < 0 ∧ ¬ (255 : Int32) < c2) (hp_c3 : ¬ c3 < 0 ∧ ¬ (255 : Int32) < c3) (hp_c4 : ¬ c4 < 0 ∧ ¬ (255 : Int32) < c4) (g_xa : n0 ≤ xa) :
    Con l Z consts_1 n0 (⟨"java/lang/String", "<init>", "([CIILjava/lang/Void;)V"⟩ : MethodName) jdk_42_method_149_code 6 none ({ frames := 2, cells := 1, slots := 5, locals := 35 } : Room) #[(.ref xa), (.ref ca), (.int (0 : Int32)), (.int (5 : Int32)), .null] h0 [xa] (fun v h V' => ∃ (t : Addr) (kt : ClassId), v = none ∧ Exa Z h xa "java/lang/String" ∧ Fld Z h xa "java/lang/String" "coder" "B" (.int (0 : Int32)) ∧ Fld Z h xa "java/lang/String" "value" "[B" (.ref t) ∧ Arv Z h t kt .byte (5 : Int32) [(.int (c0.toInt8.toInt32)), (.int (c1.toInt8.toInt32)), (.int (c2.toInt8.toInt32)), (.int (c3.toInt8.toInt32)), (.int (c4.toInt8.toInt32))] (.int (0 : Int32))) [] := by
  refine Con.of (a0 := a0) pf1 (fun m => ef_new4_5 m xa ca kc c0 c1 c2 c3 c4) (allS g_xa all0) hO hEL ?_
  intro p e s m below meth c S0 hnm hsf W
  replace W := W.aloadN (pc' := 1) djdk_42_149_0 rfl rfl rfl
  replace W := W.initO (pc' := 4) (Wd := 0) djdk_42_149_1 (w19 hw) (w20 hw) (w21 hw) rfl rfl (by decide) (by decide) rfl
  replace W := W.iloadN (pc' := 5) djdk_42_149_4 rfl rfl
  replace W := W.ifT (pc' := 27) djdk_42_149_5 (feq (by decide : ¬ ((5 : Int32) = (0 : Int32)))).2 (by decide) (by decide)
  replace W := W.gets (pc' := 30) djdk_42_149_27 (w49 hw) O1 rfl
  replace W := W.ifF (pc' := 33) djdk_42_149_30 (feq P1).1 rfl
  replace W := W.aloadN (pc' := 34) djdk_42_149_33 rfl rfl rfl
  replace W := W.iloadN (pc' := 35) djdk_42_149_34 rfl rfl
  replace W := W.iloadN (pc' := 36) djdk_42_149_35 rfl rfl
  obtain ⟨V1, h1, r1, W1, K1, hQ1, SF1⟩ := W.callS (pc' := 39) (argsL := [(.ref ca), (.int (0 : Int32)), (.int (5 : Int32))]) (rest := []) (Wd := 0) (cells' := 1) (slots' := 5) (y := (⟨"java/lang/StringUTF16", "compress", "([CII)[B"⟩ : MethodName)) djdk_42_149_36 (cmp3_5 l Z a0 n0 hw hEL G1 O1 P1 ca kc c0 c1 c2 c3 c4 h0 W.old V_ca hp_c0 hp_c1 hp_c2 hp_c3 hp_c4) (w74 hw) (w75 hw) (w76 hw) (w77 hw) (by decide) (lenOf pd2 rfl) rfl rfl (by decide) (by decide) rfl sf0 all0 rfl rfl rfl (by decide) (by decide)
  clear W
  obtain ⟨t1, kt1, rfl, q1_1, q1_2⟩ := hQ1
  have z1 : h0.size ≤ h1.size := K1.1
  replace W1 := W1.cast (st' := [(.ref t1)]) rfl
  replace W1 := W1.astore (pc' := 41) (L' := #[.val (.ref xa), .val (.ref ca), .val (.int (0 : Int32)), .val (.int (5 : Int32)), .val .null, .val (.ref t1)]) djdk_42_149_39 rfl rfl rfl
  replace W1 := W1.aloadN (pc' := 42) djdk_42_149_41 rfl rfl rfl
  replace W1 := W1.aload (pc' := 44) djdk_42_149_42 rfl rfl rfl
  replace W1 := W1.iloadN (pc' := 45) djdk_42_149_44 rfl rfl
  obtain ⟨V2, h2, r2, W2, K2, hQ2, SF2⟩ := W1.callS (pc' := 48) (argsL := [(.ref t1), (.int (5 : Int32))]) (rest := [(.ref xa)]) (Wd := 1) (cells' := 1) (slots' := 5) (y := (⟨"java/lang/StringUTF16", "coderFromArrayLen", "([BI)B"⟩ : MethodName)) djdk_42_149_45 (codl_5 l Z a0 n0 hw hEL G1 O1 P1 t1 kt1 ([(.int (c0.toInt8.toInt32)), (.int (c1.toInt8.toInt32)), (.int (c2.toInt8.toInt32)), (.int (c3.toInt8.toInt32)), (.int (c4.toInt8.toInt32))]) h1 W1.old q1_1) (w81 hw) (w82 hw) (w76 hw) (w83 hw) (by decide) (lenOf pd3 rfl) rfl rfl (by decide) (by decide) rfl sf0 all0 rfl rfl rfl (by decide) (by decide)
  clear W1
  obtain ⟨rfl, hs2⟩ := hQ2
  subst hs2
  have sf3 := (SF1 xa E_xa.lt (hsf _ (List.mem_of_getElem? (i := 0) rfl)))
  have sf4 := SF2 xa (Nat.lt_of_lt_of_le E_xa.lt z1) sf3
  replace W2 := W2.cast (st' := [(.int (0 : Int32)), (.ref xa)]) rfl
  have f5 := (F_xa_coder.keep K1 nin0)
  have e6 := (E_xa.keep K1)
  obtain ⟨h7, W7, w7, SF7⟩ := W2.putf (pc' := 51) (ty := .byte) djdk_42_149_48 (w29 hw) Via.refl f5 e6 (Or.inr ⟨(w25 hw), rfl, hnm⟩) (w9 hw) (by decide) rfl rfl sf4 (Or.inl (List.mem_of_getElem? (i := 0) rfl)) rfl
  clear W2
  have z7 : h1.size ≤ h7.size := Nat.le_of_eq w7.size.symm
  have f7 := f5.same w7
  replace W7 := W7.aloadN (pc' := 52) djdk_42_149_51 rfl rfl rfl
  replace W7 := W7.aload (pc' := 54) djdk_42_149_52 rfl rfl rfl
  have f8 := ((F_xa_value.keep K1 nin0).other w7 (Or.inr (slot_ne (C := "java/lang/String") (Or.inr (w24 hw)) (Or.inr (w25 hw)) (by decide) (t := (.array .byte)) (t' := .byte) (by decide) (by decide))))
  have e9 := (e6.wr w7)
  have sf10 := (SF7 xa sf4)
  obtain ⟨h11, W11, w11, SF11⟩ := W7.putf (pc' := 57) (ty := (.array .byte)) djdk_42_149_54 (w28 hw) Via.refl f8 e9 (Or.inr ⟨(w24 hw), rfl, hnm⟩) (w9 hw) (by decide) rfl rfl sf10 (Or.inl (List.mem_of_getElem? (i := 0) rfl)) rfl
  clear W7
  have z11 : h7.size ≤ h11.size := Nat.le_of_eq w11.size.symm
  have f11 := f8.same w11
  have e12 := (e9.wr w11)
  have f13 := (f7.other w11 (Or.inr (slot_ne (C := "java/lang/String") (Or.inr (w25 hw)) (Or.inr (w24 hw)) (by decide) (t := .byte) (t' := (.array .byte)) (by decide) (by decide))))
  have v14 := ((q1_1.other w7 (Nat.ne_of_gt (Nat.lt_of_lt_of_le E_xa.lt q1_2))).other w11 (Nat.ne_of_gt (Nat.lt_of_lt_of_le E_xa.lt q1_2)))
  exact W11.vret djdk_42_149_57 rfl (by decide) (by decide) (fun V' cv => ⟨t1, kt1, rfl, e12, f13, f11, v14⟩)
theorem ef_new1_5 (m : MethodId) (xa : Addr) (ca : Addr) (kc : ClassId) (c0 : Int32) (c1 : Int32) (c2 : Int32) (c3 : Int32) (c4 : Int32) : entryFrame m #[(.ref xa), (.ref ca)] 2 = mkF m 0 #[.val (.ref xa), .val (.ref ca)] [] := by first | (simp [entryFrame, mkF, argsToLocals, Value.category]; done) | rfl
set_option maxRecDepth 65536 in
set_option maxHeartbeats 40000000 in
theorem new1_5 (l : Launch) (Z : State) (a0 : Array Value) (n0 : Nat) (hw : ∀ d ∈ tables_1, d.before a0 Z = true) (hEL : EW Z a0 consts_1) (G1 : Int32) (O1 : Sta Z Z.heap "java/lang/String" "COMPACT_STRINGS" "Z" (.int G1)) (P1 : ¬ (G1 = (0 : Int32))) (xa : Addr) (ca : Addr) (kc : ClassId) (c0 : Int32) (c1 : Int32) (c2 : Int32) (c3 : Int32) (c4 : Int32) (h0 : Heap) (hO : Old Z n0 h0) (E_xa : Exa Z h0 xa "java/lang/String") (F_xa_value : Fld Z h0 xa "java/lang/String" "value" "[B" .null) (F_xa_coder : Fld Z h0 xa "java/lang/String" "coder" "B" (.int (0 : Int32))) (V_ca : Arv Z h0 ca kc .char (5 : Int32) [(.int c0), (.int c1), (.int c2), (.int c3), (.int c4)] (.int (0 : Int32))) (hp_c0 : ¬ c0 < 0 ∧ ¬ (255 : Int32) < c0) (hp_c1 : ¬ c1 < 0 ∧ ¬ (255 : Int32) < c1) (hp_c2 : ¬ c2 < 0 ∧ ¬ (255 : Int32) < c2) (hp_c3 : ¬ c3 < 0 ∧ ¬ (255 : Int32) < c3) (hp_c4 : ¬ c4 < 0 ∧ ¬ (255 : Int32) < c4) (g_xa : n0 ≤ xa) :
    Con l Z consts_1 n0 (⟨"java/lang/String", "<init>", "([C)V"⟩ : MethodName) jdk_42_method_3_code 2 none ({ frames := 3, cells := 1, slots := 5, locals := 52 } : Room) #[(.ref xa), (.ref ca)] h0 [xa] (fun v h V' => ∃ (t : Addr) (kt : ClassId), v = none ∧ Exa Z h xa "java/lang/String" ∧ Fld Z h xa "java/lang/String" "coder" "B" (.int (0 : Int32)) ∧ Fld Z h xa "java/lang/String" "value" "[B" (.ref t) ∧ Arv Z h t kt .byte (5 : Int32) [(.int (c0.toInt8.toInt32)), (.int (c1.toInt8.toInt32)), (.int (c2.toInt8.toInt32)), (.int (c3.toInt8.toInt32)), (.int (c4.toInt8.toInt32))] (.int (0 : Int32))) [] := by
  refine Con.of (a0 := a0) pf2 (fun m => ef_new1_5 m xa ca kc c0 c1 c2 c3 c4) (allS g_xa all0) hO hEL ?_
  intro p e s m below meth c S0 hnm hsf W
  replace W := W.aloadN (pc' := 1) djdk_42_3_0 rfl rfl rfl
  replace W := W.aloadN (pc' := 2) djdk_42_3_1 rfl rfl rfl
  replace W := W.iconst (pc' := 3) (v := (0 : Int32)) djdk_42_3_2 rfl rfl
  replace W := W.aloadN (pc' := 4) djdk_42_3_3 rfl rfl rfl
  replace W := W.alen (pc' := 5) djdk_42_3_4 V_ca rfl
  replace W := W.aconstNull (pc' := 6) djdk_42_3_5 rfl
  obtain ⟨V1, h1, r1, W1, K1, hQ1, SF1⟩ := W.callI (pc' := 9) (argsL := [(.ref ca), (.int (0 : Int32)), (.int (5 : Int32)), .null]) (rest := []) (Wd := 0) (cells' := 1) (slots' := 5) (a := xa) (y := (⟨"java/lang/String", "<init>", "([CIILjava/lang/Void;)V"⟩ : MethodName)) djdk_42_3_6 (new4_5 l Z a0 n0 hw hEL G1 O1 P1 xa ca kc c0 c1 c2 c3 c4 h0 W.old E_xa F_xa_value F_xa_coder V_ca hp_c0 hp_c1 hp_c2 hp_c3 hp_c4 g_xa) rfl (w15 hw) (w16 hw) (w10 hw) (w18 hw) (by decide) (lenOf pd0 rfl) rfl rfl (by decide) (by decide) rfl (sfS (hsf _ (List.mem_of_getElem? (i := 0) rfl)) sf0) (allS (Or.inl (List.mem_of_getElem? (i := 0) rfl)) all0) rfl rfl rfl (by decide) (by decide)
  clear W
  obtain ⟨t1, kt1, rfl, q1_1, q1_2, q1_3, q1_4⟩ := hQ1
  have z1 : h0.size ≤ h1.size := K1.1
  replace W1 := W1.cast (st' := []) rfl
  exact W1.vret djdk_42_3_9 rfl (by decide) (by decide) (fun V' cv => ⟨t1, kt1, rfl, q1_1, q1_2, q1_3, q1_4⟩)
theorem ef_canenc (m : MethodId)  : entryFrame m #[(.int (61 : Int32))] 1 = mkF m 0 #[.val (.int (61 : Int32))] [] := by first | (simp [entryFrame, mkF, argsToLocals, Value.category]; done) | rfl
set_option maxRecDepth 65536 in
set_option maxHeartbeats 40000000 in
theorem canenc (l : Launch) (Z : State) (a0 : Array Value) (n0 : Nat) (hw : ∀ d ∈ tables_1, d.before a0 Z = true) (hEL : EW Z a0 consts_1) (G1 : Int32) (O1 : Sta Z Z.heap "java/lang/String" "COMPACT_STRINGS" "Z" (.int G1)) (P1 : ¬ (G1 = (0 : Int32)))  (h0 : Heap) (hO : Old Z n0 h0)  :
    Con l Z consts_1 n0 (⟨"java/lang/StringLatin1", "canEncode", "(I)Z"⟩ : MethodName) jdk_43_method_4_code 1 (some .boolean) ({ frames := 0, cells := 0, slots := 0, locals := 0 } : Room) #[(.int (61 : Int32))] h0 [] (fun v h V' => v = some (.int (1 : Int32)) ∧ h0 = h) [] := by
  refine Con.of (a0 := a0) pf6 (fun m => ef_canenc m ) all0 hO hEL ?_
  intro p e s m below meth c S0 hnm hsf W
  replace W := W.iloadN (pc' := 1) djdk_43_4_0 rfl rfl
  replace W := W.ifF (pc' := 4) djdk_43_4_1 (flt (by decide : ¬ ((61 : Int32) < (0 : Int32)))).1 rfl
  replace W := W.iloadN (pc' := 5) djdk_43_4_4 rfl rfl
  replace W := W.sipush (pc' := 8) (v := (255 : Int32)) djdk_43_4_5 rfl rfl
  replace W := W.icmpF (pc' := 11) djdk_43_4_8 (flt (by decide : ¬ ((255 : Int32) < (61 : Int32)))).2.2.1 rfl
  replace W := W.iconst (pc' := 12) (v := (1 : Int32)) djdk_43_4_11 rfl rfl
  replace W := W.goto (pc' := 16) djdk_43_4_12 (by decide) (by decide)
  exact W.iret (t := .boolean) djdk_43_4_16 rfl (by simp) (by decide) (by decide) (by decide) (fun V' cv => ⟨rfl, rfl⟩)
theorem ef_islat (m : MethodId) (xa : Addr) : entryFrame m #[(.ref xa)] 1 = mkF m 0 #[.val (.ref xa)] [] := by first | (simp [entryFrame, mkF, argsToLocals, Value.category]; done) | rfl
set_option maxRecDepth 65536 in
set_option maxHeartbeats 40000000 in
theorem islat (l : Launch) (Z : State) (a0 : Array Value) (n0 : Nat) (hw : ∀ d ∈ tables_1, d.before a0 Z = true) (hEL : EW Z a0 consts_1) (G1 : Int32) (O1 : Sta Z Z.heap "java/lang/String" "COMPACT_STRINGS" "Z" (.int G1)) (P1 : ¬ (G1 = (0 : Int32))) (xa : Addr) (h0 : Heap) (hO : Old Z n0 h0) (F_xa_coder : Fld Z h0 xa "java/lang/String" "coder" "B" (.int (0 : Int32))) :
    Con l Z consts_1 n0 (⟨"java/lang/String", "isLatin1", "()Z"⟩ : MethodName) jdk_42_method_154_code 1 (some .boolean) ({ frames := 0, cells := 0, slots := 0, locals := 0 } : Room) #[(.ref xa)] h0 [] (fun v h V' => v = some (.int (1 : Int32)) ∧ h0 = h) [] := by
  refine Con.of (a0 := a0) pf7 (fun m => ef_islat m xa) all0 hO hEL ?_
  intro p e s m below meth c S0 hnm hsf W
  replace W := W.gets (pc' := 3) djdk_42_154_0 (w49 hw) O1 rfl
  replace W := W.ifF (pc' := 6) djdk_42_154_3 (feq P1).1 rfl
  replace W := W.aloadN (pc' := 7) djdk_42_154_6 rfl rfl rfl
  replace W := W.getf (pc' := 10) djdk_42_154_7 (w29 hw) Via.refl F_xa_coder rfl
  replace W := W.ifF (pc' := 13) djdk_42_154_10 (teq (by decide : (0 : Int32) = (0 : Int32))).2 rfl
  replace W := W.iconst (pc' := 14) (v := (1 : Int32)) djdk_42_154_13 rfl rfl
  replace W := W.goto (pc' := 18) djdk_42_154_14 (by decide) (by decide)
  exact W.iret (t := .boolean) djdk_42_154_18 rfl (by simp) (by decide) (by decide) (by decide) (fun V' cv => ⟨rfl, rfl⟩)
theorem ef_coder_c (m : MethodId) (xa : Addr) : entryFrame m #[(.ref xa)] 1 = mkF m 0 #[.val (.ref xa)] [] := by first | (simp [entryFrame, mkF, argsToLocals, Value.category]; done) | rfl
set_option maxRecDepth 65536 in
set_option maxHeartbeats 40000000 in
theorem coder_c (l : Launch) (Z : State) (a0 : Array Value) (n0 : Nat) (hw : ∀ d ∈ tables_1, d.before a0 Z = true) (hEL : EW Z a0 consts_1) (G1 : Int32) (O1 : Sta Z Z.heap "java/lang/String" "COMPACT_STRINGS" "Z" (.int G1)) (P1 : ¬ (G1 = (0 : Int32))) (xa : Addr) (h0 : Heap) (hO : Old Z n0 h0) (F_xa_coder : Fld Z h0 xa "java/lang/String" "coder" "B" (.int (0 : Int32))) :
    Con l Z consts_1 n0 (⟨"java/lang/String", "coder", "()B"⟩ : MethodName) jdk_42_method_152_code 1 (some .byte) ({ frames := 0, cells := 0, slots := 0, locals := 0 } : Room) #[(.ref xa)] h0 [] (fun v h V' => v = some (.int (0 : Int32)) ∧ h0 = h) [] := by
  refine Con.of (a0 := a0) pf8 (fun m => ef_coder_c m xa) all0 hO hEL ?_
  intro p e s m below meth c S0 hnm hsf W
  replace W := W.gets (pc' := 3) djdk_42_152_0 (w49 hw) O1 rfl
  replace W := W.ifF (pc' := 6) djdk_42_152_3 (feq P1).1 rfl
  replace W := W.aloadN (pc' := 7) djdk_42_152_6 rfl rfl rfl
  replace W := W.getf (pc' := 10) djdk_42_152_7 (w29 hw) Via.refl F_xa_coder rfl
  replace W := W.goto (pc' := 14) djdk_42_152_10 (by decide) (by decide)
  exact W.iret (t := .byte) djdk_42_152_14 rfl (by simp) (by decide) (by decide) (by decide) (fun V' cv => ⟨rfl, rfl⟩)
theorem ef_len_0 (m : MethodId) (xa : Addr) (ta : Addr) (kt : ClassId) : entryFrame m #[(.ref xa)] 1 = mkF m 0 #[.val (.ref xa)] [] := by first | (simp [entryFrame, mkF, argsToLocals, Value.category]; done) | rfl
set_option maxRecDepth 65536 in
set_option maxHeartbeats 40000000 in
theorem len_0 (l : Launch) (Z : State) (a0 : Array Value) (n0 : Nat) (hw : ∀ d ∈ tables_1, d.before a0 Z = true) (hEL : EW Z a0 consts_1) (G1 : Int32) (O1 : Sta Z Z.heap "java/lang/String" "COMPACT_STRINGS" "Z" (.int G1)) (P1 : ¬ (G1 = (0 : Int32))) (xa : Addr) (ta : Addr) (kt : ClassId) (h0 : Heap) (hO : Old Z n0 h0) (E_xa : Exa Z h0 xa "java/lang/String") (F_xa_coder : Fld Z h0 xa "java/lang/String" "coder" "B" (.int (0 : Int32))) (F_xa_value : Fld Z h0 xa "java/lang/String" "value" "[B" (.ref ta)) (V_ta : Arv Z h0 ta kt .byte (0 : Int32) [] (.int (0 : Int32))) :
    Con l Z consts_1 n0 (⟨"java/lang/String", "length", "()I"⟩ : MethodName) jdk_42_method_54_code 1 (some .int) ({ frames := 1, cells := 0, slots := 0, locals := 13 } : Room) #[(.ref xa)] h0 [] (fun v h V' => v = some (.int (0 : Int32)) ∧ h0 = h) [] := by
  refine Con.of (a0 := a0) pf9 (fun m => ef_len_0 m xa ta kt) all0 hO hEL ?_
  intro p e s m below meth c S0 hnm hsf W
  replace W := W.aloadN (pc' := 1) djdk_42_54_0 rfl rfl rfl
  replace W := W.getf (pc' := 4) djdk_42_54_1 (w28 hw) Via.refl F_xa_value rfl
  replace W := W.alen (pc' := 5) djdk_42_54_4 V_ta rfl
  replace W := W.aloadN (pc' := 6) djdk_42_54_5 rfl rfl rfl
  obtain ⟨V1, h1, r1, W1, K1, hQ1, SF1⟩ := W.callV (pc' := 9) (argsL := []) (rest := [(.int (0 : Int32))]) (Wd := 1) (cells' := 0) (slots' := 0) (a := xa) (C := "java/lang/String") (y := (⟨"java/lang/String", "coder", "()B"⟩ : MethodName)) (z := (⟨"java/lang/String", "coder", "()B"⟩ : MethodName)) djdk_42_54_6 (coder_c l Z a0 n0 hw hEL G1 O1 P1 xa h0 W.old F_xa_coder) E_xa (w55 hw) (w56 hw) (Or.inl (w58 hw)) (w58 hw) (w57 hw) (w10 hw) (w59 hw) (by decide) (lenOf pd4 rfl) rfl rfl (by decide) (by decide) rfl sf0 all0 rfl rfl rfl (by decide) (by decide)
  clear W
  obtain ⟨rfl, hs1⟩ := hQ1
  subst hs1
  replace W1 := W1.cast (st' := [(.int (0 : Int32)), (.int (0 : Int32))]) rfl
  replace W1 := W1.ishr (pc' := 10) (v := (0 : Int32)) djdk_42_54_9 (by decide) rfl
  exact W1.iret (t := .int) djdk_42_54_10 rfl (by simp) rfl (by decide) (by decide) (fun V' cv => ⟨rfl, rfl⟩)
theorem ef_max_0 (m : MethodId)  : entryFrame m #[(.int (0 : Int32)), (.int (0 : Int32))] 2 = mkF m 0 #[.val (.int (0 : Int32)), .val (.int (0 : Int32))] [] := by first | (simp [entryFrame, mkF, argsToLocals, Value.category]; done) | rfl
set_option maxRecDepth 65536 in
set_option maxHeartbeats 40000000 in
theorem max_0 (l : Launch) (Z : State) (a0 : Array Value) (n0 : Nat) (hw : ∀ d ∈ tables_1, d.before a0 Z = true) (hEL : EW Z a0 consts_1) (G1 : Int32) (O1 : Sta Z Z.heap "java/lang/String" "COMPACT_STRINGS" "Z" (.int G1)) (P1 : ¬ (G1 = (0 : Int32)))  (h0 : Heap) (hO : Old Z n0 h0)  :
    Con l Z consts_1 n0 (⟨"java/lang/Math", "max", "(II)I"⟩ : MethodName) jdk_29_method_65_code 2 (some .int) ({ frames := 0, cells := 0, slots := 0, locals := 0 } : Room) #[(.int (0 : Int32)), (.int (0 : Int32))] h0 [] (fun v h V' => v = some (.int (0 : Int32)) ∧ h0 = h) [] := by
  refine Con.of (a0 := a0) pf10 (fun m => ef_max_0 m ) all0 hO hEL ?_
  intro p e s m below meth c S0 hnm hsf W
  replace W := W.iloadN (pc' := 1) djdk_29_65_0 rfl rfl
  replace W := W.iloadN (pc' := 2) djdk_29_65_1 rfl rfl
  replace W := W.icmpF (pc' := 5) djdk_29_65_2 (flt (by decide : ¬ ((0 : Int32) < (0 : Int32)))).1 rfl
  replace W := W.iloadN (pc' := 6) djdk_29_65_5 rfl rfl
  replace W := W.goto (pc' := 10) djdk_29_65_6 (by decide) (by decide)
  exact W.iret (t := .int) djdk_29_65_10 rfl (by simp) rfl (by decide) (by decide) (fun V' cv => ⟨rfl, rfl⟩)
theorem ef_min_0 (m : MethodId)  : entryFrame m #[(.int (0 : Int32)), (.int (0 : Int32))] 2 = mkF m 0 #[.val (.int (0 : Int32)), .val (.int (0 : Int32))] [] := by first | (simp [entryFrame, mkF, argsToLocals, Value.category]; done) | rfl
set_option maxRecDepth 65536 in
set_option maxHeartbeats 40000000 in
theorem min_0 (l : Launch) (Z : State) (a0 : Array Value) (n0 : Nat) (hw : ∀ d ∈ tables_1, d.before a0 Z = true) (hEL : EW Z a0 consts_1) (G1 : Int32) (O1 : Sta Z Z.heap "java/lang/String" "COMPACT_STRINGS" "Z" (.int G1)) (P1 : ¬ (G1 = (0 : Int32)))  (h0 : Heap) (hO : Old Z n0 h0)  :
    Con l Z consts_1 n0 (⟨"java/lang/Math", "min", "(II)I"⟩ : MethodName) jdk_29_method_69_code 2 (some .int) ({ frames := 0, cells := 0, slots := 0, locals := 0 } : Room) #[(.int (0 : Int32)), (.int (0 : Int32))] h0 [] (fun v h V' => v = some (.int (0 : Int32)) ∧ h0 = h) [] := by
  refine Con.of (a0 := a0) pf11 (fun m => ef_min_0 m ) all0 hO hEL ?_
  intro p e s m below meth c S0 hnm hsf W
  replace W := W.iloadN (pc' := 1) djdk_29_69_0 rfl rfl
  replace W := W.iloadN (pc' := 2) djdk_29_69_1 rfl rfl
  replace W := W.icmpF (pc' := 5) djdk_29_69_2 (flt (by decide : ¬ ((0 : Int32) < (0 : Int32)))).2.2.1 rfl
  replace W := W.iloadN (pc' := 6) djdk_29_69_5 rfl rfl
  replace W := W.goto (pc' := 10) djdk_29_69_6 (by decide) (by decide)
  exact W.iret (t := .int) djdk_29_69_10 rfl (by simp) rfl (by decide) (by decide) (fun V' cv => ⟨rfl, rfl⟩)
theorem ef_lio_0 (m : MethodId) (ta : Addr) (kt : ClassId) : entryFrame m #[(.ref ta), (.int (61 : Int32)), (.int (0 : Int32)), (.int (0 : Int32))] 4 = mkF m 0 #[.val (.ref ta), .val (.int (61 : Int32)), .val (.int (0 : Int32)), .val (.int (0 : Int32))] [] := by first | (simp [entryFrame, mkF, argsToLocals, Value.category]; done) | rfl
set_option maxRecDepth 65536 in
set_option maxHeartbeats 40000000 in
theorem lio_0 (l : Launch) (Z : State) (a0 : Array Value) (n0 : Nat) (hw : ∀ d ∈ tables_1, d.before a0 Z = true) (hEL : EW Z a0 consts_1) (G1 : Int32) (O1 : Sta Z Z.heap "java/lang/String" "COMPACT_STRINGS" "Z" (.int G1)) (P1 : ¬ (G1 = (0 : Int32))) (ta : Addr) (kt : ClassId) (h0 : Heap) (hO : Old Z n0 h0) (V_ta : Arv Z h0 ta kt .byte (0 : Int32) [] (.int (0 : Int32))) :
    Con l Z consts_1 n0 (⟨"java/lang/StringLatin1", "indexOf", "([BIII)I"⟩ : MethodName) jdk_43_method_22_code 4 (some .int) ({ frames := 1, cells := 0, slots := 0, locals := 13 } : Room) #[(.ref ta), (.int (61 : Int32)), (.int (0 : Int32)), (.int (0 : Int32))] h0 [] (fun v h V' => v = some (.int (-1 : Int32)) ∧ h0 = h) [] := by
  refine Con.of (a0 := a0) pf12 (fun m => ef_lio_0 m ta kt) all0 hO hEL ?_
  intro p e s m below meth c S0 hnm hsf W
  replace W := W.iloadN (pc' := 1) djdk_43_22_0 rfl rfl
  obtain ⟨V1, h1, r1, W1, K1, hQ1, SF1⟩ := W.callS (pc' := 4) (argsL := [(.int (61 : Int32))]) (rest := []) (Wd := 0) (cells' := 0) (slots' := 0) (y := (⟨"java/lang/StringLatin1", "canEncode", "(I)Z"⟩ : MethodName)) djdk_43_22_1 (canenc l Z a0 n0 hw hEL G1 O1 P1 h0 W.old) (w64 hw) (w65 hw) (w62 hw) (w66 hw) (by decide) (lenOf pd5 rfl) rfl rfl (by decide) (by decide) rfl sf0 all0 rfl rfl rfl (by decide) (by decide)
  clear W
  obtain ⟨rfl, hs1⟩ := hQ1
  subst hs1
  replace W1 := W1.cast (st' := [(.int (1 : Int32))]) rfl
  replace W1 := W1.ifT (pc' := 9) djdk_43_22_4 (feq (by decide : ¬ ((1 : Int32) = (0 : Int32)))).2 (by decide) (by decide)
  replace W1 := W1.iloadN (pc' := 10) djdk_43_22_9 rfl rfl
  replace W1 := W1.iconst (pc' := 11) (v := (0 : Int32)) djdk_43_22_10 rfl rfl
  obtain ⟨V2, h2, r2, W2, K2, hQ2, SF2⟩ := W1.callS (pc' := 14) (argsL := [(.int (0 : Int32)), (.int (0 : Int32))]) (rest := []) (Wd := 0) (cells' := 0) (slots' := 0) (y := (⟨"java/lang/Math", "max", "(II)I"⟩ : MethodName)) djdk_43_22_11 (max_0 l Z a0 n0 hw hEL G1 O1 P1 h0 W1.old) (w67 hw) (w68 hw) (w69 hw) (w70 hw) (by decide) (lenOf pd6 rfl) rfl rfl (by decide) (by decide) rfl sf0 all0 rfl rfl rfl (by decide) (by decide)
  clear W1
  obtain ⟨rfl, hs2⟩ := hQ2
  subst hs2
  replace W2 := W2.cast (st' := [(.int (0 : Int32))]) rfl
  replace W2 := W2.istoreN (pc' := 15) (L' := #[.val (.ref ta), .val (.int (61 : Int32)), .val (.int (0 : Int32)), .val (.int (0 : Int32))]) djdk_43_22_14 rfl rfl
  replace W2 := W2.iloadN (pc' := 16) djdk_43_22_15 rfl rfl
  replace W2 := W2.aloadN (pc' := 17) djdk_43_22_16 rfl rfl rfl
  replace W2 := W2.alen (pc' := 18) djdk_43_22_17 V_ta rfl
  obtain ⟨V3, h3, r3, W3, K3, hQ3, SF3⟩ := W2.callS (pc' := 21) (argsL := [(.int (0 : Int32)), (.int (0 : Int32))]) (rest := []) (Wd := 0) (cells' := 0) (slots' := 0) (y := (⟨"java/lang/Math", "min", "(II)I"⟩ : MethodName)) djdk_43_22_18 (min_0 l Z a0 n0 hw hEL G1 O1 P1 h0 W2.old) (w71 hw) (w72 hw) (w69 hw) (w73 hw) (by decide) (lenOf pd6 rfl) rfl rfl (by decide) (by decide) rfl sf0 all0 rfl rfl rfl (by decide) (by decide)
  clear W2
  obtain ⟨rfl, hs3⟩ := hQ3
  subst hs3
  replace W3 := W3.cast (st' := [(.int (0 : Int32))]) rfl
  replace W3 := W3.istoreN (pc' := 22) (L' := #[.val (.ref ta), .val (.int (61 : Int32)), .val (.int (0 : Int32)), .val (.int (0 : Int32))]) djdk_43_22_21 rfl rfl
  replace W3 := W3.iloadN (pc' := 23) djdk_43_22_22 rfl rfl
  replace W3 := W3.iloadN (pc' := 24) djdk_43_22_23 rfl rfl
  replace W3 := W3.icmpF (pc' := 27) djdk_43_22_24 (flt (by decide : ¬ ((0 : Int32) < (0 : Int32)))).1 rfl
  replace W3 := W3.iconst (pc' := 28) (v := (-1 : Int32)) djdk_43_22_27 rfl rfl
  exact W3.iret (t := .int) djdk_43_22_28 rfl (by simp) rfl (by decide) (by decide) (fun V' cv => ⟨rfl, rfl⟩)
theorem ef_io2_0 (m : MethodId) (xa : Addr) (ta : Addr) (kt : ClassId) : entryFrame m #[(.ref xa), (.int (61 : Int32)), (.int (0 : Int32))] 3 = mkF m 0 #[.val (.ref xa), .val (.int (61 : Int32)), .val (.int (0 : Int32))] [] := by first | (simp [entryFrame, mkF, argsToLocals, Value.category]; done) | rfl
set_option maxRecDepth 65536 in
set_option maxHeartbeats 40000000 in
theorem io2_0 (l : Launch) (Z : State) (a0 : Array Value) (n0 : Nat) (hw : ∀ d ∈ tables_1, d.before a0 Z = true) (hEL : EW Z a0 consts_1) (G1 : Int32) (O1 : Sta Z Z.heap "java/lang/String" "COMPACT_STRINGS" "Z" (.int G1)) (P1 : ¬ (G1 = (0 : Int32))) (xa : Addr) (ta : Addr) (kt : ClassId) (h0 : Heap) (hO : Old Z n0 h0) (E_xa : Exa Z h0 xa "java/lang/String") (F_xa_coder : Fld Z h0 xa "java/lang/String" "coder" "B" (.int (0 : Int32))) (F_xa_value : Fld Z h0 xa "java/lang/String" "value" "[B" (.ref ta)) (V_ta : Arv Z h0 ta kt .byte (0 : Int32) [] (.int (0 : Int32))) :
    Con l Z consts_1 n0 (⟨"java/lang/String", "indexOf", "(II)I"⟩ : MethodName) jdk_42_method_80_code 3 (some .int) ({ frames := 2, cells := 0, slots := 0, locals := 28 } : Room) #[(.ref xa), (.int (61 : Int32)), (.int (0 : Int32))] h0 [] (fun v h V' => v = some (.int (-1 : Int32)) ∧ h0 = h) [] := by
  refine Con.of (a0 := a0) pf13 (fun m => ef_io2_0 m xa ta kt) all0 hO hEL ?_
  intro p e s m below meth c S0 hnm hsf W
  replace W := W.aloadN (pc' := 1) djdk_42_80_0 rfl rfl rfl
  obtain ⟨V1, h1, r1, W1, K1, hQ1, SF1⟩ := W.callV (pc' := 4) (argsL := []) (rest := []) (Wd := 0) (cells' := 0) (slots' := 0) (a := xa) (C := "java/lang/String") (y := (⟨"java/lang/String", "isLatin1", "()Z"⟩ : MethodName)) (z := (⟨"java/lang/String", "isLatin1", "()Z"⟩ : MethodName)) djdk_42_80_1 (islat l Z a0 n0 hw hEL G1 O1 P1 xa h0 W.old F_xa_coder) E_xa (w44 hw) (w45 hw) (Or.inl (w47 hw)) (w47 hw) (w46 hw) (w10 hw) (w48 hw) (by decide) (lenOf pd7 rfl) rfl rfl (by decide) (by decide) rfl sf0 all0 rfl rfl rfl (by decide) (by decide)
  clear W
  obtain ⟨rfl, hs1⟩ := hQ1
  subst hs1
  replace W1 := W1.cast (st' := [(.int (1 : Int32))]) rfl
  replace W1 := W1.ifF (pc' := 7) djdk_42_80_4 (feq (by decide : ¬ ((1 : Int32) = (0 : Int32)))).1 rfl
  replace W1 := W1.aloadN (pc' := 8) djdk_42_80_7 rfl rfl rfl
  replace W1 := W1.getf (pc' := 11) djdk_42_80_8 (w28 hw) Via.refl F_xa_value rfl
  replace W1 := W1.iloadN (pc' := 12) djdk_42_80_11 rfl rfl
  replace W1 := W1.iloadN (pc' := 13) djdk_42_80_12 rfl rfl
  replace W1 := W1.aloadN (pc' := 14) djdk_42_80_13 rfl rfl rfl
  obtain ⟨V2, h2, r2, W2, K2, hQ2, SF2⟩ := W1.callV (pc' := 17) (argsL := []) (rest := [(.int (0 : Int32)), (.int (61 : Int32)), (.ref ta)]) (Wd := 3) (cells' := 0) (slots' := 0) (a := xa) (C := "java/lang/String") (y := (⟨"java/lang/String", "length", "()I"⟩ : MethodName)) (z := (⟨"java/lang/String", "length", "()I"⟩ : MethodName)) djdk_42_80_14 (len_0 l Z a0 n0 hw hEL G1 O1 P1 xa ta kt h0 W1.old E_xa F_xa_coder F_xa_value V_ta) E_xa (w50 hw) (w51 hw) (Or.inl (w53 hw)) (w53 hw) (w52 hw) (w10 hw) (w54 hw) (by decide) (lenOf pd8 rfl) rfl rfl (by decide) (by decide) rfl sf0 all0 rfl rfl rfl (by decide) (by decide)
  clear W1
  obtain ⟨rfl, hs2⟩ := hQ2
  subst hs2
  replace W2 := W2.cast (st' := [(.int (0 : Int32)), (.int (0 : Int32)), (.int (61 : Int32)), (.ref ta)]) rfl
  obtain ⟨V3, h3, r3, W3, K3, hQ3, SF3⟩ := W2.callS (pc' := 20) (argsL := [(.ref ta), (.int (61 : Int32)), (.int (0 : Int32)), (.int (0 : Int32))]) (rest := []) (Wd := 0) (cells' := 0) (slots' := 0) (y := (⟨"java/lang/StringLatin1", "indexOf", "([BIII)I"⟩ : MethodName)) djdk_42_80_17 (lio_0 l Z a0 n0 hw hEL G1 O1 P1 ta kt h0 W2.old V_ta) (w60 hw) (w61 hw) (w62 hw) (w63 hw) (by decide) (lenOf pd9 rfl) rfl rfl (by decide) (by decide) rfl sf0 all0 rfl rfl rfl (by decide) (by decide)
  clear W2
  obtain ⟨rfl, hs3⟩ := hQ3
  subst hs3
  replace W3 := W3.cast (st' := [(.int (-1 : Int32))]) rfl
  replace W3 := W3.goto (pc' := 36) djdk_42_80_20 (by decide) (by decide)
  exact W3.iret (t := .int) djdk_42_80_36 rfl (by simp) rfl (by decide) (by decide) (fun V' cv => ⟨rfl, rfl⟩)
theorem ef_io1_0 (m : MethodId) (xa : Addr) (ta : Addr) (kt : ClassId) : entryFrame m #[(.ref xa), (.int (61 : Int32))] 2 = mkF m 0 #[.val (.ref xa), .val (.int (61 : Int32))] [] := by first | (simp [entryFrame, mkF, argsToLocals, Value.category]; done) | rfl
set_option maxRecDepth 65536 in
set_option maxHeartbeats 40000000 in
theorem io1_0 (l : Launch) (Z : State) (a0 : Array Value) (n0 : Nat) (hw : ∀ d ∈ tables_1, d.before a0 Z = true) (hEL : EW Z a0 consts_1) (G1 : Int32) (O1 : Sta Z Z.heap "java/lang/String" "COMPACT_STRINGS" "Z" (.int G1)) (P1 : ¬ (G1 = (0 : Int32))) (xa : Addr) (ta : Addr) (kt : ClassId) (h0 : Heap) (hO : Old Z n0 h0) (E_xa : Exa Z h0 xa "java/lang/String") (F_xa_coder : Fld Z h0 xa "java/lang/String" "coder" "B" (.int (0 : Int32))) (F_xa_value : Fld Z h0 xa "java/lang/String" "value" "[B" (.ref ta)) (V_ta : Arv Z h0 ta kt .byte (0 : Int32) [] (.int (0 : Int32))) :
    Con l Z consts_1 n0 (⟨"java/lang/String", "indexOf", "(I)I"⟩ : MethodName) jdk_42_method_79_code 2 (some .int) ({ frames := 3, cells := 0, slots := 0, locals := 42 } : Room) #[(.ref xa), (.int (61 : Int32))] h0 [] (fun v h V' => v = some (.int (-1 : Int32)) ∧ h0 = h) [] := by
  refine Con.of (a0 := a0) pf14 (fun m => ef_io1_0 m xa ta kt) all0 hO hEL ?_
  intro p e s m below meth c S0 hnm hsf W
  replace W := W.aloadN (pc' := 1) djdk_42_79_0 rfl rfl rfl
  replace W := W.iloadN (pc' := 2) djdk_42_79_1 rfl rfl
  replace W := W.iconst (pc' := 3) (v := (0 : Int32)) djdk_42_79_2 rfl rfl
  obtain ⟨V1, h1, r1, W1, K1, hQ1, SF1⟩ := W.callV (pc' := 6) (argsL := [(.int (61 : Int32)), (.int (0 : Int32))]) (rest := []) (Wd := 0) (cells' := 0) (slots' := 0) (a := xa) (C := "java/lang/String") (y := (⟨"java/lang/String", "indexOf", "(II)I"⟩ : MethodName)) (z := (⟨"java/lang/String", "indexOf", "(II)I"⟩ : MethodName)) djdk_42_79_3 (io2_0 l Z a0 n0 hw hEL G1 O1 P1 xa ta kt h0 W.old E_xa F_xa_coder F_xa_value V_ta) E_xa (w39 hw) (w40 hw) (Or.inl (w42 hw)) (w42 hw) (w41 hw) (w10 hw) (w43 hw) (by decide) (lenOf pd6 rfl) rfl rfl (by decide) (by decide) rfl sf0 all0 rfl rfl rfl (by decide) (by decide)
  clear W
  obtain ⟨rfl, hs1⟩ := hQ1
  subst hs1
  replace W1 := W1.cast (st' := [(.int (-1 : Int32))]) rfl
  exact W1.iret (t := .int) djdk_42_79_6 rfl (by simp) rfl (by decide) (by decide) (fun V' cv => ⟨rfl, rfl⟩)
theorem ef_isc_0 (m : MethodId) (xa : Addr) (ta : Addr) (kt : ClassId) : entryFrame m #[(.ref xa)] 1 = mkF m 0 #[.val (.ref xa)] [] := by first | (simp [entryFrame, mkF, argsToLocals, Value.category]; done) | rfl
set_option maxRecDepth 65536 in
set_option maxHeartbeats 40000000 in
theorem isc_0 (l : Launch) (Z : State) (a0 : Array Value) (n0 : Nat) (hw : ∀ d ∈ tables_1, d.before a0 Z = true) (hEL : EW Z a0 consts_1) (G1 : Int32) (O1 : Sta Z Z.heap "java/lang/String" "COMPACT_STRINGS" "Z" (.int G1)) (P1 : ¬ (G1 = (0 : Int32))) (xa : Addr) (ta : Addr) (kt : ClassId) (h0 : Heap) (hO : Old Z n0 h0) (E_xa : Exa Z h0 xa "java/lang/String") (F_xa_coder : Fld Z h0 xa "java/lang/String" "coder" "B" (.int (0 : Int32))) (F_xa_value : Fld Z h0 xa "java/lang/String" "value" "[B" (.ref ta)) (V_ta : Arv Z h0 ta kt .byte (0 : Int32) [] (.int (0 : Int32))) :
    Con l Z consts_1 n0 (⟨"com/example/holdfast/holdfast/rules/Where", "isCondition", "(Ljava/lang/String;)Z"⟩ : MethodName) prog_28_method_2_code 1 (some .boolean) ({ frames := 4, cells := 0, slots := 0, locals := 55 } : Room) #[(.ref xa)] h0 [] (fun v h V' => v = some (.int (isc [])) ∧ h0 = h) [] := by
  refine Con.of (a0 := a0) pf15 (fun m => ef_isc_0 m xa ta kt) all0 hO hEL ?_
  intro p e s m below meth c S0 hnm hsf W
  replace W := W.aloadN (pc' := 1) dprog_28_2_0 rfl rfl rfl
  replace W := W.bipush (pc' := 3) (v := (61 : Int32)) dprog_28_2_1 rfl rfl
  obtain ⟨V1, h1, r1, W1, K1, hQ1, SF1⟩ := W.callV (pc' := 6) (argsL := [(.int (61 : Int32))]) (rest := []) (Wd := 0) (cells' := 0) (slots' := 0) (a := xa) (C := "java/lang/String") (y := (⟨"java/lang/String", "indexOf", "(I)I"⟩ : MethodName)) (z := (⟨"java/lang/String", "indexOf", "(I)I"⟩ : MethodName)) dprog_28_2_3 (io1_0 l Z a0 n0 hw hEL G1 O1 P1 xa ta kt h0 W.old E_xa F_xa_coder F_xa_value V_ta) E_xa (w34 hw) (w35 hw) (Or.inl (w37 hw)) (w37 hw) (w36 hw) (w10 hw) (w38 hw) (by decide) (lenOf pd10 rfl) rfl rfl (by decide) (by decide) rfl sf0 all0 rfl rfl rfl (by decide) (by decide)
  clear W
  obtain ⟨rfl, hs1⟩ := hQ1
  subst hs1
  replace W1 := W1.cast (st' := [(.int (-1 : Int32))]) rfl
  replace W1 := W1.ifT (pc' := 13) dprog_28_2_6 (flt (by decide : ¬ ((0 : Int32) < (-1 : Int32)))).2.2.2 (by decide) (by decide)
  replace W1 := W1.iconst (pc' := 14) (v := (0 : Int32)) dprog_28_2_13 rfl rfl
  exact W1.iret (t := .boolean) dprog_28_2_14 rfl (by simp) (by decide) (by decide) (by decide) (fun V' cv => ⟨(by decide), rfl⟩)
theorem ef_make_0 (m : MethodId) (c0 : Int32) (c1 : Int32) (c2 : Int32) (c3 : Int32) (c4 : Int32) : entryFrame m #[(.int (0 : Int32)), (.int c0), (.int c1), (.int c2), (.int c3), (.int c4)] 6 = mkF m 0 #[.val (.int (0 : Int32)), .val (.int c0), .val (.int c1), .val (.int c2), .val (.int c3), .val (.int c4)] [] := by first | (simp [entryFrame, mkF, argsToLocals, Value.category]; done) | rfl
set_option maxRecDepth 65536 in
set_option maxHeartbeats 40000000 in
theorem make_0 (l : Launch) (Z : State) (a0 : Array Value) (n0 : Nat) (hw : ∀ d ∈ tables_1, d.before a0 Z = true) (hEL : EW Z a0 consts_1) (G1 : Int32) (O1 : Sta Z Z.heap "java/lang/String" "COMPACT_STRINGS" "Z" (.int G1)) (P1 : ¬ (G1 = (0 : Int32))) (c0 : Int32) (c1 : Int32) (c2 : Int32) (c3 : Int32) (c4 : Int32) (h0 : Heap) (hO : Old Z n0 h0) (hp_c0 : ¬ c0 < 0 ∧ ¬ (255 : Int32) < c0) (hp_c1 : ¬ c1 < 0 ∧ ¬ (255 : Int32) < c1) (hp_c2 : ¬ c2 < 0 ∧ ¬ (255 : Int32) < c2) (hp_c3 : ¬ c3 < 0 ∧ ¬ (255 : Int32) < c3) (hp_c4 : ¬ c4 < 0 ∧ ¬ (255 : Int32) < c4) :
    Con l Z consts_1 n0 (⟨"com/example/holdfast/holdfast/rules/WhereIsConditionPinLaw", "make", "(ICCCCC)Ljava/lang/String;"⟩ : MethodName) method_3_code 6 (some (.object "java/lang/String")) ({ frames := 3, cells := 4, slots := 8, locals := 43 } : Room) #[(.int (0 : Int32)), (.int c0), (.int c1), (.int c2), (.int c3), (.int c4)] h0 [] (fun v h V' => ∃ (xs : Addr) (t : Addr) (kt : ClassId), v = some (.ref xs) ∧ Exa Z h xs "java/lang/String" ∧ Fld Z h xs "java/lang/String" "coder" "B" (.int (0 : Int32)) ∧ Fld Z h xs "java/lang/String" "value" "[B" (.ref t) ∧ Arv Z h t kt .byte (0 : Int32) [] (.int (0 : Int32)) ∧ h0.size ≤ xs) [] := by
  refine Con.of (a0 := a0) pf16 (fun m => ef_make_0 m c0 c1 c2 c3 c4) all0 hO hEL ?_
  intro p e s m below meth c S0 hnm hsf W
  replace W := W.iloadN (pc' := 1) dm_3_0 rfl rfl
  replace W := W.ifF (pc' := 4) dm_3_1 (teq (by decide : (0 : Int32) = (0 : Int32))).2 rfl
  obtain ⟨h1, a1, W1, E1, g1, ⟨A1, D1, U1⟩, sf1, SF1⟩ := W.new (pc' := 7) (cells' := 1) (slots' := 4) dm_3_4 (w8 hw) (w9 hw) (w10 hw) rfl rfl rfl (by decide) (by decide)
  clear W
  rw [← g1] at A1 D1 U1
  have z1 : h0.size ≤ h1.size := E1.1
  replace W1 := W1.dup (pc' := 8) dm_3_7 rfl rfl
  replace W1 := W1.iconst (pc' := 9) (v := (0 : Int32)) dm_3_8 rfl rfl
  obtain ⟨h2, a2, W2, E2, g2, ⟨k2, A2⟩, sf2, SF2⟩ := W1.newarr (pc' := 11) (cap := 0) (cells' := 2) (slots' := 4) dm_3_9 (w11 hw) (by decide) (by decide) (by decide) rfl rfl rfl (by decide) (by decide)
  clear W1
  rw [← g2] at A2
  have z2 : h1.size ≤ h2.size := E2.1
  have v2 : Arv Z h2 a2 k2 .char (0 : Int32) [] (.int (0 : Int32)) := A2.pad (pad_rep [] (.int (0 : Int32)) 0)
  have e3 := (A1.ext E2)
  have f4 := ((D1 (Or.inr (w24 hw)) (ty := (.array .byte)) (by decide) : Fld Z h1 a1 "java/lang/String" "value" "[B" .null).ext E2)
  have f5 := ((D1 (Or.inr (w25 hw)) (ty := .byte) (by decide) : Fld Z h1 a1 "java/lang/String" "coder" "B" (.int (0 : Int32))).ext E2)
  have sf6 := (SF2 a1 sf1)
  obtain ⟨V7, h7, r7, W7, K7, hQ7, SF7⟩ := W2.callI (pc' := 14) (argsL := [(.ref a2)]) (rest := [(.ref a1)]) (Wd := 1) (cells' := 4) (slots' := 8) (a := a1) (y := (⟨"java/lang/String", "<init>", "([C)V"⟩ : MethodName)) dm_3_11 (new1_0 l Z a0 n0 hw hEL G1 O1 P1 a1 a2 k2 h2 W2.old e3 f4 f5 v2 (Nat.le_trans W2.1.2.2.2.2.2.2.2.1 (Nat.le_of_eq g1.symm))) rfl (w12 hw) (w13 hw) (w10 hw) (w14 hw) (by decide) (lenOf pd11 rfl) rfl rfl (by decide) (by decide) rfl (sfS sf6 sf0) (allS (Or.inr (Nat.le_of_eq g1.symm)) all0) rfl rfl rfl (by decide) (by decide)
  clear W2
  obtain ⟨t7, kt7, rfl, q7_1, q7_2, q7_3, q7_4⟩ := hQ7
  have z7 : h2.size ≤ h7.size := K7.1
  replace W7 := W7.cast (st' := [(.ref a1)]) rfl
  exact W7.aret (t := (.object "java/lang/String")) dm_3_14 rfl rfl rfl rfl (by decide) (by decide) (fun V' cv => ⟨a1, t7, kt7, rfl, q7_1, q7_2, q7_3, q7_4, (Nat.le_of_eq g1.symm)⟩)
theorem ef_len_1 (m : MethodId) (xa : Addr) (ta : Addr) (kt : ClassId) (b0 : Int32) : entryFrame m #[(.ref xa)] 1 = mkF m 0 #[.val (.ref xa)] [] := by first | (simp [entryFrame, mkF, argsToLocals, Value.category]; done) | rfl
set_option maxRecDepth 65536 in
set_option maxHeartbeats 40000000 in
theorem len_1 (l : Launch) (Z : State) (a0 : Array Value) (n0 : Nat) (hw : ∀ d ∈ tables_1, d.before a0 Z = true) (hEL : EW Z a0 consts_1) (G1 : Int32) (O1 : Sta Z Z.heap "java/lang/String" "COMPACT_STRINGS" "Z" (.int G1)) (P1 : ¬ (G1 = (0 : Int32))) (xa : Addr) (ta : Addr) (kt : ClassId) (b0 : Int32) (h0 : Heap) (hO : Old Z n0 h0) (E_xa : Exa Z h0 xa "java/lang/String") (F_xa_coder : Fld Z h0 xa "java/lang/String" "coder" "B" (.int (0 : Int32))) (F_xa_value : Fld Z h0 xa "java/lang/String" "value" "[B" (.ref ta)) (V_ta : Arv Z h0 ta kt .byte (1 : Int32) [(.int b0)] (.int (0 : Int32))) :
    Con l Z consts_1 n0 (⟨"java/lang/String", "length", "()I"⟩ : MethodName) jdk_42_method_54_code 1 (some .int) ({ frames := 1, cells := 0, slots := 0, locals := 13 } : Room) #[(.ref xa)] h0 [] (fun v h V' => v = some (.int (1 : Int32)) ∧ h0 = h) [] := by
  refine Con.of (a0 := a0) pf9 (fun m => ef_len_1 m xa ta kt b0) all0 hO hEL ?_
  intro p e s m below meth c S0 hnm hsf W
  replace W := W.aloadN (pc' := 1) djdk_42_54_0 rfl rfl rfl
  replace W := W.getf (pc' := 4) djdk_42_54_1 (w28 hw) Via.refl F_xa_value rfl
  replace W := W.alen (pc' := 5) djdk_42_54_4 V_ta rfl
  replace W := W.aloadN (pc' := 6) djdk_42_54_5 rfl rfl rfl
  obtain ⟨V1, h1, r1, W1, K1, hQ1, SF1⟩ := W.callV (pc' := 9) (argsL := []) (rest := [(.int (1 : Int32))]) (Wd := 1) (cells' := 0) (slots' := 0) (a := xa) (C := "java/lang/String") (y := (⟨"java/lang/String", "coder", "()B"⟩ : MethodName)) (z := (⟨"java/lang/String", "coder", "()B"⟩ : MethodName)) djdk_42_54_6 (coder_c l Z a0 n0 hw hEL G1 O1 P1 xa h0 W.old F_xa_coder) E_xa (w55 hw) (w56 hw) (Or.inl (w58 hw)) (w58 hw) (w57 hw) (w10 hw) (w59 hw) (by decide) (lenOf pd4 rfl) rfl rfl (by decide) (by decide) rfl sf0 all0 rfl rfl rfl (by decide) (by decide)
  clear W
  obtain ⟨rfl, hs1⟩ := hQ1
  subst hs1
  replace W1 := W1.cast (st' := [(.int (0 : Int32)), (.int (1 : Int32))]) rfl
  replace W1 := W1.ishr (pc' := 10) (v := (1 : Int32)) djdk_42_54_9 (by decide) rfl
  exact W1.iret (t := .int) djdk_42_54_10 rfl (by simp) rfl (by decide) (by decide) (fun V' cv => ⟨rfl, rfl⟩)
theorem ef_max_1 (m : MethodId)  : entryFrame m #[(.int (0 : Int32)), (.int (0 : Int32))] 2 = mkF m 0 #[.val (.int (0 : Int32)), .val (.int (0 : Int32))] [] := by first | (simp [entryFrame, mkF, argsToLocals, Value.category]; done) | rfl
set_option maxRecDepth 65536 in
set_option maxHeartbeats 40000000 in
theorem max_1 (l : Launch) (Z : State) (a0 : Array Value) (n0 : Nat) (hw : ∀ d ∈ tables_1, d.before a0 Z = true) (hEL : EW Z a0 consts_1) (G1 : Int32) (O1 : Sta Z Z.heap "java/lang/String" "COMPACT_STRINGS" "Z" (.int G1)) (P1 : ¬ (G1 = (0 : Int32)))  (h0 : Heap) (hO : Old Z n0 h0)  :
    Con l Z consts_1 n0 (⟨"java/lang/Math", "max", "(II)I"⟩ : MethodName) jdk_29_method_65_code 2 (some .int) ({ frames := 0, cells := 0, slots := 0, locals := 0 } : Room) #[(.int (0 : Int32)), (.int (0 : Int32))] h0 [] (fun v h V' => v = some (.int (0 : Int32)) ∧ h0 = h) [] := by
  refine Con.of (a0 := a0) pf10 (fun m => ef_max_1 m ) all0 hO hEL ?_
  intro p e s m below meth c S0 hnm hsf W
  replace W := W.iloadN (pc' := 1) djdk_29_65_0 rfl rfl
  replace W := W.iloadN (pc' := 2) djdk_29_65_1 rfl rfl
  replace W := W.icmpF (pc' := 5) djdk_29_65_2 (flt (by decide : ¬ ((0 : Int32) < (0 : Int32)))).1 rfl
  replace W := W.iloadN (pc' := 6) djdk_29_65_5 rfl rfl
  replace W := W.goto (pc' := 10) djdk_29_65_6 (by decide) (by decide)
  exact W.iret (t := .int) djdk_29_65_10 rfl (by simp) rfl (by decide) (by decide) (fun V' cv => ⟨rfl, rfl⟩)
theorem ef_min_1 (m : MethodId)  : entryFrame m #[(.int (1 : Int32)), (.int (1 : Int32))] 2 = mkF m 0 #[.val (.int (1 : Int32)), .val (.int (1 : Int32))] [] := by first | (simp [entryFrame, mkF, argsToLocals, Value.category]; done) | rfl
set_option maxRecDepth 65536 in
set_option maxHeartbeats 40000000 in
theorem min_1 (l : Launch) (Z : State) (a0 : Array Value) (n0 : Nat) (hw : ∀ d ∈ tables_1, d.before a0 Z = true) (hEL : EW Z a0 consts_1) (G1 : Int32) (O1 : Sta Z Z.heap "java/lang/String" "COMPACT_STRINGS" "Z" (.int G1)) (P1 : ¬ (G1 = (0 : Int32)))  (h0 : Heap) (hO : Old Z n0 h0)  :
    Con l Z consts_1 n0 (⟨"java/lang/Math", "min", "(II)I"⟩ : MethodName) jdk_29_method_69_code 2 (some .int) ({ frames := 0, cells := 0, slots := 0, locals := 0 } : Room) #[(.int (1 : Int32)), (.int (1 : Int32))] h0 [] (fun v h V' => v = some (.int (1 : Int32)) ∧ h0 = h) [] := by
  refine Con.of (a0 := a0) pf11 (fun m => ef_min_1 m ) all0 hO hEL ?_
  intro p e s m below meth c S0 hnm hsf W
  replace W := W.iloadN (pc' := 1) djdk_29_69_0 rfl rfl
  replace W := W.iloadN (pc' := 2) djdk_29_69_1 rfl rfl
  replace W := W.icmpF (pc' := 5) djdk_29_69_2 (flt (by decide : ¬ ((1 : Int32) < (1 : Int32)))).2.2.1 rfl
  replace W := W.iloadN (pc' := 6) djdk_29_69_5 rfl rfl
  replace W := W.goto (pc' := 10) djdk_29_69_6 (by decide) (by decide)
  exact W.iret (t := .int) djdk_29_69_10 rfl (by simp) rfl (by decide) (by decide) (fun V' cv => ⟨rfl, rfl⟩)
theorem ef_ioc_1 (m : MethodId) (ta : Addr) (kt : ClassId) (b0 : Int32) : entryFrame m #[(.ref ta), (.int (61 : Int32)), (.int (0 : Int32)), (.int (1 : Int32))] 6 = mkF m 0 #[.val (.ref ta), .val (.int (61 : Int32)), .val (.int (0 : Int32)), .val (.int (1 : Int32)), .unset, .unset] [] := by first | (simp [entryFrame, mkF, argsToLocals, Value.category]; done) | rfl
set_option maxRecDepth 65536 in
set_option maxHeartbeats 40000000 in
theorem ioc_1 (l : Launch) (Z : State) (a0 : Array Value) (n0 : Nat) (hw : ∀ d ∈ tables_1, d.before a0 Z = true) (hEL : EW Z a0 consts_1) (G1 : Int32) (O1 : Sta Z Z.heap "java/lang/String" "COMPACT_STRINGS" "Z" (.int G1)) (P1 : ¬ (G1 = (0 : Int32))) (ta : Addr) (kt : ClassId) (b0 : Int32) (h0 : Heap) (hO : Old Z n0 h0) (V_ta : Arv Z h0 ta kt .byte (1 : Int32) [(.int b0)] (.int (0 : Int32))) :
    Con l Z consts_1 n0 (⟨"java/lang/StringLatin1", "indexOfChar", "([BIII)I"⟩ : MethodName) jdk_43_method_23_code 6 (some .int) ({ frames := 0, cells := 0, slots := 0, locals := 0 } : Room) #[(.ref ta), (.int (61 : Int32)), (.int (0 : Int32)), (.int (1 : Int32))] h0 [] (fun v h V' => v = some (.int (ix (61 : Int32) [b0] (0 : Int32))) ∧ h0 = h) [] := by
  refine Con.of (a0 := a0) pf17 (fun m => ef_ioc_1 m ta kt b0) all0 hO hEL ?_
  intro p e s m below meth c S0 hnm hsf W
  replace W := W.iloadN (pc' := 1) djdk_43_23_0 rfl rfl
  replace W := W.i2b (pc' := 2) (v := (61 : Int32)) djdk_43_23_1 (by decide) rfl
  replace W := W.istore (pc' := 4) (L' := #[.val (.ref ta), .val (.int (61 : Int32)), .val (.int (0 : Int32)), .val (.int (1 : Int32)), .val (.int (61 : Int32)), .unset]) djdk_43_23_2 rfl rfl
  replace W := W.iloadN (pc' := 5) djdk_43_23_4 rfl rfl
  replace W := W.istore (pc' := 7) (L' := #[.val (.ref ta), .val (.int (61 : Int32)), .val (.int (0 : Int32)), .val (.int (1 : Int32)), .val (.int (61 : Int32)), .val (.int (0 : Int32))]) djdk_43_23_5 rfl rfl
  replace W := W.iload (pc' := 9) djdk_43_23_7 rfl rfl
  replace W := W.iloadN (pc' := 10) djdk_43_23_9 rfl rfl
  replace W := W.icmpF (pc' := 13) djdk_43_23_10 (tlt (by decide : (0 : Int32) < (1 : Int32))).2.1 rfl
  replace W := W.aloadN (pc' := 14) djdk_43_23_13 rfl rfl rfl
  replace W := W.iload (pc' := 16) djdk_43_23_14 rfl rfl
  replace W := W.baload (pc' := 17) (w := (.int b0)) djdk_43_23_16 V_ta ⟨by decide, by decide⟩ rfl rfl
  replace W := W.iload (pc' := 19) djdk_43_23_17 rfl rfl
  by_cases c1 : b0 = (61 : Int32)
  · replace W := W.icmpF (pc' := 22) djdk_43_23_19 (teq c1).2 rfl
    replace W := W.iload (pc' := 24) djdk_43_23_22 rfl rfl
    exact W.iret (t := .int) djdk_43_23_24 rfl (by simp) rfl (by decide) (by decide) (fun V' cv => ⟨(by simp [ix, c1]), rfl⟩)
  · replace W := W.icmpT (pc' := 25) djdk_43_23_19 (feq c1).2 (by decide) (by decide)
    replace W := W.iinc (pc' := 28) (v := (1 : Int32)) (L' := #[.val (.ref ta), .val (.int (61 : Int32)), .val (.int (0 : Int32)), .val (.int (1 : Int32)), .val (.int (61 : Int32)), .val (.int (1 : Int32))]) djdk_43_23_25 rfl (by decide) rfl rfl
    replace W := W.goto (pc' := 7) djdk_43_23_28 (by decide) (by decide)
    replace W := W.iload (pc' := 9) djdk_43_23_7 rfl rfl
    replace W := W.iloadN (pc' := 10) djdk_43_23_9 rfl rfl
    replace W := W.icmpT (pc' := 31) djdk_43_23_10 (flt (by decide : ¬ ((1 : Int32) < (1 : Int32)))).2.1 (by decide) (by decide)
    replace W := W.iconst (pc' := 32) (v := (-1 : Int32)) djdk_43_23_31 rfl rfl
    exact W.iret (t := .int) djdk_43_23_32 rfl (by simp) rfl (by decide) (by decide) (fun V' cv => ⟨(by simp [ix, c1]), rfl⟩)
theorem ef_lio_1 (m : MethodId) (ta : Addr) (kt : ClassId) (b0 : Int32) : entryFrame m #[(.ref ta), (.int (61 : Int32)), (.int (0 : Int32)), (.int (1 : Int32))] 4 = mkF m 0 #[.val (.ref ta), .val (.int (61 : Int32)), .val (.int (0 : Int32)), .val (.int (1 : Int32))] [] := by first | (simp [entryFrame, mkF, argsToLocals, Value.category]; done) | rfl
set_option maxRecDepth 65536 in
set_option maxHeartbeats 40000000 in
theorem lio_1 (l : Launch) (Z : State) (a0 : Array Value) (n0 : Nat) (hw : ∀ d ∈ tables_1, d.before a0 Z = true) (hEL : EW Z a0 consts_1) (G1 : Int32) (O1 : Sta Z Z.heap "java/lang/String" "COMPACT_STRINGS" "Z" (.int G1)) (P1 : ¬ (G1 = (0 : Int32))) (ta : Addr) (kt : ClassId) (b0 : Int32) (h0 : Heap) (hO : Old Z n0 h0) (V_ta : Arv Z h0 ta kt .byte (1 : Int32) [(.int b0)] (.int (0 : Int32))) :
    Con l Z consts_1 n0 (⟨"java/lang/StringLatin1", "indexOf", "([BIII)I"⟩ : MethodName) jdk_43_method_22_code 4 (some .int) ({ frames := 1, cells := 0, slots := 0, locals := 17 } : Room) #[(.ref ta), (.int (61 : Int32)), (.int (0 : Int32)), (.int (1 : Int32))] h0 [] (fun v h V' => v = some (.int (ix (61 : Int32) [b0] (0 : Int32))) ∧ h0 = h) [] := by
  refine Con.of (a0 := a0) pf12 (fun m => ef_lio_1 m ta kt b0) all0 hO hEL ?_
  intro p e s m below meth c S0 hnm hsf W
  replace W := W.iloadN (pc' := 1) djdk_43_22_0 rfl rfl
  obtain ⟨V1, h1, r1, W1, K1, hQ1, SF1⟩ := W.callS (pc' := 4) (argsL := [(.int (61 : Int32))]) (rest := []) (Wd := 0) (cells' := 0) (slots' := 0) (y := (⟨"java/lang/StringLatin1", "canEncode", "(I)Z"⟩ : MethodName)) djdk_43_22_1 (canenc l Z a0 n0 hw hEL G1 O1 P1 h0 W.old) (w64 hw) (w65 hw) (w62 hw) (w66 hw) (by decide) (lenOf pd5 rfl) rfl rfl (by decide) (by decide) rfl sf0 all0 rfl rfl rfl (by decide) (by decide)
  clear W
  obtain ⟨rfl, hs1⟩ := hQ1
  subst hs1
  replace W1 := W1.cast (st' := [(.int (1 : Int32))]) rfl
  replace W1 := W1.ifT (pc' := 9) djdk_43_22_4 (feq (by decide : ¬ ((1 : Int32) = (0 : Int32)))).2 (by decide) (by decide)
  replace W1 := W1.iloadN (pc' := 10) djdk_43_22_9 rfl rfl
  replace W1 := W1.iconst (pc' := 11) (v := (0 : Int32)) djdk_43_22_10 rfl rfl
  obtain ⟨V2, h2, r2, W2, K2, hQ2, SF2⟩ := W1.callS (pc' := 14) (argsL := [(.int (0 : Int32)), (.int (0 : Int32))]) (rest := []) (Wd := 0) (cells' := 0) (slots' := 0) (y := (⟨"java/lang/Math", "max", "(II)I"⟩ : MethodName)) djdk_43_22_11 (max_1 l Z a0 n0 hw hEL G1 O1 P1 h0 W1.old) (w67 hw) (w68 hw) (w69 hw) (w70 hw) (by decide) (lenOf pd6 rfl) rfl rfl (by decide) (by decide) rfl sf0 all0 rfl rfl rfl (by decide) (by decide)
  clear W1
  obtain ⟨rfl, hs2⟩ := hQ2
  subst hs2
  replace W2 := W2.cast (st' := [(.int (0 : Int32))]) rfl
  replace W2 := W2.istoreN (pc' := 15) (L' := #[.val (.ref ta), .val (.int (61 : Int32)), .val (.int (0 : Int32)), .val (.int (1 : Int32))]) djdk_43_22_14 rfl rfl
  replace W2 := W2.iloadN (pc' := 16) djdk_43_22_15 rfl rfl
  replace W2 := W2.aloadN (pc' := 17) djdk_43_22_16 rfl rfl rfl
  replace W2 := W2.alen (pc' := 18) djdk_43_22_17 V_ta rfl
  obtain ⟨V3, h3, r3, W3, K3, hQ3, SF3⟩ := W2.callS (pc' := 21) (argsL := [(.int (1 : Int32)), (.int (1 : Int32))]) (rest := []) (Wd := 0) (cells' := 0) (slots' := 0) (y := (⟨"java/lang/Math", "min", "(II)I"⟩ : MethodName)) djdk_43_22_18 (min_1 l Z a0 n0 hw hEL G1 O1 P1 h0 W2.old) (w71 hw) (w72 hw) (w69 hw) (w73 hw) (by decide) (lenOf pd6 rfl) rfl rfl (by decide) (by decide) rfl sf0 all0 rfl rfl rfl (by decide) (by decide)
  clear W2
  obtain ⟨rfl, hs3⟩ := hQ3
  subst hs3
  replace W3 := W3.cast (st' := [(.int (1 : Int32))]) rfl
  replace W3 := W3.istoreN (pc' := 22) (L' := #[.val (.ref ta), .val (.int (61 : Int32)), .val (.int (0 : Int32)), .val (.int (1 : Int32))]) djdk_43_22_21 rfl rfl
  replace W3 := W3.iloadN (pc' := 23) djdk_43_22_22 rfl rfl
  replace W3 := W3.iloadN (pc' := 24) djdk_43_22_23 rfl rfl
  replace W3 := W3.icmpT (pc' := 29) djdk_43_22_24 (tlt (by decide : (0 : Int32) < (1 : Int32))).1 (by decide) (by decide)
  replace W3 := W3.aloadN (pc' := 30) djdk_43_22_29 rfl rfl rfl
  replace W3 := W3.iloadN (pc' := 31) djdk_43_22_30 rfl rfl
  replace W3 := W3.iloadN (pc' := 32) djdk_43_22_31 rfl rfl
  replace W3 := W3.iloadN (pc' := 33) djdk_43_22_32 rfl rfl
  obtain ⟨V4, h4, r4, W4, K4, hQ4, SF4⟩ := W3.callS (pc' := 36) (argsL := [(.ref ta), (.int (61 : Int32)), (.int (0 : Int32)), (.int (1 : Int32))]) (rest := []) (Wd := 0) (cells' := 0) (slots' := 0) (y := (⟨"java/lang/StringLatin1", "indexOfChar", "([BIII)I"⟩ : MethodName)) djdk_43_22_33 (ioc_1 l Z a0 n0 hw hEL G1 O1 P1 ta kt b0 h0 W3.old V_ta) (w84 hw) (w85 hw) (w62 hw) (w86 hw) (by decide) (lenOf pd9 rfl) rfl rfl (by decide) (by decide) rfl sf0 all0 rfl rfl rfl (by decide) (by decide)
  clear W3
  obtain ⟨rfl, hs4⟩ := hQ4
  subst hs4
  replace W4 := W4.cast (st' := [(.int (ix (61 : Int32) [b0] (0 : Int32)))]) rfl
  exact W4.iret (t := .int) djdk_43_22_36 rfl (by simp) rfl (by decide) (by decide) (fun V' cv => ⟨rfl, rfl⟩)
theorem ef_io2_1 (m : MethodId) (xa : Addr) (ta : Addr) (kt : ClassId) (b0 : Int32) : entryFrame m #[(.ref xa), (.int (61 : Int32)), (.int (0 : Int32))] 3 = mkF m 0 #[.val (.ref xa), .val (.int (61 : Int32)), .val (.int (0 : Int32))] [] := by first | (simp [entryFrame, mkF, argsToLocals, Value.category]; done) | rfl
set_option maxRecDepth 65536 in
set_option maxHeartbeats 40000000 in
theorem io2_1 (l : Launch) (Z : State) (a0 : Array Value) (n0 : Nat) (hw : ∀ d ∈ tables_1, d.before a0 Z = true) (hEL : EW Z a0 consts_1) (G1 : Int32) (O1 : Sta Z Z.heap "java/lang/String" "COMPACT_STRINGS" "Z" (.int G1)) (P1 : ¬ (G1 = (0 : Int32))) (xa : Addr) (ta : Addr) (kt : ClassId) (b0 : Int32) (h0 : Heap) (hO : Old Z n0 h0) (E_xa : Exa Z h0 xa "java/lang/String") (F_xa_coder : Fld Z h0 xa "java/lang/String" "coder" "B" (.int (0 : Int32))) (F_xa_value : Fld Z h0 xa "java/lang/String" "value" "[B" (.ref ta)) (V_ta : Arv Z h0 ta kt .byte (1 : Int32) [(.int b0)] (.int (0 : Int32))) :
    Con l Z consts_1 n0 (⟨"java/lang/String", "indexOf", "(II)I"⟩ : MethodName) jdk_42_method_80_code 3 (some .int) ({ frames := 2, cells := 0, slots := 0, locals := 32 } : Room) #[(.ref xa), (.int (61 : Int32)), (.int (0 : Int32))] h0 [] (fun v h V' => v = some (.int (ix (61 : Int32) [b0] (0 : Int32))) ∧ h0 = h) [] := by
  refine Con.of (a0 := a0) pf13 (fun m => ef_io2_1 m xa ta kt b0) all0 hO hEL ?_
  intro p e s m below meth c S0 hnm hsf W
  replace W := W.aloadN (pc' := 1) djdk_42_80_0 rfl rfl rfl
  obtain ⟨V1, h1, r1, W1, K1, hQ1, SF1⟩ := W.callV (pc' := 4) (argsL := []) (rest := []) (Wd := 0) (cells' := 0) (slots' := 0) (a := xa) (C := "java/lang/String") (y := (⟨"java/lang/String", "isLatin1", "()Z"⟩ : MethodName)) (z := (⟨"java/lang/String", "isLatin1", "()Z"⟩ : MethodName)) djdk_42_80_1 (islat l Z a0 n0 hw hEL G1 O1 P1 xa h0 W.old F_xa_coder) E_xa (w44 hw) (w45 hw) (Or.inl (w47 hw)) (w47 hw) (w46 hw) (w10 hw) (w48 hw) (by decide) (lenOf pd7 rfl) rfl rfl (by decide) (by decide) rfl sf0 all0 rfl rfl rfl (by decide) (by decide)
  clear W
  obtain ⟨rfl, hs1⟩ := hQ1
  subst hs1
  replace W1 := W1.cast (st' := [(.int (1 : Int32))]) rfl
  replace W1 := W1.ifF (pc' := 7) djdk_42_80_4 (feq (by decide : ¬ ((1 : Int32) = (0 : Int32)))).1 rfl
  replace W1 := W1.aloadN (pc' := 8) djdk_42_80_7 rfl rfl rfl
  replace W1 := W1.getf (pc' := 11) djdk_42_80_8 (w28 hw) Via.refl F_xa_value rfl
  replace W1 := W1.iloadN (pc' := 12) djdk_42_80_11 rfl rfl
  replace W1 := W1.iloadN (pc' := 13) djdk_42_80_12 rfl rfl
  replace W1 := W1.aloadN (pc' := 14) djdk_42_80_13 rfl rfl rfl
  obtain ⟨V2, h2, r2, W2, K2, hQ2, SF2⟩ := W1.callV (pc' := 17) (argsL := []) (rest := [(.int (0 : Int32)), (.int (61 : Int32)), (.ref ta)]) (Wd := 3) (cells' := 0) (slots' := 0) (a := xa) (C := "java/lang/String") (y := (⟨"java/lang/String", "length", "()I"⟩ : MethodName)) (z := (⟨"java/lang/String", "length", "()I"⟩ : MethodName)) djdk_42_80_14 (len_1 l Z a0 n0 hw hEL G1 O1 P1 xa ta kt b0 h0 W1.old E_xa F_xa_coder F_xa_value V_ta) E_xa (w50 hw) (w51 hw) (Or.inl (w53 hw)) (w53 hw) (w52 hw) (w10 hw) (w54 hw) (by decide) (lenOf pd8 rfl) rfl rfl (by decide) (by decide) rfl sf0 all0 rfl rfl rfl (by decide) (by decide)
  clear W1
  obtain ⟨rfl, hs2⟩ := hQ2
  subst hs2
  replace W2 := W2.cast (st' := [(.int (1 : Int32)), (.int (0 : Int32)), (.int (61 : Int32)), (.ref ta)]) rfl
  obtain ⟨V3, h3, r3, W3, K3, hQ3, SF3⟩ := W2.callS (pc' := 20) (argsL := [(.ref ta), (.int (61 : Int32)), (.int (0 : Int32)), (.int (1 : Int32))]) (rest := []) (Wd := 0) (cells' := 0) (slots' := 0) (y := (⟨"java/lang/StringLatin1", "indexOf", "([BIII)I"⟩ : MethodName)) djdk_42_80_17 (lio_1 l Z a0 n0 hw hEL G1 O1 P1 ta kt b0 h0 W2.old V_ta) (w60 hw) (w61 hw) (w62 hw) (w63 hw) (by decide) (lenOf pd9 rfl) rfl rfl (by decide) (by decide) rfl sf0 all0 rfl rfl rfl (by decide) (by decide)
  clear W2
  obtain ⟨rfl, hs3⟩ := hQ3
  subst hs3
  replace W3 := W3.cast (st' := [(.int (ix (61 : Int32) [b0] (0 : Int32)))]) rfl
  replace W3 := W3.goto (pc' := 36) djdk_42_80_20 (by decide) (by decide)
  exact W3.iret (t := .int) djdk_42_80_36 rfl (by simp) rfl (by decide) (by decide) (fun V' cv => ⟨rfl, rfl⟩)
theorem ef_io1_1 (m : MethodId) (xa : Addr) (ta : Addr) (kt : ClassId) (b0 : Int32) : entryFrame m #[(.ref xa), (.int (61 : Int32))] 2 = mkF m 0 #[.val (.ref xa), .val (.int (61 : Int32))] [] := by first | (simp [entryFrame, mkF, argsToLocals, Value.category]; done) | rfl
set_option maxRecDepth 65536 in
set_option maxHeartbeats 40000000 in
theorem io1_1 (l : Launch) (Z : State) (a0 : Array Value) (n0 : Nat) (hw : ∀ d ∈ tables_1, d.before a0 Z = true) (hEL : EW Z a0 consts_1) (G1 : Int32) (O1 : Sta Z Z.heap "java/lang/String" "COMPACT_STRINGS" "Z" (.int G1)) (P1 : ¬ (G1 = (0 : Int32))) (xa : Addr) (ta : Addr) (kt : ClassId) (b0 : Int32) (h0 : Heap) (hO : Old Z n0 h0) (E_xa : Exa Z h0 xa "java/lang/String") (F_xa_coder : Fld Z h0 xa "java/lang/String" "coder" "B" (.int (0 : Int32))) (F_xa_value : Fld Z h0 xa "java/lang/String" "value" "[B" (.ref ta)) (V_ta : Arv Z h0 ta kt .byte (1 : Int32) [(.int b0)] (.int (0 : Int32))) :
    Con l Z consts_1 n0 (⟨"java/lang/String", "indexOf", "(I)I"⟩ : MethodName) jdk_42_method_79_code 2 (some .int) ({ frames := 3, cells := 0, slots := 0, locals := 46 } : Room) #[(.ref xa), (.int (61 : Int32))] h0 [] (fun v h V' => v = some (.int (ix (61 : Int32) [b0] (0 : Int32))) ∧ h0 = h) [] := by
  refine Con.of (a0 := a0) pf14 (fun m => ef_io1_1 m xa ta kt b0) all0 hO hEL ?_
  intro p e s m below meth c S0 hnm hsf W
  replace W := W.aloadN (pc' := 1) djdk_42_79_0 rfl rfl rfl
  replace W := W.iloadN (pc' := 2) djdk_42_79_1 rfl rfl
  replace W := W.iconst (pc' := 3) (v := (0 : Int32)) djdk_42_79_2 rfl rfl
  obtain ⟨V1, h1, r1, W1, K1, hQ1, SF1⟩ := W.callV (pc' := 6) (argsL := [(.int (61 : Int32)), (.int (0 : Int32))]) (rest := []) (Wd := 0) (cells' := 0) (slots' := 0) (a := xa) (C := "java/lang/String") (y := (⟨"java/lang/String", "indexOf", "(II)I"⟩ : MethodName)) (z := (⟨"java/lang/String", "indexOf", "(II)I"⟩ : MethodName)) djdk_42_79_3 (io2_1 l Z a0 n0 hw hEL G1 O1 P1 xa ta kt b0 h0 W.old E_xa F_xa_coder F_xa_value V_ta) E_xa (w39 hw) (w40 hw) (Or.inl (w42 hw)) (w42 hw) (w41 hw) (w10 hw) (w43 hw) (by decide) (lenOf pd6 rfl) rfl rfl (by decide) (by decide) rfl sf0 all0 rfl rfl rfl (by decide) (by decide)
  clear W
  obtain ⟨rfl, hs1⟩ := hQ1
  subst hs1
  replace W1 := W1.cast (st' := [(.int (ix (61 : Int32) [b0] (0 : Int32)))]) rfl
  exact W1.iret (t := .int) djdk_42_79_6 rfl (by simp) rfl (by decide) (by decide) (fun V' cv => ⟨rfl, rfl⟩)
theorem ef_isc_1 (m : MethodId) (xa : Addr) (ta : Addr) (kt : ClassId) (b0 : Int32) : entryFrame m #[(.ref xa)] 1 = mkF m 0 #[.val (.ref xa)] [] := by first | (simp [entryFrame, mkF, argsToLocals, Value.category]; done) | rfl
set_option maxRecDepth 65536 in
set_option maxHeartbeats 40000000 in
theorem isc_1 (l : Launch) (Z : State) (a0 : Array Value) (n0 : Nat) (hw : ∀ d ∈ tables_1, d.before a0 Z = true) (hEL : EW Z a0 consts_1) (G1 : Int32) (O1 : Sta Z Z.heap "java/lang/String" "COMPACT_STRINGS" "Z" (.int G1)) (P1 : ¬ (G1 = (0 : Int32))) (xa : Addr) (ta : Addr) (kt : ClassId) (b0 : Int32) (h0 : Heap) (hO : Old Z n0 h0) (E_xa : Exa Z h0 xa "java/lang/String") (F_xa_coder : Fld Z h0 xa "java/lang/String" "coder" "B" (.int (0 : Int32))) (F_xa_value : Fld Z h0 xa "java/lang/String" "value" "[B" (.ref ta)) (V_ta : Arv Z h0 ta kt .byte (1 : Int32) [(.int b0)] (.int (0 : Int32))) :
    Con l Z consts_1 n0 (⟨"com/example/holdfast/holdfast/rules/Where", "isCondition", "(Ljava/lang/String;)Z"⟩ : MethodName) prog_28_method_2_code 1 (some .boolean) ({ frames := 4, cells := 0, slots := 0, locals := 59 } : Room) #[(.ref xa)] h0 [] (fun v h V' => v = some (.int (isc [b0])) ∧ h0 = h) [] := by
  refine Con.of (a0 := a0) pf15 (fun m => ef_isc_1 m xa ta kt b0) all0 hO hEL ?_
  intro p e s m below meth c S0 hnm hsf W
  replace W := W.aloadN (pc' := 1) dprog_28_2_0 rfl rfl rfl
  replace W := W.bipush (pc' := 3) (v := (61 : Int32)) dprog_28_2_1 rfl rfl
  obtain ⟨V1, h1, r1, W1, K1, hQ1, SF1⟩ := W.callV (pc' := 6) (argsL := [(.int (61 : Int32))]) (rest := []) (Wd := 0) (cells' := 0) (slots' := 0) (a := xa) (C := "java/lang/String") (y := (⟨"java/lang/String", "indexOf", "(I)I"⟩ : MethodName)) (z := (⟨"java/lang/String", "indexOf", "(I)I"⟩ : MethodName)) dprog_28_2_3 (io1_1 l Z a0 n0 hw hEL G1 O1 P1 xa ta kt b0 h0 W.old E_xa F_xa_coder F_xa_value V_ta) E_xa (w34 hw) (w35 hw) (Or.inl (w37 hw)) (w37 hw) (w36 hw) (w10 hw) (w38 hw) (by decide) (lenOf pd10 rfl) rfl rfl (by decide) (by decide) rfl sf0 all0 rfl rfl rfl (by decide) (by decide)
  clear W
  obtain ⟨rfl, hs1⟩ := hQ1
  subst hs1
  replace W1 := W1.cast (st' := [(.int (ix (61 : Int32) [b0] (0 : Int32)))]) rfl
  by_cases c2 : (0 : Int32) < (ix (61 : Int32) [b0] (0 : Int32))
  · replace W1 := W1.ifF (pc' := 9) dprog_28_2_6 (tlt c2).2.2.2 rfl
    replace W1 := W1.iconst (pc' := 10) (v := (1 : Int32)) dprog_28_2_9 rfl rfl
    replace W1 := W1.goto (pc' := 14) dprog_28_2_10 (by decide) (by decide)
    exact W1.iret (t := .boolean) dprog_28_2_14 rfl (by simp) (by decide) (by decide) (by decide) (fun V' cv => ⟨(by simp [isc, c2]), rfl⟩)
  · replace W1 := W1.ifT (pc' := 13) dprog_28_2_6 (flt c2).2.2.2 (by decide) (by decide)
    replace W1 := W1.iconst (pc' := 14) (v := (0 : Int32)) dprog_28_2_13 rfl rfl
    exact W1.iret (t := .boolean) dprog_28_2_14 rfl (by simp) (by decide) (by decide) (by decide) (fun V' cv => ⟨(by simp [isc, c2]), rfl⟩)
theorem ef_make_1 (m : MethodId) (c0 : Int32) (c1 : Int32) (c2 : Int32) (c3 : Int32) (c4 : Int32) : entryFrame m #[(.int (1 : Int32)), (.int c0), (.int c1), (.int c2), (.int c3), (.int c4)] 6 = mkF m 0 #[.val (.int (1 : Int32)), .val (.int c0), .val (.int c1), .val (.int c2), .val (.int c3), .val (.int c4)] [] := by first | (simp [entryFrame, mkF, argsToLocals, Value.category]; done) | rfl
set_option maxRecDepth 65536 in
set_option maxHeartbeats 40000000 in
theorem make_1 (l : Launch) (Z : State) (a0 : Array Value) (n0 : Nat) (hw : ∀ d ∈ tables_1, d.before a0 Z = true) (hEL : EW Z a0 consts_1) (G1 : Int32) (O1 : Sta Z Z.heap "java/lang/String" "COMPACT_STRINGS" "Z" (.int G1)) (P1 : ¬ (G1 = (0 : Int32))) (c0 : Int32) (c1 : Int32) (c2 : Int32) (c3 : Int32) (c4 : Int32) (h0 : Heap) (hO : Old Z n0 h0) (hp_c0 : ¬ c0 < 0 ∧ ¬ (255 : Int32) < c0) (hp_c1 : ¬ c1 < 0 ∧ ¬ (255 : Int32) < c1) (hp_c2 : ¬ c2 < 0 ∧ ¬ (255 : Int32) < c2) (hp_c3 : ¬ c3 < 0 ∧ ¬ (255 : Int32) < c3) (hp_c4 : ¬ c4 < 0 ∧ ¬ (255 : Int32) < c4) :
    Con l Z consts_1 n0 (⟨"com/example/holdfast/holdfast/rules/WhereIsConditionPinLaw", "make", "(ICCCCC)Ljava/lang/String;"⟩ : MethodName) method_3_code 6 (some (.object "java/lang/String")) ({ frames := 4, cells := 3, slots := 6, locals := 66 } : Room) #[(.int (1 : Int32)), (.int c0), (.int c1), (.int c2), (.int c3), (.int c4)] h0 [] (fun v h V' => ∃ (xs : Addr) (t : Addr) (kt : ClassId), v = some (.ref xs) ∧ Exa Z h xs "java/lang/String" ∧ Fld Z h xs "java/lang/String" "coder" "B" (.int (0 : Int32)) ∧ Fld Z h xs "java/lang/String" "value" "[B" (.ref t) ∧ Arv Z h t kt .byte (1 : Int32) [(.int (c0.toInt8.toInt32))] (.int (0 : Int32)) ∧ h0.size ≤ xs) [] := by
  refine Con.of (a0 := a0) pf16 (fun m => ef_make_1 m c0 c1 c2 c3 c4) all0 hO hEL ?_
  intro p e s m below meth c S0 hnm hsf W
  replace W := W.iloadN (pc' := 1) dm_3_0 rfl rfl
  replace W := W.ifT (pc' := 15) dm_3_1 (feq (by decide : ¬ ((1 : Int32) = (0 : Int32)))).2 (by decide) (by decide)
  replace W := W.iloadN (pc' := 16) dm_3_15 rfl rfl
  replace W := W.iconst (pc' := 17) (v := (1 : Int32)) dm_3_16 rfl rfl
  replace W := W.icmpF (pc' := 20) dm_3_17 (teq (by decide : (1 : Int32) = (1 : Int32))).2 rfl
  obtain ⟨h1, a1, W1, E1, g1, ⟨A1, D1, U1⟩, sf1, SF1⟩ := W.new (pc' := 23) (cells' := 1) (slots' := 4) dm_3_20 (w8 hw) (w9 hw) (w10 hw) rfl rfl rfl (by decide) (by decide)
  clear W
  rw [← g1] at A1 D1 U1
  have z1 : h0.size ≤ h1.size := E1.1
  replace W1 := W1.dup (pc' := 24) dm_3_23 rfl rfl
  replace W1 := W1.iconst (pc' := 25) (v := (1 : Int32)) dm_3_24 rfl rfl
  obtain ⟨h2, a2, W2, E2, g2, ⟨k2, A2⟩, sf2, SF2⟩ := W1.newarr (pc' := 27) (cap := 1) (cells' := 2) (slots' := 5) dm_3_25 (w11 hw) (by decide) (by decide) (by decide) rfl rfl rfl (by decide) (by decide)
  clear W1
  rw [← g2] at A2
  have z2 : h1.size ≤ h2.size := E2.1
  have v2 : Arv Z h2 a2 k2 .char (1 : Int32) [(.int (0 : Int32))] (.int (0 : Int32)) := A2.pad (pad_rep [] (.int (0 : Int32)) 1)
  replace W2 := W2.dup (pc' := 28) dm_3_27 rfl rfl
  replace W2 := W2.iconst (pc' := 29) (v := (0 : Int32)) dm_3_28 rfl rfl
  replace W2 := W2.iloadN (pc' := 30) dm_3_29 rfl rfl
  obtain ⟨h3, W3, w3, A3, SF3⟩ := W2.castore (pc' := 31) (i := 0) (x' := c0) dm_3_30 v2 ⟨by decide, by decide⟩ rfl (by show 0 < 1; decide) (own_narc (own_up hp_c0)) (W2.safeA v2 (by decide)) (Or.inr (Nat.le_trans z1 (Nat.le_of_eq g2.symm))) rfl
  clear W2
  have z3 : h2.size ≤ h3.size := Nat.le_of_eq w3.size.symm
  have v3 : Arv Z h3 a2 k2 .char (1 : Int32) [(.int c0)] (.int (0 : Int32)) := A3
  have e4 := ((A1.ext E2).wr w3)
  have f5 := (((D1 (Or.inr (w24 hw)) (ty := (.array .byte)) (by decide) : Fld Z h1 a1 "java/lang/String" "value" "[B" .null).ext E2).other w3 (Or.inl (Nat.ne_of_lt (Nat.lt_of_lt_of_le A1.lt (Nat.le_of_eq g2.symm)))))
  have f6 := (((D1 (Or.inr (w25 hw)) (ty := .byte) (by decide) : Fld Z h1 a1 "java/lang/String" "coder" "B" (.int (0 : Int32))).ext E2).other w3 (Or.inl (Nat.ne_of_lt (Nat.lt_of_lt_of_le A1.lt (Nat.le_of_eq g2.symm)))))
  have sf7 := (SF3 a1 (SF2 a1 sf1))
  obtain ⟨V8, h8, r8, W8, K8, hQ8, SF8⟩ := W3.callI (pc' := 34) (argsL := [(.ref a2)]) (rest := [(.ref a1)]) (Wd := 1) (cells' := 3) (slots' := 6) (a := a1) (y := (⟨"java/lang/String", "<init>", "([C)V"⟩ : MethodName)) dm_3_31 (new1_1 l Z a0 n0 hw hEL G1 O1 P1 a1 a2 k2 c0 h3 W3.old e4 f5 f6 v3 hp_c0 (Nat.le_trans W3.1.2.2.2.2.2.2.2.1 (Nat.le_of_eq g1.symm))) rfl (w12 hw) (w13 hw) (w10 hw) (w14 hw) (by decide) (lenOf pd11 rfl) rfl rfl (by decide) (by decide) rfl (sfS sf7 sf0) (allS (Or.inr (Nat.le_of_eq g1.symm)) all0) rfl rfl rfl (by decide) (by decide)
  clear W3
  obtain ⟨t8, kt8, rfl, q8_1, q8_2, q8_3, q8_4⟩ := hQ8
  have z8 : h3.size ≤ h8.size := K8.1
  replace W8 := W8.cast (st' := [(.ref a1)]) rfl
  exact W8.aret (t := (.object "java/lang/String")) dm_3_34 rfl rfl rfl rfl (by decide) (by decide) (fun V' cv => ⟨a1, t8, kt8, rfl, q8_1, q8_2, q8_3, q8_4, (Nat.le_of_eq g1.symm)⟩)
theorem ef_len_2 (m : MethodId) (xa : Addr) (ta : Addr) (kt : ClassId) (b0 : Int32) (b1 : Int32) : entryFrame m #[(.ref xa)] 1 = mkF m 0 #[.val (.ref xa)] [] := by first | (simp [entryFrame, mkF, argsToLocals, Value.category]; done) | rfl
set_option maxRecDepth 65536 in
set_option maxHeartbeats 40000000 in
theorem len_2 (l : Launch) (Z : State) (a0 : Array Value) (n0 : Nat) (hw : ∀ d ∈ tables_1, d.before a0 Z = true) (hEL : EW Z a0 consts_1) (G1 : Int32) (O1 : Sta Z Z.heap "java/lang/String" "COMPACT_STRINGS" "Z" (.int G1)) (P1 : ¬ (G1 = (0 : Int32))) (xa : Addr) (ta : Addr) (kt : ClassId) (b0 : Int32) (b1 : Int32) (h0 : Heap) (hO : Old Z n0 h0) (E_xa : Exa Z h0 xa "java/lang/String") (F_xa_coder : Fld Z h0 xa "java/lang/String" "coder" "B" (.int (0 : Int32))) (F_xa_value : Fld Z h0 xa "java/lang/String" "value" "[B" (.ref ta)) (V_ta : Arv Z h0 ta kt .byte (2 : Int32) [(.int b0), (.int b1)] (.int (0 : Int32))) :
    Con l Z consts_1 n0 (⟨"java/lang/String", "length", "()I"⟩ : MethodName) jdk_42_method_54_code 1 (some .int) ({ frames := 1, cells := 0, slots := 0, locals := 13 } : Room) #[(.ref xa)] h0 [] (fun v h V' => v = some (.int (2 : Int32)) ∧ h0 = h) [] := by
  refine Con.of (a0 := a0) pf9 (fun m => ef_len_2 m xa ta kt b0 b1) all0 hO hEL ?_
  intro p e s m below meth c S0 hnm hsf W
  replace W := W.aloadN (pc' := 1) djdk_42_54_0 rfl rfl rfl
  replace W := W.getf (pc' := 4) djdk_42_54_1 (w28 hw) Via.refl F_xa_value rfl
  replace W := W.alen (pc' := 5) djdk_42_54_4 V_ta rfl
  replace W := W.aloadN (pc' := 6) djdk_42_54_5 rfl rfl rfl
  obtain ⟨V1, h1, r1, W1, K1, hQ1, SF1⟩ := W.callV (pc' := 9) (argsL := []) (rest := [(.int (2 : Int32))]) (Wd := 1) (cells' := 0) (slots' := 0) (a := xa) (C := "java/lang/String") (y := (⟨"java/lang/String", "coder", "()B"⟩ : MethodName)) (z := (⟨"java/lang/String", "coder", "()B"⟩ : MethodName)) djdk_42_54_6 (coder_c l Z a0 n0 hw hEL G1 O1 P1 xa h0 W.old F_xa_coder) E_xa (w55 hw) (w56 hw) (Or.inl (w58 hw)) (w58 hw) (w57 hw) (w10 hw) (w59 hw) (by decide) (lenOf pd4 rfl) rfl rfl (by decide) (by decide) rfl sf0 all0 rfl rfl rfl (by decide) (by decide)
  clear W
  obtain ⟨rfl, hs1⟩ := hQ1
  subst hs1
  replace W1 := W1.cast (st' := [(.int (0 : Int32)), (.int (2 : Int32))]) rfl
  replace W1 := W1.ishr (pc' := 10) (v := (2 : Int32)) djdk_42_54_9 (by decide) rfl
  exact W1.iret (t := .int) djdk_42_54_10 rfl (by simp) rfl (by decide) (by decide) (fun V' cv => ⟨rfl, rfl⟩)
theorem ef_max_2 (m : MethodId)  : entryFrame m #[(.int (0 : Int32)), (.int (0 : Int32))] 2 = mkF m 0 #[.val (.int (0 : Int32)), .val (.int (0 : Int32))] [] := by first | (simp [entryFrame, mkF, argsToLocals, Value.category]; done) | rfl
set_option maxRecDepth 65536 in
set_option maxHeartbeats 40000000 in
theorem max_2 (l : Launch) (Z : State) (a0 : Array Value) (n0 : Nat) (hw : ∀ d ∈ tables_1, d.before a0 Z = true) (hEL : EW Z a0 consts_1) (G1 : Int32) (O1 : Sta Z Z.heap "java/lang/String" "COMPACT_STRINGS" "Z" (.int G1)) (P1 : ¬ (G1 = (0 : Int32)))  (h0 : Heap) (hO : Old Z n0 h0)  :
    Con l Z consts_1 n0 (⟨"java/lang/Math", "max", "(II)I"⟩ : MethodName) jdk_29_method_65_code 2 (some .int) ({ frames := 0, cells := 0, slots := 0, locals := 0 } : Room) #[(.int (0 : Int32)), (.int (0 : Int32))] h0 [] (fun v h V' => v = some (.int (0 : Int32)) ∧ h0 = h) [] := by
  refine Con.of (a0 := a0) pf10 (fun m => ef_max_2 m ) all0 hO hEL ?_
  intro p e s m below meth c S0 hnm hsf W
  replace W := W.iloadN (pc' := 1) djdk_29_65_0 rfl rfl
  replace W := W.iloadN (pc' := 2) djdk_29_65_1 rfl rfl
  replace W := W.icmpF (pc' := 5) djdk_29_65_2 (flt (by decide : ¬ ((0 : Int32) < (0 : Int32)))).1 rfl
  replace W := W.iloadN (pc' := 6) djdk_29_65_5 rfl rfl
  replace W := W.goto (pc' := 10) djdk_29_65_6 (by decide) (by decide)
  exact W.iret (t := .int) djdk_29_65_10 rfl (by simp) rfl (by decide) (by decide) (fun V' cv => ⟨rfl, rfl⟩)
theorem ef_min_2 (m : MethodId)  : entryFrame m #[(.int (2 : Int32)), (.int (2 : Int32))] 2 = mkF m 0 #[.val (.int (2 : Int32)), .val (.int (2 : Int32))] [] := by first | (simp [entryFrame, mkF, argsToLocals, Value.category]; done) | rfl
set_option maxRecDepth 65536 in
set_option maxHeartbeats 40000000 in
theorem min_2 (l : Launch) (Z : State) (a0 : Array Value) (n0 : Nat) (hw : ∀ d ∈ tables_1, d.before a0 Z = true) (hEL : EW Z a0 consts_1) (G1 : Int32) (O1 : Sta Z Z.heap "java/lang/String" "COMPACT_STRINGS" "Z" (.int G1)) (P1 : ¬ (G1 = (0 : Int32)))  (h0 : Heap) (hO : Old Z n0 h0)  :
    Con l Z consts_1 n0 (⟨"java/lang/Math", "min", "(II)I"⟩ : MethodName) jdk_29_method_69_code 2 (some .int) ({ frames := 0, cells := 0, slots := 0, locals := 0 } : Room) #[(.int (2 : Int32)), (.int (2 : Int32))] h0 [] (fun v h V' => v = some (.int (2 : Int32)) ∧ h0 = h) [] := by
  refine Con.of (a0 := a0) pf11 (fun m => ef_min_2 m ) all0 hO hEL ?_
  intro p e s m below meth c S0 hnm hsf W
  replace W := W.iloadN (pc' := 1) djdk_29_69_0 rfl rfl
  replace W := W.iloadN (pc' := 2) djdk_29_69_1 rfl rfl
  replace W := W.icmpF (pc' := 5) djdk_29_69_2 (flt (by decide : ¬ ((2 : Int32) < (2 : Int32)))).2.2.1 rfl
  replace W := W.iloadN (pc' := 6) djdk_29_69_5 rfl rfl
  replace W := W.goto (pc' := 10) djdk_29_69_6 (by decide) (by decide)
  exact W.iret (t := .int) djdk_29_69_10 rfl (by simp) rfl (by decide) (by decide) (fun V' cv => ⟨rfl, rfl⟩)
theorem ef_ioc_2 (m : MethodId) (ta : Addr) (kt : ClassId) (b0 : Int32) (b1 : Int32) : entryFrame m #[(.ref ta), (.int (61 : Int32)), (.int (0 : Int32)), (.int (2 : Int32))] 6 = mkF m 0 #[.val (.ref ta), .val (.int (61 : Int32)), .val (.int (0 : Int32)), .val (.int (2 : Int32)), .unset, .unset] [] := by first | (simp [entryFrame, mkF, argsToLocals, Value.category]; done) | rfl
set_option maxRecDepth 65536 in
set_option maxHeartbeats 40000000 in
theorem ioc_2 (l : Launch) (Z : State) (a0 : Array Value) (n0 : Nat) (hw : ∀ d ∈ tables_1, d.before a0 Z = true) (hEL : EW Z a0 consts_1) (G1 : Int32) (O1 : Sta Z Z.heap "java/lang/String" "COMPACT_STRINGS" "Z" (.int G1)) (P1 : ¬ (G1 = (0 : Int32))) (ta : Addr) (kt : ClassId) (b0 : Int32) (b1 : Int32) (h0 : Heap) (hO : Old Z n0 h0) (V_ta : Arv Z h0 ta kt .byte (2 : Int32) [(.int b0), (.int b1)] (.int (0 : Int32))) :
    Con l Z consts_1 n0 (⟨"java/lang/StringLatin1", "indexOfChar", "([BIII)I"⟩ : MethodName) jdk_43_method_23_code 6 (some .int) ({ frames := 0, cells := 0, slots := 0, locals := 0 } : Room) #[(.ref ta), (.int (61 : Int32)), (.int (0 : Int32)), (.int (2 : Int32))] h0 [] (fun v h V' => v = some (.int (ix (61 : Int32) [b0, b1] (0 : Int32))) ∧ h0 = h) [] := by
  refine Con.of (a0 := a0) pf17 (fun m => ef_ioc_2 m ta kt b0 b1) all0 hO hEL ?_
  intro p e s m below meth c S0 hnm hsf W
  replace W := W.iloadN (pc' := 1) djdk_43_23_0 rfl rfl
  replace W := W.i2b (pc' := 2) (v := (61 : Int32)) djdk_43_23_1 (by decide) rfl
  replace W := W.istore (pc' := 4) (L' := #[.val (.ref ta), .val (.int (61 : Int32)), .val (.int (0 : Int32)), .val (.int (2 : Int32)), .val (.int (61 : Int32)), .unset]) djdk_43_23_2 rfl rfl
  replace W := W.iloadN (pc' := 5) djdk_43_23_4 rfl rfl
  replace W := W.istore (pc' := 7) (L' := #[.val (.ref ta), .val (.int (61 : Int32)), .val (.int (0 : Int32)), .val (.int (2 : Int32)), .val (.int (61 : Int32)), .val (.int (0 : Int32))]) djdk_43_23_5 rfl rfl
  replace W := W.iload (pc' := 9) djdk_43_23_7 rfl rfl
  replace W := W.iloadN (pc' := 10) djdk_43_23_9 rfl rfl
  replace W := W.icmpF (pc' := 13) djdk_43_23_10 (tlt (by decide : (0 : Int32) < (2 : Int32))).2.1 rfl
  replace W := W.aloadN (pc' := 14) djdk_43_23_13 rfl rfl rfl
  replace W := W.iload (pc' := 16) djdk_43_23_14 rfl rfl
  replace W := W.baload (pc' := 17) (w := (.int b0)) djdk_43_23_16 V_ta ⟨by decide, by decide⟩ rfl rfl
  replace W := W.iload (pc' := 19) djdk_43_23_17 rfl rfl
  by_cases c1 : b0 = (61 : Int32)
  · replace W := W.icmpF (pc' := 22) djdk_43_23_19 (teq c1).2 rfl
    replace W := W.iload (pc' := 24) djdk_43_23_22 rfl rfl
    exact W.iret (t := .int) djdk_43_23_24 rfl (by simp) rfl (by decide) (by decide) (fun V' cv => ⟨(by simp [ix, c1]), rfl⟩)
  · replace W := W.icmpT (pc' := 25) djdk_43_23_19 (feq c1).2 (by decide) (by decide)
    replace W := W.iinc (pc' := 28) (v := (1 : Int32)) (L' := #[.val (.ref ta), .val (.int (61 : Int32)), .val (.int (0 : Int32)), .val (.int (2 : Int32)), .val (.int (61 : Int32)), .val (.int (1 : Int32))]) djdk_43_23_25 rfl (by decide) rfl rfl
    replace W := W.goto (pc' := 7) djdk_43_23_28 (by decide) (by decide)
    replace W := W.iload (pc' := 9) djdk_43_23_7 rfl rfl
    replace W := W.iloadN (pc' := 10) djdk_43_23_9 rfl rfl
    replace W := W.icmpF (pc' := 13) djdk_43_23_10 (tlt (by decide : (1 : Int32) < (2 : Int32))).2.1 rfl
    replace W := W.aloadN (pc' := 14) djdk_43_23_13 rfl rfl rfl
    replace W := W.iload (pc' := 16) djdk_43_23_14 rfl rfl
    replace W := W.baload (pc' := 17) (w := (.int b1)) djdk_43_23_16 V_ta ⟨by decide, by decide⟩ rfl rfl
    replace W := W.iload (pc' := 19) djdk_43_23_17 rfl rfl
    by_cases c2 : b1 = (61 : Int32)
    · replace W := W.icmpF (pc' := 22) djdk_43_23_19 (teq c2).2 rfl
      replace W := W.iload (pc' := 24) djdk_43_23_22 rfl rfl
      exact W.iret (t := .int) djdk_43_23_24 rfl (by simp) rfl (by decide) (by decide) (fun V' cv => ⟨(by simp [ix, c1, c2]), rfl⟩)
    · replace W := W.icmpT (pc' := 25) djdk_43_23_19 (feq c2).2 (by decide) (by decide)
      replace W := W.iinc (pc' := 28) (v := (2 : Int32)) (L' := #[.val (.ref ta), .val (.int (61 : Int32)), .val (.int (0 : Int32)), .val (.int (2 : Int32)), .val (.int (61 : Int32)), .val (.int (2 : Int32))]) djdk_43_23_25 rfl (by decide) rfl rfl
      replace W := W.goto (pc' := 7) djdk_43_23_28 (by decide) (by decide)
      replace W := W.iload (pc' := 9) djdk_43_23_7 rfl rfl
      replace W := W.iloadN (pc' := 10) djdk_43_23_9 rfl rfl
      replace W := W.icmpT (pc' := 31) djdk_43_23_10 (flt (by decide : ¬ ((2 : Int32) < (2 : Int32)))).2.1 (by decide) (by decide)
      replace W := W.iconst (pc' := 32) (v := (-1 : Int32)) djdk_43_23_31 rfl rfl
      exact W.iret (t := .int) djdk_43_23_32 rfl (by simp) rfl (by decide) (by decide) (fun V' cv => ⟨(by simp [ix, c1, c2]), rfl⟩)
theorem ef_lio_2 (m : MethodId) (ta : Addr) (kt : ClassId) (b0 : Int32) (b1 : Int32) : entryFrame m #[(.ref ta), (.int (61 : Int32)), (.int (0 : Int32)), (.int (2 : Int32))] 4 = mkF m 0 #[.val (.ref ta), .val (.int (61 : Int32)), .val (.int (0 : Int32)), .val (.int (2 : Int32))] [] := by first | (simp [entryFrame, mkF, argsToLocals, Value.category]; done) | rfl
set_option maxRecDepth 65536 in
set_option maxHeartbeats 40000000 in
theorem lio_2 (l : Launch) (Z : State) (a0 : Array Value) (n0 : Nat) (hw : ∀ d ∈ tables_1, d.before a0 Z = true) (hEL : EW Z a0 consts_1) (G1 : Int32) (O1 : Sta Z Z.heap "java/lang/String" "COMPACT_STRINGS" "Z" (.int G1)) (P1 : ¬ (G1 = (0 : Int32))) (ta : Addr) (kt : ClassId) (b0 : Int32) (b1 : Int32) (h0 : Heap) (hO : Old Z n0 h0) (V_ta : Arv Z h0 ta kt .byte (2 : Int32) [(.int b0), (.int b1)] (.int (0 : Int32))) :
    Con l Z consts_1 n0 (⟨"java/lang/StringLatin1", "indexOf", "([BIII)I"⟩ : MethodName) jdk_43_method_22_code 4 (some .int) ({ frames := 1, cells := 0, slots := 0, locals := 17 } : Room) #[(.ref ta), (.int (61 : Int32)), (.int (0 : Int32)), (.int (2 : Int32))] h0 [] (fun v h V' => v = some (.int (ix (61 : Int32) [b0, b1] (0 : Int32))) ∧ h0 = h) [] := by
  refine Con.of (a0 := a0) pf12 (fun m => ef_lio_2 m ta kt b0 b1) all0 hO hEL ?_
  intro p e s m below meth c S0 hnm hsf W
  replace W := W.iloadN (pc' := 1) djdk_43_22_0 rfl rfl
  obtain ⟨V1, h1, r1, W1, K1, hQ1, SF1⟩ := W.callS (pc' := 4) (argsL := [(.int (61 : Int32))]) (rest := []) (Wd := 0) (cells' := 0) (slots' := 0) (y := (⟨"java/lang/StringLatin1", "canEncode", "(I)Z"⟩ : MethodName)) djdk_43_22_1 (canenc l Z a0 n0 hw hEL G1 O1 P1 h0 W.old) (w64 hw) (w65 hw) (w62 hw) (w66 hw) (by decide) (lenOf pd5 rfl) rfl rfl (by decide) (by decide) rfl sf0 all0 rfl rfl rfl (by decide) (by decide)
  clear W
  obtain ⟨rfl, hs1⟩ := hQ1
  subst hs1
  replace W1 := W1.cast (st' := [(.int (1 : Int32))]) rfl
  replace W1 := W1.ifT (pc' := 9) djdk_43_22_4 (feq (by decide : ¬ ((1 : Int32) = (0 : Int32)))).2 (by decide) (by decide)
  replace W1 := W1.iloadN (pc' := 10) djdk_43_22_9 rfl rfl
  replace W1 := W1.iconst (pc' := 11) (v := (0 : Int32)) djdk_43_22_10 rfl rfl
  obtain ⟨V2, h2, r2, W2, K2, hQ2, SF2⟩ := W1.callS (pc' := 14) (argsL := [(.int (0 : Int32)), (.int (0 : Int32))]) (rest := []) (Wd := 0) (cells' := 0) (slots' := 0) (y := (⟨"java/lang/Math", "max", "(II)I"⟩ : MethodName)) djdk_43_22_11 (max_2 l Z a0 n0 hw hEL G1 O1 P1 h0 W1.old) (w67 hw) (w68 hw) (w69 hw) (w70 hw) (by decide) (lenOf pd6 rfl) rfl rfl (by decide) (by decide) rfl sf0 all0 rfl rfl rfl (by decide) (by decide)
  clear W1
  obtain ⟨rfl, hs2⟩ := hQ2
  subst hs2
  replace W2 := W2.cast (st' := [(.int (0 : Int32))]) rfl
  replace W2 := W2.istoreN (pc' := 15) (L' := #[.val (.ref ta), .val (.int (61 : Int32)), .val (.int (0 : Int32)), .val (.int (2 : Int32))]) djdk_43_22_14 rfl rfl
  replace W2 := W2.iloadN (pc' := 16) djdk_43_22_15 rfl rfl
  replace W2 := W2.aloadN (pc' := 17) djdk_43_22_16 rfl rfl rfl
  replace W2 := W2.alen (pc' := 18) djdk_43_22_17 V_ta rfl
  obtain ⟨V3, h3, r3, W3, K3, hQ3, SF3⟩ := W2.callS (pc' := 21) (argsL := [(.int (2 : Int32)), (.int (2 : Int32))]) (rest := []) (Wd := 0) (cells' := 0) (slots' := 0) (y := (⟨"java/lang/Math", "min", "(II)I"⟩ : MethodName)) djdk_43_22_18 (min_2 l Z a0 n0 hw hEL G1 O1 P1 h0 W2.old) (w71 hw) (w72 hw) (w69 hw) (w73 hw) (by decide) (lenOf pd6 rfl) rfl rfl (by decide) (by decide) rfl sf0 all0 rfl rfl rfl (by decide) (by decide)
  clear W2
  obtain ⟨rfl, hs3⟩ := hQ3
  subst hs3
  replace W3 := W3.cast (st' := [(.int (2 : Int32))]) rfl
  replace W3 := W3.istoreN (pc' := 22) (L' := #[.val (.ref ta), .val (.int (61 : Int32)), .val (.int (0 : Int32)), .val (.int (2 : Int32))]) djdk_43_22_21 rfl rfl
  replace W3 := W3.iloadN (pc' := 23) djdk_43_22_22 rfl rfl
  replace W3 := W3.iloadN (pc' := 24) djdk_43_22_23 rfl rfl
  replace W3 := W3.icmpT (pc' := 29) djdk_43_22_24 (tlt (by decide : (0 : Int32) < (2 : Int32))).1 (by decide) (by decide)
  replace W3 := W3.aloadN (pc' := 30) djdk_43_22_29 rfl rfl rfl
  replace W3 := W3.iloadN (pc' := 31) djdk_43_22_30 rfl rfl
  replace W3 := W3.iloadN (pc' := 32) djdk_43_22_31 rfl rfl
  replace W3 := W3.iloadN (pc' := 33) djdk_43_22_32 rfl rfl
  obtain ⟨V4, h4, r4, W4, K4, hQ4, SF4⟩ := W3.callS (pc' := 36) (argsL := [(.ref ta), (.int (61 : Int32)), (.int (0 : Int32)), (.int (2 : Int32))]) (rest := []) (Wd := 0) (cells' := 0) (slots' := 0) (y := (⟨"java/lang/StringLatin1", "indexOfChar", "([BIII)I"⟩ : MethodName)) djdk_43_22_33 (ioc_2 l Z a0 n0 hw hEL G1 O1 P1 ta kt b0 b1 h0 W3.old V_ta) (w84 hw) (w85 hw) (w62 hw) (w86 hw) (by decide) (lenOf pd9 rfl) rfl rfl (by decide) (by decide) rfl sf0 all0 rfl rfl rfl (by decide) (by decide)
  clear W3
  obtain ⟨rfl, hs4⟩ := hQ4
  subst hs4
  replace W4 := W4.cast (st' := [(.int (ix (61 : Int32) [b0, b1] (0 : Int32)))]) rfl
  exact W4.iret (t := .int) djdk_43_22_36 rfl (by simp) rfl (by decide) (by decide) (fun V' cv => ⟨rfl, rfl⟩)
theorem ef_io2_2 (m : MethodId) (xa : Addr) (ta : Addr) (kt : ClassId) (b0 : Int32) (b1 : Int32) : entryFrame m #[(.ref xa), (.int (61 : Int32)), (.int (0 : Int32))] 3 = mkF m 0 #[.val (.ref xa), .val (.int (61 : Int32)), .val (.int (0 : Int32))] [] := by first | (simp [entryFrame, mkF, argsToLocals, Value.category]; done) | rfl
set_option maxRecDepth 65536 in
set_option maxHeartbeats 40000000 in
theorem io2_2 (l : Launch) (Z : State) (a0 : Array Value) (n0 : Nat) (hw : ∀ d ∈ tables_1, d.before a0 Z = true) (hEL : EW Z a0 consts_1) (G1 : Int32) (O1 : Sta Z Z.heap "java/lang/String" "COMPACT_STRINGS" "Z" (.int G1)) (P1 : ¬ (G1 = (0 : Int32))) (xa : Addr) (ta : Addr) (kt : ClassId) (b0 : Int32) (b1 : Int32) (h0 : Heap) (hO : Old Z n0 h0) (E_xa : Exa Z h0 xa "java/lang/String") (F_xa_coder : Fld Z h0 xa "java/lang/String" "coder" "B" (.int (0 : Int32))) (F_xa_value : Fld Z h0 xa "java/lang/String" "value" "[B" (.ref ta)) (V_ta : Arv Z h0 ta kt .byte (2 : Int32) [(.int b0), (.int b1)] (.int (0 : Int32))) :
    Con l Z consts_1 n0 (⟨"java/lang/String", "indexOf", "(II)I"⟩ : MethodName) jdk_42_method_80_code 3 (some .int) ({ frames := 2, cells := 0, slots := 0, locals := 32 } : Room) #[(.ref xa), (.int (61 : Int32)), (.int (0 : Int32))] h0 [] (fun v h V' => v = some (.int (ix (61 : Int32) [b0, b1] (0 : Int32))) ∧ h0 = h) [] := by
  refine Con.of (a0 := a0) pf13 (fun m => ef_io2_2 m xa ta kt b0 b1) all0 hO hEL ?_
  intro p e s m below meth c S0 hnm hsf W
  replace W := W.aloadN (pc' := 1) djdk_42_80_0 rfl rfl rfl
  obtain ⟨V1, h1, r1, W1, K1, hQ1, SF1⟩ := W.callV (pc' := 4) (argsL := []) (rest := []) (Wd := 0) (cells' := 0) (slots' := 0) (a := xa) (C := "java/lang/String") (y := (⟨"java/lang/String", "isLatin1", "()Z"⟩ : MethodName)) (z := (⟨"java/lang/String", "isLatin1", "()Z"⟩ : MethodName)) djdk_42_80_1 (islat l Z a0 n0 hw hEL G1 O1 P1 xa h0 W.old F_xa_coder) E_xa (w44 hw) (w45 hw) (Or.inl (w47 hw)) (w47 hw) (w46 hw) (w10 hw) (w48 hw) (by decide) (lenOf pd7 rfl) rfl rfl (by decide) (by decide) rfl sf0 all0 rfl rfl rfl (by decide) (by decide)
  clear W
  obtain ⟨rfl, hs1⟩ := hQ1
  subst hs1
  replace W1 := W1.cast (st' := [(.int (1 : Int32))]) rfl
  replace W1 := W1.ifF (pc' := 7) djdk_42_80_4 (feq (by decide : ¬ ((1 : Int32) = (0 : Int32)))).1 rfl
  replace W1 := W1.aloadN (pc' := 8) djdk_42_80_7 rfl rfl rfl
  replace W1 := W1.getf (pc' := 11) djdk_42_80_8 (w28 hw) Via.refl F_xa_value rfl
  replace W1 := W1.iloadN (pc' := 12) djdk_42_80_11 rfl rfl
  replace W1 := W1.iloadN (pc' := 13) djdk_42_80_12 rfl rfl
  replace W1 := W1.aloadN (pc' := 14) djdk_42_80_13 rfl rfl rfl
  obtain ⟨V2, h2, r2, W2, K2, hQ2, SF2⟩ := W1.callV (pc' := 17) (argsL := []) (rest := [(.int (0 : Int32)), (.int (61 : Int32)), (.ref ta)]) (Wd := 3) (cells' := 0) (slots' := 0) (a := xa) (C := "java/lang/String") (y := (⟨"java/lang/String", "length", "()I"⟩ : MethodName)) (z := (⟨"java/lang/String", "length", "()I"⟩ : MethodName)) djdk_42_80_14 (len_2 l Z a0 n0 hw hEL G1 O1 P1 xa ta kt b0 b1 h0 W1.old E_xa F_xa_coder F_xa_value V_ta) E_xa (w50 hw) (w51 hw) (Or.inl (w53 hw)) (w53 hw) (w52 hw) (w10 hw) (w54 hw) (by decide) (lenOf pd8 rfl) rfl rfl (by decide) (by decide) rfl sf0 all0 rfl rfl rfl (by decide) (by decide)
  clear W1
  obtain ⟨rfl, hs2⟩ := hQ2
  subst hs2
  replace W2 := W2.cast (st' := [(.int (2 : Int32)), (.int (0 : Int32)), (.int (61 : Int32)), (.ref ta)]) rfl
  obtain ⟨V3, h3, r3, W3, K3, hQ3, SF3⟩ := W2.callS (pc' := 20) (argsL := [(.ref ta), (.int (61 : Int32)), (.int (0 : Int32)), (.int (2 : Int32))]) (rest := []) (Wd := 0) (cells' := 0) (slots' := 0) (y := (⟨"java/lang/StringLatin1", "indexOf", "([BIII)I"⟩ : MethodName)) djdk_42_80_17 (lio_2 l Z a0 n0 hw hEL G1 O1 P1 ta kt b0 b1 h0 W2.old V_ta) (w60 hw) (w61 hw) (w62 hw) (w63 hw) (by decide) (lenOf pd9 rfl) rfl rfl (by decide) (by decide) rfl sf0 all0 rfl rfl rfl (by decide) (by decide)
  clear W2
  obtain ⟨rfl, hs3⟩ := hQ3
  subst hs3
  replace W3 := W3.cast (st' := [(.int (ix (61 : Int32) [b0, b1] (0 : Int32)))]) rfl
  replace W3 := W3.goto (pc' := 36) djdk_42_80_20 (by decide) (by decide)
  exact W3.iret (t := .int) djdk_42_80_36 rfl (by simp) rfl (by decide) (by decide) (fun V' cv => ⟨rfl, rfl⟩)
theorem ef_io1_2 (m : MethodId) (xa : Addr) (ta : Addr) (kt : ClassId) (b0 : Int32) (b1 : Int32) : entryFrame m #[(.ref xa), (.int (61 : Int32))] 2 = mkF m 0 #[.val (.ref xa), .val (.int (61 : Int32))] [] := by first | (simp [entryFrame, mkF, argsToLocals, Value.category]; done) | rfl
set_option maxRecDepth 65536 in
set_option maxHeartbeats 40000000 in
theorem io1_2 (l : Launch) (Z : State) (a0 : Array Value) (n0 : Nat) (hw : ∀ d ∈ tables_1, d.before a0 Z = true) (hEL : EW Z a0 consts_1) (G1 : Int32) (O1 : Sta Z Z.heap "java/lang/String" "COMPACT_STRINGS" "Z" (.int G1)) (P1 : ¬ (G1 = (0 : Int32))) (xa : Addr) (ta : Addr) (kt : ClassId) (b0 : Int32) (b1 : Int32) (h0 : Heap) (hO : Old Z n0 h0) (E_xa : Exa Z h0 xa "java/lang/String") (F_xa_coder : Fld Z h0 xa "java/lang/String" "coder" "B" (.int (0 : Int32))) (F_xa_value : Fld Z h0 xa "java/lang/String" "value" "[B" (.ref ta)) (V_ta : Arv Z h0 ta kt .byte (2 : Int32) [(.int b0), (.int b1)] (.int (0 : Int32))) :
    Con l Z consts_1 n0 (⟨"java/lang/String", "indexOf", "(I)I"⟩ : MethodName) jdk_42_method_79_code 2 (some .int) ({ frames := 3, cells := 0, slots := 0, locals := 46 } : Room) #[(.ref xa), (.int (61 : Int32))] h0 [] (fun v h V' => v = some (.int (ix (61 : Int32) [b0, b1] (0 : Int32))) ∧ h0 = h) [] := by
  refine Con.of (a0 := a0) pf14 (fun m => ef_io1_2 m xa ta kt b0 b1) all0 hO hEL ?_
  intro p e s m below meth c S0 hnm hsf W
  replace W := W.aloadN (pc' := 1) djdk_42_79_0 rfl rfl rfl
  replace W := W.iloadN (pc' := 2) djdk_42_79_1 rfl rfl
  replace W := W.iconst (pc' := 3) (v := (0 : Int32)) djdk_42_79_2 rfl rfl
  obtain ⟨V1, h1, r1, W1, K1, hQ1, SF1⟩ := W.callV (pc' := 6) (argsL := [(.int (61 : Int32)), (.int (0 : Int32))]) (rest := []) (Wd := 0) (cells' := 0) (slots' := 0) (a := xa) (C := "java/lang/String") (y := (⟨"java/lang/String", "indexOf", "(II)I"⟩ : MethodName)) (z := (⟨"java/lang/String", "indexOf", "(II)I"⟩ : MethodName)) djdk_42_79_3 (io2_2 l Z a0 n0 hw hEL G1 O1 P1 xa ta kt b0 b1 h0 W.old E_xa F_xa_coder F_xa_value V_ta) E_xa (w39 hw) (w40 hw) (Or.inl (w42 hw)) (w42 hw) (w41 hw) (w10 hw) (w43 hw) (by decide) (lenOf pd6 rfl) rfl rfl (by decide) (by decide) rfl sf0 all0 rfl rfl rfl (by decide) (by decide)
  clear W
  obtain ⟨rfl, hs1⟩ := hQ1
  subst hs1
  replace W1 := W1.cast (st' := [(.int (ix (61 : Int32) [b0, b1] (0 : Int32)))]) rfl
  exact W1.iret (t := .int) djdk_42_79_6 rfl (by simp) rfl (by decide) (by decide) (fun V' cv => ⟨rfl, rfl⟩)
theorem ef_isc_2 (m : MethodId) (xa : Addr) (ta : Addr) (kt : ClassId) (b0 : Int32) (b1 : Int32) : entryFrame m #[(.ref xa)] 1 = mkF m 0 #[.val (.ref xa)] [] := by first | (simp [entryFrame, mkF, argsToLocals, Value.category]; done) | rfl
set_option maxRecDepth 65536 in
set_option maxHeartbeats 40000000 in
theorem isc_2 (l : Launch) (Z : State) (a0 : Array Value) (n0 : Nat) (hw : ∀ d ∈ tables_1, d.before a0 Z = true) (hEL : EW Z a0 consts_1) (G1 : Int32) (O1 : Sta Z Z.heap "java/lang/String" "COMPACT_STRINGS" "Z" (.int G1)) (P1 : ¬ (G1 = (0 : Int32))) (xa : Addr) (ta : Addr) (kt : ClassId) (b0 : Int32) (b1 : Int32) (h0 : Heap) (hO : Old Z n0 h0) (E_xa : Exa Z h0 xa "java/lang/String") (F_xa_coder : Fld Z h0 xa "java/lang/String" "coder" "B" (.int (0 : Int32))) (F_xa_value : Fld Z h0 xa "java/lang/String" "value" "[B" (.ref ta)) (V_ta : Arv Z h0 ta kt .byte (2 : Int32) [(.int b0), (.int b1)] (.int (0 : Int32))) :
    Con l Z consts_1 n0 (⟨"com/example/holdfast/holdfast/rules/Where", "isCondition", "(Ljava/lang/String;)Z"⟩ : MethodName) prog_28_method_2_code 1 (some .boolean) ({ frames := 4, cells := 0, slots := 0, locals := 59 } : Room) #[(.ref xa)] h0 [] (fun v h V' => v = some (.int (isc [b0, b1])) ∧ h0 = h) [] := by
  refine Con.of (a0 := a0) pf15 (fun m => ef_isc_2 m xa ta kt b0 b1) all0 hO hEL ?_
  intro p e s m below meth c S0 hnm hsf W
  replace W := W.aloadN (pc' := 1) dprog_28_2_0 rfl rfl rfl
  replace W := W.bipush (pc' := 3) (v := (61 : Int32)) dprog_28_2_1 rfl rfl
  obtain ⟨V1, h1, r1, W1, K1, hQ1, SF1⟩ := W.callV (pc' := 6) (argsL := [(.int (61 : Int32))]) (rest := []) (Wd := 0) (cells' := 0) (slots' := 0) (a := xa) (C := "java/lang/String") (y := (⟨"java/lang/String", "indexOf", "(I)I"⟩ : MethodName)) (z := (⟨"java/lang/String", "indexOf", "(I)I"⟩ : MethodName)) dprog_28_2_3 (io1_2 l Z a0 n0 hw hEL G1 O1 P1 xa ta kt b0 b1 h0 W.old E_xa F_xa_coder F_xa_value V_ta) E_xa (w34 hw) (w35 hw) (Or.inl (w37 hw)) (w37 hw) (w36 hw) (w10 hw) (w38 hw) (by decide) (lenOf pd10 rfl) rfl rfl (by decide) (by decide) rfl sf0 all0 rfl rfl rfl (by decide) (by decide)
  clear W
  obtain ⟨rfl, hs1⟩ := hQ1
  subst hs1
  replace W1 := W1.cast (st' := [(.int (ix (61 : Int32) [b0, b1] (0 : Int32)))]) rfl
  by_cases c2 : (0 : Int32) < (ix (61 : Int32) [b0, b1] (0 : Int32))
  · replace W1 := W1.ifF (pc' := 9) dprog_28_2_6 (tlt c2).2.2.2 rfl
    replace W1 := W1.iconst (pc' := 10) (v := (1 : Int32)) dprog_28_2_9 rfl rfl
    replace W1 := W1.goto (pc' := 14) dprog_28_2_10 (by decide) (by decide)
    exact W1.iret (t := .boolean) dprog_28_2_14 rfl (by simp) (by decide) (by decide) (by decide) (fun V' cv => ⟨(by simp [isc, c2]), rfl⟩)
  · replace W1 := W1.ifT (pc' := 13) dprog_28_2_6 (flt c2).2.2.2 (by decide) (by decide)
    replace W1 := W1.iconst (pc' := 14) (v := (0 : Int32)) dprog_28_2_13 rfl rfl
    exact W1.iret (t := .boolean) dprog_28_2_14 rfl (by simp) (by decide) (by decide) (by decide) (fun V' cv => ⟨(by simp [isc, c2]), rfl⟩)
theorem ef_make_2 (m : MethodId) (c0 : Int32) (c1 : Int32) (c2 : Int32) (c3 : Int32) (c4 : Int32) : entryFrame m #[(.int (2 : Int32)), (.int c0), (.int c1), (.int c2), (.int c3), (.int c4)] 6 = mkF m 0 #[.val (.int (2 : Int32)), .val (.int c0), .val (.int c1), .val (.int c2), .val (.int c3), .val (.int c4)] [] := by first | (simp [entryFrame, mkF, argsToLocals, Value.category]; done) | rfl
set_option maxRecDepth 65536 in
set_option maxHeartbeats 40000000 in
theorem make_2 (l : Launch) (Z : State) (a0 : Array Value) (n0 : Nat) (hw : ∀ d ∈ tables_1, d.before a0 Z = true) (hEL : EW Z a0 consts_1) (G1 : Int32) (O1 : Sta Z Z.heap "java/lang/String" "COMPACT_STRINGS" "Z" (.int G1)) (P1 : ¬ (G1 = (0 : Int32))) (c0 : Int32) (c1 : Int32) (c2 : Int32) (c3 : Int32) (c4 : Int32) (h0 : Heap) (hO : Old Z n0 h0) (hp_c0 : ¬ c0 < 0 ∧ ¬ (255 : Int32) < c0) (hp_c1 : ¬ c1 < 0 ∧ ¬ (255 : Int32) < c1) (hp_c2 : ¬ c2 < 0 ∧ ¬ (255 : Int32) < c2) (hp_c3 : ¬ c3 < 0 ∧ ¬ (255 : Int32) < c3) (hp_c4 : ¬ c4 < 0 ∧ ¬ (255 : Int32) < c4) :
    Con l Z consts_1 n0 (⟨"com/example/holdfast/holdfast/rules/WhereIsConditionPinLaw", "make", "(ICCCCC)Ljava/lang/String;"⟩ : MethodName) method_3_code 6 (some (.object "java/lang/String")) ({ frames := 4, cells := 3, slots := 8, locals := 66 } : Room) #[(.int (2 : Int32)), (.int c0), (.int c1), (.int c2), (.int c3), (.int c4)] h0 [] (fun v h V' => ∃ (xs : Addr) (t : Addr) (kt : ClassId), v = some (.ref xs) ∧ Exa Z h xs "java/lang/String" ∧ Fld Z h xs "java/lang/String" "coder" "B" (.int (0 : Int32)) ∧ Fld Z h xs "java/lang/String" "value" "[B" (.ref t) ∧ Arv Z h t kt .byte (2 : Int32) [(.int (c0.toInt8.toInt32)), (.int (c1.toInt8.toInt32))] (.int (0 : Int32)) ∧ h0.size ≤ xs) [] := by
  refine Con.of (a0 := a0) pf16 (fun m => ef_make_2 m c0 c1 c2 c3 c4) all0 hO hEL ?_
  intro p e s m below meth c S0 hnm hsf W
  replace W := W.iloadN (pc' := 1) dm_3_0 rfl rfl
  replace W := W.ifT (pc' := 15) dm_3_1 (feq (by decide : ¬ ((2 : Int32) = (0 : Int32)))).2 (by decide) (by decide)
  replace W := W.iloadN (pc' := 16) dm_3_15 rfl rfl
  replace W := W.iconst (pc' := 17) (v := (1 : Int32)) dm_3_16 rfl rfl
  replace W := W.icmpT (pc' := 35) dm_3_17 (feq (by decide : ¬ ((2 : Int32) = (1 : Int32)))).2 (by decide) (by decide)
  replace W := W.iloadN (pc' := 36) dm_3_35 rfl rfl
  replace W := W.iconst (pc' := 37) (v := (2 : Int32)) dm_3_36 rfl rfl
  replace W := W.icmpF (pc' := 40) dm_3_37 (teq (by decide : (2 : Int32) = (2 : Int32))).2 rfl
  obtain ⟨h1, a1, W1, E1, g1, ⟨A1, D1, U1⟩, sf1, SF1⟩ := W.new (pc' := 43) (cells' := 1) (slots' := 4) dm_3_40 (w8 hw) (w9 hw) (w10 hw) rfl rfl rfl (by decide) (by decide)
  clear W
  rw [← g1] at A1 D1 U1
  have z1 : h0.size ≤ h1.size := E1.1
  replace W1 := W1.dup (pc' := 44) dm_3_43 rfl rfl
  replace W1 := W1.iconst (pc' := 45) (v := (2 : Int32)) dm_3_44 rfl rfl
  obtain ⟨h2, a2, W2, E2, g2, ⟨k2, A2⟩, sf2, SF2⟩ := W1.newarr (pc' := 47) (cap := 2) (cells' := 2) (slots' := 6) dm_3_45 (w11 hw) (by decide) (by decide) (by decide) rfl rfl rfl (by decide) (by decide)
  clear W1
  rw [← g2] at A2
  have z2 : h1.size ≤ h2.size := E2.1
  have v2 : Arv Z h2 a2 k2 .char (2 : Int32) [(.int (0 : Int32)), (.int (0 : Int32))] (.int (0 : Int32)) := A2.pad (pad_rep [] (.int (0 : Int32)) 2)
  replace W2 := W2.dup (pc' := 48) dm_3_47 rfl rfl
  replace W2 := W2.iconst (pc' := 49) (v := (0 : Int32)) dm_3_48 rfl rfl
  replace W2 := W2.iloadN (pc' := 50) dm_3_49 rfl rfl
  obtain ⟨h3, W3, w3, A3, SF3⟩ := W2.castore (pc' := 51) (i := 0) (x' := c0) dm_3_50 v2 ⟨by decide, by decide⟩ rfl (by show 0 < 2; decide) (own_narc (own_up hp_c0)) (W2.safeA v2 (by decide)) (Or.inr (Nat.le_trans z1 (Nat.le_of_eq g2.symm))) rfl
  clear W2
  have z3 : h2.size ≤ h3.size := Nat.le_of_eq w3.size.symm
  have v3 : Arv Z h3 a2 k2 .char (2 : Int32) [(.int c0), (.int (0 : Int32))] (.int (0 : Int32)) := A3
  replace W3 := W3.dup (pc' := 52) dm_3_51 rfl rfl
  replace W3 := W3.iconst (pc' := 53) (v := (1 : Int32)) dm_3_52 rfl rfl
  replace W3 := W3.iloadN (pc' := 54) dm_3_53 rfl rfl
  obtain ⟨h4, W4, w4, A4, SF4⟩ := W3.castore (pc' := 55) (i := 1) (x' := c1) dm_3_54 v3 ⟨by decide, by decide⟩ rfl (by show 1 < 2; decide) (own_narc (own_up hp_c1)) (W3.safeA v3 (by decide)) (Or.inr (Nat.le_trans z1 (Nat.le_of_eq g2.symm))) rfl
  clear W3
  have z4 : h3.size ≤ h4.size := Nat.le_of_eq w4.size.symm
  have v4 : Arv Z h4 a2 k2 .char (2 : Int32) [(.int c0), (.int c1)] (.int (0 : Int32)) := A4
  have e5 := (((A1.ext E2).wr w3).wr w4)
  have f6 := ((((D1 (Or.inr (w24 hw)) (ty := (.array .byte)) (by decide) : Fld Z h1 a1 "java/lang/String" "value" "[B" .null).ext E2).other w3 (Or.inl (Nat.ne_of_lt (Nat.lt_of_lt_of_le A1.lt (Nat.le_of_eq g2.symm))))).other w4 (Or.inl (Nat.ne_of_lt (Nat.lt_of_lt_of_le A1.lt (Nat.le_of_eq g2.symm)))))
  have f7 := ((((D1 (Or.inr (w25 hw)) (ty := .byte) (by decide) : Fld Z h1 a1 "java/lang/String" "coder" "B" (.int (0 : Int32))).ext E2).other w3 (Or.inl (Nat.ne_of_lt (Nat.lt_of_lt_of_le A1.lt (Nat.le_of_eq g2.symm))))).other w4 (Or.inl (Nat.ne_of_lt (Nat.lt_of_lt_of_le A1.lt (Nat.le_of_eq g2.symm)))))
  have sf8 := (SF4 a1 (SF3 a1 (SF2 a1 sf1)))
  obtain ⟨V9, h9, r9, W9, K9, hQ9, SF9⟩ := W4.callI (pc' := 58) (argsL := [(.ref a2)]) (rest := [(.ref a1)]) (Wd := 1) (cells' := 3) (slots' := 8) (a := a1) (y := (⟨"java/lang/String", "<init>", "([C)V"⟩ : MethodName)) dm_3_55 (new1_2 l Z a0 n0 hw hEL G1 O1 P1 a1 a2 k2 c0 c1 h4 W4.old e5 f6 f7 v4 hp_c0 hp_c1 (Nat.le_trans W4.1.2.2.2.2.2.2.2.1 (Nat.le_of_eq g1.symm))) rfl (w12 hw) (w13 hw) (w10 hw) (w14 hw) (by decide) (lenOf pd11 rfl) rfl rfl (by decide) (by decide) rfl (sfS sf8 sf0) (allS (Or.inr (Nat.le_of_eq g1.symm)) all0) rfl rfl rfl (by decide) (by decide)
  clear W4
  obtain ⟨t9, kt9, rfl, q9_1, q9_2, q9_3, q9_4⟩ := hQ9
  have z9 : h4.size ≤ h9.size := K9.1
  replace W9 := W9.cast (st' := [(.ref a1)]) rfl
  exact W9.aret (t := (.object "java/lang/String")) dm_3_58 rfl rfl rfl rfl (by decide) (by decide) (fun V' cv => ⟨a1, t9, kt9, rfl, q9_1, q9_2, q9_3, q9_4, (Nat.le_of_eq g1.symm)⟩)
theorem ef_len_3 (m : MethodId) (xa : Addr) (ta : Addr) (kt : ClassId) (b0 : Int32) (b1 : Int32) (b2 : Int32) : entryFrame m #[(.ref xa)] 1 = mkF m 0 #[.val (.ref xa)] [] := by first | (simp [entryFrame, mkF, argsToLocals, Value.category]; done) | rfl
set_option maxRecDepth 65536 in
set_option maxHeartbeats 40000000 in
theorem len_3 (l : Launch) (Z : State) (a0 : Array Value) (n0 : Nat) (hw : ∀ d ∈ tables_1, d.before a0 Z = true) (hEL : EW Z a0 consts_1) (G1 : Int32) (O1 : Sta Z Z.heap "java/lang/String" "COMPACT_STRINGS" "Z" (.int G1)) (P1 : ¬ (G1 = (0 : Int32))) (xa : Addr) (ta : Addr) (kt : ClassId) (b0 : Int32) (b1 : Int32) (b2 : Int32) (h0 : Heap) (hO : Old Z n0 h0) (E_xa : Exa Z h0 xa "java/lang/String") (F_xa_coder : Fld Z h0 xa "java/lang/String" "coder" "B" (.int (0 : Int32))) (F_xa_value : Fld Z h0 xa "java/lang/String" "value" "[B" (.ref ta)) (V_ta : Arv Z h0 ta kt .byte (3 : Int32) [(.int b0), (.int b1), (.int b2)] (.int (0 : Int32))) :
    Con l Z consts_1 n0 (⟨"java/lang/String", "length", "()I"⟩ : MethodName) jdk_42_method_54_code 1 (some .int) ({ frames := 1, cells := 0, slots := 0, locals := 13 } : Room) #[(.ref xa)] h0 [] (fun v h V' => v = some (.int (3 : Int32)) ∧ h0 = h) [] := by
  refine Con.of (a0 := a0) pf9 (fun m => ef_len_3 m xa ta kt b0 b1 b2) all0 hO hEL ?_
  intro p e s m below meth c S0 hnm hsf W
  replace W := W.aloadN (pc' := 1) djdk_42_54_0 rfl rfl rfl
  replace W := W.getf (pc' := 4) djdk_42_54_1 (w28 hw) Via.refl F_xa_value rfl
  replace W := W.alen (pc' := 5) djdk_42_54_4 V_ta rfl
  replace W := W.aloadN (pc' := 6) djdk_42_54_5 rfl rfl rfl
  obtain ⟨V1, h1, r1, W1, K1, hQ1, SF1⟩ := W.callV (pc' := 9) (argsL := []) (rest := [(.int (3 : Int32))]) (Wd := 1) (cells' := 0) (slots' := 0) (a := xa) (C := "java/lang/String") (y := (⟨"java/lang/String", "coder", "()B"⟩ : MethodName)) (z := (⟨"java/lang/String", "coder", "()B"⟩ : MethodName)) djdk_42_54_6 (coder_c l Z a0 n0 hw hEL G1 O1 P1 xa h0 W.old F_xa_coder) E_xa (w55 hw) (w56 hw) (Or.inl (w58 hw)) (w58 hw) (w57 hw) (w10 hw) (w59 hw) (by decide) (lenOf pd4 rfl) rfl rfl (by decide) (by decide) rfl sf0 all0 rfl rfl rfl (by decide) (by decide)
  clear W
  obtain ⟨rfl, hs1⟩ := hQ1
  subst hs1
  replace W1 := W1.cast (st' := [(.int (0 : Int32)), (.int (3 : Int32))]) rfl
  replace W1 := W1.ishr (pc' := 10) (v := (3 : Int32)) djdk_42_54_9 (by decide) rfl
  exact W1.iret (t := .int) djdk_42_54_10 rfl (by simp) rfl (by decide) (by decide) (fun V' cv => ⟨rfl, rfl⟩)
theorem ef_max_3 (m : MethodId)  : entryFrame m #[(.int (0 : Int32)), (.int (0 : Int32))] 2 = mkF m 0 #[.val (.int (0 : Int32)), .val (.int (0 : Int32))] [] := by first | (simp [entryFrame, mkF, argsToLocals, Value.category]; done) | rfl
set_option maxRecDepth 65536 in
set_option maxHeartbeats 40000000 in
theorem max_3 (l : Launch) (Z : State) (a0 : Array Value) (n0 : Nat) (hw : ∀ d ∈ tables_1, d.before a0 Z = true) (hEL : EW Z a0 consts_1) (G1 : Int32) (O1 : Sta Z Z.heap "java/lang/String" "COMPACT_STRINGS" "Z" (.int G1)) (P1 : ¬ (G1 = (0 : Int32)))  (h0 : Heap) (hO : Old Z n0 h0)  :
    Con l Z consts_1 n0 (⟨"java/lang/Math", "max", "(II)I"⟩ : MethodName) jdk_29_method_65_code 2 (some .int) ({ frames := 0, cells := 0, slots := 0, locals := 0 } : Room) #[(.int (0 : Int32)), (.int (0 : Int32))] h0 [] (fun v h V' => v = some (.int (0 : Int32)) ∧ h0 = h) [] := by
  refine Con.of (a0 := a0) pf10 (fun m => ef_max_3 m ) all0 hO hEL ?_
  intro p e s m below meth c S0 hnm hsf W
  replace W := W.iloadN (pc' := 1) djdk_29_65_0 rfl rfl
  replace W := W.iloadN (pc' := 2) djdk_29_65_1 rfl rfl
  replace W := W.icmpF (pc' := 5) djdk_29_65_2 (flt (by decide : ¬ ((0 : Int32) < (0 : Int32)))).1 rfl
  replace W := W.iloadN (pc' := 6) djdk_29_65_5 rfl rfl
  replace W := W.goto (pc' := 10) djdk_29_65_6 (by decide) (by decide)
  exact W.iret (t := .int) djdk_29_65_10 rfl (by simp) rfl (by decide) (by decide) (fun V' cv => ⟨rfl, rfl⟩)
theorem ef_min_3 (m : MethodId)  : entryFrame m #[(.int (3 : Int32)), (.int (3 : Int32))] 2 = mkF m 0 #[.val (.int (3 : Int32)), .val (.int (3 : Int32))] [] := by first | (simp [entryFrame, mkF, argsToLocals, Value.category]; done) | rfl
set_option maxRecDepth 65536 in
set_option maxHeartbeats 40000000 in
theorem min_3 (l : Launch) (Z : State) (a0 : Array Value) (n0 : Nat) (hw : ∀ d ∈ tables_1, d.before a0 Z = true) (hEL : EW Z a0 consts_1) (G1 : Int32) (O1 : Sta Z Z.heap "java/lang/String" "COMPACT_STRINGS" "Z" (.int G1)) (P1 : ¬ (G1 = (0 : Int32)))  (h0 : Heap) (hO : Old Z n0 h0)  :
    Con l Z consts_1 n0 (⟨"java/lang/Math", "min", "(II)I"⟩ : MethodName) jdk_29_method_69_code 2 (some .int) ({ frames := 0, cells := 0, slots := 0, locals := 0 } : Room) #[(.int (3 : Int32)), (.int (3 : Int32))] h0 [] (fun v h V' => v = some (.int (3 : Int32)) ∧ h0 = h) [] := by
  refine Con.of (a0 := a0) pf11 (fun m => ef_min_3 m ) all0 hO hEL ?_
  intro p e s m below meth c S0 hnm hsf W
  replace W := W.iloadN (pc' := 1) djdk_29_69_0 rfl rfl
  replace W := W.iloadN (pc' := 2) djdk_29_69_1 rfl rfl
  replace W := W.icmpF (pc' := 5) djdk_29_69_2 (flt (by decide : ¬ ((3 : Int32) < (3 : Int32)))).2.2.1 rfl
  replace W := W.iloadN (pc' := 6) djdk_29_69_5 rfl rfl
  replace W := W.goto (pc' := 10) djdk_29_69_6 (by decide) (by decide)
  exact W.iret (t := .int) djdk_29_69_10 rfl (by simp) rfl (by decide) (by decide) (fun V' cv => ⟨rfl, rfl⟩)
theorem ef_ioc_3 (m : MethodId) (ta : Addr) (kt : ClassId) (b0 : Int32) (b1 : Int32) (b2 : Int32) : entryFrame m #[(.ref ta), (.int (61 : Int32)), (.int (0 : Int32)), (.int (3 : Int32))] 6 = mkF m 0 #[.val (.ref ta), .val (.int (61 : Int32)), .val (.int (0 : Int32)), .val (.int (3 : Int32)), .unset, .unset] [] := by first | (simp [entryFrame, mkF, argsToLocals, Value.category]; done) | rfl
set_option maxRecDepth 65536 in
set_option maxHeartbeats 40000000 in
theorem ioc_3 (l : Launch) (Z : State) (a0 : Array Value) (n0 : Nat) (hw : ∀ d ∈ tables_1, d.before a0 Z = true) (hEL : EW Z a0 consts_1) (G1 : Int32) (O1 : Sta Z Z.heap "java/lang/String" "COMPACT_STRINGS" "Z" (.int G1)) (P1 : ¬ (G1 = (0 : Int32))) (ta : Addr) (kt : ClassId) (b0 : Int32) (b1 : Int32) (b2 : Int32) (h0 : Heap) (hO : Old Z n0 h0) (V_ta : Arv Z h0 ta kt .byte (3 : Int32) [(.int b0), (.int b1), (.int b2)] (.int (0 : Int32))) :
    Con l Z consts_1 n0 (⟨"java/lang/StringLatin1", "indexOfChar", "([BIII)I"⟩ : MethodName) jdk_43_method_23_code 6 (some .int) ({ frames := 0, cells := 0, slots := 0, locals := 0 } : Room) #[(.ref ta), (.int (61 : Int32)), (.int (0 : Int32)), (.int (3 : Int32))] h0 [] (fun v h V' => v = some (.int (ix (61 : Int32) [b0, b1, b2] (0 : Int32))) ∧ h0 = h) [] := by
  refine Con.of (a0 := a0) pf17 (fun m => ef_ioc_3 m ta kt b0 b1 b2) all0 hO hEL ?_
  intro p e s m below meth c S0 hnm hsf W
  replace W := W.iloadN (pc' := 1) djdk_43_23_0 rfl rfl
  replace W := W.i2b (pc' := 2) (v := (61 : Int32)) djdk_43_23_1 (by decide) rfl
  replace W := W.istore (pc' := 4) (L' := #[.val (.ref ta), .val (.int (61 : Int32)), .val (.int (0 : Int32)), .val (.int (3 : Int32)), .val (.int (61 : Int32)), .unset]) djdk_43_23_2 rfl rfl
  replace W := W.iloadN (pc' := 5) djdk_43_23_4 rfl rfl
  replace W := W.istore (pc' := 7) (L' := #[.val (.ref ta), .val (.int (61 : Int32)), .val (.int (0 : Int32)), .val (.int (3 : Int32)), .val (.int (61 : Int32)), .val (.int (0 : Int32))]) djdk_43_23_5 rfl rfl
  replace W := W.iload (pc' := 9) djdk_43_23_7 rfl rfl
  replace W := W.iloadN (pc' := 10) djdk_43_23_9 rfl rfl
  replace W := W.icmpF (pc' := 13) djdk_43_23_10 (tlt (by decide : (0 : Int32) < (3 : Int32))).2.1 rfl
  replace W := W.aloadN (pc' := 14) djdk_43_23_13 rfl rfl rfl
  replace W := W.iload (pc' := 16) djdk_43_23_14 rfl rfl
  replace W := W.baload (pc' := 17) (w := (.int b0)) djdk_43_23_16 V_ta ⟨by decide, by decide⟩ rfl rfl
  replace W := W.iload (pc' := 19) djdk_43_23_17 rfl rfl
  by_cases c1 : b0 = (61 : Int32)
  · replace W := W.icmpF (pc' := 22) djdk_43_23_19 (teq c1).2 rfl
    replace W := W.iload (pc' := 24) djdk_43_23_22 rfl rfl
    exact W.iret (t := .int) djdk_43_23_24 rfl (by simp) rfl (by decide) (by decide) (fun V' cv => ⟨(by simp [ix, c1]), rfl⟩)
  · replace W := W.icmpT (pc' := 25) djdk_43_23_19 (feq c1).2 (by decide) (by decide)
    replace W := W.iinc (pc' := 28) (v := (1 : Int32)) (L' := #[.val (.ref ta), .val (.int (61 : Int32)), .val (.int (0 : Int32)), .val (.int (3 : Int32)), .val (.int (61 : Int32)), .val (.int (1 : Int32))]) djdk_43_23_25 rfl (by decide) rfl rfl
    replace W := W.goto (pc' := 7) djdk_43_23_28 (by decide) (by decide)
    replace W := W.iload (pc' := 9) djdk_43_23_7 rfl rfl
    replace W := W.iloadN (pc' := 10) djdk_43_23_9 rfl rfl
    replace W := W.icmpF (pc' := 13) djdk_43_23_10 (tlt (by decide : (1 : Int32) < (3 : Int32))).2.1 rfl
    replace W := W.aloadN (pc' := 14) djdk_43_23_13 rfl rfl rfl
    replace W := W.iload (pc' := 16) djdk_43_23_14 rfl rfl
    replace W := W.baload (pc' := 17) (w := (.int b1)) djdk_43_23_16 V_ta ⟨by decide, by decide⟩ rfl rfl
    replace W := W.iload (pc' := 19) djdk_43_23_17 rfl rfl
    by_cases c2 : b1 = (61 : Int32)
    · replace W := W.icmpF (pc' := 22) djdk_43_23_19 (teq c2).2 rfl
      replace W := W.iload (pc' := 24) djdk_43_23_22 rfl rfl
      exact W.iret (t := .int) djdk_43_23_24 rfl (by simp) rfl (by decide) (by decide) (fun V' cv => ⟨(by simp [ix, c1, c2]), rfl⟩)
    · replace W := W.icmpT (pc' := 25) djdk_43_23_19 (feq c2).2 (by decide) (by decide)
      replace W := W.iinc (pc' := 28) (v := (2 : Int32)) (L' := #[.val (.ref ta), .val (.int (61 : Int32)), .val (.int (0 : Int32)), .val (.int (3 : Int32)), .val (.int (61 : Int32)), .val (.int (2 : Int32))]) djdk_43_23_25 rfl (by decide) rfl rfl
      replace W := W.goto (pc' := 7) djdk_43_23_28 (by decide) (by decide)
      replace W := W.iload (pc' := 9) djdk_43_23_7 rfl rfl
      replace W := W.iloadN (pc' := 10) djdk_43_23_9 rfl rfl
      replace W := W.icmpF (pc' := 13) djdk_43_23_10 (tlt (by decide : (2 : Int32) < (3 : Int32))).2.1 rfl
      replace W := W.aloadN (pc' := 14) djdk_43_23_13 rfl rfl rfl
      replace W := W.iload (pc' := 16) djdk_43_23_14 rfl rfl
      replace W := W.baload (pc' := 17) (w := (.int b2)) djdk_43_23_16 V_ta ⟨by decide, by decide⟩ rfl rfl
      replace W := W.iload (pc' := 19) djdk_43_23_17 rfl rfl
      by_cases c3 : b2 = (61 : Int32)
      · replace W := W.icmpF (pc' := 22) djdk_43_23_19 (teq c3).2 rfl
        replace W := W.iload (pc' := 24) djdk_43_23_22 rfl rfl
        exact W.iret (t := .int) djdk_43_23_24 rfl (by simp) rfl (by decide) (by decide) (fun V' cv => ⟨(by simp [ix, c1, c2, c3]), rfl⟩)
      · replace W := W.icmpT (pc' := 25) djdk_43_23_19 (feq c3).2 (by decide) (by decide)
        replace W := W.iinc (pc' := 28) (v := (3 : Int32)) (L' := #[.val (.ref ta), .val (.int (61 : Int32)), .val (.int (0 : Int32)), .val (.int (3 : Int32)), .val (.int (61 : Int32)), .val (.int (3 : Int32))]) djdk_43_23_25 rfl (by decide) rfl rfl
        replace W := W.goto (pc' := 7) djdk_43_23_28 (by decide) (by decide)
        replace W := W.iload (pc' := 9) djdk_43_23_7 rfl rfl
        replace W := W.iloadN (pc' := 10) djdk_43_23_9 rfl rfl
        replace W := W.icmpT (pc' := 31) djdk_43_23_10 (flt (by decide : ¬ ((3 : Int32) < (3 : Int32)))).2.1 (by decide) (by decide)
        replace W := W.iconst (pc' := 32) (v := (-1 : Int32)) djdk_43_23_31 rfl rfl
        exact W.iret (t := .int) djdk_43_23_32 rfl (by simp) rfl (by decide) (by decide) (fun V' cv => ⟨(by simp [ix, c1, c2, c3]), rfl⟩)
theorem ef_lio_3 (m : MethodId) (ta : Addr) (kt : ClassId) (b0 : Int32) (b1 : Int32) (b2 : Int32) : entryFrame m #[(.ref ta), (.int (61 : Int32)), (.int (0 : Int32)), (.int (3 : Int32))] 4 = mkF m 0 #[.val (.ref ta), .val (.int (61 : Int32)), .val (.int (0 : Int32)), .val (.int (3 : Int32))] [] := by first | (simp [entryFrame, mkF, argsToLocals, Value.category]; done) | rfl
set_option maxRecDepth 65536 in
set_option maxHeartbeats 40000000 in
theorem lio_3 (l : Launch) (Z : State) (a0 : Array Value) (n0 : Nat) (hw : ∀ d ∈ tables_1, d.before a0 Z = true) (hEL : EW Z a0 consts_1) (G1 : Int32) (O1 : Sta Z Z.heap "java/lang/String" "COMPACT_STRINGS" "Z" (.int G1)) (P1 : ¬ (G1 = (0 : Int32))) (ta : Addr) (kt : ClassId) (b0 : Int32) (b1 : Int32) (b2 : Int32) (h0 : Heap) (hO : Old Z n0 h0) (V_ta : Arv Z h0 ta kt .byte (3 : Int32) [(.int b0), (.int b1), (.int b2)] (.int (0 : Int32))) :
    Con l Z consts_1 n0 (⟨"java/lang/StringLatin1", "indexOf", "([BIII)I"⟩ : MethodName) jdk_43_method_22_code 4 (some .int) ({ frames := 1, cells := 0, slots := 0, locals := 17 } : Room) #[(.ref ta), (.int (61 : Int32)), (.int (0 : Int32)), (.int (3 : Int32))] h0 [] (fun v h V' => v = some (.int (ix (61 : Int32) [b0, b1, b2] (0 : Int32))) ∧ h0 = h) [] := by
  refine Con.of (a0 := a0) pf12 (fun m => ef_lio_3 m ta kt b0 b1 b2) all0 hO hEL ?_
  intro p e s m below meth c S0 hnm hsf W
  replace W := W.iloadN (pc' := 1) djdk_43_22_0 rfl rfl
  obtain ⟨V1, h1, r1, W1, K1, hQ1, SF1⟩ := W.callS (pc' := 4) (argsL := [(.int (61 : Int32))]) (rest := []) (Wd := 0) (cells' := 0) (slots' := 0) (y := (⟨"java/lang/StringLatin1", "canEncode", "(I)Z"⟩ : MethodName)) djdk_43_22_1 (canenc l Z a0 n0 hw hEL G1 O1 P1 h0 W.old) (w64 hw) (w65 hw) (w62 hw) (w66 hw) (by decide) (lenOf pd5 rfl) rfl rfl (by decide) (by decide) rfl sf0 all0 rfl rfl rfl (by decide) (by decide)
  clear W
  obtain ⟨rfl, hs1⟩ := hQ1
  subst hs1
  replace W1 := W1.cast (st' := [(.int (1 : Int32))]) rfl
  replace W1 := W1.ifT (pc' := 9) djdk_43_22_4 (feq (by decide : ¬ ((1 : Int32) = (0 : Int32)))).2 (by decide) (by decide)
  replace W1 := W1.iloadN (pc' := 10) djdk_43_22_9 rfl rfl
  replace W1 := W1.iconst (pc' := 11) (v := (0 : Int32)) djdk_43_22_10 rfl rfl
  obtain ⟨V2, h2, r2, W2, K2, hQ2, SF2⟩ := W1.callS (pc' := 14) (argsL := [(.int (0 : Int32)), (.int (0 : Int32))]) (rest := []) (Wd := 0) (cells' := 0) (slots' := 0) (y := (⟨"java/lang/Math", "max", "(II)I"⟩ : MethodName)) djdk_43_22_11 (max_3 l Z a0 n0 hw hEL G1 O1 P1 h0 W1.old) (w67 hw) (w68 hw) (w69 hw) (w70 hw) (by decide) (lenOf pd6 rfl) rfl rfl (by decide) (by decide) rfl sf0 all0 rfl rfl rfl (by decide) (by decide)
  clear W1
  obtain ⟨rfl, hs2⟩ := hQ2
  subst hs2
  replace W2 := W2.cast (st' := [(.int (0 : Int32))]) rfl
  replace W2 := W2.istoreN (pc' := 15) (L' := #[.val (.ref ta), .val (.int (61 : Int32)), .val (.int (0 : Int32)), .val (.int (3 : Int32))]) djdk_43_22_14 rfl rfl
  replace W2 := W2.iloadN (pc' := 16) djdk_43_22_15 rfl rfl
  replace W2 := W2.aloadN (pc' := 17) djdk_43_22_16 rfl rfl rfl
  replace W2 := W2.alen (pc' := 18) djdk_43_22_17 V_ta rfl
  obtain ⟨V3, h3, r3, W3, K3, hQ3, SF3⟩ := W2.callS (pc' := 21) (argsL := [(.int (3 : Int32)), (.int (3 : Int32))]) (rest := []) (Wd := 0) (cells' := 0) (slots' := 0) (y := (⟨"java/lang/Math", "min", "(II)I"⟩ : MethodName)) djdk_43_22_18 (min_3 l Z a0 n0 hw hEL G1 O1 P1 h0 W2.old) (w71 hw) (w72 hw) (w69 hw) (w73 hw) (by decide) (lenOf pd6 rfl) rfl rfl (by decide) (by decide) rfl sf0 all0 rfl rfl rfl (by decide) (by decide)
  clear W2
  obtain ⟨rfl, hs3⟩ := hQ3
  subst hs3
  replace W3 := W3.cast (st' := [(.int (3 : Int32))]) rfl
  replace W3 := W3.istoreN (pc' := 22) (L' := #[.val (.ref ta), .val (.int (61 : Int32)), .val (.int (0 : Int32)), .val (.int (3 : Int32))]) djdk_43_22_21 rfl rfl
  replace W3 := W3.iloadN (pc' := 23) djdk_43_22_22 rfl rfl
  replace W3 := W3.iloadN (pc' := 24) djdk_43_22_23 rfl rfl
  replace W3 := W3.icmpT (pc' := 29) djdk_43_22_24 (tlt (by decide : (0 : Int32) < (3 : Int32))).1 (by decide) (by decide)
  replace W3 := W3.aloadN (pc' := 30) djdk_43_22_29 rfl rfl rfl
  replace W3 := W3.iloadN (pc' := 31) djdk_43_22_30 rfl rfl
  replace W3 := W3.iloadN (pc' := 32) djdk_43_22_31 rfl rfl
  replace W3 := W3.iloadN (pc' := 33) djdk_43_22_32 rfl rfl
  obtain ⟨V4, h4, r4, W4, K4, hQ4, SF4⟩ := W3.callS (pc' := 36) (argsL := [(.ref ta), (.int (61 : Int32)), (.int (0 : Int32)), (.int (3 : Int32))]) (rest := []) (Wd := 0) (cells' := 0) (slots' := 0) (y := (⟨"java/lang/StringLatin1", "indexOfChar", "([BIII)I"⟩ : MethodName)) djdk_43_22_33 (ioc_3 l Z a0 n0 hw hEL G1 O1 P1 ta kt b0 b1 b2 h0 W3.old V_ta) (w84 hw) (w85 hw) (w62 hw) (w86 hw) (by decide) (lenOf pd9 rfl) rfl rfl (by decide) (by decide) rfl sf0 all0 rfl rfl rfl (by decide) (by decide)
  clear W3
  obtain ⟨rfl, hs4⟩ := hQ4
  subst hs4
  replace W4 := W4.cast (st' := [(.int (ix (61 : Int32) [b0, b1, b2] (0 : Int32)))]) rfl
  exact W4.iret (t := .int) djdk_43_22_36 rfl (by simp) rfl (by decide) (by decide) (fun V' cv => ⟨rfl, rfl⟩)
theorem ef_io2_3 (m : MethodId) (xa : Addr) (ta : Addr) (kt : ClassId) (b0 : Int32) (b1 : Int32) (b2 : Int32) : entryFrame m #[(.ref xa), (.int (61 : Int32)), (.int (0 : Int32))] 3 = mkF m 0 #[.val (.ref xa), .val (.int (61 : Int32)), .val (.int (0 : Int32))] [] := by first | (simp [entryFrame, mkF, argsToLocals, Value.category]; done) | rfl
set_option maxRecDepth 65536 in
set_option maxHeartbeats 40000000 in
theorem io2_3 (l : Launch) (Z : State) (a0 : Array Value) (n0 : Nat) (hw : ∀ d ∈ tables_1, d.before a0 Z = true) (hEL : EW Z a0 consts_1) (G1 : Int32) (O1 : Sta Z Z.heap "java/lang/String" "COMPACT_STRINGS" "Z" (.int G1)) (P1 : ¬ (G1 = (0 : Int32))) (xa : Addr) (ta : Addr) (kt : ClassId) (b0 : Int32) (b1 : Int32) (b2 : Int32) (h0 : Heap) (hO : Old Z n0 h0) (E_xa : Exa Z h0 xa "java/lang/String") (F_xa_coder : Fld Z h0 xa "java/lang/String" "coder" "B" (.int (0 : Int32))) (F_xa_value : Fld Z h0 xa "java/lang/String" "value" "[B" (.ref ta)) (V_ta : Arv Z h0 ta kt .byte (3 : Int32) [(.int b0), (.int b1), (.int b2)] (.int (0 : Int32))) :
    Con l Z consts_1 n0 (⟨"java/lang/String", "indexOf", "(II)I"⟩ : MethodName) jdk_42_method_80_code 3 (some .int) ({ frames := 2, cells := 0, slots := 0, locals := 32 } : Room) #[(.ref xa), (.int (61 : Int32)), (.int (0 : Int32))] h0 [] (fun v h V' => v = some (.int (ix (61 : Int32) [b0, b1, b2] (0 : Int32))) ∧ h0 = h) [] := by
  refine Con.of (a0 := a0) pf13 (fun m => ef_io2_3 m xa ta kt b0 b1 b2) all0 hO hEL ?_
  intro p e s m below meth c S0 hnm hsf W
  replace W := W.aloadN (pc' := 1) djdk_42_80_0 rfl rfl rfl
  obtain ⟨V1, h1, r1, W1, K1, hQ1, SF1⟩ := W.callV (pc' := 4) (argsL := []) (rest := []) (Wd := 0) (cells' := 0) (slots' := 0) (a := xa) (C := "java/lang/String") (y := (⟨"java/lang/String", "isLatin1", "()Z"⟩ : MethodName)) (z := (⟨"java/lang/String", "isLatin1", "()Z"⟩ : MethodName)) djdk_42_80_1 (islat l Z a0 n0 hw hEL G1 O1 P1 xa h0 W.old F_xa_coder) E_xa (w44 hw) (w45 hw) (Or.inl (w47 hw)) (w47 hw) (w46 hw) (w10 hw) (w48 hw) (by decide) (lenOf pd7 rfl) rfl rfl (by decide) (by decide) rfl sf0 all0 rfl rfl rfl (by decide) (by decide)
  clear W
  obtain ⟨rfl, hs1⟩ := hQ1
  subst hs1
  replace W1 := W1.cast (st' := [(.int (1 : Int32))]) rfl
  replace W1 := W1.ifF (pc' := 7) djdk_42_80_4 (feq (by decide : ¬ ((1 : Int32) = (0 : Int32)))).1 rfl
  replace W1 := W1.aloadN (pc' := 8) djdk_42_80_7 rfl rfl rfl
  replace W1 := W1.getf (pc' := 11) djdk_42_80_8 (w28 hw) Via.refl F_xa_value rfl
  replace W1 := W1.iloadN (pc' := 12) djdk_42_80_11 rfl rfl
  replace W1 := W1.iloadN (pc' := 13) djdk_42_80_12 rfl rfl
  replace W1 := W1.aloadN (pc' := 14) djdk_42_80_13 rfl rfl rfl
  obtain ⟨V2, h2, r2, W2, K2, hQ2, SF2⟩ := W1.callV (pc' := 17) (argsL := []) (rest := [(.int (0 : Int32)), (.int (61 : Int32)), (.ref ta)]) (Wd := 3) (cells' := 0) (slots' := 0) (a := xa) (C := "java/lang/String") (y := (⟨"java/lang/String", "length", "()I"⟩ : MethodName)) (z := (⟨"java/lang/String", "length", "()I"⟩ : MethodName)) djdk_42_80_14 (len_3 l Z a0 n0 hw hEL G1 O1 P1 xa ta kt b0 b1 b2 h0 W1.old E_xa F_xa_coder F_xa_value V_ta) E_xa (w50 hw) (w51 hw) (Or.inl (w53 hw)) (w53 hw) (w52 hw) (w10 hw) (w54 hw) (by decide) (lenOf pd8 rfl) rfl rfl (by decide) (by decide) rfl sf0 all0 rfl rfl rfl (by decide) (by decide)
  clear W1
  obtain ⟨rfl, hs2⟩ := hQ2
  subst hs2
  replace W2 := W2.cast (st' := [(.int (3 : Int32)), (.int (0 : Int32)), (.int (61 : Int32)), (.ref ta)]) rfl
  obtain ⟨V3, h3, r3, W3, K3, hQ3, SF3⟩ := W2.callS (pc' := 20) (argsL := [(.ref ta), (.int (61 : Int32)), (.int (0 : Int32)), (.int (3 : Int32))]) (rest := []) (Wd := 0) (cells' := 0) (slots' := 0) (y := (⟨"java/lang/StringLatin1", "indexOf", "([BIII)I"⟩ : MethodName)) djdk_42_80_17 (lio_3 l Z a0 n0 hw hEL G1 O1 P1 ta kt b0 b1 b2 h0 W2.old V_ta) (w60 hw) (w61 hw) (w62 hw) (w63 hw) (by decide) (lenOf pd9 rfl) rfl rfl (by decide) (by decide) rfl sf0 all0 rfl rfl rfl (by decide) (by decide)
  clear W2
  obtain ⟨rfl, hs3⟩ := hQ3
  subst hs3
  replace W3 := W3.cast (st' := [(.int (ix (61 : Int32) [b0, b1, b2] (0 : Int32)))]) rfl
  replace W3 := W3.goto (pc' := 36) djdk_42_80_20 (by decide) (by decide)
  exact W3.iret (t := .int) djdk_42_80_36 rfl (by simp) rfl (by decide) (by decide) (fun V' cv => ⟨rfl, rfl⟩)
theorem ef_io1_3 (m : MethodId) (xa : Addr) (ta : Addr) (kt : ClassId) (b0 : Int32) (b1 : Int32) (b2 : Int32) : entryFrame m #[(.ref xa), (.int (61 : Int32))] 2 = mkF m 0 #[.val (.ref xa), .val (.int (61 : Int32))] [] := by first | (simp [entryFrame, mkF, argsToLocals, Value.category]; done) | rfl
set_option maxRecDepth 65536 in
set_option maxHeartbeats 40000000 in
theorem io1_3 (l : Launch) (Z : State) (a0 : Array Value) (n0 : Nat) (hw : ∀ d ∈ tables_1, d.before a0 Z = true) (hEL : EW Z a0 consts_1) (G1 : Int32) (O1 : Sta Z Z.heap "java/lang/String" "COMPACT_STRINGS" "Z" (.int G1)) (P1 : ¬ (G1 = (0 : Int32))) (xa : Addr) (ta : Addr) (kt : ClassId) (b0 : Int32) (b1 : Int32) (b2 : Int32) (h0 : Heap) (hO : Old Z n0 h0) (E_xa : Exa Z h0 xa "java/lang/String") (F_xa_coder : Fld Z h0 xa "java/lang/String" "coder" "B" (.int (0 : Int32))) (F_xa_value : Fld Z h0 xa "java/lang/String" "value" "[B" (.ref ta)) (V_ta : Arv Z h0 ta kt .byte (3 : Int32) [(.int b0), (.int b1), (.int b2)] (.int (0 : Int32))) :
    Con l Z consts_1 n0 (⟨"java/lang/String", "indexOf", "(I)I"⟩ : MethodName) jdk_42_method_79_code 2 (some .int) ({ frames := 3, cells := 0, slots := 0, locals := 46 } : Room) #[(.ref xa), (.int (61 : Int32))] h0 [] (fun v h V' => v = some (.int (ix (61 : Int32) [b0, b1, b2] (0 : Int32))) ∧ h0 = h) [] := by
  refine Con.of (a0 := a0) pf14 (fun m => ef_io1_3 m xa ta kt b0 b1 b2) all0 hO hEL ?_
  intro p e s m below meth c S0 hnm hsf W
  replace W := W.aloadN (pc' := 1) djdk_42_79_0 rfl rfl rfl
  replace W := W.iloadN (pc' := 2) djdk_42_79_1 rfl rfl
  replace W := W.iconst (pc' := 3) (v := (0 : Int32)) djdk_42_79_2 rfl rfl
  obtain ⟨V1, h1, r1, W1, K1, hQ1, SF1⟩ := W.callV (pc' := 6) (argsL := [(.int (61 : Int32)), (.int (0 : Int32))]) (rest := []) (Wd := 0) (cells' := 0) (slots' := 0) (a := xa) (C := "java/lang/String") (y := (⟨"java/lang/String", "indexOf", "(II)I"⟩ : MethodName)) (z := (⟨"java/lang/String", "indexOf", "(II)I"⟩ : MethodName)) djdk_42_79_3 (io2_3 l Z a0 n0 hw hEL G1 O1 P1 xa ta kt b0 b1 b2 h0 W.old E_xa F_xa_coder F_xa_value V_ta) E_xa (w39 hw) (w40 hw) (Or.inl (w42 hw)) (w42 hw) (w41 hw) (w10 hw) (w43 hw) (by decide) (lenOf pd6 rfl) rfl rfl (by decide) (by decide) rfl sf0 all0 rfl rfl rfl (by decide) (by decide)
  clear W
  obtain ⟨rfl, hs1⟩ := hQ1
  subst hs1
  replace W1 := W1.cast (st' := [(.int (ix (61 : Int32) [b0, b1, b2] (0 : Int32)))]) rfl
  exact W1.iret (t := .int) djdk_42_79_6 rfl (by simp) rfl (by decide) (by decide) (fun V' cv => ⟨rfl, rfl⟩)
theorem ef_isc_3 (m : MethodId) (xa : Addr) (ta : Addr) (kt : ClassId) (b0 : Int32) (b1 : Int32) (b2 : Int32) : entryFrame m #[(.ref xa)] 1 = mkF m 0 #[.val (.ref xa)] [] := by first | (simp [entryFrame, mkF, argsToLocals, Value.category]; done) | rfl
set_option maxRecDepth 65536 in
set_option maxHeartbeats 40000000 in
theorem isc_3 (l : Launch) (Z : State) (a0 : Array Value) (n0 : Nat) (hw : ∀ d ∈ tables_1, d.before a0 Z = true) (hEL : EW Z a0 consts_1) (G1 : Int32) (O1 : Sta Z Z.heap "java/lang/String" "COMPACT_STRINGS" "Z" (.int G1)) (P1 : ¬ (G1 = (0 : Int32))) (xa : Addr) (ta : Addr) (kt : ClassId) (b0 : Int32) (b1 : Int32) (b2 : Int32) (h0 : Heap) (hO : Old Z n0 h0) (E_xa : Exa Z h0 xa "java/lang/String") (F_xa_coder : Fld Z h0 xa "java/lang/String" "coder" "B" (.int (0 : Int32))) (F_xa_value : Fld Z h0 xa "java/lang/String" "value" "[B" (.ref ta)) (V_ta : Arv Z h0 ta kt .byte (3 : Int32) [(.int b0), (.int b1), (.int b2)] (.int (0 : Int32))) :
    Con l Z consts_1 n0 (⟨"com/example/holdfast/holdfast/rules/Where", "isCondition", "(Ljava/lang/String;)Z"⟩ : MethodName) prog_28_method_2_code 1 (some .boolean) ({ frames := 4, cells := 0, slots := 0, locals := 59 } : Room) #[(.ref xa)] h0 [] (fun v h V' => v = some (.int (isc [b0, b1, b2])) ∧ h0 = h) [] := by
  refine Con.of (a0 := a0) pf15 (fun m => ef_isc_3 m xa ta kt b0 b1 b2) all0 hO hEL ?_
  intro p e s m below meth c S0 hnm hsf W
  replace W := W.aloadN (pc' := 1) dprog_28_2_0 rfl rfl rfl
  replace W := W.bipush (pc' := 3) (v := (61 : Int32)) dprog_28_2_1 rfl rfl
  obtain ⟨V1, h1, r1, W1, K1, hQ1, SF1⟩ := W.callV (pc' := 6) (argsL := [(.int (61 : Int32))]) (rest := []) (Wd := 0) (cells' := 0) (slots' := 0) (a := xa) (C := "java/lang/String") (y := (⟨"java/lang/String", "indexOf", "(I)I"⟩ : MethodName)) (z := (⟨"java/lang/String", "indexOf", "(I)I"⟩ : MethodName)) dprog_28_2_3 (io1_3 l Z a0 n0 hw hEL G1 O1 P1 xa ta kt b0 b1 b2 h0 W.old E_xa F_xa_coder F_xa_value V_ta) E_xa (w34 hw) (w35 hw) (Or.inl (w37 hw)) (w37 hw) (w36 hw) (w10 hw) (w38 hw) (by decide) (lenOf pd10 rfl) rfl rfl (by decide) (by decide) rfl sf0 all0 rfl rfl rfl (by decide) (by decide)
  clear W
  obtain ⟨rfl, hs1⟩ := hQ1
  subst hs1
  replace W1 := W1.cast (st' := [(.int (ix (61 : Int32) [b0, b1, b2] (0 : Int32)))]) rfl
  by_cases c2 : (0 : Int32) < (ix (61 : Int32) [b0, b1, b2] (0 : Int32))
  · replace W1 := W1.ifF (pc' := 9) dprog_28_2_6 (tlt c2).2.2.2 rfl
    replace W1 := W1.iconst (pc' := 10) (v := (1 : Int32)) dprog_28_2_9 rfl rfl
    replace W1 := W1.goto (pc' := 14) dprog_28_2_10 (by decide) (by decide)
    exact W1.iret (t := .boolean) dprog_28_2_14 rfl (by simp) (by decide) (by decide) (by decide) (fun V' cv => ⟨(by simp [isc, c2]), rfl⟩)
  · replace W1 := W1.ifT (pc' := 13) dprog_28_2_6 (flt c2).2.2.2 (by decide) (by decide)
    replace W1 := W1.iconst (pc' := 14) (v := (0 : Int32)) dprog_28_2_13 rfl rfl
    exact W1.iret (t := .boolean) dprog_28_2_14 rfl (by simp) (by decide) (by decide) (by decide) (fun V' cv => ⟨(by simp [isc, c2]), rfl⟩)
theorem ef_make_3 (m : MethodId) (c0 : Int32) (c1 : Int32) (c2 : Int32) (c3 : Int32) (c4 : Int32) : entryFrame m #[(.int (3 : Int32)), (.int c0), (.int c1), (.int c2), (.int c3), (.int c4)] 6 = mkF m 0 #[.val (.int (3 : Int32)), .val (.int c0), .val (.int c1), .val (.int c2), .val (.int c3), .val (.int c4)] [] := by first | (simp [entryFrame, mkF, argsToLocals, Value.category]; done) | rfl
set_option maxRecDepth 65536 in
set_option maxHeartbeats 40000000 in
theorem make_3 (l : Launch) (Z : State) (a0 : Array Value) (n0 : Nat) (hw : ∀ d ∈ tables_1, d.before a0 Z = true) (hEL : EW Z a0 consts_1) (G1 : Int32) (O1 : Sta Z Z.heap "java/lang/String" "COMPACT_STRINGS" "Z" (.int G1)) (P1 : ¬ (G1 = (0 : Int32))) (c0 : Int32) (c1 : Int32) (c2 : Int32) (c3 : Int32) (c4 : Int32) (h0 : Heap) (hO : Old Z n0 h0) (hp_c0 : ¬ c0 < 0 ∧ ¬ (255 : Int32) < c0) (hp_c1 : ¬ c1 < 0 ∧ ¬ (255 : Int32) < c1) (hp_c2 : ¬ c2 < 0 ∧ ¬ (255 : Int32) < c2) (hp_c3 : ¬ c3 < 0 ∧ ¬ (255 : Int32) < c3) (hp_c4 : ¬ c4 < 0 ∧ ¬ (255 : Int32) < c4) :
    Con l Z consts_1 n0 (⟨"com/example/holdfast/holdfast/rules/WhereIsConditionPinLaw", "make", "(ICCCCC)Ljava/lang/String;"⟩ : MethodName) method_3_code 6 (some (.object "java/lang/String")) ({ frames := 4, cells := 3, slots := 10, locals := 66 } : Room) #[(.int (3 : Int32)), (.int c0), (.int c1), (.int c2), (.int c3), (.int c4)] h0 [] (fun v h V' => ∃ (xs : Addr) (t : Addr) (kt : ClassId), v = some (.ref xs) ∧ Exa Z h xs "java/lang/String" ∧ Fld Z h xs "java/lang/String" "coder" "B" (.int (0 : Int32)) ∧ Fld Z h xs "java/lang/String" "value" "[B" (.ref t) ∧ Arv Z h t kt .byte (3 : Int32) [(.int (c0.toInt8.toInt32)), (.int (c1.toInt8.toInt32)), (.int (c2.toInt8.toInt32))] (.int (0 : Int32)) ∧ h0.size ≤ xs) [] := by
  refine Con.of (a0 := a0) pf16 (fun m => ef_make_3 m c0 c1 c2 c3 c4) all0 hO hEL ?_
  intro p e s m below meth c S0 hnm hsf W
  replace W := W.iloadN (pc' := 1) dm_3_0 rfl rfl
  replace W := W.ifT (pc' := 15) dm_3_1 (feq (by decide : ¬ ((3 : Int32) = (0 : Int32)))).2 (by decide) (by decide)
  replace W := W.iloadN (pc' := 16) dm_3_15 rfl rfl
  replace W := W.iconst (pc' := 17) (v := (1 : Int32)) dm_3_16 rfl rfl
  replace W := W.icmpT (pc' := 35) dm_3_17 (feq (by decide : ¬ ((3 : Int32) = (1 : Int32)))).2 (by decide) (by decide)
  replace W := W.iloadN (pc' := 36) dm_3_35 rfl rfl
  replace W := W.iconst (pc' := 37) (v := (2 : Int32)) dm_3_36 rfl rfl
  replace W := W.icmpT (pc' := 59) dm_3_37 (feq (by decide : ¬ ((3 : Int32) = (2 : Int32)))).2 (by decide) (by decide)
  replace W := W.iloadN (pc' := 60) dm_3_59 rfl rfl
  replace W := W.iconst (pc' := 61) (v := (3 : Int32)) dm_3_60 rfl rfl
  replace W := W.icmpF (pc' := 64) dm_3_61 (teq (by decide : (3 : Int32) = (3 : Int32))).2 rfl
  obtain ⟨h1, a1, W1, E1, g1, ⟨A1, D1, U1⟩, sf1, SF1⟩ := W.new (pc' := 67) (cells' := 1) (slots' := 4) dm_3_64 (w8 hw) (w9 hw) (w10 hw) rfl rfl rfl (by decide) (by decide)
  clear W
  rw [← g1] at A1 D1 U1
  have z1 : h0.size ≤ h1.size := E1.1
  replace W1 := W1.dup (pc' := 68) dm_3_67 rfl rfl
  replace W1 := W1.iconst (pc' := 69) (v := (3 : Int32)) dm_3_68 rfl rfl
  obtain ⟨h2, a2, W2, E2, g2, ⟨k2, A2⟩, sf2, SF2⟩ := W1.newarr (pc' := 71) (cap := 3) (cells' := 2) (slots' := 7) dm_3_69 (w11 hw) (by decide) (by decide) (by decide) rfl rfl rfl (by decide) (by decide)
  clear W1
  rw [← g2] at A2
  have z2 : h1.size ≤ h2.size := E2.1
  have v2 : Arv Z h2 a2 k2 .char (3 : Int32) [(.int (0 : Int32)), (.int (0 : Int32)), (.int (0 : Int32))] (.int (0 : Int32)) := A2.pad (pad_rep [] (.int (0 : Int32)) 3)
  replace W2 := W2.dup (pc' := 72) dm_3_71 rfl rfl
  replace W2 := W2.iconst (pc' := 73) (v := (0 : Int32)) dm_3_72 rfl rfl
  replace W2 := W2.iloadN (pc' := 74) dm_3_73 rfl rfl
  obtain ⟨h3, W3, w3, A3, SF3⟩ := W2.castore (pc' := 75) (i := 0) (x' := c0) dm_3_74 v2 ⟨by decide, by decide⟩ rfl (by show 0 < 3; decide) (own_narc (own_up hp_c0)) (W2.safeA v2 (by decide)) (Or.inr (Nat.le_trans z1 (Nat.le_of_eq g2.symm))) rfl
  clear W2
  have z3 : h2.size ≤ h3.size := Nat.le_of_eq w3.size.symm
  have v3 : Arv Z h3 a2 k2 .char (3 : Int32) [(.int c0), (.int (0 : Int32)), (.int (0 : Int32))] (.int (0 : Int32)) := A3
  replace W3 := W3.dup (pc' := 76) dm_3_75 rfl rfl
  replace W3 := W3.iconst (pc' := 77) (v := (1 : Int32)) dm_3_76 rfl rfl
  replace W3 := W3.iloadN (pc' := 78) dm_3_77 rfl rfl
  obtain ⟨h4, W4, w4, A4, SF4⟩ := W3.castore (pc' := 79) (i := 1) (x' := c1) dm_3_78 v3 ⟨by decide, by decide⟩ rfl (by show 1 < 3; decide) (own_narc (own_up hp_c1)) (W3.safeA v3 (by decide)) (Or.inr (Nat.le_trans z1 (Nat.le_of_eq g2.symm))) rfl
  clear W3
  have z4 : h3.size ≤ h4.size := Nat.le_of_eq w4.size.symm
  have v4 : Arv Z h4 a2 k2 .char (3 : Int32) [(.int c0), (.int c1), (.int (0 : Int32))] (.int (0 : Int32)) := A4
  replace W4 := W4.dup (pc' := 80) dm_3_79 rfl rfl
  replace W4 := W4.iconst (pc' := 81) (v := (2 : Int32)) dm_3_80 rfl rfl
  replace W4 := W4.iloadN (pc' := 82) dm_3_81 rfl rfl
  obtain ⟨h5, W5, w5, A5, SF5⟩ := W4.castore (pc' := 83) (i := 2) (x' := c2) dm_3_82 v4 ⟨by decide, by decide⟩ rfl (by show 2 < 3; decide) (own_narc (own_up hp_c2)) (W4.safeA v4 (by decide)) (Or.inr (Nat.le_trans z1 (Nat.le_of_eq g2.symm))) rfl
  clear W4
  have z5 : h4.size ≤ h5.size := Nat.le_of_eq w5.size.symm
  have v5 : Arv Z h5 a2 k2 .char (3 : Int32) [(.int c0), (.int c1), (.int c2)] (.int (0 : Int32)) := A5
  have e6 := ((((A1.ext E2).wr w3).wr w4).wr w5)
  have f7 := (((((D1 (Or.inr (w24 hw)) (ty := (.array .byte)) (by decide) : Fld Z h1 a1 "java/lang/String" "value" "[B" .null).ext E2).other w3 (Or.inl (Nat.ne_of_lt (Nat.lt_of_lt_of_le A1.lt (Nat.le_of_eq g2.symm))))).other w4 (Or.inl (Nat.ne_of_lt (Nat.lt_of_lt_of_le A1.lt (Nat.le_of_eq g2.symm))))).other w5 (Or.inl (Nat.ne_of_lt (Nat.lt_of_lt_of_le A1.lt (Nat.le_of_eq g2.symm)))))
  have f8 := (((((D1 (Or.inr (w25 hw)) (ty := .byte) (by decide) : Fld Z h1 a1 "java/lang/String" "coder" "B" (.int (0 : Int32))).ext E2).other w3 (Or.inl (Nat.ne_of_lt (Nat.lt_of_lt_of_le A1.lt (Nat.le_of_eq g2.symm))))).other w4 (Or.inl (Nat.ne_of_lt (Nat.lt_of_lt_of_le A1.lt (Nat.le_of_eq g2.symm))))).other w5 (Or.inl (Nat.ne_of_lt (Nat.lt_of_lt_of_le A1.lt (Nat.le_of_eq g2.symm)))))
  have sf9 := (SF5 a1 (SF4 a1 (SF3 a1 (SF2 a1 sf1))))
  obtain ⟨V10, h10, r10, W10, K10, hQ10, SF10⟩ := W5.callI (pc' := 86) (argsL := [(.ref a2)]) (rest := [(.ref a1)]) (Wd := 1) (cells' := 3) (slots' := 10) (a := a1) (y := (⟨"java/lang/String", "<init>", "([C)V"⟩ : MethodName)) dm_3_83 (new1_3 l Z a0 n0 hw hEL G1 O1 P1 a1 a2 k2 c0 c1 c2 h5 W5.old e6 f7 f8 v5 hp_c0 hp_c1 hp_c2 (Nat.le_trans W5.1.2.2.2.2.2.2.2.1 (Nat.le_of_eq g1.symm))) rfl (w12 hw) (w13 hw) (w10 hw) (w14 hw) (by decide) (lenOf pd11 rfl) rfl rfl (by decide) (by decide) rfl (sfS sf9 sf0) (allS (Or.inr (Nat.le_of_eq g1.symm)) all0) rfl rfl rfl (by decide) (by decide)
  clear W5
  obtain ⟨t10, kt10, rfl, q10_1, q10_2, q10_3, q10_4⟩ := hQ10
  have z10 : h5.size ≤ h10.size := K10.1
  replace W10 := W10.cast (st' := [(.ref a1)]) rfl
  exact W10.aret (t := (.object "java/lang/String")) dm_3_86 rfl rfl rfl rfl (by decide) (by decide) (fun V' cv => ⟨a1, t10, kt10, rfl, q10_1, q10_2, q10_3, q10_4, (Nat.le_of_eq g1.symm)⟩)
theorem ef_len_4 (m : MethodId) (xa : Addr) (ta : Addr) (kt : ClassId) (b0 : Int32) (b1 : Int32) (b2 : Int32) (b3 : Int32) : entryFrame m #[(.ref xa)] 1 = mkF m 0 #[.val (.ref xa)] [] := by first | (simp [entryFrame, mkF, argsToLocals, Value.category]; done) | rfl
set_option maxRecDepth 65536 in
set_option maxHeartbeats 40000000 in
theorem len_4 (l : Launch) (Z : State) (a0 : Array Value) (n0 : Nat) (hw : ∀ d ∈ tables_1, d.before a0 Z = true) (hEL : EW Z a0 consts_1) (G1 : Int32) (O1 : Sta Z Z.heap "java/lang/String" "COMPACT_STRINGS" "Z" (.int G1)) (P1 : ¬ (G1 = (0 : Int32))) (xa : Addr) (ta : Addr) (kt : ClassId) (b0 : Int32) (b1 : Int32) (b2 : Int32) (b3 : Int32) (h0 : Heap) (hO : Old Z n0 h0) (E_xa : Exa Z h0 xa "java/lang/String") (F_xa_coder : Fld Z h0 xa "java/lang/String" "coder" "B" (.int (0 : Int32))) (F_xa_value : Fld Z h0 xa "java/lang/String" "value" "[B" (.ref ta)) (V_ta : Arv Z h0 ta kt .byte (4 : Int32) [(.int b0), (.int b1), (.int b2), (.int b3)] (.int (0 : Int32))) :
    Con l Z consts_1 n0 (⟨"java/lang/String", "length", "()I"⟩ : MethodName) jdk_42_method_54_code 1 (some .int) ({ frames := 1, cells := 0, slots := 0, locals := 13 } : Room) #[(.ref xa)] h0 [] (fun v h V' => v = some (.int (4 : Int32)) ∧ h0 = h) [] := by
  refine Con.of (a0 := a0) pf9 (fun m => ef_len_4 m xa ta kt b0 b1 b2 b3) all0 hO hEL ?_
  intro p e s m below meth c S0 hnm hsf W
  replace W := W.aloadN (pc' := 1) djdk_42_54_0 rfl rfl rfl
  replace W := W.getf (pc' := 4) djdk_42_54_1 (w28 hw) Via.refl F_xa_value rfl
  replace W := W.alen (pc' := 5) djdk_42_54_4 V_ta rfl
  replace W := W.aloadN (pc' := 6) djdk_42_54_5 rfl rfl rfl
  obtain ⟨V1, h1, r1, W1, K1, hQ1, SF1⟩ := W.callV (pc' := 9) (argsL := []) (rest := [(.int (4 : Int32))]) (Wd := 1) (cells' := 0) (slots' := 0) (a := xa) (C := "java/lang/String") (y := (⟨"java/lang/String", "coder", "()B"⟩ : MethodName)) (z := (⟨"java/lang/String", "coder", "()B"⟩ : MethodName)) djdk_42_54_6 (coder_c l Z a0 n0 hw hEL G1 O1 P1 xa h0 W.old F_xa_coder) E_xa (w55 hw) (w56 hw) (Or.inl (w58 hw)) (w58 hw) (w57 hw) (w10 hw) (w59 hw) (by decide) (lenOf pd4 rfl) rfl rfl (by decide) (by decide) rfl sf0 all0 rfl rfl rfl (by decide) (by decide)
  clear W
  obtain ⟨rfl, hs1⟩ := hQ1
  subst hs1
  replace W1 := W1.cast (st' := [(.int (0 : Int32)), (.int (4 : Int32))]) rfl
  replace W1 := W1.ishr (pc' := 10) (v := (4 : Int32)) djdk_42_54_9 (by decide) rfl
  exact W1.iret (t := .int) djdk_42_54_10 rfl (by simp) rfl (by decide) (by decide) (fun V' cv => ⟨rfl, rfl⟩)
theorem ef_max_4 (m : MethodId)  : entryFrame m #[(.int (0 : Int32)), (.int (0 : Int32))] 2 = mkF m 0 #[.val (.int (0 : Int32)), .val (.int (0 : Int32))] [] := by first | (simp [entryFrame, mkF, argsToLocals, Value.category]; done) | rfl
set_option maxRecDepth 65536 in
set_option maxHeartbeats 40000000 in
theorem max_4 (l : Launch) (Z : State) (a0 : Array Value) (n0 : Nat) (hw : ∀ d ∈ tables_1, d.before a0 Z = true) (hEL : EW Z a0 consts_1) (G1 : Int32) (O1 : Sta Z Z.heap "java/lang/String" "COMPACT_STRINGS" "Z" (.int G1)) (P1 : ¬ (G1 = (0 : Int32)))  (h0 : Heap) (hO : Old Z n0 h0)  :
    Con l Z consts_1 n0 (⟨"java/lang/Math", "max", "(II)I"⟩ : MethodName) jdk_29_method_65_code 2 (some .int) ({ frames := 0, cells := 0, slots := 0, locals := 0 } : Room) #[(.int (0 : Int32)), (.int (0 : Int32))] h0 [] (fun v h V' => v = some (.int (0 : Int32)) ∧ h0 = h) [] := by
  refine Con.of (a0 := a0) pf10 (fun m => ef_max_4 m ) all0 hO hEL ?_
  intro p e s m below meth c S0 hnm hsf W
  replace W := W.iloadN (pc' := 1) djdk_29_65_0 rfl rfl
  replace W := W.iloadN (pc' := 2) djdk_29_65_1 rfl rfl
  replace W := W.icmpF (pc' := 5) djdk_29_65_2 (flt (by decide : ¬ ((0 : Int32) < (0 : Int32)))).1 rfl
  replace W := W.iloadN (pc' := 6) djdk_29_65_5 rfl rfl
  replace W := W.goto (pc' := 10) djdk_29_65_6 (by decide) (by decide)
  exact W.iret (t := .int) djdk_29_65_10 rfl (by simp) rfl (by decide) (by decide) (fun V' cv => ⟨rfl, rfl⟩)
theorem ef_min_4 (m : MethodId)  : entryFrame m #[(.int (4 : Int32)), (.int (4 : Int32))] 2 = mkF m 0 #[.val (.int (4 : Int32)), .val (.int (4 : Int32))] [] := by first | (simp [entryFrame, mkF, argsToLocals, Value.category]; done) | rfl
set_option maxRecDepth 65536 in
set_option maxHeartbeats 40000000 in
theorem min_4 (l : Launch) (Z : State) (a0 : Array Value) (n0 : Nat) (hw : ∀ d ∈ tables_1, d.before a0 Z = true) (hEL : EW Z a0 consts_1) (G1 : Int32) (O1 : Sta Z Z.heap "java/lang/String" "COMPACT_STRINGS" "Z" (.int G1)) (P1 : ¬ (G1 = (0 : Int32)))  (h0 : Heap) (hO : Old Z n0 h0)  :
    Con l Z consts_1 n0 (⟨"java/lang/Math", "min", "(II)I"⟩ : MethodName) jdk_29_method_69_code 2 (some .int) ({ frames := 0, cells := 0, slots := 0, locals := 0 } : Room) #[(.int (4 : Int32)), (.int (4 : Int32))] h0 [] (fun v h V' => v = some (.int (4 : Int32)) ∧ h0 = h) [] := by
  refine Con.of (a0 := a0) pf11 (fun m => ef_min_4 m ) all0 hO hEL ?_
  intro p e s m below meth c S0 hnm hsf W
  replace W := W.iloadN (pc' := 1) djdk_29_69_0 rfl rfl
  replace W := W.iloadN (pc' := 2) djdk_29_69_1 rfl rfl
  replace W := W.icmpF (pc' := 5) djdk_29_69_2 (flt (by decide : ¬ ((4 : Int32) < (4 : Int32)))).2.2.1 rfl
  replace W := W.iloadN (pc' := 6) djdk_29_69_5 rfl rfl
  replace W := W.goto (pc' := 10) djdk_29_69_6 (by decide) (by decide)
  exact W.iret (t := .int) djdk_29_69_10 rfl (by simp) rfl (by decide) (by decide) (fun V' cv => ⟨rfl, rfl⟩)
theorem ef_ioc_4 (m : MethodId) (ta : Addr) (kt : ClassId) (b0 : Int32) (b1 : Int32) (b2 : Int32) (b3 : Int32) : entryFrame m #[(.ref ta), (.int (61 : Int32)), (.int (0 : Int32)), (.int (4 : Int32))] 6 = mkF m 0 #[.val (.ref ta), .val (.int (61 : Int32)), .val (.int (0 : Int32)), .val (.int (4 : Int32)), .unset, .unset] [] := by first | (simp [entryFrame, mkF, argsToLocals, Value.category]; done) | rfl
set_option maxRecDepth 65536 in
set_option maxHeartbeats 40000000 in
theorem ioc_4 (l : Launch) (Z : State) (a0 : Array Value) (n0 : Nat) (hw : ∀ d ∈ tables_1, d.before a0 Z = true) (hEL : EW Z a0 consts_1) (G1 : Int32) (O1 : Sta Z Z.heap "java/lang/String" "COMPACT_STRINGS" "Z" (.int G1)) (P1 : ¬ (G1 = (0 : Int32))) (ta : Addr) (kt : ClassId) (b0 : Int32) (b1 : Int32) (b2 : Int32) (b3 : Int32) (h0 : Heap) (hO : Old Z n0 h0) (V_ta : Arv Z h0 ta kt .byte (4 : Int32) [(.int b0), (.int b1), (.int b2), (.int b3)] (.int (0 : Int32))) :
    Con l Z consts_1 n0 (⟨"java/lang/StringLatin1", "indexOfChar", "([BIII)I"⟩ : MethodName) jdk_43_method_23_code 6 (some .int) ({ frames := 0, cells := 0, slots := 0, locals := 0 } : Room) #[(.ref ta), (.int (61 : Int32)), (.int (0 : Int32)), (.int (4 : Int32))] h0 [] (fun v h V' => v = some (.int (ix (61 : Int32) [b0, b1, b2, b3] (0 : Int32))) ∧ h0 = h) [] := by
  refine Con.of (a0 := a0) pf17 (fun m => ef_ioc_4 m ta kt b0 b1 b2 b3) all0 hO hEL ?_
  intro p e s m below meth c S0 hnm hsf W
  replace W := W.iloadN (pc' := 1) djdk_43_23_0 rfl rfl
  replace W := W.i2b (pc' := 2) (v := (61 : Int32)) djdk_43_23_1 (by decide) rfl
  replace W := W.istore (pc' := 4) (L' := #[.val (.ref ta), .val (.int (61 : Int32)), .val (.int (0 : Int32)), .val (.int (4 : Int32)), .val (.int (61 : Int32)), .unset]) djdk_43_23_2 rfl rfl
  replace W := W.iloadN (pc' := 5) djdk_43_23_4 rfl rfl
  replace W := W.istore (pc' := 7) (L' := #[.val (.ref ta), .val (.int (61 : Int32)), .val (.int (0 : Int32)), .val (.int (4 : Int32)), .val (.int (61 : Int32)), .val (.int (0 : Int32))]) djdk_43_23_5 rfl rfl
  replace W := W.iload (pc' := 9) djdk_43_23_7 rfl rfl
  replace W := W.iloadN (pc' := 10) djdk_43_23_9 rfl rfl
  replace W := W.icmpF (pc' := 13) djdk_43_23_10 (tlt (by decide : (0 : Int32) < (4 : Int32))).2.1 rfl
  replace W := W.aloadN (pc' := 14) djdk_43_23_13 rfl rfl rfl
  replace W := W.iload (pc' := 16) djdk_43_23_14 rfl rfl
  replace W := W.baload (pc' := 17) (w := (.int b0)) djdk_43_23_16 V_ta ⟨by decide, by decide⟩ rfl rfl
  replace W := W.iload (pc' := 19) djdk_43_23_17 rfl rfl
  by_cases c1 : b0 = (61 : Int32)
  · replace W := W.icmpF (pc' := 22) djdk_43_23_19 (teq c1).2 rfl
    replace W := W.iload (pc' := 24) djdk_43_23_22 rfl rfl
    exact W.iret (t := .int) djdk_43_23_24 rfl (by simp) rfl (by decide) (by decide) (fun V' cv => ⟨(by simp [ix, c1]), rfl⟩)
  · replace W := W.icmpT (pc' := 25) djdk_43_23_19 (feq c1).2 (by decide) (by decide)
    replace W := W.iinc (pc' := 28) (v := (1 : Int32)) (L' := #[.val (.ref ta), .val (.int (61 : Int32)), .val (.int (0 : Int32)), .val (.int (4 : Int32)), .val (.int (61 : Int32)), .val (.int (1 : Int32))]) djdk_43_23_25 rfl (by decide) rfl rfl
    replace W := W.goto (pc' := 7) djdk_43_23_28 (by decide) (by decide)
    replace W := W.iload (pc' := 9) djdk_43_23_7 rfl rfl
    replace W := W.iloadN (pc' := 10) djdk_43_23_9 rfl rfl
    replace W := W.icmpF (pc' := 13) djdk_43_23_10 (tlt (by decide : (1 : Int32) < (4 : Int32))).2.1 rfl
    replace W := W.aloadN (pc' := 14) djdk_43_23_13 rfl rfl rfl
    replace W := W.iload (pc' := 16) djdk_43_23_14 rfl rfl
    replace W := W.baload (pc' := 17) (w := (.int b1)) djdk_43_23_16 V_ta ⟨by decide, by decide⟩ rfl rfl
    replace W := W.iload (pc' := 19) djdk_43_23_17 rfl rfl
    by_cases c2 : b1 = (61 : Int32)
    · replace W := W.icmpF (pc' := 22) djdk_43_23_19 (teq c2).2 rfl
      replace W := W.iload (pc' := 24) djdk_43_23_22 rfl rfl
      exact W.iret (t := .int) djdk_43_23_24 rfl (by simp) rfl (by decide) (by decide) (fun V' cv => ⟨(by simp [ix, c1, c2]), rfl⟩)
    · replace W := W.icmpT (pc' := 25) djdk_43_23_19 (feq c2).2 (by decide) (by decide)
      replace W := W.iinc (pc' := 28) (v := (2 : Int32)) (L' := #[.val (.ref ta), .val (.int (61 : Int32)), .val (.int (0 : Int32)), .val (.int (4 : Int32)), .val (.int (61 : Int32)), .val (.int (2 : Int32))]) djdk_43_23_25 rfl (by decide) rfl rfl
      replace W := W.goto (pc' := 7) djdk_43_23_28 (by decide) (by decide)
      replace W := W.iload (pc' := 9) djdk_43_23_7 rfl rfl
      replace W := W.iloadN (pc' := 10) djdk_43_23_9 rfl rfl
      replace W := W.icmpF (pc' := 13) djdk_43_23_10 (tlt (by decide : (2 : Int32) < (4 : Int32))).2.1 rfl
      replace W := W.aloadN (pc' := 14) djdk_43_23_13 rfl rfl rfl
      replace W := W.iload (pc' := 16) djdk_43_23_14 rfl rfl
      replace W := W.baload (pc' := 17) (w := (.int b2)) djdk_43_23_16 V_ta ⟨by decide, by decide⟩ rfl rfl
      replace W := W.iload (pc' := 19) djdk_43_23_17 rfl rfl
      by_cases c3 : b2 = (61 : Int32)
      · replace W := W.icmpF (pc' := 22) djdk_43_23_19 (teq c3).2 rfl
        replace W := W.iload (pc' := 24) djdk_43_23_22 rfl rfl
        exact W.iret (t := .int) djdk_43_23_24 rfl (by simp) rfl (by decide) (by decide) (fun V' cv => ⟨(by simp [ix, c1, c2, c3]), rfl⟩)
      · replace W := W.icmpT (pc' := 25) djdk_43_23_19 (feq c3).2 (by decide) (by decide)
        replace W := W.iinc (pc' := 28) (v := (3 : Int32)) (L' := #[.val (.ref ta), .val (.int (61 : Int32)), .val (.int (0 : Int32)), .val (.int (4 : Int32)), .val (.int (61 : Int32)), .val (.int (3 : Int32))]) djdk_43_23_25 rfl (by decide) rfl rfl
        replace W := W.goto (pc' := 7) djdk_43_23_28 (by decide) (by decide)
        replace W := W.iload (pc' := 9) djdk_43_23_7 rfl rfl
        replace W := W.iloadN (pc' := 10) djdk_43_23_9 rfl rfl
        replace W := W.icmpF (pc' := 13) djdk_43_23_10 (tlt (by decide : (3 : Int32) < (4 : Int32))).2.1 rfl
        replace W := W.aloadN (pc' := 14) djdk_43_23_13 rfl rfl rfl
        replace W := W.iload (pc' := 16) djdk_43_23_14 rfl rfl
        replace W := W.baload (pc' := 17) (w := (.int b3)) djdk_43_23_16 V_ta ⟨by decide, by decide⟩ rfl rfl
        replace W := W.iload (pc' := 19) djdk_43_23_17 rfl rfl
        by_cases c4 : b3 = (61 : Int32)
        · replace W := W.icmpF (pc' := 22) djdk_43_23_19 (teq c4).2 rfl
          replace W := W.iload (pc' := 24) djdk_43_23_22 rfl rfl
          exact W.iret (t := .int) djdk_43_23_24 rfl (by simp) rfl (by decide) (by decide) (fun V' cv => ⟨(by simp [ix, c1, c2, c3, c4]), rfl⟩)
        · replace W := W.icmpT (pc' := 25) djdk_43_23_19 (feq c4).2 (by decide) (by decide)
          replace W := W.iinc (pc' := 28) (v := (4 : Int32)) (L' := #[.val (.ref ta), .val (.int (61 : Int32)), .val (.int (0 : Int32)), .val (.int (4 : Int32)), .val (.int (61 : Int32)), .val (.int (4 : Int32))]) djdk_43_23_25 rfl (by decide) rfl rfl
          replace W := W.goto (pc' := 7) djdk_43_23_28 (by decide) (by decide)
          replace W := W.iload (pc' := 9) djdk_43_23_7 rfl rfl
          replace W := W.iloadN (pc' := 10) djdk_43_23_9 rfl rfl
          replace W := W.icmpT (pc' := 31) djdk_43_23_10 (flt (by decide : ¬ ((4 : Int32) < (4 : Int32)))).2.1 (by decide) (by decide)
          replace W := W.iconst (pc' := 32) (v := (-1 : Int32)) djdk_43_23_31 rfl rfl
          exact W.iret (t := .int) djdk_43_23_32 rfl (by simp) rfl (by decide) (by decide) (fun V' cv => ⟨(by simp [ix, c1, c2, c3, c4]), rfl⟩)
theorem ef_lio_4 (m : MethodId) (ta : Addr) (kt : ClassId) (b0 : Int32) (b1 : Int32) (b2 : Int32) (b3 : Int32) : entryFrame m #[(.ref ta), (.int (61 : Int32)), (.int (0 : Int32)), (.int (4 : Int32))] 4 = mkF m 0 #[.val (.ref ta), .val (.int (61 : Int32)), .val (.int (0 : Int32)), .val (.int (4 : Int32))] [] := by first | (simp [entryFrame, mkF, argsToLocals, Value.category]; done) | rfl
set_option maxRecDepth 65536 in
set_option maxHeartbeats 40000000 in
theorem lio_4 (l : Launch) (Z : State) (a0 : Array Value) (n0 : Nat) (hw : ∀ d ∈ tables_1, d.before a0 Z = true) (hEL : EW Z a0 consts_1) (G1 : Int32) (O1 : Sta Z Z.heap "java/lang/String" "COMPACT_STRINGS" "Z" (.int G1)) (P1 : ¬ (G1 = (0 : Int32))) (ta : Addr) (kt : ClassId) (b0 : Int32) (b1 : Int32) (b2 : Int32) (b3 : Int32) (h0 : Heap) (hO : Old Z n0 h0) (V_ta : Arv Z h0 ta kt .byte (4 : Int32) [(.int b0), (.int b1), (.int b2), (.int b3)] (.int (0 : Int32))) :
    Con l Z consts_1 n0 (⟨"java/lang/StringLatin1", "indexOf", "([BIII)I"⟩ : MethodName) jdk_43_method_22_code 4 (some .int) ({ frames := 1, cells := 0, slots := 0, locals := 17 } : Room) #[(.ref ta), (.int (61 : Int32)), (.int (0 : Int32)), (.int (4 : Int32))] h0 [] (fun v h V' => v = some (.int (ix (61 : Int32) [b0, b1, b2, b3] (0 : Int32))) ∧ h0 = h) [] := by
  refine Con.of (a0 := a0) pf12 (fun m => ef_lio_4 m ta kt b0 b1 b2 b3) all0 hO hEL ?_
  intro p e s m below meth c S0 hnm hsf W
  replace W := W.iloadN (pc' := 1) djdk_43_22_0 rfl rfl
  obtain ⟨V1, h1, r1, W1, K1, hQ1, SF1⟩ := W.callS (pc' := 4) (argsL := [(.int (61 : Int32))]) (rest := []) (Wd := 0) (cells' := 0) (slots' := 0) (y := (⟨"java/lang/StringLatin1", "canEncode", "(I)Z"⟩ : MethodName)) djdk_43_22_1 (canenc l Z a0 n0 hw hEL G1 O1 P1 h0 W.old) (w64 hw) (w65 hw) (w62 hw) (w66 hw) (by decide) (lenOf pd5 rfl) rfl rfl (by decide) (by decide) rfl sf0 all0 rfl rfl rfl (by decide) (by decide)
  clear W
  obtain ⟨rfl, hs1⟩ := hQ1
  subst hs1
  replace W1 := W1.cast (st' := [(.int (1 : Int32))]) rfl
  replace W1 := W1.ifT (pc' := 9) djdk_43_22_4 (feq (by decide : ¬ ((1 : Int32) = (0 : Int32)))).2 (by decide) (by decide)
  replace W1 := W1.iloadN (pc' := 10) djdk_43_22_9 rfl rfl
  replace W1 := W1.iconst (pc' := 11) (v := (0 : Int32)) djdk_43_22_10 rfl rfl
  obtain ⟨V2, h2, r2, W2, K2, hQ2, SF2⟩ := W1.callS (pc' := 14) (argsL := [(.int (0 : Int32)), (.int (0 : Int32))]) (rest := []) (Wd := 0) (cells' := 0) (slots' := 0) (y := (⟨"java/lang/Math", "max", "(II)I"⟩ : MethodName)) djdk_43_22_11 (max_4 l Z a0 n0 hw hEL G1 O1 P1 h0 W1.old) (w67 hw) (w68 hw) (w69 hw) (w70 hw) (by decide) (lenOf pd6 rfl) rfl rfl (by decide) (by decide) rfl sf0 all0 rfl rfl rfl (by decide) (by decide)
  clear W1
  obtain ⟨rfl, hs2⟩ := hQ2
  subst hs2
  replace W2 := W2.cast (st' := [(.int (0 : Int32))]) rfl
  replace W2 := W2.istoreN (pc' := 15) (L' := #[.val (.ref ta), .val (.int (61 : Int32)), .val (.int (0 : Int32)), .val (.int (4 : Int32))]) djdk_43_22_14 rfl rfl
  replace W2 := W2.iloadN (pc' := 16) djdk_43_22_15 rfl rfl
  replace W2 := W2.aloadN (pc' := 17) djdk_43_22_16 rfl rfl rfl
  replace W2 := W2.alen (pc' := 18) djdk_43_22_17 V_ta rfl
  obtain ⟨V3, h3, r3, W3, K3, hQ3, SF3⟩ := W2.callS (pc' := 21) (argsL := [(.int (4 : Int32)), (.int (4 : Int32))]) (rest := []) (Wd := 0) (cells' := 0) (slots' := 0) (y := (⟨"java/lang/Math", "min", "(II)I"⟩ : MethodName)) djdk_43_22_18 (min_4 l Z a0 n0 hw hEL G1 O1 P1 h0 W2.old) (w71 hw) (w72 hw) (w69 hw) (w73 hw) (by decide) (lenOf pd6 rfl) rfl rfl (by decide) (by decide) rfl sf0 all0 rfl rfl rfl (by decide) (by decide)
  clear W2
  obtain ⟨rfl, hs3⟩ := hQ3
  subst hs3
  replace W3 := W3.cast (st' := [(.int (4 : Int32))]) rfl
  replace W3 := W3.istoreN (pc' := 22) (L' := #[.val (.ref ta), .val (.int (61 : Int32)), .val (.int (0 : Int32)), .val (.int (4 : Int32))]) djdk_43_22_21 rfl rfl
  replace W3 := W3.iloadN (pc' := 23) djdk_43_22_22 rfl rfl
  replace W3 := W3.iloadN (pc' := 24) djdk_43_22_23 rfl rfl
  replace W3 := W3.icmpT (pc' := 29) djdk_43_22_24 (tlt (by decide : (0 : Int32) < (4 : Int32))).1 (by decide) (by decide)
  replace W3 := W3.aloadN (pc' := 30) djdk_43_22_29 rfl rfl rfl
  replace W3 := W3.iloadN (pc' := 31) djdk_43_22_30 rfl rfl
  replace W3 := W3.iloadN (pc' := 32) djdk_43_22_31 rfl rfl
  replace W3 := W3.iloadN (pc' := 33) djdk_43_22_32 rfl rfl
  obtain ⟨V4, h4, r4, W4, K4, hQ4, SF4⟩ := W3.callS (pc' := 36) (argsL := [(.ref ta), (.int (61 : Int32)), (.int (0 : Int32)), (.int (4 : Int32))]) (rest := []) (Wd := 0) (cells' := 0) (slots' := 0) (y := (⟨"java/lang/StringLatin1", "indexOfChar", "([BIII)I"⟩ : MethodName)) djdk_43_22_33 (ioc_4 l Z a0 n0 hw hEL G1 O1 P1 ta kt b0 b1 b2 b3 h0 W3.old V_ta) (w84 hw) (w85 hw) (w62 hw) (w86 hw) (by decide) (lenOf pd9 rfl) rfl rfl (by decide) (by decide) rfl sf0 all0 rfl rfl rfl (by decide) (by decide)
  clear W3
  obtain ⟨rfl, hs4⟩ := hQ4
  subst hs4
  replace W4 := W4.cast (st' := [(.int (ix (61 : Int32) [b0, b1, b2, b3] (0 : Int32)))]) rfl
  exact W4.iret (t := .int) djdk_43_22_36 rfl (by simp) rfl (by decide) (by decide) (fun V' cv => ⟨rfl, rfl⟩)
theorem ef_io2_4 (m : MethodId) (xa : Addr) (ta : Addr) (kt : ClassId) (b0 : Int32) (b1 : Int32) (b2 : Int32) (b3 : Int32) : entryFrame m #[(.ref xa), (.int (61 : Int32)), (.int (0 : Int32))] 3 = mkF m 0 #[.val (.ref xa), .val (.int (61 : Int32)), .val (.int (0 : Int32))] [] := by first | (simp [entryFrame, mkF, argsToLocals, Value.category]; done) | rfl
set_option maxRecDepth 65536 in
set_option maxHeartbeats 40000000 in
theorem io2_4 (l : Launch) (Z : State) (a0 : Array Value) (n0 : Nat) (hw : ∀ d ∈ tables_1, d.before a0 Z = true) (hEL : EW Z a0 consts_1) (G1 : Int32) (O1 : Sta Z Z.heap "java/lang/String" "COMPACT_STRINGS" "Z" (.int G1)) (P1 : ¬ (G1 = (0 : Int32))) (xa : Addr) (ta : Addr) (kt : ClassId) (b0 : Int32) (b1 : Int32) (b2 : Int32) (b3 : Int32) (h0 : Heap) (hO : Old Z n0 h0) (E_xa : Exa Z h0 xa "java/lang/String") (F_xa_coder : Fld Z h0 xa "java/lang/String" "coder" "B" (.int (0 : Int32))) (F_xa_value : Fld Z h0 xa "java/lang/String" "value" "[B" (.ref ta)) (V_ta : Arv Z h0 ta kt .byte (4 : Int32) [(.int b0), (.int b1), (.int b2), (.int b3)] (.int (0 : Int32))) :
    Con l Z consts_1 n0 (⟨"java/lang/String", "indexOf", "(II)I"⟩ : MethodName) jdk_42_method_80_code 3 (some .int) ({ frames := 2, cells := 0, slots := 0, locals := 32 } : Room) #[(.ref xa), (.int (61 : Int32)), (.int (0 : Int32))] h0 [] (fun v h V' => v = some (.int (ix (61 : Int32) [b0, b1, b2, b3] (0 : Int32))) ∧ h0 = h) [] := by
  refine Con.of (a0 := a0) pf13 (fun m => ef_io2_4 m xa ta kt b0 b1 b2 b3) all0 hO hEL ?_
  intro p e s m below meth c S0 hnm hsf W
  replace W := W.aloadN (pc' := 1) djdk_42_80_0 rfl rfl rfl
  obtain ⟨V1, h1, r1, W1, K1, hQ1, SF1⟩ := W.callV (pc' := 4) (argsL := []) (rest := []) (Wd := 0) (cells' := 0) (slots' := 0) (a := xa) (C := "java/lang/String") (y := (⟨"java/lang/String", "isLatin1", "()Z"⟩ : MethodName)) (z := (⟨"java/lang/String", "isLatin1", "()Z"⟩ : MethodName)) djdk_42_80_1 (islat l Z a0 n0 hw hEL G1 O1 P1 xa h0 W.old F_xa_coder) E_xa (w44 hw) (w45 hw) (Or.inl (w47 hw)) (w47 hw) (w46 hw) (w10 hw) (w48 hw) (by decide) (lenOf pd7 rfl) rfl rfl (by decide) (by decide) rfl sf0 all0 rfl rfl rfl (by decide) (by decide)
  clear W
  obtain ⟨rfl, hs1⟩ := hQ1
  subst hs1
  replace W1 := W1.cast (st' := [(.int (1 : Int32))]) rfl
  replace W1 := W1.ifF (pc' := 7) djdk_42_80_4 (feq (by decide : ¬ ((1 : Int32) = (0 : Int32)))).1 rfl
  replace W1 := W1.aloadN (pc' := 8) djdk_42_80_7 rfl rfl rfl
  replace W1 := W1.getf (pc' := 11) djdk_42_80_8 (w28 hw) Via.refl F_xa_value rfl
  replace W1 := W1.iloadN (pc' := 12) djdk_42_80_11 rfl rfl
  replace W1 := W1.iloadN (pc' := 13) djdk_42_80_12 rfl rfl
  replace W1 := W1.aloadN (pc' := 14) djdk_42_80_13 rfl rfl rfl
  obtain ⟨V2, h2, r2, W2, K2, hQ2, SF2⟩ := W1.callV (pc' := 17) (argsL := []) (rest := [(.int (0 : Int32)), (.int (61 : Int32)), (.ref ta)]) (Wd := 3) (cells' := 0) (slots' := 0) (a := xa) (C := "java/lang/String") (y := (⟨"java/lang/String", "length", "()I"⟩ : MethodName)) (z := (⟨"java/lang/String", "length", "()I"⟩ : MethodName)) djdk_42_80_14 (len_4 l Z a0 n0 hw hEL G1 O1 P1 xa ta kt b0 b1 b2 b3 h0 W1.old E_xa F_xa_coder F_xa_value V_ta) E_xa (w50 hw) (w51 hw) (Or.inl (w53 hw)) (w53 hw) (w52 hw) (w10 hw) (w54 hw) (by decide) (lenOf pd8 rfl) rfl rfl (by decide) (by decide) rfl sf0 all0 rfl rfl rfl (by decide) (by decide)
  clear W1
  obtain ⟨rfl, hs2⟩ := hQ2
  subst hs2
  replace W2 := W2.cast (st' := [(.int (4 : Int32)), (.int (0 : Int32)), (.int (61 : Int32)), (.ref ta)]) rfl
  obtain ⟨V3, h3, r3, W3, K3, hQ3, SF3⟩ := W2.callS (pc' := 20) (argsL := [(.ref ta), (.int (61 : Int32)), (.int (0 : Int32)), (.int (4 : Int32))]) (rest := []) (Wd := 0) (cells' := 0) (slots' := 0) (y := (⟨"java/lang/StringLatin1", "indexOf", "([BIII)I"⟩ : MethodName)) djdk_42_80_17 (lio_4 l Z a0 n0 hw hEL G1 O1 P1 ta kt b0 b1 b2 b3 h0 W2.old V_ta) (w60 hw) (w61 hw) (w62 hw) (w63 hw) (by decide) (lenOf pd9 rfl) rfl rfl (by decide) (by decide) rfl sf0 all0 rfl rfl rfl (by decide) (by decide)
  clear W2
  obtain ⟨rfl, hs3⟩ := hQ3
  subst hs3
  replace W3 := W3.cast (st' := [(.int (ix (61 : Int32) [b0, b1, b2, b3] (0 : Int32)))]) rfl
  replace W3 := W3.goto (pc' := 36) djdk_42_80_20 (by decide) (by decide)
  exact W3.iret (t := .int) djdk_42_80_36 rfl (by simp) rfl (by decide) (by decide) (fun V' cv => ⟨rfl, rfl⟩)
theorem ef_io1_4 (m : MethodId) (xa : Addr) (ta : Addr) (kt : ClassId) (b0 : Int32) (b1 : Int32) (b2 : Int32) (b3 : Int32) : entryFrame m #[(.ref xa), (.int (61 : Int32))] 2 = mkF m 0 #[.val (.ref xa), .val (.int (61 : Int32))] [] := by first | (simp [entryFrame, mkF, argsToLocals, Value.category]; done) | rfl
set_option maxRecDepth 65536 in
set_option maxHeartbeats 40000000 in
theorem io1_4 (l : Launch) (Z : State) (a0 : Array Value) (n0 : Nat) (hw : ∀ d ∈ tables_1, d.before a0 Z = true) (hEL : EW Z a0 consts_1) (G1 : Int32) (O1 : Sta Z Z.heap "java/lang/String" "COMPACT_STRINGS" "Z" (.int G1)) (P1 : ¬ (G1 = (0 : Int32))) (xa : Addr) (ta : Addr) (kt : ClassId) (b0 : Int32) (b1 : Int32) (b2 : Int32) (b3 : Int32) (h0 : Heap) (hO : Old Z n0 h0) (E_xa : Exa Z h0 xa "java/lang/String") (F_xa_coder : Fld Z h0 xa "java/lang/String" "coder" "B" (.int (0 : Int32))) (F_xa_value : Fld Z h0 xa "java/lang/String" "value" "[B" (.ref ta)) (V_ta : Arv Z h0 ta kt .byte (4 : Int32) [(.int b0), (.int b1), (.int b2), (.int b3)] (.int (0 : Int32))) :
    Con l Z consts_1 n0 (⟨"java/lang/String", "indexOf", "(I)I"⟩ : MethodName) jdk_42_method_79_code 2 (some .int) ({ frames := 3, cells := 0, slots := 0, locals := 46 } : Room) #[(.ref xa), (.int (61 : Int32))] h0 [] (fun v h V' => v = some (.int (ix (61 : Int32) [b0, b1, b2, b3] (0 : Int32))) ∧ h0 = h) [] := by
  refine Con.of (a0 := a0) pf14 (fun m => ef_io1_4 m xa ta kt b0 b1 b2 b3) all0 hO hEL ?_
  intro p e s m below meth c S0 hnm hsf W
  replace W := W.aloadN (pc' := 1) djdk_42_79_0 rfl rfl rfl
  replace W := W.iloadN (pc' := 2) djdk_42_79_1 rfl rfl
  replace W := W.iconst (pc' := 3) (v := (0 : Int32)) djdk_42_79_2 rfl rfl
  obtain ⟨V1, h1, r1, W1, K1, hQ1, SF1⟩ := W.callV (pc' := 6) (argsL := [(.int (61 : Int32)), (.int (0 : Int32))]) (rest := []) (Wd := 0) (cells' := 0) (slots' := 0) (a := xa) (C := "java/lang/String") (y := (⟨"java/lang/String", "indexOf", "(II)I"⟩ : MethodName)) (z := (⟨"java/lang/String", "indexOf", "(II)I"⟩ : MethodName)) djdk_42_79_3 (io2_4 l Z a0 n0 hw hEL G1 O1 P1 xa ta kt b0 b1 b2 b3 h0 W.old E_xa F_xa_coder F_xa_value V_ta) E_xa (w39 hw) (w40 hw) (Or.inl (w42 hw)) (w42 hw) (w41 hw) (w10 hw) (w43 hw) (by decide) (lenOf pd6 rfl) rfl rfl (by decide) (by decide) rfl sf0 all0 rfl rfl rfl (by decide) (by decide)
  clear W
  obtain ⟨rfl, hs1⟩ := hQ1
  subst hs1
  replace W1 := W1.cast (st' := [(.int (ix (61 : Int32) [b0, b1, b2, b3] (0 : Int32)))]) rfl
  exact W1.iret (t := .int) djdk_42_79_6 rfl (by simp) rfl (by decide) (by decide) (fun V' cv => ⟨rfl, rfl⟩)
theorem ef_isc_4 (m : MethodId) (xa : Addr) (ta : Addr) (kt : ClassId) (b0 : Int32) (b1 : Int32) (b2 : Int32) (b3 : Int32) : entryFrame m #[(.ref xa)] 1 = mkF m 0 #[.val (.ref xa)] [] := by first | (simp [entryFrame, mkF, argsToLocals, Value.category]; done) | rfl
set_option maxRecDepth 65536 in
set_option maxHeartbeats 40000000 in
theorem isc_4 (l : Launch) (Z : State) (a0 : Array Value) (n0 : Nat) (hw : ∀ d ∈ tables_1, d.before a0 Z = true) (hEL : EW Z a0 consts_1) (G1 : Int32) (O1 : Sta Z Z.heap "java/lang/String" "COMPACT_STRINGS" "Z" (.int G1)) (P1 : ¬ (G1 = (0 : Int32))) (xa : Addr) (ta : Addr) (kt : ClassId) (b0 : Int32) (b1 : Int32) (b2 : Int32) (b3 : Int32) (h0 : Heap) (hO : Old Z n0 h0) (E_xa : Exa Z h0 xa "java/lang/String") (F_xa_coder : Fld Z h0 xa "java/lang/String" "coder" "B" (.int (0 : Int32))) (F_xa_value : Fld Z h0 xa "java/lang/String" "value" "[B" (.ref ta)) (V_ta : Arv Z h0 ta kt .byte (4 : Int32) [(.int b0), (.int b1), (.int b2), (.int b3)] (.int (0 : Int32))) :
    Con l Z consts_1 n0 (⟨"com/example/holdfast/holdfast/rules/Where", "isCondition", "(Ljava/lang/String;)Z"⟩ : MethodName) prog_28_method_2_code 1 (some .boolean) ({ frames := 4, cells := 0, slots := 0, locals := 59 } : Room) #[(.ref xa)] h0 [] (fun v h V' => v = some (.int (isc [b0, b1, b2, b3])) ∧ h0 = h) [] := by
  refine Con.of (a0 := a0) pf15 (fun m => ef_isc_4 m xa ta kt b0 b1 b2 b3) all0 hO hEL ?_
  intro p e s m below meth c S0 hnm hsf W
  replace W := W.aloadN (pc' := 1) dprog_28_2_0 rfl rfl rfl
  replace W := W.bipush (pc' := 3) (v := (61 : Int32)) dprog_28_2_1 rfl rfl
  obtain ⟨V1, h1, r1, W1, K1, hQ1, SF1⟩ := W.callV (pc' := 6) (argsL := [(.int (61 : Int32))]) (rest := []) (Wd := 0) (cells' := 0) (slots' := 0) (a := xa) (C := "java/lang/String") (y := (⟨"java/lang/String", "indexOf", "(I)I"⟩ : MethodName)) (z := (⟨"java/lang/String", "indexOf", "(I)I"⟩ : MethodName)) dprog_28_2_3 (io1_4 l Z a0 n0 hw hEL G1 O1 P1 xa ta kt b0 b1 b2 b3 h0 W.old E_xa F_xa_coder F_xa_value V_ta) E_xa (w34 hw) (w35 hw) (Or.inl (w37 hw)) (w37 hw) (w36 hw) (w10 hw) (w38 hw) (by decide) (lenOf pd10 rfl) rfl rfl (by decide) (by decide) rfl sf0 all0 rfl rfl rfl (by decide) (by decide)
  clear W
  obtain ⟨rfl, hs1⟩ := hQ1
  subst hs1
  replace W1 := W1.cast (st' := [(.int (ix (61 : Int32) [b0, b1, b2, b3] (0 : Int32)))]) rfl
  by_cases c2 : (0 : Int32) < (ix (61 : Int32) [b0, b1, b2, b3] (0 : Int32))
  · replace W1 := W1.ifF (pc' := 9) dprog_28_2_6 (tlt c2).2.2.2 rfl
    replace W1 := W1.iconst (pc' := 10) (v := (1 : Int32)) dprog_28_2_9 rfl rfl
    replace W1 := W1.goto (pc' := 14) dprog_28_2_10 (by decide) (by decide)
    exact W1.iret (t := .boolean) dprog_28_2_14 rfl (by simp) (by decide) (by decide) (by decide) (fun V' cv => ⟨(by simp [isc, c2]), rfl⟩)
  · replace W1 := W1.ifT (pc' := 13) dprog_28_2_6 (flt c2).2.2.2 (by decide) (by decide)
    replace W1 := W1.iconst (pc' := 14) (v := (0 : Int32)) dprog_28_2_13 rfl rfl
    exact W1.iret (t := .boolean) dprog_28_2_14 rfl (by simp) (by decide) (by decide) (by decide) (fun V' cv => ⟨(by simp [isc, c2]), rfl⟩)
theorem ef_make_4 (m : MethodId) (c0 : Int32) (c1 : Int32) (c2 : Int32) (c3 : Int32) (c4 : Int32) : entryFrame m #[(.int (4 : Int32)), (.int c0), (.int c1), (.int c2), (.int c3), (.int c4)] 6 = mkF m 0 #[.val (.int (4 : Int32)), .val (.int c0), .val (.int c1), .val (.int c2), .val (.int c3), .val (.int c4)] [] := by first | (simp [entryFrame, mkF, argsToLocals, Value.category]; done) | rfl
set_option maxRecDepth 65536 in
set_option maxHeartbeats 40000000 in
theorem make_4 (l : Launch) (Z : State) (a0 : Array Value) (n0 : Nat) (hw : ∀ d ∈ tables_1, d.before a0 Z = true) (hEL : EW Z a0 consts_1) (G1 : Int32) (O1 : Sta Z Z.heap "java/lang/String" "COMPACT_STRINGS" "Z" (.int G1)) (P1 : ¬ (G1 = (0 : Int32))) (c0 : Int32) (c1 : Int32) (c2 : Int32) (c3 : Int32) (c4 : Int32) (h0 : Heap) (hO : Old Z n0 h0) (hp_c0 : ¬ c0 < 0 ∧ ¬ (255 : Int32) < c0) (hp_c1 : ¬ c1 < 0 ∧ ¬ (255 : Int32) < c1) (hp_c2 : ¬ c2 < 0 ∧ ¬ (255 : Int32) < c2) (hp_c3 : ¬ c3 < 0 ∧ ¬ (255 : Int32) < c3) (hp_c4 : ¬ c4 < 0 ∧ ¬ (255 : Int32) < c4) :
    Con l Z consts_1 n0 (⟨"com/example/holdfast/holdfast/rules/WhereIsConditionPinLaw", "make", "(ICCCCC)Ljava/lang/String;"⟩ : MethodName) method_3_code 6 (some (.object "java/lang/String")) ({ frames := 4, cells := 3, slots := 12, locals := 66 } : Room) #[(.int (4 : Int32)), (.int c0), (.int c1), (.int c2), (.int c3), (.int c4)] h0 [] (fun v h V' => ∃ (xs : Addr) (t : Addr) (kt : ClassId), v = some (.ref xs) ∧ Exa Z h xs "java/lang/String" ∧ Fld Z h xs "java/lang/String" "coder" "B" (.int (0 : Int32)) ∧ Fld Z h xs "java/lang/String" "value" "[B" (.ref t) ∧ Arv Z h t kt .byte (4 : Int32) [(.int (c0.toInt8.toInt32)), (.int (c1.toInt8.toInt32)), (.int (c2.toInt8.toInt32)), (.int (c3.toInt8.toInt32))] (.int (0 : Int32)) ∧ h0.size ≤ xs) [] := by
  refine Con.of (a0 := a0) pf16 (fun m => ef_make_4 m c0 c1 c2 c3 c4) all0 hO hEL ?_
  intro p e s m below meth c S0 hnm hsf W
  replace W := W.iloadN (pc' := 1) dm_3_0 rfl rfl
  replace W := W.ifT (pc' := 15) dm_3_1 (feq (by decide : ¬ ((4 : Int32) = (0 : Int32)))).2 (by decide) (by decide)
  replace W := W.iloadN (pc' := 16) dm_3_15 rfl rfl
  replace W := W.iconst (pc' := 17) (v := (1 : Int32)) dm_3_16 rfl rfl
  replace W := W.icmpT (pc' := 35) dm_3_17 (feq (by decide : ¬ ((4 : Int32) = (1 : Int32)))).2 (by decide) (by decide)
  replace W := W.iloadN (pc' := 36) dm_3_35 rfl rfl
  replace W := W.iconst (pc' := 37) (v := (2 : Int32)) dm_3_36 rfl rfl
  replace W := W.icmpT (pc' := 59) dm_3_37 (feq (by decide : ¬ ((4 : Int32) = (2 : Int32)))).2 (by decide) (by decide)
  replace W := W.iloadN (pc' := 60) dm_3_59 rfl rfl
  replace W := W.iconst (pc' := 61) (v := (3 : Int32)) dm_3_60 rfl rfl
  replace W := W.icmpT (pc' := 87) dm_3_61 (feq (by decide : ¬ ((4 : Int32) = (3 : Int32)))).2 (by decide) (by decide)
  replace W := W.iloadN (pc' := 88) dm_3_87 rfl rfl
  replace W := W.iconst (pc' := 89) (v := (4 : Int32)) dm_3_88 rfl rfl
  replace W := W.icmpF (pc' := 92) dm_3_89 (teq (by decide : (4 : Int32) = (4 : Int32))).2 rfl
  obtain ⟨h1, a1, W1, E1, g1, ⟨A1, D1, U1⟩, sf1, SF1⟩ := W.new (pc' := 95) (cells' := 1) (slots' := 4) dm_3_92 (w8 hw) (w9 hw) (w10 hw) rfl rfl rfl (by decide) (by decide)
  clear W
  rw [← g1] at A1 D1 U1
  have z1 : h0.size ≤ h1.size := E1.1
  replace W1 := W1.dup (pc' := 96) dm_3_95 rfl rfl
  replace W1 := W1.iconst (pc' := 97) (v := (4 : Int32)) dm_3_96 rfl rfl
  obtain ⟨h2, a2, W2, E2, g2, ⟨k2, A2⟩, sf2, SF2⟩ := W1.newarr (pc' := 99) (cap := 4) (cells' := 2) (slots' := 8) dm_3_97 (w11 hw) (by decide) (by decide) (by decide) rfl rfl rfl (by decide) (by decide)
  clear W1
  rw [← g2] at A2
  have z2 : h1.size ≤ h2.size := E2.1
  have v2 : Arv Z h2 a2 k2 .char (4 : Int32) [(.int (0 : Int32)), (.int (0 : Int32)), (.int (0 : Int32)), (.int (0 : Int32))] (.int (0 : Int32)) := A2.pad (pad_rep [] (.int (0 : Int32)) 4)
  replace W2 := W2.dup (pc' := 100) dm_3_99 rfl rfl
  replace W2 := W2.iconst (pc' := 101) (v := (0 : Int32)) dm_3_100 rfl rfl
  replace W2 := W2.iloadN (pc' := 102) dm_3_101 rfl rfl
  obtain ⟨h3, W3, w3, A3, SF3⟩ := W2.castore (pc' := 103) (i := 0) (x' := c0) dm_3_102 v2 ⟨by decide, by decide⟩ rfl (by show 0 < 4; decide) (own_narc (own_up hp_c0)) (W2.safeA v2 (by decide)) (Or.inr (Nat.le_trans z1 (Nat.le_of_eq g2.symm))) rfl
  clear W2
  have z3 : h2.size ≤ h3.size := Nat.le_of_eq w3.size.symm
  have v3 : Arv Z h3 a2 k2 .char (4 : Int32) [(.int c0), (.int (0 : Int32)), (.int (0 : Int32)), (.int (0 : Int32))] (.int (0 : Int32)) := A3
  replace W3 := W3.dup (pc' := 104) dm_3_103 rfl rfl
  replace W3 := W3.iconst (pc' := 105) (v := (1 : Int32)) dm_3_104 rfl rfl
  replace W3 := W3.iloadN (pc' := 106) dm_3_105 rfl rfl
  obtain ⟨h4, W4, w4, A4, SF4⟩ := W3.castore (pc' := 107) (i := 1) (x' := c1) dm_3_106 v3 ⟨by decide, by decide⟩ rfl (by show 1 < 4; decide) (own_narc (own_up hp_c1)) (W3.safeA v3 (by decide)) (Or.inr (Nat.le_trans z1 (Nat.le_of_eq g2.symm))) rfl
  clear W3
  have z4 : h3.size ≤ h4.size := Nat.le_of_eq w4.size.symm
  have v4 : Arv Z h4 a2 k2 .char (4 : Int32) [(.int c0), (.int c1), (.int (0 : Int32)), (.int (0 : Int32))] (.int (0 : Int32)) := A4
  replace W4 := W4.dup (pc' := 108) dm_3_107 rfl rfl
  replace W4 := W4.iconst (pc' := 109) (v := (2 : Int32)) dm_3_108 rfl rfl
  replace W4 := W4.iloadN (pc' := 110) dm_3_109 rfl rfl
  obtain ⟨h5, W5, w5, A5, SF5⟩ := W4.castore (pc' := 111) (i := 2) (x' := c2) dm_3_110 v4 ⟨by decide, by decide⟩ rfl (by show 2 < 4; decide) (own_narc (own_up hp_c2)) (W4.safeA v4 (by decide)) (Or.inr (Nat.le_trans z1 (Nat.le_of_eq g2.symm))) rfl
  clear W4
  have z5 : h4.size ≤ h5.size := Nat.le_of_eq w5.size.symm
  have v5 : Arv Z h5 a2 k2 .char (4 : Int32) [(.int c0), (.int c1), (.int c2), (.int (0 : Int32))] (.int (0 : Int32)) := A5
  replace W5 := W5.dup (pc' := 112) dm_3_111 rfl rfl
  replace W5 := W5.iconst (pc' := 113) (v := (3 : Int32)) dm_3_112 rfl rfl
  replace W5 := W5.iload (pc' := 115) dm_3_113 rfl rfl
  obtain ⟨h6, W6, w6, A6, SF6⟩ := W5.castore (pc' := 116) (i := 3) (x' := c3) dm_3_115 v5 ⟨by decide, by decide⟩ rfl (by show 3 < 4; decide) (own_narc (own_up hp_c3)) (W5.safeA v5 (by decide)) (Or.inr (Nat.le_trans z1 (Nat.le_of_eq g2.symm))) rfl
  clear W5
  have z6 : h5.size ≤ h6.size := Nat.le_of_eq w6.size.symm
  have v6 : Arv Z h6 a2 k2 .char (4 : Int32) [(.int c0), (.int c1), (.int c2), (.int c3)] (.int (0 : Int32)) := A6
  have e7 := (((((A1.ext E2).wr w3).wr w4).wr w5).wr w6)
  have f8 := ((((((D1 (Or.inr (w24 hw)) (ty := (.array .byte)) (by decide) : Fld Z h1 a1 "java/lang/String" "value" "[B" .null).ext E2).other w3 (Or.inl (Nat.ne_of_lt (Nat.lt_of_lt_of_le A1.lt (Nat.le_of_eq g2.symm))))).other w4 (Or.inl (Nat.ne_of_lt (Nat.lt_of_lt_of_le A1.lt (Nat.le_of_eq g2.symm))))).other w5 (Or.inl (Nat.ne_of_lt (Nat.lt_of_lt_of_le A1.lt (Nat.le_of_eq g2.symm))))).other w6 (Or.inl (Nat.ne_of_lt (Nat.lt_of_lt_of_le A1.lt (Nat.le_of_eq g2.symm)))))
  have f9 := ((((((D1 (Or.inr (w25 hw)) (ty := .byte) (by decide) : Fld Z h1 a1 "java/lang/String" "coder" "B" (.int (0 : Int32))).ext E2).other w3 (Or.inl (Nat.ne_of_lt (Nat.lt_of_lt_of_le A1.lt (Nat.le_of_eq g2.symm))))).other w4 (Or.inl (Nat.ne_of_lt (Nat.lt_of_lt_of_le A1.lt (Nat.le_of_eq g2.symm))))).other w5 (Or.inl (Nat.ne_of_lt (Nat.lt_of_lt_of_le A1.lt (Nat.le_of_eq g2.symm))))).other w6 (Or.inl (Nat.ne_of_lt (Nat.lt_of_lt_of_le A1.lt (Nat.le_of_eq g2.symm)))))
  have sf10 := (SF6 a1 (SF5 a1 (SF4 a1 (SF3 a1 (SF2 a1 sf1)))))
  obtain ⟨V11, h11, r11, W11, K11, hQ11, SF11⟩ := W6.callI (pc' := 119) (argsL := [(.ref a2)]) (rest := [(.ref a1)]) (Wd := 1) (cells' := 3) (slots' := 12) (a := a1) (y := (⟨"java/lang/String", "<init>", "([C)V"⟩ : MethodName)) dm_3_116 (new1_4 l Z a0 n0 hw hEL G1 O1 P1 a1 a2 k2 c0 c1 c2 c3 h6 W6.old e7 f8 f9 v6 hp_c0 hp_c1 hp_c2 hp_c3 (Nat.le_trans W6.1.2.2.2.2.2.2.2.1 (Nat.le_of_eq g1.symm))) rfl (w12 hw) (w13 hw) (w10 hw) (w14 hw) (by decide) (lenOf pd11 rfl) rfl rfl (by decide) (by decide) rfl (sfS sf10 sf0) (allS (Or.inr (Nat.le_of_eq g1.symm)) all0) rfl rfl rfl (by decide) (by decide)
  clear W6
  obtain ⟨t11, kt11, rfl, q11_1, q11_2, q11_3, q11_4⟩ := hQ11
  have z11 : h6.size ≤ h11.size := K11.1
  replace W11 := W11.cast (st' := [(.ref a1)]) rfl
  exact W11.aret (t := (.object "java/lang/String")) dm_3_119 rfl rfl rfl rfl (by decide) (by decide) (fun V' cv => ⟨a1, t11, kt11, rfl, q11_1, q11_2, q11_3, q11_4, (Nat.le_of_eq g1.symm)⟩)
theorem ef_len_5 (m : MethodId) (xa : Addr) (ta : Addr) (kt : ClassId) (b0 : Int32) (b1 : Int32) (b2 : Int32) (b3 : Int32) (b4 : Int32) : entryFrame m #[(.ref xa)] 1 = mkF m 0 #[.val (.ref xa)] [] := by first | (simp [entryFrame, mkF, argsToLocals, Value.category]; done) | rfl
set_option maxRecDepth 65536 in
set_option maxHeartbeats 40000000 in
theorem len_5 (l : Launch) (Z : State) (a0 : Array Value) (n0 : Nat) (hw : ∀ d ∈ tables_1, d.before a0 Z = true) (hEL : EW Z a0 consts_1) (G1 : Int32) (O1 : Sta Z Z.heap "java/lang/String" "COMPACT_STRINGS" "Z" (.int G1)) (P1 : ¬ (G1 = (0 : Int32))) (xa : Addr) (ta : Addr) (kt : ClassId) (b0 : Int32) (b1 : Int32) (b2 : Int32) (b3 : Int32) (b4 : Int32) (h0 : Heap) (hO : Old Z n0 h0) (E_xa : Exa Z h0 xa "java/lang/String") (F_xa_coder : Fld Z h0 xa "java/lang/String" "coder" "B" (.int (0 : Int32))) (F_xa_value : Fld Z h0 xa "java/lang/String" "value" "[B" (.ref ta)) (V_ta : Arv Z h0 ta kt .byte (5 : Int32) [(.int b0), (.int b1), (.int b2), (.int b3), (.int b4)] (.int (0 : Int32))) :
    Con l Z consts_1 n0 (⟨"java/lang/String", "length", "()I"⟩ : MethodName) jdk_42_method_54_code 1 (some .int) ({ frames := 1, cells := 0, slots := 0, locals := 13 } : Room) #[(.ref xa)] h0 [] (fun v h V' => v = some (.int (5 : Int32)) ∧ h0 = h) [] := by
  refine Con.of (a0 := a0) pf9 (fun m => ef_len_5 m xa ta kt b0 b1 b2 b3 b4) all0 hO hEL ?_
  intro p e s m below meth c S0 hnm hsf W
  replace W := W.aloadN (pc' := 1) djdk_42_54_0 rfl rfl rfl
  replace W := W.getf (pc' := 4) djdk_42_54_1 (w28 hw) Via.refl F_xa_value rfl
  replace W := W.alen (pc' := 5) djdk_42_54_4 V_ta rfl
  replace W := W.aloadN (pc' := 6) djdk_42_54_5 rfl rfl rfl
  obtain ⟨V1, h1, r1, W1, K1, hQ1, SF1⟩ := W.callV (pc' := 9) (argsL := []) (rest := [(.int (5 : Int32))]) (Wd := 1) (cells' := 0) (slots' := 0) (a := xa) (C := "java/lang/String") (y := (⟨"java/lang/String", "coder", "()B"⟩ : MethodName)) (z := (⟨"java/lang/String", "coder", "()B"⟩ : MethodName)) djdk_42_54_6 (coder_c l Z a0 n0 hw hEL G1 O1 P1 xa h0 W.old F_xa_coder) E_xa (w55 hw) (w56 hw) (Or.inl (w58 hw)) (w58 hw) (w57 hw) (w10 hw) (w59 hw) (by decide) (lenOf pd4 rfl) rfl rfl (by decide) (by decide) rfl sf0 all0 rfl rfl rfl (by decide) (by decide)
  clear W
  obtain ⟨rfl, hs1⟩ := hQ1
  subst hs1
  replace W1 := W1.cast (st' := [(.int (0 : Int32)), (.int (5 : Int32))]) rfl
  replace W1 := W1.ishr (pc' := 10) (v := (5 : Int32)) djdk_42_54_9 (by decide) rfl
  exact W1.iret (t := .int) djdk_42_54_10 rfl (by simp) rfl (by decide) (by decide) (fun V' cv => ⟨rfl, rfl⟩)
theorem ef_max_5 (m : MethodId)  : entryFrame m #[(.int (0 : Int32)), (.int (0 : Int32))] 2 = mkF m 0 #[.val (.int (0 : Int32)), .val (.int (0 : Int32))] [] := by first | (simp [entryFrame, mkF, argsToLocals, Value.category]; done) | rfl
set_option maxRecDepth 65536 in
set_option maxHeartbeats 40000000 in
theorem max_5 (l : Launch) (Z : State) (a0 : Array Value) (n0 : Nat) (hw : ∀ d ∈ tables_1, d.before a0 Z = true) (hEL : EW Z a0 consts_1) (G1 : Int32) (O1 : Sta Z Z.heap "java/lang/String" "COMPACT_STRINGS" "Z" (.int G1)) (P1 : ¬ (G1 = (0 : Int32)))  (h0 : Heap) (hO : Old Z n0 h0)  :
    Con l Z consts_1 n0 (⟨"java/lang/Math", "max", "(II)I"⟩ : MethodName) jdk_29_method_65_code 2 (some .int) ({ frames := 0, cells := 0, slots := 0, locals := 0 } : Room) #[(.int (0 : Int32)), (.int (0 : Int32))] h0 [] (fun v h V' => v = some (.int (0 : Int32)) ∧ h0 = h) [] := by
  refine Con.of (a0 := a0) pf10 (fun m => ef_max_5 m ) all0 hO hEL ?_
  intro p e s m below meth c S0 hnm hsf W
  replace W := W.iloadN (pc' := 1) djdk_29_65_0 rfl rfl
  replace W := W.iloadN (pc' := 2) djdk_29_65_1 rfl rfl
  replace W := W.icmpF (pc' := 5) djdk_29_65_2 (flt (by decide : ¬ ((0 : Int32) < (0 : Int32)))).1 rfl
  replace W := W.iloadN (pc' := 6) djdk_29_65_5 rfl rfl
  replace W := W.goto (pc' := 10) djdk_29_65_6 (by decide) (by decide)
  exact W.iret (t := .int) djdk_29_65_10 rfl (by simp) rfl (by decide) (by decide) (fun V' cv => ⟨rfl, rfl⟩)
theorem ef_min_5 (m : MethodId)  : entryFrame m #[(.int (5 : Int32)), (.int (5 : Int32))] 2 = mkF m 0 #[.val (.int (5 : Int32)), .val (.int (5 : Int32))] [] := by first | (simp [entryFrame, mkF, argsToLocals, Value.category]; done) | rfl
set_option maxRecDepth 65536 in
set_option maxHeartbeats 40000000 in
theorem min_5 (l : Launch) (Z : State) (a0 : Array Value) (n0 : Nat) (hw : ∀ d ∈ tables_1, d.before a0 Z = true) (hEL : EW Z a0 consts_1) (G1 : Int32) (O1 : Sta Z Z.heap "java/lang/String" "COMPACT_STRINGS" "Z" (.int G1)) (P1 : ¬ (G1 = (0 : Int32)))  (h0 : Heap) (hO : Old Z n0 h0)  :
    Con l Z consts_1 n0 (⟨"java/lang/Math", "min", "(II)I"⟩ : MethodName) jdk_29_method_69_code 2 (some .int) ({ frames := 0, cells := 0, slots := 0, locals := 0 } : Room) #[(.int (5 : Int32)), (.int (5 : Int32))] h0 [] (fun v h V' => v = some (.int (5 : Int32)) ∧ h0 = h) [] := by
  refine Con.of (a0 := a0) pf11 (fun m => ef_min_5 m ) all0 hO hEL ?_
  intro p e s m below meth c S0 hnm hsf W
  replace W := W.iloadN (pc' := 1) djdk_29_69_0 rfl rfl
  replace W := W.iloadN (pc' := 2) djdk_29_69_1 rfl rfl
  replace W := W.icmpF (pc' := 5) djdk_29_69_2 (flt (by decide : ¬ ((5 : Int32) < (5 : Int32)))).2.2.1 rfl
  replace W := W.iloadN (pc' := 6) djdk_29_69_5 rfl rfl
  replace W := W.goto (pc' := 10) djdk_29_69_6 (by decide) (by decide)
  exact W.iret (t := .int) djdk_29_69_10 rfl (by simp) rfl (by decide) (by decide) (fun V' cv => ⟨rfl, rfl⟩)
theorem ef_ioc_5 (m : MethodId) (ta : Addr) (kt : ClassId) (b0 : Int32) (b1 : Int32) (b2 : Int32) (b3 : Int32) (b4 : Int32) : entryFrame m #[(.ref ta), (.int (61 : Int32)), (.int (0 : Int32)), (.int (5 : Int32))] 6 = mkF m 0 #[.val (.ref ta), .val (.int (61 : Int32)), .val (.int (0 : Int32)), .val (.int (5 : Int32)), .unset, .unset] [] := by first | (simp [entryFrame, mkF, argsToLocals, Value.category]; done) | rfl
set_option maxRecDepth 65536 in
set_option maxHeartbeats 40000000 in
theorem ioc_5 (l : Launch) (Z : State) (a0 : Array Value) (n0 : Nat) (hw : ∀ d ∈ tables_1, d.before a0 Z = true) (hEL : EW Z a0 consts_1) (G1 : Int32) (O1 : Sta Z Z.heap "java/lang/String" "COMPACT_STRINGS" "Z" (.int G1)) (P1 : ¬ (G1 = (0 : Int32))) (ta : Addr) (kt : ClassId) (b0 : Int32) (b1 : Int32) (b2 : Int32) (b3 : Int32) (b4 : Int32) (h0 : Heap) (hO : Old Z n0 h0) (V_ta : Arv Z h0 ta kt .byte (5 : Int32) [(.int b0), (.int b1), (.int b2), (.int b3), (.int b4)] (.int (0 : Int32))) :
    Con l Z consts_1 n0 (⟨"java/lang/StringLatin1", "indexOfChar", "([BIII)I"⟩ : MethodName) jdk_43_method_23_code 6 (some .int) ({ frames := 0, cells := 0, slots := 0, locals := 0 } : Room) #[(.ref ta), (.int (61 : Int32)), (.int (0 : Int32)), (.int (5 : Int32))] h0 [] (fun v h V' => v = some (.int (ix (61 : Int32) [b0, b1, b2, b3, b4] (0 : Int32))) ∧ h0 = h) [] := by
  refine Con.of (a0 := a0) pf17 (fun m => ef_ioc_5 m ta kt b0 b1 b2 b3 b4) all0 hO hEL ?_
  intro p e s m below meth c S0 hnm hsf W
  replace W := W.iloadN (pc' := 1) djdk_43_23_0 rfl rfl
  replace W := W.i2b (pc' := 2) (v := (61 : Int32)) djdk_43_23_1 (by decide) rfl
  replace W := W.istore (pc' := 4) (L' := #[.val (.ref ta), .val (.int (61 : Int32)), .val (.int (0 : Int32)), .val (.int (5 : Int32)), .val (.int (61 : Int32)), .unset]) djdk_43_23_2 rfl rfl
  replace W := W.iloadN (pc' := 5) djdk_43_23_4 rfl rfl
  replace W := W.istore (pc' := 7) (L' := #[.val (.ref ta), .val (.int (61 : Int32)), .val (.int (0 : Int32)), .val (.int (5 : Int32)), .val (.int (61 : Int32)), .val (.int (0 : Int32))]) djdk_43_23_5 rfl rfl
  replace W := W.iload (pc' := 9) djdk_43_23_7 rfl rfl
  replace W := W.iloadN (pc' := 10) djdk_43_23_9 rfl rfl
  replace W := W.icmpF (pc' := 13) djdk_43_23_10 (tlt (by decide : (0 : Int32) < (5 : Int32))).2.1 rfl
  replace W := W.aloadN (pc' := 14) djdk_43_23_13 rfl rfl rfl
  replace W := W.iload (pc' := 16) djdk_43_23_14 rfl rfl
  replace W := W.baload (pc' := 17) (w := (.int b0)) djdk_43_23_16 V_ta ⟨by decide, by decide⟩ rfl rfl
  replace W := W.iload (pc' := 19) djdk_43_23_17 rfl rfl
  by_cases c1 : b0 = (61 : Int32)
  · replace W := W.icmpF (pc' := 22) djdk_43_23_19 (teq c1).2 rfl
    replace W := W.iload (pc' := 24) djdk_43_23_22 rfl rfl
    exact W.iret (t := .int) djdk_43_23_24 rfl (by simp) rfl (by decide) (by decide) (fun V' cv => ⟨(by simp [ix, c1]), rfl⟩)
  · replace W := W.icmpT (pc' := 25) djdk_43_23_19 (feq c1).2 (by decide) (by decide)
    replace W := W.iinc (pc' := 28) (v := (1 : Int32)) (L' := #[.val (.ref ta), .val (.int (61 : Int32)), .val (.int (0 : Int32)), .val (.int (5 : Int32)), .val (.int (61 : Int32)), .val (.int (1 : Int32))]) djdk_43_23_25 rfl (by decide) rfl rfl
    replace W := W.goto (pc' := 7) djdk_43_23_28 (by decide) (by decide)
    replace W := W.iload (pc' := 9) djdk_43_23_7 rfl rfl
    replace W := W.iloadN (pc' := 10) djdk_43_23_9 rfl rfl
    replace W := W.icmpF (pc' := 13) djdk_43_23_10 (tlt (by decide : (1 : Int32) < (5 : Int32))).2.1 rfl
    replace W := W.aloadN (pc' := 14) djdk_43_23_13 rfl rfl rfl
    replace W := W.iload (pc' := 16) djdk_43_23_14 rfl rfl
    replace W := W.baload (pc' := 17) (w := (.int b1)) djdk_43_23_16 V_ta ⟨by decide, by decide⟩ rfl rfl
    replace W := W.iload (pc' := 19) djdk_43_23_17 rfl rfl
    by_cases c2 : b1 = (61 : Int32)
    · replace W := W.icmpF (pc' := 22) djdk_43_23_19 (teq c2).2 rfl
      replace W := W.iload (pc' := 24) djdk_43_23_22 rfl rfl
      exact W.iret (t := .int) djdk_43_23_24 rfl (by simp) rfl (by decide) (by decide) (fun V' cv => ⟨(by simp [ix, c1, c2]), rfl⟩)
    · replace W := W.icmpT (pc' := 25) djdk_43_23_19 (feq c2).2 (by decide) (by decide)
      replace W := W.iinc (pc' := 28) (v := (2 : Int32)) (L' := #[.val (.ref ta), .val (.int (61 : Int32)), .val (.int (0 : Int32)), .val (.int (5 : Int32)), .val (.int (61 : Int32)), .val (.int (2 : Int32))]) djdk_43_23_25 rfl (by decide) rfl rfl
      replace W := W.goto (pc' := 7) djdk_43_23_28 (by decide) (by decide)
      replace W := W.iload (pc' := 9) djdk_43_23_7 rfl rfl
      replace W := W.iloadN (pc' := 10) djdk_43_23_9 rfl rfl
      replace W := W.icmpF (pc' := 13) djdk_43_23_10 (tlt (by decide : (2 : Int32) < (5 : Int32))).2.1 rfl
      replace W := W.aloadN (pc' := 14) djdk_43_23_13 rfl rfl rfl
      replace W := W.iload (pc' := 16) djdk_43_23_14 rfl rfl
      replace W := W.baload (pc' := 17) (w := (.int b2)) djdk_43_23_16 V_ta ⟨by decide, by decide⟩ rfl rfl
      replace W := W.iload (pc' := 19) djdk_43_23_17 rfl rfl
      by_cases c3 : b2 = (61 : Int32)
      · replace W := W.icmpF (pc' := 22) djdk_43_23_19 (teq c3).2 rfl
        replace W := W.iload (pc' := 24) djdk_43_23_22 rfl rfl
        exact W.iret (t := .int) djdk_43_23_24 rfl (by simp) rfl (by decide) (by decide) (fun V' cv => ⟨(by simp [ix, c1, c2, c3]), rfl⟩)
      · replace W := W.icmpT (pc' := 25) djdk_43_23_19 (feq c3).2 (by decide) (by decide)
        replace W := W.iinc (pc' := 28) (v := (3 : Int32)) (L' := #[.val (.ref ta), .val (.int (61 : Int32)), .val (.int (0 : Int32)), .val (.int (5 : Int32)), .val (.int (61 : Int32)), .val (.int (3 : Int32))]) djdk_43_23_25 rfl (by decide) rfl rfl
        replace W := W.goto (pc' := 7) djdk_43_23_28 (by decide) (by decide)
        replace W := W.iload (pc' := 9) djdk_43_23_7 rfl rfl
        replace W := W.iloadN (pc' := 10) djdk_43_23_9 rfl rfl
        replace W := W.icmpF (pc' := 13) djdk_43_23_10 (tlt (by decide : (3 : Int32) < (5 : Int32))).2.1 rfl
        replace W := W.aloadN (pc' := 14) djdk_43_23_13 rfl rfl rfl
        replace W := W.iload (pc' := 16) djdk_43_23_14 rfl rfl
        replace W := W.baload (pc' := 17) (w := (.int b3)) djdk_43_23_16 V_ta ⟨by decide, by decide⟩ rfl rfl
        replace W := W.iload (pc' := 19) djdk_43_23_17 rfl rfl
        by_cases c4 : b3 = (61 : Int32)
        · replace W := W.icmpF (pc' := 22) djdk_43_23_19 (teq c4).2 rfl
          replace W := W.iload (pc' := 24) djdk_43_23_22 rfl rfl
          exact W.iret (t := .int) djdk_43_23_24 rfl (by simp) rfl (by decide) (by decide) (fun V' cv => ⟨(by simp [ix, c1, c2, c3, c4]), rfl⟩)
        · replace W := W.icmpT (pc' := 25) djdk_43_23_19 (feq c4).2 (by decide) (by decide)
          replace W := W.iinc (pc' := 28) (v := (4 : Int32)) (L' := #[.val (.ref ta), .val (.int (61 : Int32)), .val (.int (0 : Int32)), .val (.int (5 : Int32)), .val (.int (61 : Int32)), .val (.int (4 : Int32))]) djdk_43_23_25 rfl (by decide) rfl rfl
          replace W := W.goto (pc' := 7) djdk_43_23_28 (by decide) (by decide)
          replace W := W.iload (pc' := 9) djdk_43_23_7 rfl rfl
          replace W := W.iloadN (pc' := 10) djdk_43_23_9 rfl rfl
          replace W := W.icmpF (pc' := 13) djdk_43_23_10 (tlt (by decide : (4 : Int32) < (5 : Int32))).2.1 rfl
          replace W := W.aloadN (pc' := 14) djdk_43_23_13 rfl rfl rfl
          replace W := W.iload (pc' := 16) djdk_43_23_14 rfl rfl
          replace W := W.baload (pc' := 17) (w := (.int b4)) djdk_43_23_16 V_ta ⟨by decide, by decide⟩ rfl rfl
          replace W := W.iload (pc' := 19) djdk_43_23_17 rfl rfl
          by_cases c5 : b4 = (61 : Int32)
          · replace W := W.icmpF (pc' := 22) djdk_43_23_19 (teq c5).2 rfl
            replace W := W.iload (pc' := 24) djdk_43_23_22 rfl rfl
            exact W.iret (t := .int) djdk_43_23_24 rfl (by simp) rfl (by decide) (by decide) (fun V' cv => ⟨(by simp [ix, c1, c2, c3, c4, c5]), rfl⟩)
          · replace W := W.icmpT (pc' := 25) djdk_43_23_19 (feq c5).2 (by decide) (by decide)
            replace W := W.iinc (pc' := 28) (v := (5 : Int32)) (L' := #[.val (.ref ta), .val (.int (61 : Int32)), .val (.int (0 : Int32)), .val (.int (5 : Int32)), .val (.int (61 : Int32)), .val (.int (5 : Int32))]) djdk_43_23_25 rfl (by decide) rfl rfl
            replace W := W.goto (pc' := 7) djdk_43_23_28 (by decide) (by decide)
            replace W := W.iload (pc' := 9) djdk_43_23_7 rfl rfl
            replace W := W.iloadN (pc' := 10) djdk_43_23_9 rfl rfl
            replace W := W.icmpT (pc' := 31) djdk_43_23_10 (flt (by decide : ¬ ((5 : Int32) < (5 : Int32)))).2.1 (by decide) (by decide)
            replace W := W.iconst (pc' := 32) (v := (-1 : Int32)) djdk_43_23_31 rfl rfl
            exact W.iret (t := .int) djdk_43_23_32 rfl (by simp) rfl (by decide) (by decide) (fun V' cv => ⟨(by simp [ix, c1, c2, c3, c4, c5]), rfl⟩)
theorem ef_lio_5 (m : MethodId) (ta : Addr) (kt : ClassId) (b0 : Int32) (b1 : Int32) (b2 : Int32) (b3 : Int32) (b4 : Int32) : entryFrame m #[(.ref ta), (.int (61 : Int32)), (.int (0 : Int32)), (.int (5 : Int32))] 4 = mkF m 0 #[.val (.ref ta), .val (.int (61 : Int32)), .val (.int (0 : Int32)), .val (.int (5 : Int32))] [] := by first | (simp [entryFrame, mkF, argsToLocals, Value.category]; done) | rfl
set_option maxRecDepth 65536 in
set_option maxHeartbeats 40000000 in
theorem lio_5 (l : Launch) (Z : State) (a0 : Array Value) (n0 : Nat) (hw : ∀ d ∈ tables_1, d.before a0 Z = true) (hEL : EW Z a0 consts_1) (G1 : Int32) (O1 : Sta Z Z.heap "java/lang/String" "COMPACT_STRINGS" "Z" (.int G1)) (P1 : ¬ (G1 = (0 : Int32))) (ta : Addr) (kt : ClassId) (b0 : Int32) (b1 : Int32) (b2 : Int32) (b3 : Int32) (b4 : Int32) (h0 : Heap) (hO : Old Z n0 h0) (V_ta : Arv Z h0 ta kt .byte (5 : Int32) [(.int b0), (.int b1), (.int b2), (.int b3), (.int b4)] (.int (0 : Int32))) :
    Con l Z consts_1 n0 (⟨"java/lang/StringLatin1", "indexOf", "([BIII)I"⟩ : MethodName) jdk_43_method_22_code 4 (some .int) ({ frames := 1, cells := 0, slots := 0, locals := 17 } : Room) #[(.ref ta), (.int (61 : Int32)), (.int (0 : Int32)), (.int (5 : Int32))] h0 [] (fun v h V' => v = some (.int (ix (61 : Int32) [b0, b1, b2, b3, b4] (0 : Int32))) ∧ h0 = h) [] := by
  refine Con.of (a0 := a0) pf12 (fun m => ef_lio_5 m ta kt b0 b1 b2 b3 b4) all0 hO hEL ?_
  intro p e s m below meth c S0 hnm hsf W
  replace W := W.iloadN (pc' := 1) djdk_43_22_0 rfl rfl
  obtain ⟨V1, h1, r1, W1, K1, hQ1, SF1⟩ := W.callS (pc' := 4) (argsL := [(.int (61 : Int32))]) (rest := []) (Wd := 0) (cells' := 0) (slots' := 0) (y := (⟨"java/lang/StringLatin1", "canEncode", "(I)Z"⟩ : MethodName)) djdk_43_22_1 (canenc l Z a0 n0 hw hEL G1 O1 P1 h0 W.old) (w64 hw) (w65 hw) (w62 hw) (w66 hw) (by decide) (lenOf pd5 rfl) rfl rfl (by decide) (by decide) rfl sf0 all0 rfl rfl rfl (by decide) (by decide)
  clear W
  obtain ⟨rfl, hs1⟩ := hQ1
  subst hs1
  replace W1 := W1.cast (st' := [(.int (1 : Int32))]) rfl
  replace W1 := W1.ifT (pc' := 9) djdk_43_22_4 (feq (by decide : ¬ ((1 : Int32) = (0 : Int32)))).2 (by decide) (by decide)
  replace W1 := W1.iloadN (pc' := 10) djdk_43_22_9 rfl rfl
  replace W1 := W1.iconst (pc' := 11) (v := (0 : Int32)) djdk_43_22_10 rfl rfl
  obtain ⟨V2, h2, r2, W2, K2, hQ2, SF2⟩ := W1.callS (pc' := 14) (argsL := [(.int (0 : Int32)), (.int (0 : Int32))]) (rest := []) (Wd := 0) (cells' := 0) (slots' := 0) (y := (⟨"java/lang/Math", "max", "(II)I"⟩ : MethodName)) djdk_43_22_11 (max_5 l Z a0 n0 hw hEL G1 O1 P1 h0 W1.old) (w67 hw) (w68 hw) (w69 hw) (w70 hw) (by decide) (lenOf pd6 rfl) rfl rfl (by decide) (by decide) rfl sf0 all0 rfl rfl rfl (by decide) (by decide)
  clear W1
  obtain ⟨rfl, hs2⟩ := hQ2
  subst hs2
  replace W2 := W2.cast (st' := [(.int (0 : Int32))]) rfl
  replace W2 := W2.istoreN (pc' := 15) (L' := #[.val (.ref ta), .val (.int (61 : Int32)), .val (.int (0 : Int32)), .val (.int (5 : Int32))]) djdk_43_22_14 rfl rfl
  replace W2 := W2.iloadN (pc' := 16) djdk_43_22_15 rfl rfl
  replace W2 := W2.aloadN (pc' := 17) djdk_43_22_16 rfl rfl rfl
  replace W2 := W2.alen (pc' := 18) djdk_43_22_17 V_ta rfl
  obtain ⟨V3, h3, r3, W3, K3, hQ3, SF3⟩ := W2.callS (pc' := 21) (argsL := [(.int (5 : Int32)), (.int (5 : Int32))]) (rest := []) (Wd := 0) (cells' := 0) (slots' := 0) (y := (⟨"java/lang/Math", "min", "(II)I"⟩ : MethodName)) djdk_43_22_18 (min_5 l Z a0 n0 hw hEL G1 O1 P1 h0 W2.old) (w71 hw) (w72 hw) (w69 hw) (w73 hw) (by decide) (lenOf pd6 rfl) rfl rfl (by decide) (by decide) rfl sf0 all0 rfl rfl rfl (by decide) (by decide)
  clear W2
  obtain ⟨rfl, hs3⟩ := hQ3
  subst hs3
  replace W3 := W3.cast (st' := [(.int (5 : Int32))]) rfl
  replace W3 := W3.istoreN (pc' := 22) (L' := #[.val (.ref ta), .val (.int (61 : Int32)), .val (.int (0 : Int32)), .val (.int (5 : Int32))]) djdk_43_22_21 rfl rfl
  replace W3 := W3.iloadN (pc' := 23) djdk_43_22_22 rfl rfl
  replace W3 := W3.iloadN (pc' := 24) djdk_43_22_23 rfl rfl
  replace W3 := W3.icmpT (pc' := 29) djdk_43_22_24 (tlt (by decide : (0 : Int32) < (5 : Int32))).1 (by decide) (by decide)
  replace W3 := W3.aloadN (pc' := 30) djdk_43_22_29 rfl rfl rfl
  replace W3 := W3.iloadN (pc' := 31) djdk_43_22_30 rfl rfl
  replace W3 := W3.iloadN (pc' := 32) djdk_43_22_31 rfl rfl
  replace W3 := W3.iloadN (pc' := 33) djdk_43_22_32 rfl rfl
  obtain ⟨V4, h4, r4, W4, K4, hQ4, SF4⟩ := W3.callS (pc' := 36) (argsL := [(.ref ta), (.int (61 : Int32)), (.int (0 : Int32)), (.int (5 : Int32))]) (rest := []) (Wd := 0) (cells' := 0) (slots' := 0) (y := (⟨"java/lang/StringLatin1", "indexOfChar", "([BIII)I"⟩ : MethodName)) djdk_43_22_33 (ioc_5 l Z a0 n0 hw hEL G1 O1 P1 ta kt b0 b1 b2 b3 b4 h0 W3.old V_ta) (w84 hw) (w85 hw) (w62 hw) (w86 hw) (by decide) (lenOf pd9 rfl) rfl rfl (by decide) (by decide) rfl sf0 all0 rfl rfl rfl (by decide) (by decide)
  clear W3
  obtain ⟨rfl, hs4⟩ := hQ4
  subst hs4
  replace W4 := W4.cast (st' := [(.int (ix (61 : Int32) [b0, b1, b2, b3, b4] (0 : Int32)))]) rfl
  exact W4.iret (t := .int) djdk_43_22_36 rfl (by simp) rfl (by decide) (by decide) (fun V' cv => ⟨rfl, rfl⟩)
theorem ef_io2_5 (m : MethodId) (xa : Addr) (ta : Addr) (kt : ClassId) (b0 : Int32) (b1 : Int32) (b2 : Int32) (b3 : Int32) (b4 : Int32) : entryFrame m #[(.ref xa), (.int (61 : Int32)), (.int (0 : Int32))] 3 = mkF m 0 #[.val (.ref xa), .val (.int (61 : Int32)), .val (.int (0 : Int32))] [] := by first | (simp [entryFrame, mkF, argsToLocals, Value.category]; done) | rfl
set_option maxRecDepth 65536 in
set_option maxHeartbeats 40000000 in
theorem io2_5 (l : Launch) (Z : State) (a0 : Array Value) (n0 : Nat) (hw : ∀ d ∈ tables_1, d.before a0 Z = true) (hEL : EW Z a0 consts_1) (G1 : Int32) (O1 : Sta Z Z.heap "java/lang/String" "COMPACT_STRINGS" "Z" (.int G1)) (P1 : ¬ (G1 = (0 : Int32))) (xa : Addr) (ta : Addr) (kt : ClassId) (b0 : Int32) (b1 : Int32) (b2 : Int32) (b3 : Int32) (b4 : Int32) (h0 : Heap) (hO : Old Z n0 h0) (E_xa : Exa Z h0 xa "java/lang/String") (F_xa_coder : Fld Z h0 xa "java/lang/String" "coder" "B" (.int (0 : Int32))) (F_xa_value : Fld Z h0 xa "java/lang/String" "value" "[B" (.ref ta)) (V_ta : Arv Z h0 ta kt .byte (5 : Int32) [(.int b0), (.int b1), (.int b2), (.int b3), (.int b4)] (.int (0 : Int32))) :
    Con l Z consts_1 n0 (⟨"java/lang/String", "indexOf", "(II)I"⟩ : MethodName) jdk_42_method_80_code 3 (some .int) ({ frames := 2, cells := 0, slots := 0, locals := 32 } : Room) #[(.ref xa), (.int (61 : Int32)), (.int (0 : Int32))] h0 [] (fun v h V' => v = some (.int (ix (61 : Int32) [b0, b1, b2, b3, b4] (0 : Int32))) ∧ h0 = h) [] := by
  refine Con.of (a0 := a0) pf13 (fun m => ef_io2_5 m xa ta kt b0 b1 b2 b3 b4) all0 hO hEL ?_
  intro p e s m below meth c S0 hnm hsf W
  replace W := W.aloadN (pc' := 1) djdk_42_80_0 rfl rfl rfl
  obtain ⟨V1, h1, r1, W1, K1, hQ1, SF1⟩ := W.callV (pc' := 4) (argsL := []) (rest := []) (Wd := 0) (cells' := 0) (slots' := 0) (a := xa) (C := "java/lang/String") (y := (⟨"java/lang/String", "isLatin1", "()Z"⟩ : MethodName)) (z := (⟨"java/lang/String", "isLatin1", "()Z"⟩ : MethodName)) djdk_42_80_1 (islat l Z a0 n0 hw hEL G1 O1 P1 xa h0 W.old F_xa_coder) E_xa (w44 hw) (w45 hw) (Or.inl (w47 hw)) (w47 hw) (w46 hw) (w10 hw) (w48 hw) (by decide) (lenOf pd7 rfl) rfl rfl (by decide) (by decide) rfl sf0 all0 rfl rfl rfl (by decide) (by decide)
  clear W
  obtain ⟨rfl, hs1⟩ := hQ1
  subst hs1
  replace W1 := W1.cast (st' := [(.int (1 : Int32))]) rfl
  replace W1 := W1.ifF (pc' := 7) djdk_42_80_4 (feq (by decide : ¬ ((1 : Int32) = (0 : Int32)))).1 rfl
  replace W1 := W1.aloadN (pc' := 8) djdk_42_80_7 rfl rfl rfl
  replace W1 := W1.getf (pc' := 11) djdk_42_80_8 (w28 hw) Via.refl F_xa_value rfl
  replace W1 := W1.iloadN (pc' := 12) djdk_42_80_11 rfl rfl
  replace W1 := W1.iloadN (pc' := 13) djdk_42_80_12 rfl rfl
  replace W1 := W1.aloadN (pc' := 14) djdk_42_80_13 rfl rfl rfl
  obtain ⟨V2, h2, r2, W2, K2, hQ2, SF2⟩ := W1.callV (pc' := 17) (argsL := []) (rest := [(.int (0 : Int32)), (.int (61 : Int32)), (.ref ta)]) (Wd := 3) (cells' := 0) (slots' := 0) (a := xa) (C := "java/lang/String") (y := (⟨"java/lang/String", "length", "()I"⟩ : MethodName)) (z := (⟨"java/lang/String", "length", "()I"⟩ : MethodName)) djdk_42_80_14 (len_5 l Z a0 n0 hw hEL G1 O1 P1 xa ta kt b0 b1 b2 b3 b4 h0 W1.old E_xa F_xa_coder F_xa_value V_ta) E_xa (w50 hw) (w51 hw) (Or.inl (w53 hw)) (w53 hw) (w52 hw) (w10 hw) (w54 hw) (by decide) (lenOf pd8 rfl) rfl rfl (by decide) (by decide) rfl sf0 all0 rfl rfl rfl (by decide) (by decide)
  clear W1
  obtain ⟨rfl, hs2⟩ := hQ2
  subst hs2
  replace W2 := W2.cast (st' := [(.int (5 : Int32)), (.int (0 : Int32)), (.int (61 : Int32)), (.ref ta)]) rfl
  obtain ⟨V3, h3, r3, W3, K3, hQ3, SF3⟩ := W2.callS (pc' := 20) (argsL := [(.ref ta), (.int (61 : Int32)), (.int (0 : Int32)), (.int (5 : Int32))]) (rest := []) (Wd := 0) (cells' := 0) (slots' := 0) (y := (⟨"java/lang/StringLatin1", "indexOf", "([BIII)I"⟩ : MethodName)) djdk_42_80_17 (lio_5 l Z a0 n0 hw hEL G1 O1 P1 ta kt b0 b1 b2 b3 b4 h0 W2.old V_ta) (w60 hw) (w61 hw) (w62 hw) (w63 hw) (by decide) (lenOf pd9 rfl) rfl rfl (by decide) (by decide) rfl sf0 all0 rfl rfl rfl (by decide) (by decide)
  clear W2
  obtain ⟨rfl, hs3⟩ := hQ3
  subst hs3
  replace W3 := W3.cast (st' := [(.int (ix (61 : Int32) [b0, b1, b2, b3, b4] (0 : Int32)))]) rfl
  replace W3 := W3.goto (pc' := 36) djdk_42_80_20 (by decide) (by decide)
  exact W3.iret (t := .int) djdk_42_80_36 rfl (by simp) rfl (by decide) (by decide) (fun V' cv => ⟨rfl, rfl⟩)
theorem ef_io1_5 (m : MethodId) (xa : Addr) (ta : Addr) (kt : ClassId) (b0 : Int32) (b1 : Int32) (b2 : Int32) (b3 : Int32) (b4 : Int32) : entryFrame m #[(.ref xa), (.int (61 : Int32))] 2 = mkF m 0 #[.val (.ref xa), .val (.int (61 : Int32))] [] := by first | (simp [entryFrame, mkF, argsToLocals, Value.category]; done) | rfl
set_option maxRecDepth 65536 in
set_option maxHeartbeats 40000000 in
theorem io1_5 (l : Launch) (Z : State) (a0 : Array Value) (n0 : Nat) (hw : ∀ d ∈ tables_1, d.before a0 Z = true) (hEL : EW Z a0 consts_1) (G1 : Int32) (O1 : Sta Z Z.heap "java/lang/String" "COMPACT_STRINGS" "Z" (.int G1)) (P1 : ¬ (G1 = (0 : Int32))) (xa : Addr) (ta : Addr) (kt : ClassId) (b0 : Int32) (b1 : Int32) (b2 : Int32) (b3 : Int32) (b4 : Int32) (h0 : Heap) (hO : Old Z n0 h0) (E_xa : Exa Z h0 xa "java/lang/String") (F_xa_coder : Fld Z h0 xa "java/lang/String" "coder" "B" (.int (0 : Int32))) (F_xa_value : Fld Z h0 xa "java/lang/String" "value" "[B" (.ref ta)) (V_ta : Arv Z h0 ta kt .byte (5 : Int32) [(.int b0), (.int b1), (.int b2), (.int b3), (.int b4)] (.int (0 : Int32))) :
    Con l Z consts_1 n0 (⟨"java/lang/String", "indexOf", "(I)I"⟩ : MethodName) jdk_42_method_79_code 2 (some .int) ({ frames := 3, cells := 0, slots := 0, locals := 46 } : Room) #[(.ref xa), (.int (61 : Int32))] h0 [] (fun v h V' => v = some (.int (ix (61 : Int32) [b0, b1, b2, b3, b4] (0 : Int32))) ∧ h0 = h) [] := by
  refine Con.of (a0 := a0) pf14 (fun m => ef_io1_5 m xa ta kt b0 b1 b2 b3 b4) all0 hO hEL ?_
  intro p e s m below meth c S0 hnm hsf W
  replace W := W.aloadN (pc' := 1) djdk_42_79_0 rfl rfl rfl
  replace W := W.iloadN (pc' := 2) djdk_42_79_1 rfl rfl
  replace W := W.iconst (pc' := 3) (v := (0 : Int32)) djdk_42_79_2 rfl rfl
  obtain ⟨V1, h1, r1, W1, K1, hQ1, SF1⟩ := W.callV (pc' := 6) (argsL := [(.int (61 : Int32)), (.int (0 : Int32))]) (rest := []) (Wd := 0) (cells' := 0) (slots' := 0) (a := xa) (C := "java/lang/String") (y := (⟨"java/lang/String", "indexOf", "(II)I"⟩ : MethodName)) (z := (⟨"java/lang/String", "indexOf", "(II)I"⟩ : MethodName)) djdk_42_79_3 (io2_5 l Z a0 n0 hw hEL G1 O1 P1 xa ta kt b0 b1 b2 b3 b4 h0 W.old E_xa F_xa_coder F_xa_value V_ta) E_xa (w39 hw) (w40 hw) (Or.inl (w42 hw)) (w42 hw) (w41 hw) (w10 hw) (w43 hw) (by decide) (lenOf pd6 rfl) rfl rfl (by decide) (by decide) rfl sf0 all0 rfl rfl rfl (by decide) (by decide)
  clear W
  obtain ⟨rfl, hs1⟩ := hQ1
  subst hs1
  replace W1 := W1.cast (st' := [(.int (ix (61 : Int32) [b0, b1, b2, b3, b4] (0 : Int32)))]) rfl
  exact W1.iret (t := .int) djdk_42_79_6 rfl (by simp) rfl (by decide) (by decide) (fun V' cv => ⟨rfl, rfl⟩)
theorem ef_isc_5 (m : MethodId) (xa : Addr) (ta : Addr) (kt : ClassId) (b0 : Int32) (b1 : Int32) (b2 : Int32) (b3 : Int32) (b4 : Int32) : entryFrame m #[(.ref xa)] 1 = mkF m 0 #[.val (.ref xa)] [] := by first | (simp [entryFrame, mkF, argsToLocals, Value.category]; done) | rfl
set_option maxRecDepth 65536 in
set_option maxHeartbeats 40000000 in
theorem isc_5 (l : Launch) (Z : State) (a0 : Array Value) (n0 : Nat) (hw : ∀ d ∈ tables_1, d.before a0 Z = true) (hEL : EW Z a0 consts_1) (G1 : Int32) (O1 : Sta Z Z.heap "java/lang/String" "COMPACT_STRINGS" "Z" (.int G1)) (P1 : ¬ (G1 = (0 : Int32))) (xa : Addr) (ta : Addr) (kt : ClassId) (b0 : Int32) (b1 : Int32) (b2 : Int32) (b3 : Int32) (b4 : Int32) (h0 : Heap) (hO : Old Z n0 h0) (E_xa : Exa Z h0 xa "java/lang/String") (F_xa_coder : Fld Z h0 xa "java/lang/String" "coder" "B" (.int (0 : Int32))) (F_xa_value : Fld Z h0 xa "java/lang/String" "value" "[B" (.ref ta)) (V_ta : Arv Z h0 ta kt .byte (5 : Int32) [(.int b0), (.int b1), (.int b2), (.int b3), (.int b4)] (.int (0 : Int32))) :
    Con l Z consts_1 n0 (⟨"com/example/holdfast/holdfast/rules/Where", "isCondition", "(Ljava/lang/String;)Z"⟩ : MethodName) prog_28_method_2_code 1 (some .boolean) ({ frames := 4, cells := 0, slots := 0, locals := 59 } : Room) #[(.ref xa)] h0 [] (fun v h V' => v = some (.int (isc [b0, b1, b2, b3, b4])) ∧ h0 = h) [] := by
  refine Con.of (a0 := a0) pf15 (fun m => ef_isc_5 m xa ta kt b0 b1 b2 b3 b4) all0 hO hEL ?_
  intro p e s m below meth c S0 hnm hsf W
  replace W := W.aloadN (pc' := 1) dprog_28_2_0 rfl rfl rfl
  replace W := W.bipush (pc' := 3) (v := (61 : Int32)) dprog_28_2_1 rfl rfl
  obtain ⟨V1, h1, r1, W1, K1, hQ1, SF1⟩ := W.callV (pc' := 6) (argsL := [(.int (61 : Int32))]) (rest := []) (Wd := 0) (cells' := 0) (slots' := 0) (a := xa) (C := "java/lang/String") (y := (⟨"java/lang/String", "indexOf", "(I)I"⟩ : MethodName)) (z := (⟨"java/lang/String", "indexOf", "(I)I"⟩ : MethodName)) dprog_28_2_3 (io1_5 l Z a0 n0 hw hEL G1 O1 P1 xa ta kt b0 b1 b2 b3 b4 h0 W.old E_xa F_xa_coder F_xa_value V_ta) E_xa (w34 hw) (w35 hw) (Or.inl (w37 hw)) (w37 hw) (w36 hw) (w10 hw) (w38 hw) (by decide) (lenOf pd10 rfl) rfl rfl (by decide) (by decide) rfl sf0 all0 rfl rfl rfl (by decide) (by decide)
  clear W
  obtain ⟨rfl, hs1⟩ := hQ1
  subst hs1
  replace W1 := W1.cast (st' := [(.int (ix (61 : Int32) [b0, b1, b2, b3, b4] (0 : Int32)))]) rfl
  by_cases c2 : (0 : Int32) < (ix (61 : Int32) [b0, b1, b2, b3, b4] (0 : Int32))
  · replace W1 := W1.ifF (pc' := 9) dprog_28_2_6 (tlt c2).2.2.2 rfl
    replace W1 := W1.iconst (pc' := 10) (v := (1 : Int32)) dprog_28_2_9 rfl rfl
    replace W1 := W1.goto (pc' := 14) dprog_28_2_10 (by decide) (by decide)
    exact W1.iret (t := .boolean) dprog_28_2_14 rfl (by simp) (by decide) (by decide) (by decide) (fun V' cv => ⟨(by simp [isc, c2]), rfl⟩)
  · replace W1 := W1.ifT (pc' := 13) dprog_28_2_6 (flt c2).2.2.2 (by decide) (by decide)
    replace W1 := W1.iconst (pc' := 14) (v := (0 : Int32)) dprog_28_2_13 rfl rfl
    exact W1.iret (t := .boolean) dprog_28_2_14 rfl (by simp) (by decide) (by decide) (by decide) (fun V' cv => ⟨(by simp [isc, c2]), rfl⟩)
theorem ef_make_5 (m : MethodId) (c0 : Int32) (c1 : Int32) (c2 : Int32) (c3 : Int32) (c4 : Int32) : entryFrame m #[(.int (5 : Int32)), (.int c0), (.int c1), (.int c2), (.int c3), (.int c4)] 6 = mkF m 0 #[.val (.int (5 : Int32)), .val (.int c0), .val (.int c1), .val (.int c2), .val (.int c3), .val (.int c4)] [] := by first | (simp [entryFrame, mkF, argsToLocals, Value.category]; done) | rfl
set_option maxRecDepth 65536 in
set_option maxHeartbeats 40000000 in
theorem make_5 (l : Launch) (Z : State) (a0 : Array Value) (n0 : Nat) (hw : ∀ d ∈ tables_1, d.before a0 Z = true) (hEL : EW Z a0 consts_1) (G1 : Int32) (O1 : Sta Z Z.heap "java/lang/String" "COMPACT_STRINGS" "Z" (.int G1)) (P1 : ¬ (G1 = (0 : Int32))) (c0 : Int32) (c1 : Int32) (c2 : Int32) (c3 : Int32) (c4 : Int32) (h0 : Heap) (hO : Old Z n0 h0) (hp_c0 : ¬ c0 < 0 ∧ ¬ (255 : Int32) < c0) (hp_c1 : ¬ c1 < 0 ∧ ¬ (255 : Int32) < c1) (hp_c2 : ¬ c2 < 0 ∧ ¬ (255 : Int32) < c2) (hp_c3 : ¬ c3 < 0 ∧ ¬ (255 : Int32) < c3) (hp_c4 : ¬ c4 < 0 ∧ ¬ (255 : Int32) < c4) :
    Con l Z consts_1 n0 (⟨"com/example/holdfast/holdfast/rules/WhereIsConditionPinLaw", "make", "(ICCCCC)Ljava/lang/String;"⟩ : MethodName) method_3_code 6 (some (.object "java/lang/String")) ({ frames := 4, cells := 3, slots := 14, locals := 66 } : Room) #[(.int (5 : Int32)), (.int c0), (.int c1), (.int c2), (.int c3), (.int c4)] h0 [] (fun v h V' => ∃ (xs : Addr) (t : Addr) (kt : ClassId), v = some (.ref xs) ∧ Exa Z h xs "java/lang/String" ∧ Fld Z h xs "java/lang/String" "coder" "B" (.int (0 : Int32)) ∧ Fld Z h xs "java/lang/String" "value" "[B" (.ref t) ∧ Arv Z h t kt .byte (5 : Int32) [(.int (c0.toInt8.toInt32)), (.int (c1.toInt8.toInt32)), (.int (c2.toInt8.toInt32)), (.int (c3.toInt8.toInt32)), (.int (c4.toInt8.toInt32))] (.int (0 : Int32)) ∧ h0.size ≤ xs) [] := by
  refine Con.of (a0 := a0) pf16 (fun m => ef_make_5 m c0 c1 c2 c3 c4) all0 hO hEL ?_
  intro p e s m below meth c S0 hnm hsf W
  replace W := W.iloadN (pc' := 1) dm_3_0 rfl rfl
  replace W := W.ifT (pc' := 15) dm_3_1 (feq (by decide : ¬ ((5 : Int32) = (0 : Int32)))).2 (by decide) (by decide)
  replace W := W.iloadN (pc' := 16) dm_3_15 rfl rfl
  replace W := W.iconst (pc' := 17) (v := (1 : Int32)) dm_3_16 rfl rfl
  replace W := W.icmpT (pc' := 35) dm_3_17 (feq (by decide : ¬ ((5 : Int32) = (1 : Int32)))).2 (by decide) (by decide)
  replace W := W.iloadN (pc' := 36) dm_3_35 rfl rfl
  replace W := W.iconst (pc' := 37) (v := (2 : Int32)) dm_3_36 rfl rfl
  replace W := W.icmpT (pc' := 59) dm_3_37 (feq (by decide : ¬ ((5 : Int32) = (2 : Int32)))).2 (by decide) (by decide)
  replace W := W.iloadN (pc' := 60) dm_3_59 rfl rfl
  replace W := W.iconst (pc' := 61) (v := (3 : Int32)) dm_3_60 rfl rfl
  replace W := W.icmpT (pc' := 87) dm_3_61 (feq (by decide : ¬ ((5 : Int32) = (3 : Int32)))).2 (by decide) (by decide)
  replace W := W.iloadN (pc' := 88) dm_3_87 rfl rfl
  replace W := W.iconst (pc' := 89) (v := (4 : Int32)) dm_3_88 rfl rfl
  replace W := W.icmpT (pc' := 120) dm_3_89 (feq (by decide : ¬ ((5 : Int32) = (4 : Int32)))).2 (by decide) (by decide)
  obtain ⟨h1, a1, W1, E1, g1, ⟨A1, D1, U1⟩, sf1, SF1⟩ := W.new (pc' := 123) (cells' := 1) (slots' := 4) dm_3_120 (w8 hw) (w9 hw) (w10 hw) rfl rfl rfl (by decide) (by decide)
  clear W
  rw [← g1] at A1 D1 U1
  have z1 : h0.size ≤ h1.size := E1.1
  replace W1 := W1.dup (pc' := 124) dm_3_123 rfl rfl
  replace W1 := W1.iconst (pc' := 125) (v := (5 : Int32)) dm_3_124 rfl rfl
  obtain ⟨h2, a2, W2, E2, g2, ⟨k2, A2⟩, sf2, SF2⟩ := W1.newarr (pc' := 127) (cap := 5) (cells' := 2) (slots' := 9) dm_3_125 (w11 hw) (by decide) (by decide) (by decide) rfl rfl rfl (by decide) (by decide)
  clear W1
  rw [← g2] at A2
  have z2 : h1.size ≤ h2.size := E2.1
  have v2 : Arv Z h2 a2 k2 .char (5 : Int32) [(.int (0 : Int32)), (.int (0 : Int32)), (.int (0 : Int32)), (.int (0 : Int32)), (.int (0 : Int32))] (.int (0 : Int32)) := A2.pad (pad_rep [] (.int (0 : Int32)) 5)
  replace W2 := W2.dup (pc' := 128) dm_3_127 rfl rfl
  replace W2 := W2.iconst (pc' := 129) (v := (0 : Int32)) dm_3_128 rfl rfl
  replace W2 := W2.iloadN (pc' := 130) dm_3_129 rfl rfl
  obtain ⟨h3, W3, w3, A3, SF3⟩ := W2.castore (pc' := 131) (i := 0) (x' := c0) dm_3_130 v2 ⟨by decide, by decide⟩ rfl (by show 0 < 5; decide) (own_narc (own_up hp_c0)) (W2.safeA v2 (by decide)) (Or.inr (Nat.le_trans z1 (Nat.le_of_eq g2.symm))) rfl
  clear W2
  have z3 : h2.size ≤ h3.size := Nat.le_of_eq w3.size.symm
  have v3 : Arv Z h3 a2 k2 .char (5 : Int32) [(.int c0), (.int (0 : Int32)), (.int (0 : Int32)), (.int (0 : Int32)), (.int (0 : Int32))] (.int (0 : Int32)) := A3
  replace W3 := W3.dup (pc' := 132) dm_3_131 rfl rfl
  replace W3 := W3.iconst (pc' := 133) (v := (1 : Int32)) dm_3_132 rfl rfl
  replace W3 := W3.iloadN (pc' := 134) dm_3_133 rfl rfl
  obtain ⟨h4, W4, w4, A4, SF4⟩ := W3.castore (pc' := 135) (i := 1) (x' := c1) dm_3_134 v3 ⟨by decide, by decide⟩ rfl (by show 1 < 5; decide) (own_narc (own_up hp_c1)) (W3.safeA v3 (by decide)) (Or.inr (Nat.le_trans z1 (Nat.le_of_eq g2.symm))) rfl
  clear W3
  have z4 : h3.size ≤ h4.size := Nat.le_of_eq w4.size.symm
  have v4 : Arv Z h4 a2 k2 .char (5 : Int32) [(.int c0), (.int c1), (.int (0 : Int32)), (.int (0 : Int32)), (.int (0 : Int32))] (.int (0 : Int32)) := A4
  replace W4 := W4.dup (pc' := 136) dm_3_135 rfl rfl
  replace W4 := W4.iconst (pc' := 137) (v := (2 : Int32)) dm_3_136 rfl rfl
  replace W4 := W4.iloadN (pc' := 138) dm_3_137 rfl rfl
  obtain ⟨h5, W5, w5, A5, SF5⟩ := W4.castore (pc' := 139) (i := 2) (x' := c2) dm_3_138 v4 ⟨by decide, by decide⟩ rfl (by show 2 < 5; decide) (own_narc (own_up hp_c2)) (W4.safeA v4 (by decide)) (Or.inr (Nat.le_trans z1 (Nat.le_of_eq g2.symm))) rfl
  clear W4
  have z5 : h4.size ≤ h5.size := Nat.le_of_eq w5.size.symm
  have v5 : Arv Z h5 a2 k2 .char (5 : Int32) [(.int c0), (.int c1), (.int c2), (.int (0 : Int32)), (.int (0 : Int32))] (.int (0 : Int32)) := A5
  replace W5 := W5.dup (pc' := 140) dm_3_139 rfl rfl
  replace W5 := W5.iconst (pc' := 141) (v := (3 : Int32)) dm_3_140 rfl rfl
  replace W5 := W5.iload (pc' := 143) dm_3_141 rfl rfl
  obtain ⟨h6, W6, w6, A6, SF6⟩ := W5.castore (pc' := 144) (i := 3) (x' := c3) dm_3_143 v5 ⟨by decide, by decide⟩ rfl (by show 3 < 5; decide) (own_narc (own_up hp_c3)) (W5.safeA v5 (by decide)) (Or.inr (Nat.le_trans z1 (Nat.le_of_eq g2.symm))) rfl
  clear W5
  have z6 : h5.size ≤ h6.size := Nat.le_of_eq w6.size.symm
  have v6 : Arv Z h6 a2 k2 .char (5 : Int32) [(.int c0), (.int c1), (.int c2), (.int c3), (.int (0 : Int32))] (.int (0 : Int32)) := A6
  replace W6 := W6.dup (pc' := 145) dm_3_144 rfl rfl
  replace W6 := W6.iconst (pc' := 146) (v := (4 : Int32)) dm_3_145 rfl rfl
  replace W6 := W6.iload (pc' := 148) dm_3_146 rfl rfl
  obtain ⟨h7, W7, w7, A7, SF7⟩ := W6.castore (pc' := 149) (i := 4) (x' := c4) dm_3_148 v6 ⟨by decide, by decide⟩ rfl (by show 4 < 5; decide) (own_narc (own_up hp_c4)) (W6.safeA v6 (by decide)) (Or.inr (Nat.le_trans z1 (Nat.le_of_eq g2.symm))) rfl
  clear W6
  have z7 : h6.size ≤ h7.size := Nat.le_of_eq w7.size.symm
  have v7 : Arv Z h7 a2 k2 .char (5 : Int32) [(.int c0), (.int c1), (.int c2), (.int c3), (.int c4)] (.int (0 : Int32)) := A7
  have e8 := ((((((A1.ext E2).wr w3).wr w4).wr w5).wr w6).wr w7)
  have f9 := (((((((D1 (Or.inr (w24 hw)) (ty := (.array .byte)) (by decide) : Fld Z h1 a1 "java/lang/String" "value" "[B" .null).ext E2).other w3 (Or.inl (Nat.ne_of_lt (Nat.lt_of_lt_of_le A1.lt (Nat.le_of_eq g2.symm))))).other w4 (Or.inl (Nat.ne_of_lt (Nat.lt_of_lt_of_le A1.lt (Nat.le_of_eq g2.symm))))).other w5 (Or.inl (Nat.ne_of_lt (Nat.lt_of_lt_of_le A1.lt (Nat.le_of_eq g2.symm))))).other w6 (Or.inl (Nat.ne_of_lt (Nat.lt_of_lt_of_le A1.lt (Nat.le_of_eq g2.symm))))).other w7 (Or.inl (Nat.ne_of_lt (Nat.lt_of_lt_of_le A1.lt (Nat.le_of_eq g2.symm)))))
  have f10 := (((((((D1 (Or.inr (w25 hw)) (ty := .byte) (by decide) : Fld Z h1 a1 "java/lang/String" "coder" "B" (.int (0 : Int32))).ext E2).other w3 (Or.inl (Nat.ne_of_lt (Nat.lt_of_lt_of_le A1.lt (Nat.le_of_eq g2.symm))))).other w4 (Or.inl (Nat.ne_of_lt (Nat.lt_of_lt_of_le A1.lt (Nat.le_of_eq g2.symm))))).other w5 (Or.inl (Nat.ne_of_lt (Nat.lt_of_lt_of_le A1.lt (Nat.le_of_eq g2.symm))))).other w6 (Or.inl (Nat.ne_of_lt (Nat.lt_of_lt_of_le A1.lt (Nat.le_of_eq g2.symm))))).other w7 (Or.inl (Nat.ne_of_lt (Nat.lt_of_lt_of_le A1.lt (Nat.le_of_eq g2.symm)))))
  have sf11 := (SF7 a1 (SF6 a1 (SF5 a1 (SF4 a1 (SF3 a1 (SF2 a1 sf1))))))
  obtain ⟨V12, h12, r12, W12, K12, hQ12, SF12⟩ := W7.callI (pc' := 152) (argsL := [(.ref a2)]) (rest := [(.ref a1)]) (Wd := 1) (cells' := 3) (slots' := 14) (a := a1) (y := (⟨"java/lang/String", "<init>", "([C)V"⟩ : MethodName)) dm_3_149 (new1_5 l Z a0 n0 hw hEL G1 O1 P1 a1 a2 k2 c0 c1 c2 c3 c4 h7 W7.old e8 f9 f10 v7 hp_c0 hp_c1 hp_c2 hp_c3 hp_c4 (Nat.le_trans W7.1.2.2.2.2.2.2.2.1 (Nat.le_of_eq g1.symm))) rfl (w12 hw) (w13 hw) (w10 hw) (w14 hw) (by decide) (lenOf pd11 rfl) rfl rfl (by decide) (by decide) rfl (sfS sf11 sf0) (allS (Or.inr (Nat.le_of_eq g1.symm)) all0) rfl rfl rfl (by decide) (by decide)
  clear W7
  obtain ⟨t12, kt12, rfl, q12_1, q12_2, q12_3, q12_4⟩ := hQ12
  have z12 : h7.size ≤ h12.size := K12.1
  replace W12 := W12.cast (st' := [(.ref a1)]) rfl
  exact W12.aret (t := (.object "java/lang/String")) dm_3_152 rfl rfl rfl rfl (by decide) (by decide) (fun V' cv => ⟨a1, t12, kt12, rfl, q12_1, q12_2, q12_3, q12_4, (Nat.le_of_eq g1.symm)⟩)
theorem ef_law_c (m : MethodId) (p0 : Int32) (p1 : Int32) (p2 : Int32) (p3 : Int32) (p4 : Int32) (p5 : Int32) : entryFrame m #[(.int p0), (.int p1), (.int p2), (.int p3), (.int p4), (.int p5)] maxLocals = mkF m 0 #[.val (.int p0), .val (.int p1), .val (.int p2), .val (.int p3), .val (.int p4), .val (.int p5), .unset, .unset, .unset, .unset, .unset, .unset, .unset, .unset, .unset] [] := by first | (simp [entryFrame, mkF, argsToLocals, Value.category, maxLocals]; done) | rfl
set_option maxRecDepth 65536 in
set_option maxHeartbeats 40000000 in
theorem law_c (l : Launch) (Z : State) (a0 : Array Value) (n0 : Nat) (hw : ∀ d ∈ tables_1, d.before a0 Z = true) (hEL : EW Z a0 consts_1) (G1 : Int32) (O1 : Sta Z Z.heap "java/lang/String" "COMPACT_STRINGS" "Z" (.int G1)) (P1 : ¬ (G1 = (0 : Int32))) (p0 : Int32) (p1 : Int32) (p2 : Int32) (p3 : Int32) (p4 : Int32) (p5 : Int32) (h0 : Heap) (hO : Old Z n0 h0)  (wds : List Jvm.Cond) :
    Con l Z consts_1 n0 x code maxLocals ret room_1 #[(.int p0), (.int p1), (.int p2), (.int p3), (.int p4), (.int p5)] h0 [] (fun v h V' => v = some (.int (1 : Int32))) wds := by
  refine Con.of (a0 := a0) pf18 (fun m => ef_law_c m p0 p1 p2 p3 p4 p5) all0 hO hEL ?_
  intro p e s m below meth c S0 hnm hsf W
  replace W := W.iloadN (pc' := 1) at_0 rfl rfl
  replace W := W.ldcI (pc' := 3) at_1 (w0 hw) rfl
  replace W := W.iand (pc' := 4) (v := (p0 &&& (2147483647 : Int32))) at_3 rfl rfl
  replace W := W.bipush (pc' := 6) (v := (6 : Int32)) at_4 rfl rfl
  obtain ⟨nn, hnn⟩ : ∃ z, ((p0 &&& (2147483647 : Int32)) - ((p0 &&& (2147483647 : Int32)) / (6 : Int32)) * (6 : Int32)) = z := ⟨_, rfl⟩
  replace W := W.irem (pc' := 7) (v := nn) at_6 (by decide) hnn rfl
  rcases own_rem6 hnn with rfl | rfl | rfl | rfl | rfl | rfl
  · replace W := W.istore (pc' := 9) (L' := #[.val (.int p0), .val (.int p1), .val (.int p2), .val (.int p3), .val (.int p4), .val (.int p5), .val (.int (0 : Int32)), .unset, .unset, .unset, .unset, .unset, .unset, .unset, .unset]) at_7 rfl rfl
    replace W := W.iloadN (pc' := 10) at_9 rfl rfl
    obtain ⟨V1, h1, r1, W1, K1, hQ1, SF1⟩ := W.callS (pc' := 13) (argsL := [(.int p1)]) (rest := []) (Wd := 0) (cells' := 0) (slots' := 0) (y := (⟨"com/example/holdfast/holdfast/rules/WhereIsConditionPinLaw", "pick", "(I)C"⟩ : MethodName)) at_10 (pick_c l Z a0 n0 hw hEL G1 O1 P1 p1 h0 W.old) (w1 hw) (w2 hw) (w3 hw) (w4 hw) (by decide) (lenOf pd12 rfl) rfl rfl (by decide) (by decide) rfl sf0 all0 rfl rfl rfl (by decide) (by decide)
    clear W
    obtain ⟨rfl, hs1⟩ := hQ1
    subst hs1
    replace W1 := W1.cast (st' := [(.int (pk p1))]) rfl
    replace W1 := W1.istore (pc' := 15) (L' := #[.val (.int p0), .val (.int p1), .val (.int p2), .val (.int p3), .val (.int p4), .val (.int p5), .val (.int (0 : Int32)), .val (.int (pk p1)), .unset, .unset, .unset, .unset, .unset, .unset, .unset]) at_13 rfl rfl
    replace W1 := W1.iloadN (pc' := 16) at_15 rfl rfl
    obtain ⟨V2, h2, r2, W2, K2, hQ2, SF2⟩ := W1.callS (pc' := 19) (argsL := [(.int p2)]) (rest := []) (Wd := 0) (cells' := 0) (slots' := 0) (y := (⟨"com/example/holdfast/holdfast/rules/WhereIsConditionPinLaw", "pick", "(I)C"⟩ : MethodName)) at_16 (pick_c l Z a0 n0 hw hEL G1 O1 P1 p2 h0 W1.old) (w1 hw) (w2 hw) (w3 hw) (w4 hw) (by decide) (lenOf pd12 rfl) rfl rfl (by decide) (by decide) rfl sf0 all0 rfl rfl rfl (by decide) (by decide)
    clear W1
    obtain ⟨rfl, hs2⟩ := hQ2
    subst hs2
    replace W2 := W2.cast (st' := [(.int (pk p2))]) rfl
    replace W2 := W2.istore (pc' := 21) (L' := #[.val (.int p0), .val (.int p1), .val (.int p2), .val (.int p3), .val (.int p4), .val (.int p5), .val (.int (0 : Int32)), .val (.int (pk p1)), .val (.int (pk p2)), .unset, .unset, .unset, .unset, .unset, .unset]) at_19 rfl rfl
    replace W2 := W2.iloadN (pc' := 22) at_21 rfl rfl
    obtain ⟨V3, h3, r3, W3, K3, hQ3, SF3⟩ := W2.callS (pc' := 25) (argsL := [(.int p3)]) (rest := []) (Wd := 0) (cells' := 0) (slots' := 0) (y := (⟨"com/example/holdfast/holdfast/rules/WhereIsConditionPinLaw", "pick", "(I)C"⟩ : MethodName)) at_22 (pick_c l Z a0 n0 hw hEL G1 O1 P1 p3 h0 W2.old) (w1 hw) (w2 hw) (w3 hw) (w4 hw) (by decide) (lenOf pd12 rfl) rfl rfl (by decide) (by decide) rfl sf0 all0 rfl rfl rfl (by decide) (by decide)
    clear W2
    obtain ⟨rfl, hs3⟩ := hQ3
    subst hs3
    replace W3 := W3.cast (st' := [(.int (pk p3))]) rfl
    replace W3 := W3.istore (pc' := 27) (L' := #[.val (.int p0), .val (.int p1), .val (.int p2), .val (.int p3), .val (.int p4), .val (.int p5), .val (.int (0 : Int32)), .val (.int (pk p1)), .val (.int (pk p2)), .val (.int (pk p3)), .unset, .unset, .unset, .unset, .unset]) at_25 rfl rfl
    replace W3 := W3.iload (pc' := 29) at_27 rfl rfl
    obtain ⟨V4, h4, r4, W4, K4, hQ4, SF4⟩ := W3.callS (pc' := 32) (argsL := [(.int p4)]) (rest := []) (Wd := 0) (cells' := 0) (slots' := 0) (y := (⟨"com/example/holdfast/holdfast/rules/WhereIsConditionPinLaw", "pick", "(I)C"⟩ : MethodName)) at_29 (pick_c l Z a0 n0 hw hEL G1 O1 P1 p4 h0 W3.old) (w1 hw) (w2 hw) (w3 hw) (w4 hw) (by decide) (lenOf pd12 rfl) rfl rfl (by decide) (by decide) rfl sf0 all0 rfl rfl rfl (by decide) (by decide)
    clear W3
    obtain ⟨rfl, hs4⟩ := hQ4
    subst hs4
    replace W4 := W4.cast (st' := [(.int (pk p4))]) rfl
    replace W4 := W4.istore (pc' := 34) (L' := #[.val (.int p0), .val (.int p1), .val (.int p2), .val (.int p3), .val (.int p4), .val (.int p5), .val (.int (0 : Int32)), .val (.int (pk p1)), .val (.int (pk p2)), .val (.int (pk p3)), .val (.int (pk p4)), .unset, .unset, .unset, .unset]) at_32 rfl rfl
    replace W4 := W4.iload (pc' := 36) at_34 rfl rfl
    obtain ⟨V5, h5, r5, W5, K5, hQ5, SF5⟩ := W4.callS (pc' := 39) (argsL := [(.int p5)]) (rest := []) (Wd := 0) (cells' := 0) (slots' := 0) (y := (⟨"com/example/holdfast/holdfast/rules/WhereIsConditionPinLaw", "pick", "(I)C"⟩ : MethodName)) at_36 (pick_c l Z a0 n0 hw hEL G1 O1 P1 p5 h0 W4.old) (w1 hw) (w2 hw) (w3 hw) (w4 hw) (by decide) (lenOf pd12 rfl) rfl rfl (by decide) (by decide) rfl sf0 all0 rfl rfl rfl (by decide) (by decide)
    clear W4
    obtain ⟨rfl, hs5⟩ := hQ5
    subst hs5
    replace W5 := W5.cast (st' := [(.int (pk p5))]) rfl
    replace W5 := W5.istore (pc' := 41) (L' := #[.val (.int p0), .val (.int p1), .val (.int p2), .val (.int p3), .val (.int p4), .val (.int p5), .val (.int (0 : Int32)), .val (.int (pk p1)), .val (.int (pk p2)), .val (.int (pk p3)), .val (.int (pk p4)), .val (.int (pk p5)), .unset, .unset, .unset]) at_39 rfl rfl
    replace W5 := W5.iload (pc' := 43) at_41 rfl rfl
    replace W5 := W5.iload (pc' := 45) at_43 rfl rfl
    replace W5 := W5.iload (pc' := 47) at_45 rfl rfl
    replace W5 := W5.iload (pc' := 49) at_47 rfl rfl
    replace W5 := W5.iload (pc' := 51) at_49 rfl rfl
    replace W5 := W5.iload (pc' := 53) at_51 rfl rfl
    obtain ⟨V6, h6, r6, W6, K6, hQ6, SF6⟩ := W5.callS (pc' := 56) (argsL := [(.int (0 : Int32)), (.int (pk p1)), (.int (pk p2)), (.int (pk p3)), (.int (pk p4)), (.int (pk p5))]) (rest := []) (Wd := 0) (cells' := 4) (slots' := 8) (y := (⟨"com/example/holdfast/holdfast/rules/WhereIsConditionPinLaw", "make", "(ICCCCC)Ljava/lang/String;"⟩ : MethodName)) at_53 (make_0 l Z a0 n0 hw hEL G1 O1 P1 (pk p1) (pk p2) (pk p3) (pk p4) (pk p5) h0 W5.old (pk_rng p1) (pk_rng p2) (pk_rng p3) (pk_rng p4) (pk_rng p5)) (w5 hw) (w6 hw) (w3 hw) (w7 hw) (by decide) (lenOf pd13 rfl) rfl rfl (by decide) (by decide) rfl sf0 all0 rfl rfl rfl (by decide) (by decide)
    clear W5
    obtain ⟨xs6, t6, kt6, rfl, q6_1, q6_2, q6_3, q6_4, q6_5⟩ := hQ6
    have z6 : h0.size ≤ h6.size := K6.1
    replace W6 := W6.cast (st' := [(.ref xs6)]) rfl
    replace W6 := W6.astore (pc' := 58) (L' := #[.val (.int p0), .val (.int p1), .val (.int p2), .val (.int p3), .val (.int p4), .val (.int p5), .val (.int (0 : Int32)), .val (.int (pk p1)), .val (.int (pk p2)), .val (.int (pk p3)), .val (.int (pk p4)), .val (.int (pk p5)), .val (.ref xs6), .unset, .unset]) at_56 rfl rfl rfl
    replace W6 := W6.iload (pc' := 60) at_58 rfl rfl
    replace W6 := W6.iconst (pc' := 61) (v := (2 : Int32)) at_60 rfl rfl
    replace W6 := W6.icmpT (pc' := 71) at_61 (tlt (by decide : (0 : Int32) < (2 : Int32))).1 (by decide) (by decide)
    replace W6 := W6.iload (pc' := 73) at_71 rfl rfl
    replace W6 := W6.iconst (pc' := 74) (v := (3 : Int32)) at_73 rfl rfl
    replace W6 := W6.icmpT (pc' := 84) at_74 (tlt (by decide : (0 : Int32) < (3 : Int32))).1 (by decide) (by decide)
    replace W6 := W6.iload (pc' := 86) at_84 rfl rfl
    replace W6 := W6.iconst (pc' := 87) (v := (4 : Int32)) at_86 rfl rfl
    replace W6 := W6.icmpT (pc' := 97) at_87 (tlt (by decide : (0 : Int32) < (4 : Int32))).1 (by decide) (by decide)
    replace W6 := W6.iload (pc' := 99) at_97 rfl rfl
    replace W6 := W6.iconst (pc' := 100) (v := (5 : Int32)) at_99 rfl rfl
    replace W6 := W6.icmpT (pc' := 114) at_100 (tlt (by decide : (0 : Int32) < (5 : Int32))).1 (by decide) (by decide)
    replace W6 := W6.iconst (pc' := 115) (v := (0 : Int32)) at_114 rfl rfl
    replace W6 := W6.istore (pc' := 117) (L' := #[.val (.int p0), .val (.int p1), .val (.int p2), .val (.int p3), .val (.int p4), .val (.int p5), .val (.int (0 : Int32)), .val (.int (pk p1)), .val (.int (pk p2)), .val (.int (pk p3)), .val (.int (pk p4)), .val (.int (pk p5)), .val (.ref xs6), .val (.int (0 : Int32)), .unset]) at_115 rfl rfl
    replace W6 := W6.iload (pc' := 119) at_117 rfl rfl
    replace W6 := W6.iconst (pc' := 120) (v := (1 : Int32)) at_119 rfl rfl
    replace W6 := W6.icmpT (pc' := 139) at_120 (tlt (by decide : (0 : Int32) < (1 : Int32))).1 (by decide) (by decide)
    replace W6 := W6.iconst (pc' := 140) (v := (0 : Int32)) at_139 rfl rfl
    replace W6 := W6.istore (pc' := 142) (L' := #[.val (.int p0), .val (.int p1), .val (.int p2), .val (.int p3), .val (.int p4), .val (.int p5), .val (.int (0 : Int32)), .val (.int (pk p1)), .val (.int (pk p2)), .val (.int (pk p3)), .val (.int (pk p4)), .val (.int (pk p5)), .val (.ref xs6), .val (.int (0 : Int32)), .val (.int (0 : Int32))]) at_140 rfl rfl
    replace W6 := W6.aload (pc' := 144) at_142 rfl rfl rfl
    obtain ⟨V7, h7, r7, W7, K7, hQ7, SF7⟩ := W6.callS (pc' := 147) (argsL := [(.ref xs6)]) (rest := []) (Wd := 0) (cells' := 4) (slots' := 8) (y := (⟨"com/example/holdfast/holdfast/rules/Where", "isCondition", "(Ljava/lang/String;)Z"⟩ : MethodName)) at_144 (isc_0 l Z a0 n0 hw hEL G1 O1 P1 xs6 t6 kt6 h6 W6.old q6_1 q6_2 q6_3 q6_4) (w30 hw) (w31 hw) (w32 hw) (w33 hw) (by decide) (lenOf pd14 rfl) rfl rfl (by decide) (by decide) rfl sf0 all0 rfl rfl rfl (by decide) (by decide)
    clear W6
    obtain ⟨rfl, hs7⟩ := hQ7
    subst hs7
    replace W7 := W7.cast (st' := [(.int (isc []))]) rfl
    replace W7 := W7.iload (pc' := 149) at_147 rfl rfl
    have hx149 : (isc []) = (0 : Int32) := by simp [isc, ix, ]
    replace W7 := W7.icmpF (pc' := 152) at_149 (teq hx149).2 rfl
    replace W7 := W7.iconst (pc' := 153) (v := (1 : Int32)) at_152 rfl rfl
    replace W7 := W7.goto (pc' := 157) at_153 (by decide) (by decide)
    exact W7.iret (t := .boolean) at_157 rfl (by simp) (by decide) (by decide) (by decide) (fun V' cv => rfl)
  · replace W := W.istore (pc' := 9) (L' := #[.val (.int p0), .val (.int p1), .val (.int p2), .val (.int p3), .val (.int p4), .val (.int p5), .val (.int (1 : Int32)), .unset, .unset, .unset, .unset, .unset, .unset, .unset, .unset]) at_7 rfl rfl
    replace W := W.iloadN (pc' := 10) at_9 rfl rfl
    obtain ⟨V8, h8, r8, W8, K8, hQ8, SF8⟩ := W.callS (pc' := 13) (argsL := [(.int p1)]) (rest := []) (Wd := 0) (cells' := 0) (slots' := 0) (y := (⟨"com/example/holdfast/holdfast/rules/WhereIsConditionPinLaw", "pick", "(I)C"⟩ : MethodName)) at_10 (pick_c l Z a0 n0 hw hEL G1 O1 P1 p1 h0 W.old) (w1 hw) (w2 hw) (w3 hw) (w4 hw) (by decide) (lenOf pd12 rfl) rfl rfl (by decide) (by decide) rfl sf0 all0 rfl rfl rfl (by decide) (by decide)
    clear W
    obtain ⟨rfl, hs8⟩ := hQ8
    subst hs8
    replace W8 := W8.cast (st' := [(.int (pk p1))]) rfl
    replace W8 := W8.istore (pc' := 15) (L' := #[.val (.int p0), .val (.int p1), .val (.int p2), .val (.int p3), .val (.int p4), .val (.int p5), .val (.int (1 : Int32)), .val (.int (pk p1)), .unset, .unset, .unset, .unset, .unset, .unset, .unset]) at_13 rfl rfl
    replace W8 := W8.iloadN (pc' := 16) at_15 rfl rfl
    obtain ⟨V9, h9, r9, W9, K9, hQ9, SF9⟩ := W8.callS (pc' := 19) (argsL := [(.int p2)]) (rest := []) (Wd := 0) (cells' := 0) (slots' := 0) (y := (⟨"com/example/holdfast/holdfast/rules/WhereIsConditionPinLaw", "pick", "(I)C"⟩ : MethodName)) at_16 (pick_c l Z a0 n0 hw hEL G1 O1 P1 p2 h0 W8.old) (w1 hw) (w2 hw) (w3 hw) (w4 hw) (by decide) (lenOf pd12 rfl) rfl rfl (by decide) (by decide) rfl sf0 all0 rfl rfl rfl (by decide) (by decide)
    clear W8
    obtain ⟨rfl, hs9⟩ := hQ9
    subst hs9
    replace W9 := W9.cast (st' := [(.int (pk p2))]) rfl
    replace W9 := W9.istore (pc' := 21) (L' := #[.val (.int p0), .val (.int p1), .val (.int p2), .val (.int p3), .val (.int p4), .val (.int p5), .val (.int (1 : Int32)), .val (.int (pk p1)), .val (.int (pk p2)), .unset, .unset, .unset, .unset, .unset, .unset]) at_19 rfl rfl
    replace W9 := W9.iloadN (pc' := 22) at_21 rfl rfl
    obtain ⟨V10, h10, r10, W10, K10, hQ10, SF10⟩ := W9.callS (pc' := 25) (argsL := [(.int p3)]) (rest := []) (Wd := 0) (cells' := 0) (slots' := 0) (y := (⟨"com/example/holdfast/holdfast/rules/WhereIsConditionPinLaw", "pick", "(I)C"⟩ : MethodName)) at_22 (pick_c l Z a0 n0 hw hEL G1 O1 P1 p3 h0 W9.old) (w1 hw) (w2 hw) (w3 hw) (w4 hw) (by decide) (lenOf pd12 rfl) rfl rfl (by decide) (by decide) rfl sf0 all0 rfl rfl rfl (by decide) (by decide)
    clear W9
    obtain ⟨rfl, hs10⟩ := hQ10
    subst hs10
    replace W10 := W10.cast (st' := [(.int (pk p3))]) rfl
    replace W10 := W10.istore (pc' := 27) (L' := #[.val (.int p0), .val (.int p1), .val (.int p2), .val (.int p3), .val (.int p4), .val (.int p5), .val (.int (1 : Int32)), .val (.int (pk p1)), .val (.int (pk p2)), .val (.int (pk p3)), .unset, .unset, .unset, .unset, .unset]) at_25 rfl rfl
    replace W10 := W10.iload (pc' := 29) at_27 rfl rfl
    obtain ⟨V11, h11, r11, W11, K11, hQ11, SF11⟩ := W10.callS (pc' := 32) (argsL := [(.int p4)]) (rest := []) (Wd := 0) (cells' := 0) (slots' := 0) (y := (⟨"com/example/holdfast/holdfast/rules/WhereIsConditionPinLaw", "pick", "(I)C"⟩ : MethodName)) at_29 (pick_c l Z a0 n0 hw hEL G1 O1 P1 p4 h0 W10.old) (w1 hw) (w2 hw) (w3 hw) (w4 hw) (by decide) (lenOf pd12 rfl) rfl rfl (by decide) (by decide) rfl sf0 all0 rfl rfl rfl (by decide) (by decide)
    clear W10
    obtain ⟨rfl, hs11⟩ := hQ11
    subst hs11
    replace W11 := W11.cast (st' := [(.int (pk p4))]) rfl
    replace W11 := W11.istore (pc' := 34) (L' := #[.val (.int p0), .val (.int p1), .val (.int p2), .val (.int p3), .val (.int p4), .val (.int p5), .val (.int (1 : Int32)), .val (.int (pk p1)), .val (.int (pk p2)), .val (.int (pk p3)), .val (.int (pk p4)), .unset, .unset, .unset, .unset]) at_32 rfl rfl
    replace W11 := W11.iload (pc' := 36) at_34 rfl rfl
    obtain ⟨V12, h12, r12, W12, K12, hQ12, SF12⟩ := W11.callS (pc' := 39) (argsL := [(.int p5)]) (rest := []) (Wd := 0) (cells' := 0) (slots' := 0) (y := (⟨"com/example/holdfast/holdfast/rules/WhereIsConditionPinLaw", "pick", "(I)C"⟩ : MethodName)) at_36 (pick_c l Z a0 n0 hw hEL G1 O1 P1 p5 h0 W11.old) (w1 hw) (w2 hw) (w3 hw) (w4 hw) (by decide) (lenOf pd12 rfl) rfl rfl (by decide) (by decide) rfl sf0 all0 rfl rfl rfl (by decide) (by decide)
    clear W11
    obtain ⟨rfl, hs12⟩ := hQ12
    subst hs12
    replace W12 := W12.cast (st' := [(.int (pk p5))]) rfl
    replace W12 := W12.istore (pc' := 41) (L' := #[.val (.int p0), .val (.int p1), .val (.int p2), .val (.int p3), .val (.int p4), .val (.int p5), .val (.int (1 : Int32)), .val (.int (pk p1)), .val (.int (pk p2)), .val (.int (pk p3)), .val (.int (pk p4)), .val (.int (pk p5)), .unset, .unset, .unset]) at_39 rfl rfl
    replace W12 := W12.iload (pc' := 43) at_41 rfl rfl
    replace W12 := W12.iload (pc' := 45) at_43 rfl rfl
    replace W12 := W12.iload (pc' := 47) at_45 rfl rfl
    replace W12 := W12.iload (pc' := 49) at_47 rfl rfl
    replace W12 := W12.iload (pc' := 51) at_49 rfl rfl
    replace W12 := W12.iload (pc' := 53) at_51 rfl rfl
    obtain ⟨V13, h13, r13, W13, K13, hQ13, SF13⟩ := W12.callS (pc' := 56) (argsL := [(.int (1 : Int32)), (.int (pk p1)), (.int (pk p2)), (.int (pk p3)), (.int (pk p4)), (.int (pk p5))]) (rest := []) (Wd := 0) (cells' := 3) (slots' := 6) (y := (⟨"com/example/holdfast/holdfast/rules/WhereIsConditionPinLaw", "make", "(ICCCCC)Ljava/lang/String;"⟩ : MethodName)) at_53 (make_1 l Z a0 n0 hw hEL G1 O1 P1 (pk p1) (pk p2) (pk p3) (pk p4) (pk p5) h0 W12.old (pk_rng p1) (pk_rng p2) (pk_rng p3) (pk_rng p4) (pk_rng p5)) (w5 hw) (w6 hw) (w3 hw) (w7 hw) (by decide) (lenOf pd13 rfl) rfl rfl (by decide) (by decide) rfl sf0 all0 rfl rfl rfl (by decide) (by decide)
    clear W12
    obtain ⟨xs13, t13, kt13, rfl, q13_1, q13_2, q13_3, q13_4, q13_5⟩ := hQ13
    have z13 : h0.size ≤ h13.size := K13.1
    replace W13 := W13.cast (st' := [(.ref xs13)]) rfl
    replace W13 := W13.astore (pc' := 58) (L' := #[.val (.int p0), .val (.int p1), .val (.int p2), .val (.int p3), .val (.int p4), .val (.int p5), .val (.int (1 : Int32)), .val (.int (pk p1)), .val (.int (pk p2)), .val (.int (pk p3)), .val (.int (pk p4)), .val (.int (pk p5)), .val (.ref xs13), .unset, .unset]) at_56 rfl rfl rfl
    replace W13 := W13.iload (pc' := 60) at_58 rfl rfl
    replace W13 := W13.iconst (pc' := 61) (v := (2 : Int32)) at_60 rfl rfl
    replace W13 := W13.icmpT (pc' := 71) at_61 (tlt (by decide : (1 : Int32) < (2 : Int32))).1 (by decide) (by decide)
    replace W13 := W13.iload (pc' := 73) at_71 rfl rfl
    replace W13 := W13.iconst (pc' := 74) (v := (3 : Int32)) at_73 rfl rfl
    replace W13 := W13.icmpT (pc' := 84) at_74 (tlt (by decide : (1 : Int32) < (3 : Int32))).1 (by decide) (by decide)
    replace W13 := W13.iload (pc' := 86) at_84 rfl rfl
    replace W13 := W13.iconst (pc' := 87) (v := (4 : Int32)) at_86 rfl rfl
    replace W13 := W13.icmpT (pc' := 97) at_87 (tlt (by decide : (1 : Int32) < (4 : Int32))).1 (by decide) (by decide)
    replace W13 := W13.iload (pc' := 99) at_97 rfl rfl
    replace W13 := W13.iconst (pc' := 100) (v := (5 : Int32)) at_99 rfl rfl
    replace W13 := W13.icmpT (pc' := 114) at_100 (tlt (by decide : (1 : Int32) < (5 : Int32))).1 (by decide) (by decide)
    replace W13 := W13.iconst (pc' := 115) (v := (0 : Int32)) at_114 rfl rfl
    replace W13 := W13.istore (pc' := 117) (L' := #[.val (.int p0), .val (.int p1), .val (.int p2), .val (.int p3), .val (.int p4), .val (.int p5), .val (.int (1 : Int32)), .val (.int (pk p1)), .val (.int (pk p2)), .val (.int (pk p3)), .val (.int (pk p4)), .val (.int (pk p5)), .val (.ref xs13), .val (.int (0 : Int32)), .unset]) at_115 rfl rfl
    replace W13 := W13.iload (pc' := 119) at_117 rfl rfl
    replace W13 := W13.iconst (pc' := 120) (v := (1 : Int32)) at_119 rfl rfl
    replace W13 := W13.icmpF (pc' := 123) at_120 (flt (by decide : ¬ ((1 : Int32) < (1 : Int32)))).1 rfl
    replace W13 := W13.iload (pc' := 125) at_123 rfl rfl
    replace W13 := W13.bipush (pc' := 127) (v := (61 : Int32)) at_125 rfl rfl
    by_cases c14 : (pk p1) = (61 : Int32)
    · replace W13 := W13.icmpT (pc' := 139) at_127 (teq c14).1 (by decide) (by decide)
      replace W13 := W13.iconst (pc' := 140) (v := (0 : Int32)) at_139 rfl rfl
      replace W13 := W13.istore (pc' := 142) (L' := #[.val (.int p0), .val (.int p1), .val (.int p2), .val (.int p3), .val (.int p4), .val (.int p5), .val (.int (1 : Int32)), .val (.int (pk p1)), .val (.int (pk p2)), .val (.int (pk p3)), .val (.int (pk p4)), .val (.int (pk p5)), .val (.ref xs13), .val (.int (0 : Int32)), .val (.int (0 : Int32))]) at_140 rfl rfl
      replace W13 := W13.aload (pc' := 144) at_142 rfl rfl rfl
      obtain ⟨V15, h15, r15, W15, K15, hQ15, SF15⟩ := W13.callS (pc' := 147) (argsL := [(.ref xs13)]) (rest := []) (Wd := 0) (cells' := 3) (slots' := 6) (y := (⟨"com/example/holdfast/holdfast/rules/Where", "isCondition", "(Ljava/lang/String;)Z"⟩ : MethodName)) at_144 (isc_1 l Z a0 n0 hw hEL G1 O1 P1 xs13 t13 kt13 ((pk p1).toInt8.toInt32) h13 W13.old q13_1 q13_2 q13_3 q13_4) (w30 hw) (w31 hw) (w32 hw) (w33 hw) (by decide) (lenOf pd14 rfl) rfl rfl (by decide) (by decide) rfl sf0 all0 rfl rfl rfl (by decide) (by decide)
      clear W13
      obtain ⟨rfl, hs15⟩ := hQ15
      subst hs15
      replace W15 := W15.cast (st' := [(.int (isc [((pk p1).toInt8.toInt32)]))]) rfl
      replace W15 := W15.iload (pc' := 149) at_147 rfl rfl
      have hx149 : (isc [((pk p1).toInt8.toInt32)]) = (0 : Int32) := by simp [isc, ix, own_b61 (pk_rng p1), c14]
      replace W15 := W15.icmpF (pc' := 152) at_149 (teq hx149).2 rfl
      replace W15 := W15.iconst (pc' := 153) (v := (1 : Int32)) at_152 rfl rfl
      replace W15 := W15.goto (pc' := 157) at_153 (by decide) (by decide)
      exact W15.iret (t := .boolean) at_157 rfl (by simp) (by decide) (by decide) (by decide) (fun V' cv => rfl)
    · replace W13 := W13.icmpF (pc' := 130) at_127 (feq c14).1 rfl
      replace W13 := W13.iload (pc' := 132) at_130 rfl rfl
      replace W13 := W13.ifT (pc' := 139) at_132 (teq (by decide : (0 : Int32) = (0 : Int32))).1 (by decide) (by decide)
      replace W13 := W13.iconst (pc' := 140) (v := (0 : Int32)) at_139 rfl rfl
      replace W13 := W13.istore (pc' := 142) (L' := #[.val (.int p0), .val (.int p1), .val (.int p2), .val (.int p3), .val (.int p4), .val (.int p5), .val (.int (1 : Int32)), .val (.int (pk p1)), .val (.int (pk p2)), .val (.int (pk p3)), .val (.int (pk p4)), .val (.int (pk p5)), .val (.ref xs13), .val (.int (0 : Int32)), .val (.int (0 : Int32))]) at_140 rfl rfl
      replace W13 := W13.aload (pc' := 144) at_142 rfl rfl rfl
      obtain ⟨V16, h16, r16, W16, K16, hQ16, SF16⟩ := W13.callS (pc' := 147) (argsL := [(.ref xs13)]) (rest := []) (Wd := 0) (cells' := 3) (slots' := 6) (y := (⟨"com/example/holdfast/holdfast/rules/Where", "isCondition", "(Ljava/lang/String;)Z"⟩ : MethodName)) at_144 (isc_1 l Z a0 n0 hw hEL G1 O1 P1 xs13 t13 kt13 ((pk p1).toInt8.toInt32) h13 W13.old q13_1 q13_2 q13_3 q13_4) (w30 hw) (w31 hw) (w32 hw) (w33 hw) (by decide) (lenOf pd14 rfl) rfl rfl (by decide) (by decide) rfl sf0 all0 rfl rfl rfl (by decide) (by decide)
      clear W13
      obtain ⟨rfl, hs16⟩ := hQ16
      subst hs16
      replace W16 := W16.cast (st' := [(.int (isc [((pk p1).toInt8.toInt32)]))]) rfl
      replace W16 := W16.iload (pc' := 149) at_147 rfl rfl
      have hx149 : (isc [((pk p1).toInt8.toInt32)]) = (0 : Int32) := by simp [isc, ix, own_b61 (pk_rng p1), c14]
      replace W16 := W16.icmpF (pc' := 152) at_149 (teq hx149).2 rfl
      replace W16 := W16.iconst (pc' := 153) (v := (1 : Int32)) at_152 rfl rfl
      replace W16 := W16.goto (pc' := 157) at_153 (by decide) (by decide)
      exact W16.iret (t := .boolean) at_157 rfl (by simp) (by decide) (by decide) (by decide) (fun V' cv => rfl)
  · replace W := W.istore (pc' := 9) (L' := #[.val (.int p0), .val (.int p1), .val (.int p2), .val (.int p3), .val (.int p4), .val (.int p5), .val (.int (2 : Int32)), .unset, .unset, .unset, .unset, .unset, .unset, .unset, .unset]) at_7 rfl rfl
    replace W := W.iloadN (pc' := 10) at_9 rfl rfl
    obtain ⟨V17, h17, r17, W17, K17, hQ17, SF17⟩ := W.callS (pc' := 13) (argsL := [(.int p1)]) (rest := []) (Wd := 0) (cells' := 0) (slots' := 0) (y := (⟨"com/example/holdfast/holdfast/rules/WhereIsConditionPinLaw", "pick", "(I)C"⟩ : MethodName)) at_10 (pick_c l Z a0 n0 hw hEL G1 O1 P1 p1 h0 W.old) (w1 hw) (w2 hw) (w3 hw) (w4 hw) (by decide) (lenOf pd12 rfl) rfl rfl (by decide) (by decide) rfl sf0 all0 rfl rfl rfl (by decide) (by decide)
    clear W
    obtain ⟨rfl, hs17⟩ := hQ17
    subst hs17
    replace W17 := W17.cast (st' := [(.int (pk p1))]) rfl
    replace W17 := W17.istore (pc' := 15) (L' := #[.val (.int p0), .val (.int p1), .val (.int p2), .val (.int p3), .val (.int p4), .val (.int p5), .val (.int (2 : Int32)), .val (.int (pk p1)), .unset, .unset, .unset, .unset, .unset, .unset, .unset]) at_13 rfl rfl
    replace W17 := W17.iloadN (pc' := 16) at_15 rfl rfl
    obtain ⟨V18, h18, r18, W18, K18, hQ18, SF18⟩ := W17.callS (pc' := 19) (argsL := [(.int p2)]) (rest := []) (Wd := 0) (cells' := 0) (slots' := 0) (y := (⟨"com/example/holdfast/holdfast/rules/WhereIsConditionPinLaw", "pick", "(I)C"⟩ : MethodName)) at_16 (pick_c l Z a0 n0 hw hEL G1 O1 P1 p2 h0 W17.old) (w1 hw) (w2 hw) (w3 hw) (w4 hw) (by decide) (lenOf pd12 rfl) rfl rfl (by decide) (by decide) rfl sf0 all0 rfl rfl rfl (by decide) (by decide)
    clear W17
    obtain ⟨rfl, hs18⟩ := hQ18
    subst hs18
    replace W18 := W18.cast (st' := [(.int (pk p2))]) rfl
    replace W18 := W18.istore (pc' := 21) (L' := #[.val (.int p0), .val (.int p1), .val (.int p2), .val (.int p3), .val (.int p4), .val (.int p5), .val (.int (2 : Int32)), .val (.int (pk p1)), .val (.int (pk p2)), .unset, .unset, .unset, .unset, .unset, .unset]) at_19 rfl rfl
    replace W18 := W18.iloadN (pc' := 22) at_21 rfl rfl
    obtain ⟨V19, h19, r19, W19, K19, hQ19, SF19⟩ := W18.callS (pc' := 25) (argsL := [(.int p3)]) (rest := []) (Wd := 0) (cells' := 0) (slots' := 0) (y := (⟨"com/example/holdfast/holdfast/rules/WhereIsConditionPinLaw", "pick", "(I)C"⟩ : MethodName)) at_22 (pick_c l Z a0 n0 hw hEL G1 O1 P1 p3 h0 W18.old) (w1 hw) (w2 hw) (w3 hw) (w4 hw) (by decide) (lenOf pd12 rfl) rfl rfl (by decide) (by decide) rfl sf0 all0 rfl rfl rfl (by decide) (by decide)
    clear W18
    obtain ⟨rfl, hs19⟩ := hQ19
    subst hs19
    replace W19 := W19.cast (st' := [(.int (pk p3))]) rfl
    replace W19 := W19.istore (pc' := 27) (L' := #[.val (.int p0), .val (.int p1), .val (.int p2), .val (.int p3), .val (.int p4), .val (.int p5), .val (.int (2 : Int32)), .val (.int (pk p1)), .val (.int (pk p2)), .val (.int (pk p3)), .unset, .unset, .unset, .unset, .unset]) at_25 rfl rfl
    replace W19 := W19.iload (pc' := 29) at_27 rfl rfl
    obtain ⟨V20, h20, r20, W20, K20, hQ20, SF20⟩ := W19.callS (pc' := 32) (argsL := [(.int p4)]) (rest := []) (Wd := 0) (cells' := 0) (slots' := 0) (y := (⟨"com/example/holdfast/holdfast/rules/WhereIsConditionPinLaw", "pick", "(I)C"⟩ : MethodName)) at_29 (pick_c l Z a0 n0 hw hEL G1 O1 P1 p4 h0 W19.old) (w1 hw) (w2 hw) (w3 hw) (w4 hw) (by decide) (lenOf pd12 rfl) rfl rfl (by decide) (by decide) rfl sf0 all0 rfl rfl rfl (by decide) (by decide)
    clear W19
    obtain ⟨rfl, hs20⟩ := hQ20
    subst hs20
    replace W20 := W20.cast (st' := [(.int (pk p4))]) rfl
    replace W20 := W20.istore (pc' := 34) (L' := #[.val (.int p0), .val (.int p1), .val (.int p2), .val (.int p3), .val (.int p4), .val (.int p5), .val (.int (2 : Int32)), .val (.int (pk p1)), .val (.int (pk p2)), .val (.int (pk p3)), .val (.int (pk p4)), .unset, .unset, .unset, .unset]) at_32 rfl rfl
    replace W20 := W20.iload (pc' := 36) at_34 rfl rfl
    obtain ⟨V21, h21, r21, W21, K21, hQ21, SF21⟩ := W20.callS (pc' := 39) (argsL := [(.int p5)]) (rest := []) (Wd := 0) (cells' := 0) (slots' := 0) (y := (⟨"com/example/holdfast/holdfast/rules/WhereIsConditionPinLaw", "pick", "(I)C"⟩ : MethodName)) at_36 (pick_c l Z a0 n0 hw hEL G1 O1 P1 p5 h0 W20.old) (w1 hw) (w2 hw) (w3 hw) (w4 hw) (by decide) (lenOf pd12 rfl) rfl rfl (by decide) (by decide) rfl sf0 all0 rfl rfl rfl (by decide) (by decide)
    clear W20
    obtain ⟨rfl, hs21⟩ := hQ21
    subst hs21
    replace W21 := W21.cast (st' := [(.int (pk p5))]) rfl
    replace W21 := W21.istore (pc' := 41) (L' := #[.val (.int p0), .val (.int p1), .val (.int p2), .val (.int p3), .val (.int p4), .val (.int p5), .val (.int (2 : Int32)), .val (.int (pk p1)), .val (.int (pk p2)), .val (.int (pk p3)), .val (.int (pk p4)), .val (.int (pk p5)), .unset, .unset, .unset]) at_39 rfl rfl
    replace W21 := W21.iload (pc' := 43) at_41 rfl rfl
    replace W21 := W21.iload (pc' := 45) at_43 rfl rfl
    replace W21 := W21.iload (pc' := 47) at_45 rfl rfl
    replace W21 := W21.iload (pc' := 49) at_47 rfl rfl
    replace W21 := W21.iload (pc' := 51) at_49 rfl rfl
    replace W21 := W21.iload (pc' := 53) at_51 rfl rfl
    obtain ⟨V22, h22, r22, W22, K22, hQ22, SF22⟩ := W21.callS (pc' := 56) (argsL := [(.int (2 : Int32)), (.int (pk p1)), (.int (pk p2)), (.int (pk p3)), (.int (pk p4)), (.int (pk p5))]) (rest := []) (Wd := 0) (cells' := 3) (slots' := 8) (y := (⟨"com/example/holdfast/holdfast/rules/WhereIsConditionPinLaw", "make", "(ICCCCC)Ljava/lang/String;"⟩ : MethodName)) at_53 (make_2 l Z a0 n0 hw hEL G1 O1 P1 (pk p1) (pk p2) (pk p3) (pk p4) (pk p5) h0 W21.old (pk_rng p1) (pk_rng p2) (pk_rng p3) (pk_rng p4) (pk_rng p5)) (w5 hw) (w6 hw) (w3 hw) (w7 hw) (by decide) (lenOf pd13 rfl) rfl rfl (by decide) (by decide) rfl sf0 all0 rfl rfl rfl (by decide) (by decide)
    clear W21
    obtain ⟨xs22, t22, kt22, rfl, q22_1, q22_2, q22_3, q22_4, q22_5⟩ := hQ22
    have z22 : h0.size ≤ h22.size := K22.1
    replace W22 := W22.cast (st' := [(.ref xs22)]) rfl
    replace W22 := W22.astore (pc' := 58) (L' := #[.val (.int p0), .val (.int p1), .val (.int p2), .val (.int p3), .val (.int p4), .val (.int p5), .val (.int (2 : Int32)), .val (.int (pk p1)), .val (.int (pk p2)), .val (.int (pk p3)), .val (.int (pk p4)), .val (.int (pk p5)), .val (.ref xs22), .unset, .unset]) at_56 rfl rfl rfl
    replace W22 := W22.iload (pc' := 60) at_58 rfl rfl
    replace W22 := W22.iconst (pc' := 61) (v := (2 : Int32)) at_60 rfl rfl
    replace W22 := W22.icmpF (pc' := 64) at_61 (flt (by decide : ¬ ((2 : Int32) < (2 : Int32)))).1 rfl
    replace W22 := W22.iload (pc' := 66) at_64 rfl rfl
    replace W22 := W22.bipush (pc' := 68) (v := (61 : Int32)) at_66 rfl rfl
    by_cases c23 : (pk p2) = (61 : Int32)
    · replace W22 := W22.icmpT (pc' := 110) at_68 (teq c23).1 (by decide) (by decide)
      replace W22 := W22.iconst (pc' := 111) (v := (1 : Int32)) at_110 rfl rfl
      replace W22 := W22.goto (pc' := 115) at_111 (by decide) (by decide)
      replace W22 := W22.istore (pc' := 117) (L' := #[.val (.int p0), .val (.int p1), .val (.int p2), .val (.int p3), .val (.int p4), .val (.int p5), .val (.int (2 : Int32)), .val (.int (pk p1)), .val (.int (pk p2)), .val (.int (pk p3)), .val (.int (pk p4)), .val (.int (pk p5)), .val (.ref xs22), .val (.int (1 : Int32)), .unset]) at_115 rfl rfl
      replace W22 := W22.iload (pc' := 119) at_117 rfl rfl
      replace W22 := W22.iconst (pc' := 120) (v := (1 : Int32)) at_119 rfl rfl
      replace W22 := W22.icmpF (pc' := 123) at_120 (flt (by decide : ¬ ((2 : Int32) < (1 : Int32)))).1 rfl
      replace W22 := W22.iload (pc' := 125) at_123 rfl rfl
      replace W22 := W22.bipush (pc' := 127) (v := (61 : Int32)) at_125 rfl rfl
      by_cases c24 : (pk p1) = (61 : Int32)
      · replace W22 := W22.icmpT (pc' := 139) at_127 (teq c24).1 (by decide) (by decide)
        replace W22 := W22.iconst (pc' := 140) (v := (0 : Int32)) at_139 rfl rfl
        replace W22 := W22.istore (pc' := 142) (L' := #[.val (.int p0), .val (.int p1), .val (.int p2), .val (.int p3), .val (.int p4), .val (.int p5), .val (.int (2 : Int32)), .val (.int (pk p1)), .val (.int (pk p2)), .val (.int (pk p3)), .val (.int (pk p4)), .val (.int (pk p5)), .val (.ref xs22), .val (.int (1 : Int32)), .val (.int (0 : Int32))]) at_140 rfl rfl
        replace W22 := W22.aload (pc' := 144) at_142 rfl rfl rfl
        obtain ⟨V25, h25, r25, W25, K25, hQ25, SF25⟩ := W22.callS (pc' := 147) (argsL := [(.ref xs22)]) (rest := []) (Wd := 0) (cells' := 3) (slots' := 8) (y := (⟨"com/example/holdfast/holdfast/rules/Where", "isCondition", "(Ljava/lang/String;)Z"⟩ : MethodName)) at_144 (isc_2 l Z a0 n0 hw hEL G1 O1 P1 xs22 t22 kt22 ((pk p1).toInt8.toInt32) ((pk p2).toInt8.toInt32) h22 W22.old q22_1 q22_2 q22_3 q22_4) (w30 hw) (w31 hw) (w32 hw) (w33 hw) (by decide) (lenOf pd14 rfl) rfl rfl (by decide) (by decide) rfl sf0 all0 rfl rfl rfl (by decide) (by decide)
        clear W22
        obtain ⟨rfl, hs25⟩ := hQ25
        subst hs25
        replace W25 := W25.cast (st' := [(.int (isc [((pk p1).toInt8.toInt32), ((pk p2).toInt8.toInt32)]))]) rfl
        replace W25 := W25.iload (pc' := 149) at_147 rfl rfl
        have hx149 : (isc [((pk p1).toInt8.toInt32), ((pk p2).toInt8.toInt32)]) = (0 : Int32) := by simp [isc, ix, own_b61 (pk_rng p1), own_b61 (pk_rng p2), c23, c24]
        replace W25 := W25.icmpF (pc' := 152) at_149 (teq hx149).2 rfl
        replace W25 := W25.iconst (pc' := 153) (v := (1 : Int32)) at_152 rfl rfl
        replace W25 := W25.goto (pc' := 157) at_153 (by decide) (by decide)
        exact W25.iret (t := .boolean) at_157 rfl (by simp) (by decide) (by decide) (by decide) (fun V' cv => rfl)
      · replace W22 := W22.icmpF (pc' := 130) at_127 (feq c24).1 rfl
        replace W22 := W22.iload (pc' := 132) at_130 rfl rfl
        replace W22 := W22.ifF (pc' := 135) at_132 (feq (by decide : ¬ ((1 : Int32) = (0 : Int32)))).1 rfl
        replace W22 := W22.iconst (pc' := 136) (v := (1 : Int32)) at_135 rfl rfl
        replace W22 := W22.goto (pc' := 140) at_136 (by decide) (by decide)
        replace W22 := W22.istore (pc' := 142) (L' := #[.val (.int p0), .val (.int p1), .val (.int p2), .val (.int p3), .val (.int p4), .val (.int p5), .val (.int (2 : Int32)), .val (.int (pk p1)), .val (.int (pk p2)), .val (.int (pk p3)), .val (.int (pk p4)), .val (.int (pk p5)), .val (.ref xs22), .val (.int (1 : Int32)), .val (.int (1 : Int32))]) at_140 rfl rfl
        replace W22 := W22.aload (pc' := 144) at_142 rfl rfl rfl
        obtain ⟨V26, h26, r26, W26, K26, hQ26, SF26⟩ := W22.callS (pc' := 147) (argsL := [(.ref xs22)]) (rest := []) (Wd := 0) (cells' := 3) (slots' := 8) (y := (⟨"com/example/holdfast/holdfast/rules/Where", "isCondition", "(Ljava/lang/String;)Z"⟩ : MethodName)) at_144 (isc_2 l Z a0 n0 hw hEL G1 O1 P1 xs22 t22 kt22 ((pk p1).toInt8.toInt32) ((pk p2).toInt8.toInt32) h22 W22.old q22_1 q22_2 q22_3 q22_4) (w30 hw) (w31 hw) (w32 hw) (w33 hw) (by decide) (lenOf pd14 rfl) rfl rfl (by decide) (by decide) rfl sf0 all0 rfl rfl rfl (by decide) (by decide)
        clear W22
        obtain ⟨rfl, hs26⟩ := hQ26
        subst hs26
        replace W26 := W26.cast (st' := [(.int (isc [((pk p1).toInt8.toInt32), ((pk p2).toInt8.toInt32)]))]) rfl
        replace W26 := W26.iload (pc' := 149) at_147 rfl rfl
        have hx149 : (isc [((pk p1).toInt8.toInt32), ((pk p2).toInt8.toInt32)]) = (1 : Int32) := by simp [isc, ix, own_b61 (pk_rng p1), own_b61 (pk_rng p2), c23, c24]
        replace W26 := W26.icmpF (pc' := 152) at_149 (teq hx149).2 rfl
        replace W26 := W26.iconst (pc' := 153) (v := (1 : Int32)) at_152 rfl rfl
        replace W26 := W26.goto (pc' := 157) at_153 (by decide) (by decide)
        exact W26.iret (t := .boolean) at_157 rfl (by simp) (by decide) (by decide) (by decide) (fun V' cv => rfl)
    · replace W22 := W22.icmpF (pc' := 71) at_68 (feq c23).1 rfl
      replace W22 := W22.iload (pc' := 73) at_71 rfl rfl
      replace W22 := W22.iconst (pc' := 74) (v := (3 : Int32)) at_73 rfl rfl
      replace W22 := W22.icmpT (pc' := 84) at_74 (tlt (by decide : (2 : Int32) < (3 : Int32))).1 (by decide) (by decide)
      replace W22 := W22.iload (pc' := 86) at_84 rfl rfl
      replace W22 := W22.iconst (pc' := 87) (v := (4 : Int32)) at_86 rfl rfl
      replace W22 := W22.icmpT (pc' := 97) at_87 (tlt (by decide : (2 : Int32) < (4 : Int32))).1 (by decide) (by decide)
      replace W22 := W22.iload (pc' := 99) at_97 rfl rfl
      replace W22 := W22.iconst (pc' := 100) (v := (5 : Int32)) at_99 rfl rfl
      replace W22 := W22.icmpT (pc' := 114) at_100 (tlt (by decide : (2 : Int32) < (5 : Int32))).1 (by decide) (by decide)
      replace W22 := W22.iconst (pc' := 115) (v := (0 : Int32)) at_114 rfl rfl
      replace W22 := W22.istore (pc' := 117) (L' := #[.val (.int p0), .val (.int p1), .val (.int p2), .val (.int p3), .val (.int p4), .val (.int p5), .val (.int (2 : Int32)), .val (.int (pk p1)), .val (.int (pk p2)), .val (.int (pk p3)), .val (.int (pk p4)), .val (.int (pk p5)), .val (.ref xs22), .val (.int (0 : Int32)), .unset]) at_115 rfl rfl
      replace W22 := W22.iload (pc' := 119) at_117 rfl rfl
      replace W22 := W22.iconst (pc' := 120) (v := (1 : Int32)) at_119 rfl rfl
      replace W22 := W22.icmpF (pc' := 123) at_120 (flt (by decide : ¬ ((2 : Int32) < (1 : Int32)))).1 rfl
      replace W22 := W22.iload (pc' := 125) at_123 rfl rfl
      replace W22 := W22.bipush (pc' := 127) (v := (61 : Int32)) at_125 rfl rfl
      by_cases c27 : (pk p1) = (61 : Int32)
      · replace W22 := W22.icmpT (pc' := 139) at_127 (teq c27).1 (by decide) (by decide)
        replace W22 := W22.iconst (pc' := 140) (v := (0 : Int32)) at_139 rfl rfl
        replace W22 := W22.istore (pc' := 142) (L' := #[.val (.int p0), .val (.int p1), .val (.int p2), .val (.int p3), .val (.int p4), .val (.int p5), .val (.int (2 : Int32)), .val (.int (pk p1)), .val (.int (pk p2)), .val (.int (pk p3)), .val (.int (pk p4)), .val (.int (pk p5)), .val (.ref xs22), .val (.int (0 : Int32)), .val (.int (0 : Int32))]) at_140 rfl rfl
        replace W22 := W22.aload (pc' := 144) at_142 rfl rfl rfl
        obtain ⟨V28, h28, r28, W28, K28, hQ28, SF28⟩ := W22.callS (pc' := 147) (argsL := [(.ref xs22)]) (rest := []) (Wd := 0) (cells' := 3) (slots' := 8) (y := (⟨"com/example/holdfast/holdfast/rules/Where", "isCondition", "(Ljava/lang/String;)Z"⟩ : MethodName)) at_144 (isc_2 l Z a0 n0 hw hEL G1 O1 P1 xs22 t22 kt22 ((pk p1).toInt8.toInt32) ((pk p2).toInt8.toInt32) h22 W22.old q22_1 q22_2 q22_3 q22_4) (w30 hw) (w31 hw) (w32 hw) (w33 hw) (by decide) (lenOf pd14 rfl) rfl rfl (by decide) (by decide) rfl sf0 all0 rfl rfl rfl (by decide) (by decide)
        clear W22
        obtain ⟨rfl, hs28⟩ := hQ28
        subst hs28
        replace W28 := W28.cast (st' := [(.int (isc [((pk p1).toInt8.toInt32), ((pk p2).toInt8.toInt32)]))]) rfl
        replace W28 := W28.iload (pc' := 149) at_147 rfl rfl
        have hx149 : (isc [((pk p1).toInt8.toInt32), ((pk p2).toInt8.toInt32)]) = (0 : Int32) := by simp [isc, ix, own_b61 (pk_rng p1), own_b61 (pk_rng p2), c23, c27]
        replace W28 := W28.icmpF (pc' := 152) at_149 (teq hx149).2 rfl
        replace W28 := W28.iconst (pc' := 153) (v := (1 : Int32)) at_152 rfl rfl
        replace W28 := W28.goto (pc' := 157) at_153 (by decide) (by decide)
        exact W28.iret (t := .boolean) at_157 rfl (by simp) (by decide) (by decide) (by decide) (fun V' cv => rfl)
      · replace W22 := W22.icmpF (pc' := 130) at_127 (feq c27).1 rfl
        replace W22 := W22.iload (pc' := 132) at_130 rfl rfl
        replace W22 := W22.ifT (pc' := 139) at_132 (teq (by decide : (0 : Int32) = (0 : Int32))).1 (by decide) (by decide)
        replace W22 := W22.iconst (pc' := 140) (v := (0 : Int32)) at_139 rfl rfl
        replace W22 := W22.istore (pc' := 142) (L' := #[.val (.int p0), .val (.int p1), .val (.int p2), .val (.int p3), .val (.int p4), .val (.int p5), .val (.int (2 : Int32)), .val (.int (pk p1)), .val (.int (pk p2)), .val (.int (pk p3)), .val (.int (pk p4)), .val (.int (pk p5)), .val (.ref xs22), .val (.int (0 : Int32)), .val (.int (0 : Int32))]) at_140 rfl rfl
        replace W22 := W22.aload (pc' := 144) at_142 rfl rfl rfl
        obtain ⟨V29, h29, r29, W29, K29, hQ29, SF29⟩ := W22.callS (pc' := 147) (argsL := [(.ref xs22)]) (rest := []) (Wd := 0) (cells' := 3) (slots' := 8) (y := (⟨"com/example/holdfast/holdfast/rules/Where", "isCondition", "(Ljava/lang/String;)Z"⟩ : MethodName)) at_144 (isc_2 l Z a0 n0 hw hEL G1 O1 P1 xs22 t22 kt22 ((pk p1).toInt8.toInt32) ((pk p2).toInt8.toInt32) h22 W22.old q22_1 q22_2 q22_3 q22_4) (w30 hw) (w31 hw) (w32 hw) (w33 hw) (by decide) (lenOf pd14 rfl) rfl rfl (by decide) (by decide) rfl sf0 all0 rfl rfl rfl (by decide) (by decide)
        clear W22
        obtain ⟨rfl, hs29⟩ := hQ29
        subst hs29
        replace W29 := W29.cast (st' := [(.int (isc [((pk p1).toInt8.toInt32), ((pk p2).toInt8.toInt32)]))]) rfl
        replace W29 := W29.iload (pc' := 149) at_147 rfl rfl
        have hx149 : (isc [((pk p1).toInt8.toInt32), ((pk p2).toInt8.toInt32)]) = (0 : Int32) := by simp [isc, ix, own_b61 (pk_rng p1), own_b61 (pk_rng p2), c23, c27]
        replace W29 := W29.icmpF (pc' := 152) at_149 (teq hx149).2 rfl
        replace W29 := W29.iconst (pc' := 153) (v := (1 : Int32)) at_152 rfl rfl
        replace W29 := W29.goto (pc' := 157) at_153 (by decide) (by decide)
        exact W29.iret (t := .boolean) at_157 rfl (by simp) (by decide) (by decide) (by decide) (fun V' cv => rfl)
  · replace W := W.istore (pc' := 9) (L' := #[.val (.int p0), .val (.int p1), .val (.int p2), .val (.int p3), .val (.int p4), .val (.int p5), .val (.int (3 : Int32)), .unset, .unset, .unset, .unset, .unset, .unset, .unset, .unset]) at_7 rfl rfl
    replace W := W.iloadN (pc' := 10) at_9 rfl rfl
    obtain ⟨V30, h30, r30, W30, K30, hQ30, SF30⟩ := W.callS (pc' := 13) (argsL := [(.int p1)]) (rest := []) (Wd := 0) (cells' := 0) (slots' := 0) (y := (⟨"com/example/holdfast/holdfast/rules/WhereIsConditionPinLaw", "pick", "(I)C"⟩ : MethodName)) at_10 (pick_c l Z a0 n0 hw hEL G1 O1 P1 p1 h0 W.old) (w1 hw) (w2 hw) (w3 hw) (w4 hw) (by decide) (lenOf pd12 rfl) rfl rfl (by decide) (by decide) rfl sf0 all0 rfl rfl rfl (by decide) (by decide)
    clear W
    obtain ⟨rfl, hs30⟩ := hQ30
    subst hs30
    replace W30 := W30.cast (st' := [(.int (pk p1))]) rfl
    replace W30 := W30.istore (pc' := 15) (L' := #[.val (.int p0), .val (.int p1), .val (.int p2), .val (.int p3), .val (.int p4), .val (.int p5), .val (.int (3 : Int32)), .val (.int (pk p1)), .unset, .unset, .unset, .unset, .unset, .unset, .unset]) at_13 rfl rfl
    replace W30 := W30.iloadN (pc' := 16) at_15 rfl rfl
    obtain ⟨V31, h31, r31, W31, K31, hQ31, SF31⟩ := W30.callS (pc' := 19) (argsL := [(.int p2)]) (rest := []) (Wd := 0) (cells' := 0) (slots' := 0) (y := (⟨"com/example/holdfast/holdfast/rules/WhereIsConditionPinLaw", "pick", "(I)C"⟩ : MethodName)) at_16 (pick_c l Z a0 n0 hw hEL G1 O1 P1 p2 h0 W30.old) (w1 hw) (w2 hw) (w3 hw) (w4 hw) (by decide) (lenOf pd12 rfl) rfl rfl (by decide) (by decide) rfl sf0 all0 rfl rfl rfl (by decide) (by decide)
    clear W30
    obtain ⟨rfl, hs31⟩ := hQ31
    subst hs31
    replace W31 := W31.cast (st' := [(.int (pk p2))]) rfl
    replace W31 := W31.istore (pc' := 21) (L' := #[.val (.int p0), .val (.int p1), .val (.int p2), .val (.int p3), .val (.int p4), .val (.int p5), .val (.int (3 : Int32)), .val (.int (pk p1)), .val (.int (pk p2)), .unset, .unset, .unset, .unset, .unset, .unset]) at_19 rfl rfl
    replace W31 := W31.iloadN (pc' := 22) at_21 rfl rfl
    obtain ⟨V32, h32, r32, W32, K32, hQ32, SF32⟩ := W31.callS (pc' := 25) (argsL := [(.int p3)]) (rest := []) (Wd := 0) (cells' := 0) (slots' := 0) (y := (⟨"com/example/holdfast/holdfast/rules/WhereIsConditionPinLaw", "pick", "(I)C"⟩ : MethodName)) at_22 (pick_c l Z a0 n0 hw hEL G1 O1 P1 p3 h0 W31.old) (w1 hw) (w2 hw) (w3 hw) (w4 hw) (by decide) (lenOf pd12 rfl) rfl rfl (by decide) (by decide) rfl sf0 all0 rfl rfl rfl (by decide) (by decide)
    clear W31
    obtain ⟨rfl, hs32⟩ := hQ32
    subst hs32
    replace W32 := W32.cast (st' := [(.int (pk p3))]) rfl
    replace W32 := W32.istore (pc' := 27) (L' := #[.val (.int p0), .val (.int p1), .val (.int p2), .val (.int p3), .val (.int p4), .val (.int p5), .val (.int (3 : Int32)), .val (.int (pk p1)), .val (.int (pk p2)), .val (.int (pk p3)), .unset, .unset, .unset, .unset, .unset]) at_25 rfl rfl
    replace W32 := W32.iload (pc' := 29) at_27 rfl rfl
    obtain ⟨V33, h33, r33, W33, K33, hQ33, SF33⟩ := W32.callS (pc' := 32) (argsL := [(.int p4)]) (rest := []) (Wd := 0) (cells' := 0) (slots' := 0) (y := (⟨"com/example/holdfast/holdfast/rules/WhereIsConditionPinLaw", "pick", "(I)C"⟩ : MethodName)) at_29 (pick_c l Z a0 n0 hw hEL G1 O1 P1 p4 h0 W32.old) (w1 hw) (w2 hw) (w3 hw) (w4 hw) (by decide) (lenOf pd12 rfl) rfl rfl (by decide) (by decide) rfl sf0 all0 rfl rfl rfl (by decide) (by decide)
    clear W32
    obtain ⟨rfl, hs33⟩ := hQ33
    subst hs33
    replace W33 := W33.cast (st' := [(.int (pk p4))]) rfl
    replace W33 := W33.istore (pc' := 34) (L' := #[.val (.int p0), .val (.int p1), .val (.int p2), .val (.int p3), .val (.int p4), .val (.int p5), .val (.int (3 : Int32)), .val (.int (pk p1)), .val (.int (pk p2)), .val (.int (pk p3)), .val (.int (pk p4)), .unset, .unset, .unset, .unset]) at_32 rfl rfl
    replace W33 := W33.iload (pc' := 36) at_34 rfl rfl
    obtain ⟨V34, h34, r34, W34, K34, hQ34, SF34⟩ := W33.callS (pc' := 39) (argsL := [(.int p5)]) (rest := []) (Wd := 0) (cells' := 0) (slots' := 0) (y := (⟨"com/example/holdfast/holdfast/rules/WhereIsConditionPinLaw", "pick", "(I)C"⟩ : MethodName)) at_36 (pick_c l Z a0 n0 hw hEL G1 O1 P1 p5 h0 W33.old) (w1 hw) (w2 hw) (w3 hw) (w4 hw) (by decide) (lenOf pd12 rfl) rfl rfl (by decide) (by decide) rfl sf0 all0 rfl rfl rfl (by decide) (by decide)
    clear W33
    obtain ⟨rfl, hs34⟩ := hQ34
    subst hs34
    replace W34 := W34.cast (st' := [(.int (pk p5))]) rfl
    replace W34 := W34.istore (pc' := 41) (L' := #[.val (.int p0), .val (.int p1), .val (.int p2), .val (.int p3), .val (.int p4), .val (.int p5), .val (.int (3 : Int32)), .val (.int (pk p1)), .val (.int (pk p2)), .val (.int (pk p3)), .val (.int (pk p4)), .val (.int (pk p5)), .unset, .unset, .unset]) at_39 rfl rfl
    replace W34 := W34.iload (pc' := 43) at_41 rfl rfl
    replace W34 := W34.iload (pc' := 45) at_43 rfl rfl
    replace W34 := W34.iload (pc' := 47) at_45 rfl rfl
    replace W34 := W34.iload (pc' := 49) at_47 rfl rfl
    replace W34 := W34.iload (pc' := 51) at_49 rfl rfl
    replace W34 := W34.iload (pc' := 53) at_51 rfl rfl
    obtain ⟨V35, h35, r35, W35, K35, hQ35, SF35⟩ := W34.callS (pc' := 56) (argsL := [(.int (3 : Int32)), (.int (pk p1)), (.int (pk p2)), (.int (pk p3)), (.int (pk p4)), (.int (pk p5))]) (rest := []) (Wd := 0) (cells' := 3) (slots' := 10) (y := (⟨"com/example/holdfast/holdfast/rules/WhereIsConditionPinLaw", "make", "(ICCCCC)Ljava/lang/String;"⟩ : MethodName)) at_53 (make_3 l Z a0 n0 hw hEL G1 O1 P1 (pk p1) (pk p2) (pk p3) (pk p4) (pk p5) h0 W34.old (pk_rng p1) (pk_rng p2) (pk_rng p3) (pk_rng p4) (pk_rng p5)) (w5 hw) (w6 hw) (w3 hw) (w7 hw) (by decide) (lenOf pd13 rfl) rfl rfl (by decide) (by decide) rfl sf0 all0 rfl rfl rfl (by decide) (by decide)
    clear W34
    obtain ⟨xs35, t35, kt35, rfl, q35_1, q35_2, q35_3, q35_4, q35_5⟩ := hQ35
    have z35 : h0.size ≤ h35.size := K35.1
    replace W35 := W35.cast (st' := [(.ref xs35)]) rfl
    replace W35 := W35.astore (pc' := 58) (L' := #[.val (.int p0), .val (.int p1), .val (.int p2), .val (.int p3), .val (.int p4), .val (.int p5), .val (.int (3 : Int32)), .val (.int (pk p1)), .val (.int (pk p2)), .val (.int (pk p3)), .val (.int (pk p4)), .val (.int (pk p5)), .val (.ref xs35), .unset, .unset]) at_56 rfl rfl rfl
    replace W35 := W35.iload (pc' := 60) at_58 rfl rfl
    replace W35 := W35.iconst (pc' := 61) (v := (2 : Int32)) at_60 rfl rfl
    replace W35 := W35.icmpF (pc' := 64) at_61 (flt (by decide : ¬ ((3 : Int32) < (2 : Int32)))).1 rfl
    replace W35 := W35.iload (pc' := 66) at_64 rfl rfl
    replace W35 := W35.bipush (pc' := 68) (v := (61 : Int32)) at_66 rfl rfl
    by_cases c36 : (pk p2) = (61 : Int32)
    · replace W35 := W35.icmpT (pc' := 110) at_68 (teq c36).1 (by decide) (by decide)
      replace W35 := W35.iconst (pc' := 111) (v := (1 : Int32)) at_110 rfl rfl
      replace W35 := W35.goto (pc' := 115) at_111 (by decide) (by decide)
      replace W35 := W35.istore (pc' := 117) (L' := #[.val (.int p0), .val (.int p1), .val (.int p2), .val (.int p3), .val (.int p4), .val (.int p5), .val (.int (3 : Int32)), .val (.int (pk p1)), .val (.int (pk p2)), .val (.int (pk p3)), .val (.int (pk p4)), .val (.int (pk p5)), .val (.ref xs35), .val (.int (1 : Int32)), .unset]) at_115 rfl rfl
      replace W35 := W35.iload (pc' := 119) at_117 rfl rfl
      replace W35 := W35.iconst (pc' := 120) (v := (1 : Int32)) at_119 rfl rfl
      replace W35 := W35.icmpF (pc' := 123) at_120 (flt (by decide : ¬ ((3 : Int32) < (1 : Int32)))).1 rfl
      replace W35 := W35.iload (pc' := 125) at_123 rfl rfl
      replace W35 := W35.bipush (pc' := 127) (v := (61 : Int32)) at_125 rfl rfl
      by_cases c37 : (pk p1) = (61 : Int32)
      · replace W35 := W35.icmpT (pc' := 139) at_127 (teq c37).1 (by decide) (by decide)
        replace W35 := W35.iconst (pc' := 140) (v := (0 : Int32)) at_139 rfl rfl
        replace W35 := W35.istore (pc' := 142) (L' := #[.val (.int p0), .val (.int p1), .val (.int p2), .val (.int p3), .val (.int p4), .val (.int p5), .val (.int (3 : Int32)), .val (.int (pk p1)), .val (.int (pk p2)), .val (.int (pk p3)), .val (.int (pk p4)), .val (.int (pk p5)), .val (.ref xs35), .val (.int (1 : Int32)), .val (.int (0 : Int32))]) at_140 rfl rfl
        replace W35 := W35.aload (pc' := 144) at_142 rfl rfl rfl
        obtain ⟨V38, h38, r38, W38, K38, hQ38, SF38⟩ := W35.callS (pc' := 147) (argsL := [(.ref xs35)]) (rest := []) (Wd := 0) (cells' := 3) (slots' := 10) (y := (⟨"com/example/holdfast/holdfast/rules/Where", "isCondition", "(Ljava/lang/String;)Z"⟩ : MethodName)) at_144 (isc_3 l Z a0 n0 hw hEL G1 O1 P1 xs35 t35 kt35 ((pk p1).toInt8.toInt32) ((pk p2).toInt8.toInt32) ((pk p3).toInt8.toInt32) h35 W35.old q35_1 q35_2 q35_3 q35_4) (w30 hw) (w31 hw) (w32 hw) (w33 hw) (by decide) (lenOf pd14 rfl) rfl rfl (by decide) (by decide) rfl sf0 all0 rfl rfl rfl (by decide) (by decide)
        clear W35
        obtain ⟨rfl, hs38⟩ := hQ38
        subst hs38
        replace W38 := W38.cast (st' := [(.int (isc [((pk p1).toInt8.toInt32), ((pk p2).toInt8.toInt32), ((pk p3).toInt8.toInt32)]))]) rfl
        replace W38 := W38.iload (pc' := 149) at_147 rfl rfl
        have hx149 : (isc [((pk p1).toInt8.toInt32), ((pk p2).toInt8.toInt32), ((pk p3).toInt8.toInt32)]) = (0 : Int32) := by simp [isc, ix, own_b61 (pk_rng p1), own_b61 (pk_rng p2), own_b61 (pk_rng p3), c36, c37]
        replace W38 := W38.icmpF (pc' := 152) at_149 (teq hx149).2 rfl
        replace W38 := W38.iconst (pc' := 153) (v := (1 : Int32)) at_152 rfl rfl
        replace W38 := W38.goto (pc' := 157) at_153 (by decide) (by decide)
        exact W38.iret (t := .boolean) at_157 rfl (by simp) (by decide) (by decide) (by decide) (fun V' cv => rfl)
      · replace W35 := W35.icmpF (pc' := 130) at_127 (feq c37).1 rfl
        replace W35 := W35.iload (pc' := 132) at_130 rfl rfl
        replace W35 := W35.ifF (pc' := 135) at_132 (feq (by decide : ¬ ((1 : Int32) = (0 : Int32)))).1 rfl
        replace W35 := W35.iconst (pc' := 136) (v := (1 : Int32)) at_135 rfl rfl
        replace W35 := W35.goto (pc' := 140) at_136 (by decide) (by decide)
        replace W35 := W35.istore (pc' := 142) (L' := #[.val (.int p0), .val (.int p1), .val (.int p2), .val (.int p3), .val (.int p4), .val (.int p5), .val (.int (3 : Int32)), .val (.int (pk p1)), .val (.int (pk p2)), .val (.int (pk p3)), .val (.int (pk p4)), .val (.int (pk p5)), .val (.ref xs35), .val (.int (1 : Int32)), .val (.int (1 : Int32))]) at_140 rfl rfl
        replace W35 := W35.aload (pc' := 144) at_142 rfl rfl rfl
        obtain ⟨V39, h39, r39, W39, K39, hQ39, SF39⟩ := W35.callS (pc' := 147) (argsL := [(.ref xs35)]) (rest := []) (Wd := 0) (cells' := 3) (slots' := 10) (y := (⟨"com/example/holdfast/holdfast/rules/Where", "isCondition", "(Ljava/lang/String;)Z"⟩ : MethodName)) at_144 (isc_3 l Z a0 n0 hw hEL G1 O1 P1 xs35 t35 kt35 ((pk p1).toInt8.toInt32) ((pk p2).toInt8.toInt32) ((pk p3).toInt8.toInt32) h35 W35.old q35_1 q35_2 q35_3 q35_4) (w30 hw) (w31 hw) (w32 hw) (w33 hw) (by decide) (lenOf pd14 rfl) rfl rfl (by decide) (by decide) rfl sf0 all0 rfl rfl rfl (by decide) (by decide)
        clear W35
        obtain ⟨rfl, hs39⟩ := hQ39
        subst hs39
        replace W39 := W39.cast (st' := [(.int (isc [((pk p1).toInt8.toInt32), ((pk p2).toInt8.toInt32), ((pk p3).toInt8.toInt32)]))]) rfl
        replace W39 := W39.iload (pc' := 149) at_147 rfl rfl
        have hx149 : (isc [((pk p1).toInt8.toInt32), ((pk p2).toInt8.toInt32), ((pk p3).toInt8.toInt32)]) = (1 : Int32) := by simp [isc, ix, own_b61 (pk_rng p1), own_b61 (pk_rng p2), own_b61 (pk_rng p3), c36, c37]
        replace W39 := W39.icmpF (pc' := 152) at_149 (teq hx149).2 rfl
        replace W39 := W39.iconst (pc' := 153) (v := (1 : Int32)) at_152 rfl rfl
        replace W39 := W39.goto (pc' := 157) at_153 (by decide) (by decide)
        exact W39.iret (t := .boolean) at_157 rfl (by simp) (by decide) (by decide) (by decide) (fun V' cv => rfl)
    · replace W35 := W35.icmpF (pc' := 71) at_68 (feq c36).1 rfl
      replace W35 := W35.iload (pc' := 73) at_71 rfl rfl
      replace W35 := W35.iconst (pc' := 74) (v := (3 : Int32)) at_73 rfl rfl
      replace W35 := W35.icmpF (pc' := 77) at_74 (flt (by decide : ¬ ((3 : Int32) < (3 : Int32)))).1 rfl
      replace W35 := W35.iload (pc' := 79) at_77 rfl rfl
      replace W35 := W35.bipush (pc' := 81) (v := (61 : Int32)) at_79 rfl rfl
      by_cases c40 : (pk p3) = (61 : Int32)
      · replace W35 := W35.icmpT (pc' := 110) at_81 (teq c40).1 (by decide) (by decide)
        replace W35 := W35.iconst (pc' := 111) (v := (1 : Int32)) at_110 rfl rfl
        replace W35 := W35.goto (pc' := 115) at_111 (by decide) (by decide)
        replace W35 := W35.istore (pc' := 117) (L' := #[.val (.int p0), .val (.int p1), .val (.int p2), .val (.int p3), .val (.int p4), .val (.int p5), .val (.int (3 : Int32)), .val (.int (pk p1)), .val (.int (pk p2)), .val (.int (pk p3)), .val (.int (pk p4)), .val (.int (pk p5)), .val (.ref xs35), .val (.int (1 : Int32)), .unset]) at_115 rfl rfl
        replace W35 := W35.iload (pc' := 119) at_117 rfl rfl
        replace W35 := W35.iconst (pc' := 120) (v := (1 : Int32)) at_119 rfl rfl
        replace W35 := W35.icmpF (pc' := 123) at_120 (flt (by decide : ¬ ((3 : Int32) < (1 : Int32)))).1 rfl
        replace W35 := W35.iload (pc' := 125) at_123 rfl rfl
        replace W35 := W35.bipush (pc' := 127) (v := (61 : Int32)) at_125 rfl rfl
        by_cases c41 : (pk p1) = (61 : Int32)
        · replace W35 := W35.icmpT (pc' := 139) at_127 (teq c41).1 (by decide) (by decide)
          replace W35 := W35.iconst (pc' := 140) (v := (0 : Int32)) at_139 rfl rfl
          replace W35 := W35.istore (pc' := 142) (L' := #[.val (.int p0), .val (.int p1), .val (.int p2), .val (.int p3), .val (.int p4), .val (.int p5), .val (.int (3 : Int32)), .val (.int (pk p1)), .val (.int (pk p2)), .val (.int (pk p3)), .val (.int (pk p4)), .val (.int (pk p5)), .val (.ref xs35), .val (.int (1 : Int32)), .val (.int (0 : Int32))]) at_140 rfl rfl
          replace W35 := W35.aload (pc' := 144) at_142 rfl rfl rfl
          obtain ⟨V42, h42, r42, W42, K42, hQ42, SF42⟩ := W35.callS (pc' := 147) (argsL := [(.ref xs35)]) (rest := []) (Wd := 0) (cells' := 3) (slots' := 10) (y := (⟨"com/example/holdfast/holdfast/rules/Where", "isCondition", "(Ljava/lang/String;)Z"⟩ : MethodName)) at_144 (isc_3 l Z a0 n0 hw hEL G1 O1 P1 xs35 t35 kt35 ((pk p1).toInt8.toInt32) ((pk p2).toInt8.toInt32) ((pk p3).toInt8.toInt32) h35 W35.old q35_1 q35_2 q35_3 q35_4) (w30 hw) (w31 hw) (w32 hw) (w33 hw) (by decide) (lenOf pd14 rfl) rfl rfl (by decide) (by decide) rfl sf0 all0 rfl rfl rfl (by decide) (by decide)
          clear W35
          obtain ⟨rfl, hs42⟩ := hQ42
          subst hs42
          replace W42 := W42.cast (st' := [(.int (isc [((pk p1).toInt8.toInt32), ((pk p2).toInt8.toInt32), ((pk p3).toInt8.toInt32)]))]) rfl
          replace W42 := W42.iload (pc' := 149) at_147 rfl rfl
          have hx149 : (isc [((pk p1).toInt8.toInt32), ((pk p2).toInt8.toInt32), ((pk p3).toInt8.toInt32)]) = (0 : Int32) := by simp [isc, ix, own_b61 (pk_rng p1), own_b61 (pk_rng p2), own_b61 (pk_rng p3), c36, c40, c41]
          replace W42 := W42.icmpF (pc' := 152) at_149 (teq hx149).2 rfl
          replace W42 := W42.iconst (pc' := 153) (v := (1 : Int32)) at_152 rfl rfl
          replace W42 := W42.goto (pc' := 157) at_153 (by decide) (by decide)
          exact W42.iret (t := .boolean) at_157 rfl (by simp) (by decide) (by decide) (by decide) (fun V' cv => rfl)
        · replace W35 := W35.icmpF (pc' := 130) at_127 (feq c41).1 rfl
          replace W35 := W35.iload (pc' := 132) at_130 rfl rfl
          replace W35 := W35.ifF (pc' := 135) at_132 (feq (by decide : ¬ ((1 : Int32) = (0 : Int32)))).1 rfl
          replace W35 := W35.iconst (pc' := 136) (v := (1 : Int32)) at_135 rfl rfl
          replace W35 := W35.goto (pc' := 140) at_136 (by decide) (by decide)
          replace W35 := W35.istore (pc' := 142) (L' := #[.val (.int p0), .val (.int p1), .val (.int p2), .val (.int p3), .val (.int p4), .val (.int p5), .val (.int (3 : Int32)), .val (.int (pk p1)), .val (.int (pk p2)), .val (.int (pk p3)), .val (.int (pk p4)), .val (.int (pk p5)), .val (.ref xs35), .val (.int (1 : Int32)), .val (.int (1 : Int32))]) at_140 rfl rfl
          replace W35 := W35.aload (pc' := 144) at_142 rfl rfl rfl
          obtain ⟨V43, h43, r43, W43, K43, hQ43, SF43⟩ := W35.callS (pc' := 147) (argsL := [(.ref xs35)]) (rest := []) (Wd := 0) (cells' := 3) (slots' := 10) (y := (⟨"com/example/holdfast/holdfast/rules/Where", "isCondition", "(Ljava/lang/String;)Z"⟩ : MethodName)) at_144 (isc_3 l Z a0 n0 hw hEL G1 O1 P1 xs35 t35 kt35 ((pk p1).toInt8.toInt32) ((pk p2).toInt8.toInt32) ((pk p3).toInt8.toInt32) h35 W35.old q35_1 q35_2 q35_3 q35_4) (w30 hw) (w31 hw) (w32 hw) (w33 hw) (by decide) (lenOf pd14 rfl) rfl rfl (by decide) (by decide) rfl sf0 all0 rfl rfl rfl (by decide) (by decide)
          clear W35
          obtain ⟨rfl, hs43⟩ := hQ43
          subst hs43
          replace W43 := W43.cast (st' := [(.int (isc [((pk p1).toInt8.toInt32), ((pk p2).toInt8.toInt32), ((pk p3).toInt8.toInt32)]))]) rfl
          replace W43 := W43.iload (pc' := 149) at_147 rfl rfl
          have hx149 : (isc [((pk p1).toInt8.toInt32), ((pk p2).toInt8.toInt32), ((pk p3).toInt8.toInt32)]) = (1 : Int32) := by simp [isc, ix, own_b61 (pk_rng p1), own_b61 (pk_rng p2), own_b61 (pk_rng p3), c36, c40, c41]
          replace W43 := W43.icmpF (pc' := 152) at_149 (teq hx149).2 rfl
          replace W43 := W43.iconst (pc' := 153) (v := (1 : Int32)) at_152 rfl rfl
          replace W43 := W43.goto (pc' := 157) at_153 (by decide) (by decide)
          exact W43.iret (t := .boolean) at_157 rfl (by simp) (by decide) (by decide) (by decide) (fun V' cv => rfl)
      · replace W35 := W35.icmpF (pc' := 84) at_81 (feq c40).1 rfl
        replace W35 := W35.iload (pc' := 86) at_84 rfl rfl
        replace W35 := W35.iconst (pc' := 87) (v := (4 : Int32)) at_86 rfl rfl
        replace W35 := W35.icmpT (pc' := 97) at_87 (tlt (by decide : (3 : Int32) < (4 : Int32))).1 (by decide) (by decide)
        replace W35 := W35.iload (pc' := 99) at_97 rfl rfl
        replace W35 := W35.iconst (pc' := 100) (v := (5 : Int32)) at_99 rfl rfl
        replace W35 := W35.icmpT (pc' := 114) at_100 (tlt (by decide : (3 : Int32) < (5 : Int32))).1 (by decide) (by decide)
        replace W35 := W35.iconst (pc' := 115) (v := (0 : Int32)) at_114 rfl rfl
        replace W35 := W35.istore (pc' := 117) (L' := #[.val (.int p0), .val (.int p1), .val (.int p2), .val (.int p3), .val (.int p4), .val (.int p5), .val (.int (3 : Int32)), .val (.int (pk p1)), .val (.int (pk p2)), .val (.int (pk p3)), .val (.int (pk p4)), .val (.int (pk p5)), .val (.ref xs35), .val (.int (0 : Int32)), .unset]) at_115 rfl rfl
        replace W35 := W35.iload (pc' := 119) at_117 rfl rfl
        replace W35 := W35.iconst (pc' := 120) (v := (1 : Int32)) at_119 rfl rfl
        replace W35 := W35.icmpF (pc' := 123) at_120 (flt (by decide : ¬ ((3 : Int32) < (1 : Int32)))).1 rfl
        replace W35 := W35.iload (pc' := 125) at_123 rfl rfl
        replace W35 := W35.bipush (pc' := 127) (v := (61 : Int32)) at_125 rfl rfl
        by_cases c44 : (pk p1) = (61 : Int32)
        · replace W35 := W35.icmpT (pc' := 139) at_127 (teq c44).1 (by decide) (by decide)
          replace W35 := W35.iconst (pc' := 140) (v := (0 : Int32)) at_139 rfl rfl
          replace W35 := W35.istore (pc' := 142) (L' := #[.val (.int p0), .val (.int p1), .val (.int p2), .val (.int p3), .val (.int p4), .val (.int p5), .val (.int (3 : Int32)), .val (.int (pk p1)), .val (.int (pk p2)), .val (.int (pk p3)), .val (.int (pk p4)), .val (.int (pk p5)), .val (.ref xs35), .val (.int (0 : Int32)), .val (.int (0 : Int32))]) at_140 rfl rfl
          replace W35 := W35.aload (pc' := 144) at_142 rfl rfl rfl
          obtain ⟨V45, h45, r45, W45, K45, hQ45, SF45⟩ := W35.callS (pc' := 147) (argsL := [(.ref xs35)]) (rest := []) (Wd := 0) (cells' := 3) (slots' := 10) (y := (⟨"com/example/holdfast/holdfast/rules/Where", "isCondition", "(Ljava/lang/String;)Z"⟩ : MethodName)) at_144 (isc_3 l Z a0 n0 hw hEL G1 O1 P1 xs35 t35 kt35 ((pk p1).toInt8.toInt32) ((pk p2).toInt8.toInt32) ((pk p3).toInt8.toInt32) h35 W35.old q35_1 q35_2 q35_3 q35_4) (w30 hw) (w31 hw) (w32 hw) (w33 hw) (by decide) (lenOf pd14 rfl) rfl rfl (by decide) (by decide) rfl sf0 all0 rfl rfl rfl (by decide) (by decide)
          clear W35
          obtain ⟨rfl, hs45⟩ := hQ45
          subst hs45
          replace W45 := W45.cast (st' := [(.int (isc [((pk p1).toInt8.toInt32), ((pk p2).toInt8.toInt32), ((pk p3).toInt8.toInt32)]))]) rfl
          replace W45 := W45.iload (pc' := 149) at_147 rfl rfl
          have hx149 : (isc [((pk p1).toInt8.toInt32), ((pk p2).toInt8.toInt32), ((pk p3).toInt8.toInt32)]) = (0 : Int32) := by simp [isc, ix, own_b61 (pk_rng p1), own_b61 (pk_rng p2), own_b61 (pk_rng p3), c36, c40, c44]
          replace W45 := W45.icmpF (pc' := 152) at_149 (teq hx149).2 rfl
          replace W45 := W45.iconst (pc' := 153) (v := (1 : Int32)) at_152 rfl rfl
          replace W45 := W45.goto (pc' := 157) at_153 (by decide) (by decide)
          exact W45.iret (t := .boolean) at_157 rfl (by simp) (by decide) (by decide) (by decide) (fun V' cv => rfl)
        · replace W35 := W35.icmpF (pc' := 130) at_127 (feq c44).1 rfl
          replace W35 := W35.iload (pc' := 132) at_130 rfl rfl
          replace W35 := W35.ifT (pc' := 139) at_132 (teq (by decide : (0 : Int32) = (0 : Int32))).1 (by decide) (by decide)
          replace W35 := W35.iconst (pc' := 140) (v := (0 : Int32)) at_139 rfl rfl
          replace W35 := W35.istore (pc' := 142) (L' := #[.val (.int p0), .val (.int p1), .val (.int p2), .val (.int p3), .val (.int p4), .val (.int p5), .val (.int (3 : Int32)), .val (.int (pk p1)), .val (.int (pk p2)), .val (.int (pk p3)), .val (.int (pk p4)), .val (.int (pk p5)), .val (.ref xs35), .val (.int (0 : Int32)), .val (.int (0 : Int32))]) at_140 rfl rfl
          replace W35 := W35.aload (pc' := 144) at_142 rfl rfl rfl
          obtain ⟨V46, h46, r46, W46, K46, hQ46, SF46⟩ := W35.callS (pc' := 147) (argsL := [(.ref xs35)]) (rest := []) (Wd := 0) (cells' := 3) (slots' := 10) (y := (⟨"com/example/holdfast/holdfast/rules/Where", "isCondition", "(Ljava/lang/String;)Z"⟩ : MethodName)) at_144 (isc_3 l Z a0 n0 hw hEL G1 O1 P1 xs35 t35 kt35 ((pk p1).toInt8.toInt32) ((pk p2).toInt8.toInt32) ((pk p3).toInt8.toInt32) h35 W35.old q35_1 q35_2 q35_3 q35_4) (w30 hw) (w31 hw) (w32 hw) (w33 hw) (by decide) (lenOf pd14 rfl) rfl rfl (by decide) (by decide) rfl sf0 all0 rfl rfl rfl (by decide) (by decide)
          clear W35
          obtain ⟨rfl, hs46⟩ := hQ46
          subst hs46
          replace W46 := W46.cast (st' := [(.int (isc [((pk p1).toInt8.toInt32), ((pk p2).toInt8.toInt32), ((pk p3).toInt8.toInt32)]))]) rfl
          replace W46 := W46.iload (pc' := 149) at_147 rfl rfl
          have hx149 : (isc [((pk p1).toInt8.toInt32), ((pk p2).toInt8.toInt32), ((pk p3).toInt8.toInt32)]) = (0 : Int32) := by simp [isc, ix, own_b61 (pk_rng p1), own_b61 (pk_rng p2), own_b61 (pk_rng p3), c36, c40, c44]
          replace W46 := W46.icmpF (pc' := 152) at_149 (teq hx149).2 rfl
          replace W46 := W46.iconst (pc' := 153) (v := (1 : Int32)) at_152 rfl rfl
          replace W46 := W46.goto (pc' := 157) at_153 (by decide) (by decide)
          exact W46.iret (t := .boolean) at_157 rfl (by simp) (by decide) (by decide) (by decide) (fun V' cv => rfl)
  · replace W := W.istore (pc' := 9) (L' := #[.val (.int p0), .val (.int p1), .val (.int p2), .val (.int p3), .val (.int p4), .val (.int p5), .val (.int (4 : Int32)), .unset, .unset, .unset, .unset, .unset, .unset, .unset, .unset]) at_7 rfl rfl
    replace W := W.iloadN (pc' := 10) at_9 rfl rfl
    obtain ⟨V47, h47, r47, W47, K47, hQ47, SF47⟩ := W.callS (pc' := 13) (argsL := [(.int p1)]) (rest := []) (Wd := 0) (cells' := 0) (slots' := 0) (y := (⟨"com/example/holdfast/holdfast/rules/WhereIsConditionPinLaw", "pick", "(I)C"⟩ : MethodName)) at_10 (pick_c l Z a0 n0 hw hEL G1 O1 P1 p1 h0 W.old) (w1 hw) (w2 hw) (w3 hw) (w4 hw) (by decide) (lenOf pd12 rfl) rfl rfl (by decide) (by decide) rfl sf0 all0 rfl rfl rfl (by decide) (by decide)
    clear W
    obtain ⟨rfl, hs47⟩ := hQ47
    subst hs47
    replace W47 := W47.cast (st' := [(.int (pk p1))]) rfl
    replace W47 := W47.istore (pc' := 15) (L' := #[.val (.int p0), .val (.int p1), .val (.int p2), .val (.int p3), .val (.int p4), .val (.int p5), .val (.int (4 : Int32)), .val (.int (pk p1)), .unset, .unset, .unset, .unset, .unset, .unset, .unset]) at_13 rfl rfl
    replace W47 := W47.iloadN (pc' := 16) at_15 rfl rfl
    obtain ⟨V48, h48, r48, W48, K48, hQ48, SF48⟩ := W47.callS (pc' := 19) (argsL := [(.int p2)]) (rest := []) (Wd := 0) (cells' := 0) (slots' := 0) (y := (⟨"com/example/holdfast/holdfast/rules/WhereIsConditionPinLaw", "pick", "(I)C"⟩ : MethodName)) at_16 (pick_c l Z a0 n0 hw hEL G1 O1 P1 p2 h0 W47.old) (w1 hw) (w2 hw) (w3 hw) (w4 hw) (by decide) (lenOf pd12 rfl) rfl rfl (by decide) (by decide) rfl sf0 all0 rfl rfl rfl (by decide) (by decide)
    clear W47
    obtain ⟨rfl, hs48⟩ := hQ48
    subst hs48
    replace W48 := W48.cast (st' := [(.int (pk p2))]) rfl
    replace W48 := W48.istore (pc' := 21) (L' := #[.val (.int p0), .val (.int p1), .val (.int p2), .val (.int p3), .val (.int p4), .val (.int p5), .val (.int (4 : Int32)), .val (.int (pk p1)), .val (.int (pk p2)), .unset, .unset, .unset, .unset, .unset, .unset]) at_19 rfl rfl
    replace W48 := W48.iloadN (pc' := 22) at_21 rfl rfl
    obtain ⟨V49, h49, r49, W49, K49, hQ49, SF49⟩ := W48.callS (pc' := 25) (argsL := [(.int p3)]) (rest := []) (Wd := 0) (cells' := 0) (slots' := 0) (y := (⟨"com/example/holdfast/holdfast/rules/WhereIsConditionPinLaw", "pick", "(I)C"⟩ : MethodName)) at_22 (pick_c l Z a0 n0 hw hEL G1 O1 P1 p3 h0 W48.old) (w1 hw) (w2 hw) (w3 hw) (w4 hw) (by decide) (lenOf pd12 rfl) rfl rfl (by decide) (by decide) rfl sf0 all0 rfl rfl rfl (by decide) (by decide)
    clear W48
    obtain ⟨rfl, hs49⟩ := hQ49
    subst hs49
    replace W49 := W49.cast (st' := [(.int (pk p3))]) rfl
    replace W49 := W49.istore (pc' := 27) (L' := #[.val (.int p0), .val (.int p1), .val (.int p2), .val (.int p3), .val (.int p4), .val (.int p5), .val (.int (4 : Int32)), .val (.int (pk p1)), .val (.int (pk p2)), .val (.int (pk p3)), .unset, .unset, .unset, .unset, .unset]) at_25 rfl rfl
    replace W49 := W49.iload (pc' := 29) at_27 rfl rfl
    obtain ⟨V50, h50, r50, W50, K50, hQ50, SF50⟩ := W49.callS (pc' := 32) (argsL := [(.int p4)]) (rest := []) (Wd := 0) (cells' := 0) (slots' := 0) (y := (⟨"com/example/holdfast/holdfast/rules/WhereIsConditionPinLaw", "pick", "(I)C"⟩ : MethodName)) at_29 (pick_c l Z a0 n0 hw hEL G1 O1 P1 p4 h0 W49.old) (w1 hw) (w2 hw) (w3 hw) (w4 hw) (by decide) (lenOf pd12 rfl) rfl rfl (by decide) (by decide) rfl sf0 all0 rfl rfl rfl (by decide) (by decide)
    clear W49
    obtain ⟨rfl, hs50⟩ := hQ50
    subst hs50
    replace W50 := W50.cast (st' := [(.int (pk p4))]) rfl
    replace W50 := W50.istore (pc' := 34) (L' := #[.val (.int p0), .val (.int p1), .val (.int p2), .val (.int p3), .val (.int p4), .val (.int p5), .val (.int (4 : Int32)), .val (.int (pk p1)), .val (.int (pk p2)), .val (.int (pk p3)), .val (.int (pk p4)), .unset, .unset, .unset, .unset]) at_32 rfl rfl
    replace W50 := W50.iload (pc' := 36) at_34 rfl rfl
    obtain ⟨V51, h51, r51, W51, K51, hQ51, SF51⟩ := W50.callS (pc' := 39) (argsL := [(.int p5)]) (rest := []) (Wd := 0) (cells' := 0) (slots' := 0) (y := (⟨"com/example/holdfast/holdfast/rules/WhereIsConditionPinLaw", "pick", "(I)C"⟩ : MethodName)) at_36 (pick_c l Z a0 n0 hw hEL G1 O1 P1 p5 h0 W50.old) (w1 hw) (w2 hw) (w3 hw) (w4 hw) (by decide) (lenOf pd12 rfl) rfl rfl (by decide) (by decide) rfl sf0 all0 rfl rfl rfl (by decide) (by decide)
    clear W50
    obtain ⟨rfl, hs51⟩ := hQ51
    subst hs51
    replace W51 := W51.cast (st' := [(.int (pk p5))]) rfl
    replace W51 := W51.istore (pc' := 41) (L' := #[.val (.int p0), .val (.int p1), .val (.int p2), .val (.int p3), .val (.int p4), .val (.int p5), .val (.int (4 : Int32)), .val (.int (pk p1)), .val (.int (pk p2)), .val (.int (pk p3)), .val (.int (pk p4)), .val (.int (pk p5)), .unset, .unset, .unset]) at_39 rfl rfl
    replace W51 := W51.iload (pc' := 43) at_41 rfl rfl
    replace W51 := W51.iload (pc' := 45) at_43 rfl rfl
    replace W51 := W51.iload (pc' := 47) at_45 rfl rfl
    replace W51 := W51.iload (pc' := 49) at_47 rfl rfl
    replace W51 := W51.iload (pc' := 51) at_49 rfl rfl
    replace W51 := W51.iload (pc' := 53) at_51 rfl rfl
    obtain ⟨V52, h52, r52, W52, K52, hQ52, SF52⟩ := W51.callS (pc' := 56) (argsL := [(.int (4 : Int32)), (.int (pk p1)), (.int (pk p2)), (.int (pk p3)), (.int (pk p4)), (.int (pk p5))]) (rest := []) (Wd := 0) (cells' := 3) (slots' := 12) (y := (⟨"com/example/holdfast/holdfast/rules/WhereIsConditionPinLaw", "make", "(ICCCCC)Ljava/lang/String;"⟩ : MethodName)) at_53 (make_4 l Z a0 n0 hw hEL G1 O1 P1 (pk p1) (pk p2) (pk p3) (pk p4) (pk p5) h0 W51.old (pk_rng p1) (pk_rng p2) (pk_rng p3) (pk_rng p4) (pk_rng p5)) (w5 hw) (w6 hw) (w3 hw) (w7 hw) (by decide) (lenOf pd13 rfl) rfl rfl (by decide) (by decide) rfl sf0 all0 rfl rfl rfl (by decide) (by decide)
    clear W51
    obtain ⟨xs52, t52, kt52, rfl, q52_1, q52_2, q52_3, q52_4, q52_5⟩ := hQ52
    have z52 : h0.size ≤ h52.size := K52.1
    replace W52 := W52.cast (st' := [(.ref xs52)]) rfl
    replace W52 := W52.astore (pc' := 58) (L' := #[.val (.int p0), .val (.int p1), .val (.int p2), .val (.int p3), .val (.int p4), .val (.int p5), .val (.int (4 : Int32)), .val (.int (pk p1)), .val (.int (pk p2)), .val (.int (pk p3)), .val (.int (pk p4)), .val (.int (pk p5)), .val (.ref xs52), .unset, .unset]) at_56 rfl rfl rfl
    replace W52 := W52.iload (pc' := 60) at_58 rfl rfl
    replace W52 := W52.iconst (pc' := 61) (v := (2 : Int32)) at_60 rfl rfl
    replace W52 := W52.icmpF (pc' := 64) at_61 (flt (by decide : ¬ ((4 : Int32) < (2 : Int32)))).1 rfl
    replace W52 := W52.iload (pc' := 66) at_64 rfl rfl
    replace W52 := W52.bipush (pc' := 68) (v := (61 : Int32)) at_66 rfl rfl
    by_cases c53 : (pk p2) = (61 : Int32)
    · replace W52 := W52.icmpT (pc' := 110) at_68 (teq c53).1 (by decide) (by decide)
      replace W52 := W52.iconst (pc' := 111) (v := (1 : Int32)) at_110 rfl rfl
      replace W52 := W52.goto (pc' := 115) at_111 (by decide) (by decide)
      replace W52 := W52.istore (pc' := 117) (L' := #[.val (.int p0), .val (.int p1), .val (.int p2), .val (.int p3), .val (.int p4), .val (.int p5), .val (.int (4 : Int32)), .val (.int (pk p1)), .val (.int (pk p2)), .val (.int (pk p3)), .val (.int (pk p4)), .val (.int (pk p5)), .val (.ref xs52), .val (.int (1 : Int32)), .unset]) at_115 rfl rfl
      replace W52 := W52.iload (pc' := 119) at_117 rfl rfl
      replace W52 := W52.iconst (pc' := 120) (v := (1 : Int32)) at_119 rfl rfl
      replace W52 := W52.icmpF (pc' := 123) at_120 (flt (by decide : ¬ ((4 : Int32) < (1 : Int32)))).1 rfl
      replace W52 := W52.iload (pc' := 125) at_123 rfl rfl
      replace W52 := W52.bipush (pc' := 127) (v := (61 : Int32)) at_125 rfl rfl
      by_cases c54 : (pk p1) = (61 : Int32)
      · replace W52 := W52.icmpT (pc' := 139) at_127 (teq c54).1 (by decide) (by decide)
        replace W52 := W52.iconst (pc' := 140) (v := (0 : Int32)) at_139 rfl rfl
        replace W52 := W52.istore (pc' := 142) (L' := #[.val (.int p0), .val (.int p1), .val (.int p2), .val (.int p3), .val (.int p4), .val (.int p5), .val (.int (4 : Int32)), .val (.int (pk p1)), .val (.int (pk p2)), .val (.int (pk p3)), .val (.int (pk p4)), .val (.int (pk p5)), .val (.ref xs52), .val (.int (1 : Int32)), .val (.int (0 : Int32))]) at_140 rfl rfl
        replace W52 := W52.aload (pc' := 144) at_142 rfl rfl rfl
        obtain ⟨V55, h55, r55, W55, K55, hQ55, SF55⟩ := W52.callS (pc' := 147) (argsL := [(.ref xs52)]) (rest := []) (Wd := 0) (cells' := 3) (slots' := 12) (y := (⟨"com/example/holdfast/holdfast/rules/Where", "isCondition", "(Ljava/lang/String;)Z"⟩ : MethodName)) at_144 (isc_4 l Z a0 n0 hw hEL G1 O1 P1 xs52 t52 kt52 ((pk p1).toInt8.toInt32) ((pk p2).toInt8.toInt32) ((pk p3).toInt8.toInt32) ((pk p4).toInt8.toInt32) h52 W52.old q52_1 q52_2 q52_3 q52_4) (w30 hw) (w31 hw) (w32 hw) (w33 hw) (by decide) (lenOf pd14 rfl) rfl rfl (by decide) (by decide) rfl sf0 all0 rfl rfl rfl (by decide) (by decide)
        clear W52
        obtain ⟨rfl, hs55⟩ := hQ55
        subst hs55
        replace W55 := W55.cast (st' := [(.int (isc [((pk p1).toInt8.toInt32), ((pk p2).toInt8.toInt32), ((pk p3).toInt8.toInt32), ((pk p4).toInt8.toInt32)]))]) rfl
        replace W55 := W55.iload (pc' := 149) at_147 rfl rfl
        have hx149 : (isc [((pk p1).toInt8.toInt32), ((pk p2).toInt8.toInt32), ((pk p3).toInt8.toInt32), ((pk p4).toInt8.toInt32)]) = (0 : Int32) := by simp [isc, ix, own_b61 (pk_rng p1), own_b61 (pk_rng p2), own_b61 (pk_rng p3), own_b61 (pk_rng p4), c53, c54]
        replace W55 := W55.icmpF (pc' := 152) at_149 (teq hx149).2 rfl
        replace W55 := W55.iconst (pc' := 153) (v := (1 : Int32)) at_152 rfl rfl
        replace W55 := W55.goto (pc' := 157) at_153 (by decide) (by decide)
        exact W55.iret (t := .boolean) at_157 rfl (by simp) (by decide) (by decide) (by decide) (fun V' cv => rfl)
      · replace W52 := W52.icmpF (pc' := 130) at_127 (feq c54).1 rfl
        replace W52 := W52.iload (pc' := 132) at_130 rfl rfl
        replace W52 := W52.ifF (pc' := 135) at_132 (feq (by decide : ¬ ((1 : Int32) = (0 : Int32)))).1 rfl
        replace W52 := W52.iconst (pc' := 136) (v := (1 : Int32)) at_135 rfl rfl
        replace W52 := W52.goto (pc' := 140) at_136 (by decide) (by decide)
        replace W52 := W52.istore (pc' := 142) (L' := #[.val (.int p0), .val (.int p1), .val (.int p2), .val (.int p3), .val (.int p4), .val (.int p5), .val (.int (4 : Int32)), .val (.int (pk p1)), .val (.int (pk p2)), .val (.int (pk p3)), .val (.int (pk p4)), .val (.int (pk p5)), .val (.ref xs52), .val (.int (1 : Int32)), .val (.int (1 : Int32))]) at_140 rfl rfl
        replace W52 := W52.aload (pc' := 144) at_142 rfl rfl rfl
        obtain ⟨V56, h56, r56, W56, K56, hQ56, SF56⟩ := W52.callS (pc' := 147) (argsL := [(.ref xs52)]) (rest := []) (Wd := 0) (cells' := 3) (slots' := 12) (y := (⟨"com/example/holdfast/holdfast/rules/Where", "isCondition", "(Ljava/lang/String;)Z"⟩ : MethodName)) at_144 (isc_4 l Z a0 n0 hw hEL G1 O1 P1 xs52 t52 kt52 ((pk p1).toInt8.toInt32) ((pk p2).toInt8.toInt32) ((pk p3).toInt8.toInt32) ((pk p4).toInt8.toInt32) h52 W52.old q52_1 q52_2 q52_3 q52_4) (w30 hw) (w31 hw) (w32 hw) (w33 hw) (by decide) (lenOf pd14 rfl) rfl rfl (by decide) (by decide) rfl sf0 all0 rfl rfl rfl (by decide) (by decide)
        clear W52
        obtain ⟨rfl, hs56⟩ := hQ56
        subst hs56
        replace W56 := W56.cast (st' := [(.int (isc [((pk p1).toInt8.toInt32), ((pk p2).toInt8.toInt32), ((pk p3).toInt8.toInt32), ((pk p4).toInt8.toInt32)]))]) rfl
        replace W56 := W56.iload (pc' := 149) at_147 rfl rfl
        have hx149 : (isc [((pk p1).toInt8.toInt32), ((pk p2).toInt8.toInt32), ((pk p3).toInt8.toInt32), ((pk p4).toInt8.toInt32)]) = (1 : Int32) := by simp [isc, ix, own_b61 (pk_rng p1), own_b61 (pk_rng p2), own_b61 (pk_rng p3), own_b61 (pk_rng p4), c53, c54]
        replace W56 := W56.icmpF (pc' := 152) at_149 (teq hx149).2 rfl
        replace W56 := W56.iconst (pc' := 153) (v := (1 : Int32)) at_152 rfl rfl
        replace W56 := W56.goto (pc' := 157) at_153 (by decide) (by decide)
        exact W56.iret (t := .boolean) at_157 rfl (by simp) (by decide) (by decide) (by decide) (fun V' cv => rfl)
    · replace W52 := W52.icmpF (pc' := 71) at_68 (feq c53).1 rfl
      replace W52 := W52.iload (pc' := 73) at_71 rfl rfl
      replace W52 := W52.iconst (pc' := 74) (v := (3 : Int32)) at_73 rfl rfl
      replace W52 := W52.icmpF (pc' := 77) at_74 (flt (by decide : ¬ ((4 : Int32) < (3 : Int32)))).1 rfl
      replace W52 := W52.iload (pc' := 79) at_77 rfl rfl
      replace W52 := W52.bipush (pc' := 81) (v := (61 : Int32)) at_79 rfl rfl
      by_cases c57 : (pk p3) = (61 : Int32)
      · replace W52 := W52.icmpT (pc' := 110) at_81 (teq c57).1 (by decide) (by decide)
        replace W52 := W52.iconst (pc' := 111) (v := (1 : Int32)) at_110 rfl rfl
        replace W52 := W52.goto (pc' := 115) at_111 (by decide) (by decide)
        replace W52 := W52.istore (pc' := 117) (L' := #[.val (.int p0), .val (.int p1), .val (.int p2), .val (.int p3), .val (.int p4), .val (.int p5), .val (.int (4 : Int32)), .val (.int (pk p1)), .val (.int (pk p2)), .val (.int (pk p3)), .val (.int (pk p4)), .val (.int (pk p5)), .val (.ref xs52), .val (.int (1 : Int32)), .unset]) at_115 rfl rfl
        replace W52 := W52.iload (pc' := 119) at_117 rfl rfl
        replace W52 := W52.iconst (pc' := 120) (v := (1 : Int32)) at_119 rfl rfl
        replace W52 := W52.icmpF (pc' := 123) at_120 (flt (by decide : ¬ ((4 : Int32) < (1 : Int32)))).1 rfl
        replace W52 := W52.iload (pc' := 125) at_123 rfl rfl
        replace W52 := W52.bipush (pc' := 127) (v := (61 : Int32)) at_125 rfl rfl
        by_cases c58 : (pk p1) = (61 : Int32)
        · replace W52 := W52.icmpT (pc' := 139) at_127 (teq c58).1 (by decide) (by decide)
          replace W52 := W52.iconst (pc' := 140) (v := (0 : Int32)) at_139 rfl rfl
          replace W52 := W52.istore (pc' := 142) (L' := #[.val (.int p0), .val (.int p1), .val (.int p2), .val (.int p3), .val (.int p4), .val (.int p5), .val (.int (4 : Int32)), .val (.int (pk p1)), .val (.int (pk p2)), .val (.int (pk p3)), .val (.int (pk p4)), .val (.int (pk p5)), .val (.ref xs52), .val (.int (1 : Int32)), .val (.int (0 : Int32))]) at_140 rfl rfl
          replace W52 := W52.aload (pc' := 144) at_142 rfl rfl rfl
          obtain ⟨V59, h59, r59, W59, K59, hQ59, SF59⟩ := W52.callS (pc' := 147) (argsL := [(.ref xs52)]) (rest := []) (Wd := 0) (cells' := 3) (slots' := 12) (y := (⟨"com/example/holdfast/holdfast/rules/Where", "isCondition", "(Ljava/lang/String;)Z"⟩ : MethodName)) at_144 (isc_4 l Z a0 n0 hw hEL G1 O1 P1 xs52 t52 kt52 ((pk p1).toInt8.toInt32) ((pk p2).toInt8.toInt32) ((pk p3).toInt8.toInt32) ((pk p4).toInt8.toInt32) h52 W52.old q52_1 q52_2 q52_3 q52_4) (w30 hw) (w31 hw) (w32 hw) (w33 hw) (by decide) (lenOf pd14 rfl) rfl rfl (by decide) (by decide) rfl sf0 all0 rfl rfl rfl (by decide) (by decide)
          clear W52
          obtain ⟨rfl, hs59⟩ := hQ59
          subst hs59
          replace W59 := W59.cast (st' := [(.int (isc [((pk p1).toInt8.toInt32), ((pk p2).toInt8.toInt32), ((pk p3).toInt8.toInt32), ((pk p4).toInt8.toInt32)]))]) rfl
          replace W59 := W59.iload (pc' := 149) at_147 rfl rfl
          have hx149 : (isc [((pk p1).toInt8.toInt32), ((pk p2).toInt8.toInt32), ((pk p3).toInt8.toInt32), ((pk p4).toInt8.toInt32)]) = (0 : Int32) := by simp [isc, ix, own_b61 (pk_rng p1), own_b61 (pk_rng p2), own_b61 (pk_rng p3), own_b61 (pk_rng p4), c53, c57, c58]
          replace W59 := W59.icmpF (pc' := 152) at_149 (teq hx149).2 rfl
          replace W59 := W59.iconst (pc' := 153) (v := (1 : Int32)) at_152 rfl rfl
          replace W59 := W59.goto (pc' := 157) at_153 (by decide) (by decide)
          exact W59.iret (t := .boolean) at_157 rfl (by simp) (by decide) (by decide) (by decide) (fun V' cv => rfl)
        · replace W52 := W52.icmpF (pc' := 130) at_127 (feq c58).1 rfl
          replace W52 := W52.iload (pc' := 132) at_130 rfl rfl
          replace W52 := W52.ifF (pc' := 135) at_132 (feq (by decide : ¬ ((1 : Int32) = (0 : Int32)))).1 rfl
          replace W52 := W52.iconst (pc' := 136) (v := (1 : Int32)) at_135 rfl rfl
          replace W52 := W52.goto (pc' := 140) at_136 (by decide) (by decide)
          replace W52 := W52.istore (pc' := 142) (L' := #[.val (.int p0), .val (.int p1), .val (.int p2), .val (.int p3), .val (.int p4), .val (.int p5), .val (.int (4 : Int32)), .val (.int (pk p1)), .val (.int (pk p2)), .val (.int (pk p3)), .val (.int (pk p4)), .val (.int (pk p5)), .val (.ref xs52), .val (.int (1 : Int32)), .val (.int (1 : Int32))]) at_140 rfl rfl
          replace W52 := W52.aload (pc' := 144) at_142 rfl rfl rfl
          obtain ⟨V60, h60, r60, W60, K60, hQ60, SF60⟩ := W52.callS (pc' := 147) (argsL := [(.ref xs52)]) (rest := []) (Wd := 0) (cells' := 3) (slots' := 12) (y := (⟨"com/example/holdfast/holdfast/rules/Where", "isCondition", "(Ljava/lang/String;)Z"⟩ : MethodName)) at_144 (isc_4 l Z a0 n0 hw hEL G1 O1 P1 xs52 t52 kt52 ((pk p1).toInt8.toInt32) ((pk p2).toInt8.toInt32) ((pk p3).toInt8.toInt32) ((pk p4).toInt8.toInt32) h52 W52.old q52_1 q52_2 q52_3 q52_4) (w30 hw) (w31 hw) (w32 hw) (w33 hw) (by decide) (lenOf pd14 rfl) rfl rfl (by decide) (by decide) rfl sf0 all0 rfl rfl rfl (by decide) (by decide)
          clear W52
          obtain ⟨rfl, hs60⟩ := hQ60
          subst hs60
          replace W60 := W60.cast (st' := [(.int (isc [((pk p1).toInt8.toInt32), ((pk p2).toInt8.toInt32), ((pk p3).toInt8.toInt32), ((pk p4).toInt8.toInt32)]))]) rfl
          replace W60 := W60.iload (pc' := 149) at_147 rfl rfl
          have hx149 : (isc [((pk p1).toInt8.toInt32), ((pk p2).toInt8.toInt32), ((pk p3).toInt8.toInt32), ((pk p4).toInt8.toInt32)]) = (1 : Int32) := by simp [isc, ix, own_b61 (pk_rng p1), own_b61 (pk_rng p2), own_b61 (pk_rng p3), own_b61 (pk_rng p4), c53, c57, c58]
          replace W60 := W60.icmpF (pc' := 152) at_149 (teq hx149).2 rfl
          replace W60 := W60.iconst (pc' := 153) (v := (1 : Int32)) at_152 rfl rfl
          replace W60 := W60.goto (pc' := 157) at_153 (by decide) (by decide)
          exact W60.iret (t := .boolean) at_157 rfl (by simp) (by decide) (by decide) (by decide) (fun V' cv => rfl)
      · replace W52 := W52.icmpF (pc' := 84) at_81 (feq c57).1 rfl
        replace W52 := W52.iload (pc' := 86) at_84 rfl rfl
        replace W52 := W52.iconst (pc' := 87) (v := (4 : Int32)) at_86 rfl rfl
        replace W52 := W52.icmpF (pc' := 90) at_87 (flt (by decide : ¬ ((4 : Int32) < (4 : Int32)))).1 rfl
        replace W52 := W52.iload (pc' := 92) at_90 rfl rfl
        replace W52 := W52.bipush (pc' := 94) (v := (61 : Int32)) at_92 rfl rfl
        by_cases c61 : (pk p4) = (61 : Int32)
        · replace W52 := W52.icmpT (pc' := 110) at_94 (teq c61).1 (by decide) (by decide)
          replace W52 := W52.iconst (pc' := 111) (v := (1 : Int32)) at_110 rfl rfl
          replace W52 := W52.goto (pc' := 115) at_111 (by decide) (by decide)
          replace W52 := W52.istore (pc' := 117) (L' := #[.val (.int p0), .val (.int p1), .val (.int p2), .val (.int p3), .val (.int p4), .val (.int p5), .val (.int (4 : Int32)), .val (.int (pk p1)), .val (.int (pk p2)), .val (.int (pk p3)), .val (.int (pk p4)), .val (.int (pk p5)), .val (.ref xs52), .val (.int (1 : Int32)), .unset]) at_115 rfl rfl
          replace W52 := W52.iload (pc' := 119) at_117 rfl rfl
          replace W52 := W52.iconst (pc' := 120) (v := (1 : Int32)) at_119 rfl rfl
          replace W52 := W52.icmpF (pc' := 123) at_120 (flt (by decide : ¬ ((4 : Int32) < (1 : Int32)))).1 rfl
          replace W52 := W52.iload (pc' := 125) at_123 rfl rfl
          replace W52 := W52.bipush (pc' := 127) (v := (61 : Int32)) at_125 rfl rfl
          by_cases c62 : (pk p1) = (61 : Int32)
          · replace W52 := W52.icmpT (pc' := 139) at_127 (teq c62).1 (by decide) (by decide)
            replace W52 := W52.iconst (pc' := 140) (v := (0 : Int32)) at_139 rfl rfl
            replace W52 := W52.istore (pc' := 142) (L' := #[.val (.int p0), .val (.int p1), .val (.int p2), .val (.int p3), .val (.int p4), .val (.int p5), .val (.int (4 : Int32)), .val (.int (pk p1)), .val (.int (pk p2)), .val (.int (pk p3)), .val (.int (pk p4)), .val (.int (pk p5)), .val (.ref xs52), .val (.int (1 : Int32)), .val (.int (0 : Int32))]) at_140 rfl rfl
            replace W52 := W52.aload (pc' := 144) at_142 rfl rfl rfl
            obtain ⟨V63, h63, r63, W63, K63, hQ63, SF63⟩ := W52.callS (pc' := 147) (argsL := [(.ref xs52)]) (rest := []) (Wd := 0) (cells' := 3) (slots' := 12) (y := (⟨"com/example/holdfast/holdfast/rules/Where", "isCondition", "(Ljava/lang/String;)Z"⟩ : MethodName)) at_144 (isc_4 l Z a0 n0 hw hEL G1 O1 P1 xs52 t52 kt52 ((pk p1).toInt8.toInt32) ((pk p2).toInt8.toInt32) ((pk p3).toInt8.toInt32) ((pk p4).toInt8.toInt32) h52 W52.old q52_1 q52_2 q52_3 q52_4) (w30 hw) (w31 hw) (w32 hw) (w33 hw) (by decide) (lenOf pd14 rfl) rfl rfl (by decide) (by decide) rfl sf0 all0 rfl rfl rfl (by decide) (by decide)
            clear W52
            obtain ⟨rfl, hs63⟩ := hQ63
            subst hs63
            replace W63 := W63.cast (st' := [(.int (isc [((pk p1).toInt8.toInt32), ((pk p2).toInt8.toInt32), ((pk p3).toInt8.toInt32), ((pk p4).toInt8.toInt32)]))]) rfl
            replace W63 := W63.iload (pc' := 149) at_147 rfl rfl
            have hx149 : (isc [((pk p1).toInt8.toInt32), ((pk p2).toInt8.toInt32), ((pk p3).toInt8.toInt32), ((pk p4).toInt8.toInt32)]) = (0 : Int32) := by simp [isc, ix, own_b61 (pk_rng p1), own_b61 (pk_rng p2), own_b61 (pk_rng p3), own_b61 (pk_rng p4), c53, c57, c61, c62]
            replace W63 := W63.icmpF (pc' := 152) at_149 (teq hx149).2 rfl
            replace W63 := W63.iconst (pc' := 153) (v := (1 : Int32)) at_152 rfl rfl
            replace W63 := W63.goto (pc' := 157) at_153 (by decide) (by decide)
            exact W63.iret (t := .boolean) at_157 rfl (by simp) (by decide) (by decide) (by decide) (fun V' cv => rfl)
          · replace W52 := W52.icmpF (pc' := 130) at_127 (feq c62).1 rfl
            replace W52 := W52.iload (pc' := 132) at_130 rfl rfl
            replace W52 := W52.ifF (pc' := 135) at_132 (feq (by decide : ¬ ((1 : Int32) = (0 : Int32)))).1 rfl
            replace W52 := W52.iconst (pc' := 136) (v := (1 : Int32)) at_135 rfl rfl
            replace W52 := W52.goto (pc' := 140) at_136 (by decide) (by decide)
            replace W52 := W52.istore (pc' := 142) (L' := #[.val (.int p0), .val (.int p1), .val (.int p2), .val (.int p3), .val (.int p4), .val (.int p5), .val (.int (4 : Int32)), .val (.int (pk p1)), .val (.int (pk p2)), .val (.int (pk p3)), .val (.int (pk p4)), .val (.int (pk p5)), .val (.ref xs52), .val (.int (1 : Int32)), .val (.int (1 : Int32))]) at_140 rfl rfl
            replace W52 := W52.aload (pc' := 144) at_142 rfl rfl rfl
            obtain ⟨V64, h64, r64, W64, K64, hQ64, SF64⟩ := W52.callS (pc' := 147) (argsL := [(.ref xs52)]) (rest := []) (Wd := 0) (cells' := 3) (slots' := 12) (y := (⟨"com/example/holdfast/holdfast/rules/Where", "isCondition", "(Ljava/lang/String;)Z"⟩ : MethodName)) at_144 (isc_4 l Z a0 n0 hw hEL G1 O1 P1 xs52 t52 kt52 ((pk p1).toInt8.toInt32) ((pk p2).toInt8.toInt32) ((pk p3).toInt8.toInt32) ((pk p4).toInt8.toInt32) h52 W52.old q52_1 q52_2 q52_3 q52_4) (w30 hw) (w31 hw) (w32 hw) (w33 hw) (by decide) (lenOf pd14 rfl) rfl rfl (by decide) (by decide) rfl sf0 all0 rfl rfl rfl (by decide) (by decide)
            clear W52
            obtain ⟨rfl, hs64⟩ := hQ64
            subst hs64
            replace W64 := W64.cast (st' := [(.int (isc [((pk p1).toInt8.toInt32), ((pk p2).toInt8.toInt32), ((pk p3).toInt8.toInt32), ((pk p4).toInt8.toInt32)]))]) rfl
            replace W64 := W64.iload (pc' := 149) at_147 rfl rfl
            have hx149 : (isc [((pk p1).toInt8.toInt32), ((pk p2).toInt8.toInt32), ((pk p3).toInt8.toInt32), ((pk p4).toInt8.toInt32)]) = (1 : Int32) := by simp [isc, ix, own_b61 (pk_rng p1), own_b61 (pk_rng p2), own_b61 (pk_rng p3), own_b61 (pk_rng p4), c53, c57, c61, c62]
            replace W64 := W64.icmpF (pc' := 152) at_149 (teq hx149).2 rfl
            replace W64 := W64.iconst (pc' := 153) (v := (1 : Int32)) at_152 rfl rfl
            replace W64 := W64.goto (pc' := 157) at_153 (by decide) (by decide)
            exact W64.iret (t := .boolean) at_157 rfl (by simp) (by decide) (by decide) (by decide) (fun V' cv => rfl)
        · replace W52 := W52.icmpF (pc' := 97) at_94 (feq c61).1 rfl
          replace W52 := W52.iload (pc' := 99) at_97 rfl rfl
          replace W52 := W52.iconst (pc' := 100) (v := (5 : Int32)) at_99 rfl rfl
          replace W52 := W52.icmpT (pc' := 114) at_100 (tlt (by decide : (4 : Int32) < (5 : Int32))).1 (by decide) (by decide)
          replace W52 := W52.iconst (pc' := 115) (v := (0 : Int32)) at_114 rfl rfl
          replace W52 := W52.istore (pc' := 117) (L' := #[.val (.int p0), .val (.int p1), .val (.int p2), .val (.int p3), .val (.int p4), .val (.int p5), .val (.int (4 : Int32)), .val (.int (pk p1)), .val (.int (pk p2)), .val (.int (pk p3)), .val (.int (pk p4)), .val (.int (pk p5)), .val (.ref xs52), .val (.int (0 : Int32)), .unset]) at_115 rfl rfl
          replace W52 := W52.iload (pc' := 119) at_117 rfl rfl
          replace W52 := W52.iconst (pc' := 120) (v := (1 : Int32)) at_119 rfl rfl
          replace W52 := W52.icmpF (pc' := 123) at_120 (flt (by decide : ¬ ((4 : Int32) < (1 : Int32)))).1 rfl
          replace W52 := W52.iload (pc' := 125) at_123 rfl rfl
          replace W52 := W52.bipush (pc' := 127) (v := (61 : Int32)) at_125 rfl rfl
          by_cases c65 : (pk p1) = (61 : Int32)
          · replace W52 := W52.icmpT (pc' := 139) at_127 (teq c65).1 (by decide) (by decide)
            replace W52 := W52.iconst (pc' := 140) (v := (0 : Int32)) at_139 rfl rfl
            replace W52 := W52.istore (pc' := 142) (L' := #[.val (.int p0), .val (.int p1), .val (.int p2), .val (.int p3), .val (.int p4), .val (.int p5), .val (.int (4 : Int32)), .val (.int (pk p1)), .val (.int (pk p2)), .val (.int (pk p3)), .val (.int (pk p4)), .val (.int (pk p5)), .val (.ref xs52), .val (.int (0 : Int32)), .val (.int (0 : Int32))]) at_140 rfl rfl
            replace W52 := W52.aload (pc' := 144) at_142 rfl rfl rfl
            obtain ⟨V66, h66, r66, W66, K66, hQ66, SF66⟩ := W52.callS (pc' := 147) (argsL := [(.ref xs52)]) (rest := []) (Wd := 0) (cells' := 3) (slots' := 12) (y := (⟨"com/example/holdfast/holdfast/rules/Where", "isCondition", "(Ljava/lang/String;)Z"⟩ : MethodName)) at_144 (isc_4 l Z a0 n0 hw hEL G1 O1 P1 xs52 t52 kt52 ((pk p1).toInt8.toInt32) ((pk p2).toInt8.toInt32) ((pk p3).toInt8.toInt32) ((pk p4).toInt8.toInt32) h52 W52.old q52_1 q52_2 q52_3 q52_4) (w30 hw) (w31 hw) (w32 hw) (w33 hw) (by decide) (lenOf pd14 rfl) rfl rfl (by decide) (by decide) rfl sf0 all0 rfl rfl rfl (by decide) (by decide)
            clear W52
            obtain ⟨rfl, hs66⟩ := hQ66
            subst hs66
            replace W66 := W66.cast (st' := [(.int (isc [((pk p1).toInt8.toInt32), ((pk p2).toInt8.toInt32), ((pk p3).toInt8.toInt32), ((pk p4).toInt8.toInt32)]))]) rfl
            replace W66 := W66.iload (pc' := 149) at_147 rfl rfl
            have hx149 : (isc [((pk p1).toInt8.toInt32), ((pk p2).toInt8.toInt32), ((pk p3).toInt8.toInt32), ((pk p4).toInt8.toInt32)]) = (0 : Int32) := by simp [isc, ix, own_b61 (pk_rng p1), own_b61 (pk_rng p2), own_b61 (pk_rng p3), own_b61 (pk_rng p4), c53, c57, c61, c65]
            replace W66 := W66.icmpF (pc' := 152) at_149 (teq hx149).2 rfl
            replace W66 := W66.iconst (pc' := 153) (v := (1 : Int32)) at_152 rfl rfl
            replace W66 := W66.goto (pc' := 157) at_153 (by decide) (by decide)
            exact W66.iret (t := .boolean) at_157 rfl (by simp) (by decide) (by decide) (by decide) (fun V' cv => rfl)
          · replace W52 := W52.icmpF (pc' := 130) at_127 (feq c65).1 rfl
            replace W52 := W52.iload (pc' := 132) at_130 rfl rfl
            replace W52 := W52.ifT (pc' := 139) at_132 (teq (by decide : (0 : Int32) = (0 : Int32))).1 (by decide) (by decide)
            replace W52 := W52.iconst (pc' := 140) (v := (0 : Int32)) at_139 rfl rfl
            replace W52 := W52.istore (pc' := 142) (L' := #[.val (.int p0), .val (.int p1), .val (.int p2), .val (.int p3), .val (.int p4), .val (.int p5), .val (.int (4 : Int32)), .val (.int (pk p1)), .val (.int (pk p2)), .val (.int (pk p3)), .val (.int (pk p4)), .val (.int (pk p5)), .val (.ref xs52), .val (.int (0 : Int32)), .val (.int (0 : Int32))]) at_140 rfl rfl
            replace W52 := W52.aload (pc' := 144) at_142 rfl rfl rfl
            obtain ⟨V67, h67, r67, W67, K67, hQ67, SF67⟩ := W52.callS (pc' := 147) (argsL := [(.ref xs52)]) (rest := []) (Wd := 0) (cells' := 3) (slots' := 12) (y := (⟨"com/example/holdfast/holdfast/rules/Where", "isCondition", "(Ljava/lang/String;)Z"⟩ : MethodName)) at_144 (isc_4 l Z a0 n0 hw hEL G1 O1 P1 xs52 t52 kt52 ((pk p1).toInt8.toInt32) ((pk p2).toInt8.toInt32) ((pk p3).toInt8.toInt32) ((pk p4).toInt8.toInt32) h52 W52.old q52_1 q52_2 q52_3 q52_4) (w30 hw) (w31 hw) (w32 hw) (w33 hw) (by decide) (lenOf pd14 rfl) rfl rfl (by decide) (by decide) rfl sf0 all0 rfl rfl rfl (by decide) (by decide)
            clear W52
            obtain ⟨rfl, hs67⟩ := hQ67
            subst hs67
            replace W67 := W67.cast (st' := [(.int (isc [((pk p1).toInt8.toInt32), ((pk p2).toInt8.toInt32), ((pk p3).toInt8.toInt32), ((pk p4).toInt8.toInt32)]))]) rfl
            replace W67 := W67.iload (pc' := 149) at_147 rfl rfl
            have hx149 : (isc [((pk p1).toInt8.toInt32), ((pk p2).toInt8.toInt32), ((pk p3).toInt8.toInt32), ((pk p4).toInt8.toInt32)]) = (0 : Int32) := by simp [isc, ix, own_b61 (pk_rng p1), own_b61 (pk_rng p2), own_b61 (pk_rng p3), own_b61 (pk_rng p4), c53, c57, c61, c65]
            replace W67 := W67.icmpF (pc' := 152) at_149 (teq hx149).2 rfl
            replace W67 := W67.iconst (pc' := 153) (v := (1 : Int32)) at_152 rfl rfl
            replace W67 := W67.goto (pc' := 157) at_153 (by decide) (by decide)
            exact W67.iret (t := .boolean) at_157 rfl (by simp) (by decide) (by decide) (by decide) (fun V' cv => rfl)
  · replace W := W.istore (pc' := 9) (L' := #[.val (.int p0), .val (.int p1), .val (.int p2), .val (.int p3), .val (.int p4), .val (.int p5), .val (.int (5 : Int32)), .unset, .unset, .unset, .unset, .unset, .unset, .unset, .unset]) at_7 rfl rfl
    replace W := W.iloadN (pc' := 10) at_9 rfl rfl
    obtain ⟨V68, h68, r68, W68, K68, hQ68, SF68⟩ := W.callS (pc' := 13) (argsL := [(.int p1)]) (rest := []) (Wd := 0) (cells' := 0) (slots' := 0) (y := (⟨"com/example/holdfast/holdfast/rules/WhereIsConditionPinLaw", "pick", "(I)C"⟩ : MethodName)) at_10 (pick_c l Z a0 n0 hw hEL G1 O1 P1 p1 h0 W.old) (w1 hw) (w2 hw) (w3 hw) (w4 hw) (by decide) (lenOf pd12 rfl) rfl rfl (by decide) (by decide) rfl sf0 all0 rfl rfl rfl (by decide) (by decide)
    clear W
    obtain ⟨rfl, hs68⟩ := hQ68
    subst hs68
    replace W68 := W68.cast (st' := [(.int (pk p1))]) rfl
    replace W68 := W68.istore (pc' := 15) (L' := #[.val (.int p0), .val (.int p1), .val (.int p2), .val (.int p3), .val (.int p4), .val (.int p5), .val (.int (5 : Int32)), .val (.int (pk p1)), .unset, .unset, .unset, .unset, .unset, .unset, .unset]) at_13 rfl rfl
    replace W68 := W68.iloadN (pc' := 16) at_15 rfl rfl
    obtain ⟨V69, h69, r69, W69, K69, hQ69, SF69⟩ := W68.callS (pc' := 19) (argsL := [(.int p2)]) (rest := []) (Wd := 0) (cells' := 0) (slots' := 0) (y := (⟨"com/example/holdfast/holdfast/rules/WhereIsConditionPinLaw", "pick", "(I)C"⟩ : MethodName)) at_16 (pick_c l Z a0 n0 hw hEL G1 O1 P1 p2 h0 W68.old) (w1 hw) (w2 hw) (w3 hw) (w4 hw) (by decide) (lenOf pd12 rfl) rfl rfl (by decide) (by decide) rfl sf0 all0 rfl rfl rfl (by decide) (by decide)
    clear W68
    obtain ⟨rfl, hs69⟩ := hQ69
    subst hs69
    replace W69 := W69.cast (st' := [(.int (pk p2))]) rfl
    replace W69 := W69.istore (pc' := 21) (L' := #[.val (.int p0), .val (.int p1), .val (.int p2), .val (.int p3), .val (.int p4), .val (.int p5), .val (.int (5 : Int32)), .val (.int (pk p1)), .val (.int (pk p2)), .unset, .unset, .unset, .unset, .unset, .unset]) at_19 rfl rfl
    replace W69 := W69.iloadN (pc' := 22) at_21 rfl rfl
    obtain ⟨V70, h70, r70, W70, K70, hQ70, SF70⟩ := W69.callS (pc' := 25) (argsL := [(.int p3)]) (rest := []) (Wd := 0) (cells' := 0) (slots' := 0) (y := (⟨"com/example/holdfast/holdfast/rules/WhereIsConditionPinLaw", "pick", "(I)C"⟩ : MethodName)) at_22 (pick_c l Z a0 n0 hw hEL G1 O1 P1 p3 h0 W69.old) (w1 hw) (w2 hw) (w3 hw) (w4 hw) (by decide) (lenOf pd12 rfl) rfl rfl (by decide) (by decide) rfl sf0 all0 rfl rfl rfl (by decide) (by decide)
    clear W69
    obtain ⟨rfl, hs70⟩ := hQ70
    subst hs70
    replace W70 := W70.cast (st' := [(.int (pk p3))]) rfl
    replace W70 := W70.istore (pc' := 27) (L' := #[.val (.int p0), .val (.int p1), .val (.int p2), .val (.int p3), .val (.int p4), .val (.int p5), .val (.int (5 : Int32)), .val (.int (pk p1)), .val (.int (pk p2)), .val (.int (pk p3)), .unset, .unset, .unset, .unset, .unset]) at_25 rfl rfl
    replace W70 := W70.iload (pc' := 29) at_27 rfl rfl
    obtain ⟨V71, h71, r71, W71, K71, hQ71, SF71⟩ := W70.callS (pc' := 32) (argsL := [(.int p4)]) (rest := []) (Wd := 0) (cells' := 0) (slots' := 0) (y := (⟨"com/example/holdfast/holdfast/rules/WhereIsConditionPinLaw", "pick", "(I)C"⟩ : MethodName)) at_29 (pick_c l Z a0 n0 hw hEL G1 O1 P1 p4 h0 W70.old) (w1 hw) (w2 hw) (w3 hw) (w4 hw) (by decide) (lenOf pd12 rfl) rfl rfl (by decide) (by decide) rfl sf0 all0 rfl rfl rfl (by decide) (by decide)
    clear W70
    obtain ⟨rfl, hs71⟩ := hQ71
    subst hs71
    replace W71 := W71.cast (st' := [(.int (pk p4))]) rfl
    replace W71 := W71.istore (pc' := 34) (L' := #[.val (.int p0), .val (.int p1), .val (.int p2), .val (.int p3), .val (.int p4), .val (.int p5), .val (.int (5 : Int32)), .val (.int (pk p1)), .val (.int (pk p2)), .val (.int (pk p3)), .val (.int (pk p4)), .unset, .unset, .unset, .unset]) at_32 rfl rfl
    replace W71 := W71.iload (pc' := 36) at_34 rfl rfl
    obtain ⟨V72, h72, r72, W72, K72, hQ72, SF72⟩ := W71.callS (pc' := 39) (argsL := [(.int p5)]) (rest := []) (Wd := 0) (cells' := 0) (slots' := 0) (y := (⟨"com/example/holdfast/holdfast/rules/WhereIsConditionPinLaw", "pick", "(I)C"⟩ : MethodName)) at_36 (pick_c l Z a0 n0 hw hEL G1 O1 P1 p5 h0 W71.old) (w1 hw) (w2 hw) (w3 hw) (w4 hw) (by decide) (lenOf pd12 rfl) rfl rfl (by decide) (by decide) rfl sf0 all0 rfl rfl rfl (by decide) (by decide)
    clear W71
    obtain ⟨rfl, hs72⟩ := hQ72
    subst hs72
    replace W72 := W72.cast (st' := [(.int (pk p5))]) rfl
    replace W72 := W72.istore (pc' := 41) (L' := #[.val (.int p0), .val (.int p1), .val (.int p2), .val (.int p3), .val (.int p4), .val (.int p5), .val (.int (5 : Int32)), .val (.int (pk p1)), .val (.int (pk p2)), .val (.int (pk p3)), .val (.int (pk p4)), .val (.int (pk p5)), .unset, .unset, .unset]) at_39 rfl rfl
    replace W72 := W72.iload (pc' := 43) at_41 rfl rfl
    replace W72 := W72.iload (pc' := 45) at_43 rfl rfl
    replace W72 := W72.iload (pc' := 47) at_45 rfl rfl
    replace W72 := W72.iload (pc' := 49) at_47 rfl rfl
    replace W72 := W72.iload (pc' := 51) at_49 rfl rfl
    replace W72 := W72.iload (pc' := 53) at_51 rfl rfl
    obtain ⟨V73, h73, r73, W73, K73, hQ73, SF73⟩ := W72.callS (pc' := 56) (argsL := [(.int (5 : Int32)), (.int (pk p1)), (.int (pk p2)), (.int (pk p3)), (.int (pk p4)), (.int (pk p5))]) (rest := []) (Wd := 0) (cells' := 3) (slots' := 14) (y := (⟨"com/example/holdfast/holdfast/rules/WhereIsConditionPinLaw", "make", "(ICCCCC)Ljava/lang/String;"⟩ : MethodName)) at_53 (make_5 l Z a0 n0 hw hEL G1 O1 P1 (pk p1) (pk p2) (pk p3) (pk p4) (pk p5) h0 W72.old (pk_rng p1) (pk_rng p2) (pk_rng p3) (pk_rng p4) (pk_rng p5)) (w5 hw) (w6 hw) (w3 hw) (w7 hw) (by decide) (lenOf pd13 rfl) rfl rfl (by decide) (by decide) rfl sf0 all0 rfl rfl rfl (by decide) (by decide)
    clear W72
    obtain ⟨xs73, t73, kt73, rfl, q73_1, q73_2, q73_3, q73_4, q73_5⟩ := hQ73
    have z73 : h0.size ≤ h73.size := K73.1
    replace W73 := W73.cast (st' := [(.ref xs73)]) rfl
    replace W73 := W73.astore (pc' := 58) (L' := #[.val (.int p0), .val (.int p1), .val (.int p2), .val (.int p3), .val (.int p4), .val (.int p5), .val (.int (5 : Int32)), .val (.int (pk p1)), .val (.int (pk p2)), .val (.int (pk p3)), .val (.int (pk p4)), .val (.int (pk p5)), .val (.ref xs73), .unset, .unset]) at_56 rfl rfl rfl
    replace W73 := W73.iload (pc' := 60) at_58 rfl rfl
    replace W73 := W73.iconst (pc' := 61) (v := (2 : Int32)) at_60 rfl rfl
    replace W73 := W73.icmpF (pc' := 64) at_61 (flt (by decide : ¬ ((5 : Int32) < (2 : Int32)))).1 rfl
    replace W73 := W73.iload (pc' := 66) at_64 rfl rfl
    replace W73 := W73.bipush (pc' := 68) (v := (61 : Int32)) at_66 rfl rfl
    by_cases c74 : (pk p2) = (61 : Int32)
    · replace W73 := W73.icmpT (pc' := 110) at_68 (teq c74).1 (by decide) (by decide)
      replace W73 := W73.iconst (pc' := 111) (v := (1 : Int32)) at_110 rfl rfl
      replace W73 := W73.goto (pc' := 115) at_111 (by decide) (by decide)
      replace W73 := W73.istore (pc' := 117) (L' := #[.val (.int p0), .val (.int p1), .val (.int p2), .val (.int p3), .val (.int p4), .val (.int p5), .val (.int (5 : Int32)), .val (.int (pk p1)), .val (.int (pk p2)), .val (.int (pk p3)), .val (.int (pk p4)), .val (.int (pk p5)), .val (.ref xs73), .val (.int (1 : Int32)), .unset]) at_115 rfl rfl
      replace W73 := W73.iload (pc' := 119) at_117 rfl rfl
      replace W73 := W73.iconst (pc' := 120) (v := (1 : Int32)) at_119 rfl rfl
      replace W73 := W73.icmpF (pc' := 123) at_120 (flt (by decide : ¬ ((5 : Int32) < (1 : Int32)))).1 rfl
      replace W73 := W73.iload (pc' := 125) at_123 rfl rfl
      replace W73 := W73.bipush (pc' := 127) (v := (61 : Int32)) at_125 rfl rfl
      by_cases c75 : (pk p1) = (61 : Int32)
      · replace W73 := W73.icmpT (pc' := 139) at_127 (teq c75).1 (by decide) (by decide)
        replace W73 := W73.iconst (pc' := 140) (v := (0 : Int32)) at_139 rfl rfl
        replace W73 := W73.istore (pc' := 142) (L' := #[.val (.int p0), .val (.int p1), .val (.int p2), .val (.int p3), .val (.int p4), .val (.int p5), .val (.int (5 : Int32)), .val (.int (pk p1)), .val (.int (pk p2)), .val (.int (pk p3)), .val (.int (pk p4)), .val (.int (pk p5)), .val (.ref xs73), .val (.int (1 : Int32)), .val (.int (0 : Int32))]) at_140 rfl rfl
        replace W73 := W73.aload (pc' := 144) at_142 rfl rfl rfl
        obtain ⟨V76, h76, r76, W76, K76, hQ76, SF76⟩ := W73.callS (pc' := 147) (argsL := [(.ref xs73)]) (rest := []) (Wd := 0) (cells' := 3) (slots' := 14) (y := (⟨"com/example/holdfast/holdfast/rules/Where", "isCondition", "(Ljava/lang/String;)Z"⟩ : MethodName)) at_144 (isc_5 l Z a0 n0 hw hEL G1 O1 P1 xs73 t73 kt73 ((pk p1).toInt8.toInt32) ((pk p2).toInt8.toInt32) ((pk p3).toInt8.toInt32) ((pk p4).toInt8.toInt32) ((pk p5).toInt8.toInt32) h73 W73.old q73_1 q73_2 q73_3 q73_4) (w30 hw) (w31 hw) (w32 hw) (w33 hw) (by decide) (lenOf pd14 rfl) rfl rfl (by decide) (by decide) rfl sf0 all0 rfl rfl rfl (by decide) (by decide)
        clear W73
        obtain ⟨rfl, hs76⟩ := hQ76
        subst hs76
        replace W76 := W76.cast (st' := [(.int (isc [((pk p1).toInt8.toInt32), ((pk p2).toInt8.toInt32), ((pk p3).toInt8.toInt32), ((pk p4).toInt8.toInt32), ((pk p5).toInt8.toInt32)]))]) rfl
        replace W76 := W76.iload (pc' := 149) at_147 rfl rfl
        have hx149 : (isc [((pk p1).toInt8.toInt32), ((pk p2).toInt8.toInt32), ((pk p3).toInt8.toInt32), ((pk p4).toInt8.toInt32), ((pk p5).toInt8.toInt32)]) = (0 : Int32) := by simp [isc, ix, own_b61 (pk_rng p1), own_b61 (pk_rng p2), own_b61 (pk_rng p3), own_b61 (pk_rng p4), own_b61 (pk_rng p5), c74, c75]
        replace W76 := W76.icmpF (pc' := 152) at_149 (teq hx149).2 rfl
        replace W76 := W76.iconst (pc' := 153) (v := (1 : Int32)) at_152 rfl rfl
        replace W76 := W76.goto (pc' := 157) at_153 (by decide) (by decide)
        exact W76.iret (t := .boolean) at_157 rfl (by simp) (by decide) (by decide) (by decide) (fun V' cv => rfl)
      · replace W73 := W73.icmpF (pc' := 130) at_127 (feq c75).1 rfl
        replace W73 := W73.iload (pc' := 132) at_130 rfl rfl
        replace W73 := W73.ifF (pc' := 135) at_132 (feq (by decide : ¬ ((1 : Int32) = (0 : Int32)))).1 rfl
        replace W73 := W73.iconst (pc' := 136) (v := (1 : Int32)) at_135 rfl rfl
        replace W73 := W73.goto (pc' := 140) at_136 (by decide) (by decide)
        replace W73 := W73.istore (pc' := 142) (L' := #[.val (.int p0), .val (.int p1), .val (.int p2), .val (.int p3), .val (.int p4), .val (.int p5), .val (.int (5 : Int32)), .val (.int (pk p1)), .val (.int (pk p2)), .val (.int (pk p3)), .val (.int (pk p4)), .val (.int (pk p5)), .val (.ref xs73), .val (.int (1 : Int32)), .val (.int (1 : Int32))]) at_140 rfl rfl
        replace W73 := W73.aload (pc' := 144) at_142 rfl rfl rfl
        obtain ⟨V77, h77, r77, W77, K77, hQ77, SF77⟩ := W73.callS (pc' := 147) (argsL := [(.ref xs73)]) (rest := []) (Wd := 0) (cells' := 3) (slots' := 14) (y := (⟨"com/example/holdfast/holdfast/rules/Where", "isCondition", "(Ljava/lang/String;)Z"⟩ : MethodName)) at_144 (isc_5 l Z a0 n0 hw hEL G1 O1 P1 xs73 t73 kt73 ((pk p1).toInt8.toInt32) ((pk p2).toInt8.toInt32) ((pk p3).toInt8.toInt32) ((pk p4).toInt8.toInt32) ((pk p5).toInt8.toInt32) h73 W73.old q73_1 q73_2 q73_3 q73_4) (w30 hw) (w31 hw) (w32 hw) (w33 hw) (by decide) (lenOf pd14 rfl) rfl rfl (by decide) (by decide) rfl sf0 all0 rfl rfl rfl (by decide) (by decide)
        clear W73
        obtain ⟨rfl, hs77⟩ := hQ77
        subst hs77
        replace W77 := W77.cast (st' := [(.int (isc [((pk p1).toInt8.toInt32), ((pk p2).toInt8.toInt32), ((pk p3).toInt8.toInt32), ((pk p4).toInt8.toInt32), ((pk p5).toInt8.toInt32)]))]) rfl
        replace W77 := W77.iload (pc' := 149) at_147 rfl rfl
        have hx149 : (isc [((pk p1).toInt8.toInt32), ((pk p2).toInt8.toInt32), ((pk p3).toInt8.toInt32), ((pk p4).toInt8.toInt32), ((pk p5).toInt8.toInt32)]) = (1 : Int32) := by simp [isc, ix, own_b61 (pk_rng p1), own_b61 (pk_rng p2), own_b61 (pk_rng p3), own_b61 (pk_rng p4), own_b61 (pk_rng p5), c74, c75]
        replace W77 := W77.icmpF (pc' := 152) at_149 (teq hx149).2 rfl
        replace W77 := W77.iconst (pc' := 153) (v := (1 : Int32)) at_152 rfl rfl
        replace W77 := W77.goto (pc' := 157) at_153 (by decide) (by decide)
        exact W77.iret (t := .boolean) at_157 rfl (by simp) (by decide) (by decide) (by decide) (fun V' cv => rfl)
    · replace W73 := W73.icmpF (pc' := 71) at_68 (feq c74).1 rfl
      replace W73 := W73.iload (pc' := 73) at_71 rfl rfl
      replace W73 := W73.iconst (pc' := 74) (v := (3 : Int32)) at_73 rfl rfl
      replace W73 := W73.icmpF (pc' := 77) at_74 (flt (by decide : ¬ ((5 : Int32) < (3 : Int32)))).1 rfl
      replace W73 := W73.iload (pc' := 79) at_77 rfl rfl
      replace W73 := W73.bipush (pc' := 81) (v := (61 : Int32)) at_79 rfl rfl
      by_cases c78 : (pk p3) = (61 : Int32)
      · replace W73 := W73.icmpT (pc' := 110) at_81 (teq c78).1 (by decide) (by decide)
        replace W73 := W73.iconst (pc' := 111) (v := (1 : Int32)) at_110 rfl rfl
        replace W73 := W73.goto (pc' := 115) at_111 (by decide) (by decide)
        replace W73 := W73.istore (pc' := 117) (L' := #[.val (.int p0), .val (.int p1), .val (.int p2), .val (.int p3), .val (.int p4), .val (.int p5), .val (.int (5 : Int32)), .val (.int (pk p1)), .val (.int (pk p2)), .val (.int (pk p3)), .val (.int (pk p4)), .val (.int (pk p5)), .val (.ref xs73), .val (.int (1 : Int32)), .unset]) at_115 rfl rfl
        replace W73 := W73.iload (pc' := 119) at_117 rfl rfl
        replace W73 := W73.iconst (pc' := 120) (v := (1 : Int32)) at_119 rfl rfl
        replace W73 := W73.icmpF (pc' := 123) at_120 (flt (by decide : ¬ ((5 : Int32) < (1 : Int32)))).1 rfl
        replace W73 := W73.iload (pc' := 125) at_123 rfl rfl
        replace W73 := W73.bipush (pc' := 127) (v := (61 : Int32)) at_125 rfl rfl
        by_cases c79 : (pk p1) = (61 : Int32)
        · replace W73 := W73.icmpT (pc' := 139) at_127 (teq c79).1 (by decide) (by decide)
          replace W73 := W73.iconst (pc' := 140) (v := (0 : Int32)) at_139 rfl rfl
          replace W73 := W73.istore (pc' := 142) (L' := #[.val (.int p0), .val (.int p1), .val (.int p2), .val (.int p3), .val (.int p4), .val (.int p5), .val (.int (5 : Int32)), .val (.int (pk p1)), .val (.int (pk p2)), .val (.int (pk p3)), .val (.int (pk p4)), .val (.int (pk p5)), .val (.ref xs73), .val (.int (1 : Int32)), .val (.int (0 : Int32))]) at_140 rfl rfl
          replace W73 := W73.aload (pc' := 144) at_142 rfl rfl rfl
          obtain ⟨V80, h80, r80, W80, K80, hQ80, SF80⟩ := W73.callS (pc' := 147) (argsL := [(.ref xs73)]) (rest := []) (Wd := 0) (cells' := 3) (slots' := 14) (y := (⟨"com/example/holdfast/holdfast/rules/Where", "isCondition", "(Ljava/lang/String;)Z"⟩ : MethodName)) at_144 (isc_5 l Z a0 n0 hw hEL G1 O1 P1 xs73 t73 kt73 ((pk p1).toInt8.toInt32) ((pk p2).toInt8.toInt32) ((pk p3).toInt8.toInt32) ((pk p4).toInt8.toInt32) ((pk p5).toInt8.toInt32) h73 W73.old q73_1 q73_2 q73_3 q73_4) (w30 hw) (w31 hw) (w32 hw) (w33 hw) (by decide) (lenOf pd14 rfl) rfl rfl (by decide) (by decide) rfl sf0 all0 rfl rfl rfl (by decide) (by decide)
          clear W73
          obtain ⟨rfl, hs80⟩ := hQ80
          subst hs80
          replace W80 := W80.cast (st' := [(.int (isc [((pk p1).toInt8.toInt32), ((pk p2).toInt8.toInt32), ((pk p3).toInt8.toInt32), ((pk p4).toInt8.toInt32), ((pk p5).toInt8.toInt32)]))]) rfl
          replace W80 := W80.iload (pc' := 149) at_147 rfl rfl
          have hx149 : (isc [((pk p1).toInt8.toInt32), ((pk p2).toInt8.toInt32), ((pk p3).toInt8.toInt32), ((pk p4).toInt8.toInt32), ((pk p5).toInt8.toInt32)]) = (0 : Int32) := by simp [isc, ix, own_b61 (pk_rng p1), own_b61 (pk_rng p2), own_b61 (pk_rng p3), own_b61 (pk_rng p4), own_b61 (pk_rng p5), c74, c78, c79]
          replace W80 := W80.icmpF (pc' := 152) at_149 (teq hx149).2 rfl
          replace W80 := W80.iconst (pc' := 153) (v := (1 : Int32)) at_152 rfl rfl
          replace W80 := W80.goto (pc' := 157) at_153 (by decide) (by decide)
          exact W80.iret (t := .boolean) at_157 rfl (by simp) (by decide) (by decide) (by decide) (fun V' cv => rfl)
        · replace W73 := W73.icmpF (pc' := 130) at_127 (feq c79).1 rfl
          replace W73 := W73.iload (pc' := 132) at_130 rfl rfl
          replace W73 := W73.ifF (pc' := 135) at_132 (feq (by decide : ¬ ((1 : Int32) = (0 : Int32)))).1 rfl
          replace W73 := W73.iconst (pc' := 136) (v := (1 : Int32)) at_135 rfl rfl
          replace W73 := W73.goto (pc' := 140) at_136 (by decide) (by decide)
          replace W73 := W73.istore (pc' := 142) (L' := #[.val (.int p0), .val (.int p1), .val (.int p2), .val (.int p3), .val (.int p4), .val (.int p5), .val (.int (5 : Int32)), .val (.int (pk p1)), .val (.int (pk p2)), .val (.int (pk p3)), .val (.int (pk p4)), .val (.int (pk p5)), .val (.ref xs73), .val (.int (1 : Int32)), .val (.int (1 : Int32))]) at_140 rfl rfl
          replace W73 := W73.aload (pc' := 144) at_142 rfl rfl rfl
          obtain ⟨V81, h81, r81, W81, K81, hQ81, SF81⟩ := W73.callS (pc' := 147) (argsL := [(.ref xs73)]) (rest := []) (Wd := 0) (cells' := 3) (slots' := 14) (y := (⟨"com/example/holdfast/holdfast/rules/Where", "isCondition", "(Ljava/lang/String;)Z"⟩ : MethodName)) at_144 (isc_5 l Z a0 n0 hw hEL G1 O1 P1 xs73 t73 kt73 ((pk p1).toInt8.toInt32) ((pk p2).toInt8.toInt32) ((pk p3).toInt8.toInt32) ((pk p4).toInt8.toInt32) ((pk p5).toInt8.toInt32) h73 W73.old q73_1 q73_2 q73_3 q73_4) (w30 hw) (w31 hw) (w32 hw) (w33 hw) (by decide) (lenOf pd14 rfl) rfl rfl (by decide) (by decide) rfl sf0 all0 rfl rfl rfl (by decide) (by decide)
          clear W73
          obtain ⟨rfl, hs81⟩ := hQ81
          subst hs81
          replace W81 := W81.cast (st' := [(.int (isc [((pk p1).toInt8.toInt32), ((pk p2).toInt8.toInt32), ((pk p3).toInt8.toInt32), ((pk p4).toInt8.toInt32), ((pk p5).toInt8.toInt32)]))]) rfl
          replace W81 := W81.iload (pc' := 149) at_147 rfl rfl
          have hx149 : (isc [((pk p1).toInt8.toInt32), ((pk p2).toInt8.toInt32), ((pk p3).toInt8.toInt32), ((pk p4).toInt8.toInt32), ((pk p5).toInt8.toInt32)]) = (1 : Int32) := by simp [isc, ix, own_b61 (pk_rng p1), own_b61 (pk_rng p2), own_b61 (pk_rng p3), own_b61 (pk_rng p4), own_b61 (pk_rng p5), c74, c78, c79]
          replace W81 := W81.icmpF (pc' := 152) at_149 (teq hx149).2 rfl
          replace W81 := W81.iconst (pc' := 153) (v := (1 : Int32)) at_152 rfl rfl
          replace W81 := W81.goto (pc' := 157) at_153 (by decide) (by decide)
          exact W81.iret (t := .boolean) at_157 rfl (by simp) (by decide) (by decide) (by decide) (fun V' cv => rfl)
      · replace W73 := W73.icmpF (pc' := 84) at_81 (feq c78).1 rfl
        replace W73 := W73.iload (pc' := 86) at_84 rfl rfl
        replace W73 := W73.iconst (pc' := 87) (v := (4 : Int32)) at_86 rfl rfl
        replace W73 := W73.icmpF (pc' := 90) at_87 (flt (by decide : ¬ ((5 : Int32) < (4 : Int32)))).1 rfl
        replace W73 := W73.iload (pc' := 92) at_90 rfl rfl
        replace W73 := W73.bipush (pc' := 94) (v := (61 : Int32)) at_92 rfl rfl
        by_cases c82 : (pk p4) = (61 : Int32)
        · replace W73 := W73.icmpT (pc' := 110) at_94 (teq c82).1 (by decide) (by decide)
          replace W73 := W73.iconst (pc' := 111) (v := (1 : Int32)) at_110 rfl rfl
          replace W73 := W73.goto (pc' := 115) at_111 (by decide) (by decide)
          replace W73 := W73.istore (pc' := 117) (L' := #[.val (.int p0), .val (.int p1), .val (.int p2), .val (.int p3), .val (.int p4), .val (.int p5), .val (.int (5 : Int32)), .val (.int (pk p1)), .val (.int (pk p2)), .val (.int (pk p3)), .val (.int (pk p4)), .val (.int (pk p5)), .val (.ref xs73), .val (.int (1 : Int32)), .unset]) at_115 rfl rfl
          replace W73 := W73.iload (pc' := 119) at_117 rfl rfl
          replace W73 := W73.iconst (pc' := 120) (v := (1 : Int32)) at_119 rfl rfl
          replace W73 := W73.icmpF (pc' := 123) at_120 (flt (by decide : ¬ ((5 : Int32) < (1 : Int32)))).1 rfl
          replace W73 := W73.iload (pc' := 125) at_123 rfl rfl
          replace W73 := W73.bipush (pc' := 127) (v := (61 : Int32)) at_125 rfl rfl
          by_cases c83 : (pk p1) = (61 : Int32)
          · replace W73 := W73.icmpT (pc' := 139) at_127 (teq c83).1 (by decide) (by decide)
            replace W73 := W73.iconst (pc' := 140) (v := (0 : Int32)) at_139 rfl rfl
            replace W73 := W73.istore (pc' := 142) (L' := #[.val (.int p0), .val (.int p1), .val (.int p2), .val (.int p3), .val (.int p4), .val (.int p5), .val (.int (5 : Int32)), .val (.int (pk p1)), .val (.int (pk p2)), .val (.int (pk p3)), .val (.int (pk p4)), .val (.int (pk p5)), .val (.ref xs73), .val (.int (1 : Int32)), .val (.int (0 : Int32))]) at_140 rfl rfl
            replace W73 := W73.aload (pc' := 144) at_142 rfl rfl rfl
            obtain ⟨V84, h84, r84, W84, K84, hQ84, SF84⟩ := W73.callS (pc' := 147) (argsL := [(.ref xs73)]) (rest := []) (Wd := 0) (cells' := 3) (slots' := 14) (y := (⟨"com/example/holdfast/holdfast/rules/Where", "isCondition", "(Ljava/lang/String;)Z"⟩ : MethodName)) at_144 (isc_5 l Z a0 n0 hw hEL G1 O1 P1 xs73 t73 kt73 ((pk p1).toInt8.toInt32) ((pk p2).toInt8.toInt32) ((pk p3).toInt8.toInt32) ((pk p4).toInt8.toInt32) ((pk p5).toInt8.toInt32) h73 W73.old q73_1 q73_2 q73_3 q73_4) (w30 hw) (w31 hw) (w32 hw) (w33 hw) (by decide) (lenOf pd14 rfl) rfl rfl (by decide) (by decide) rfl sf0 all0 rfl rfl rfl (by decide) (by decide)
            clear W73
            obtain ⟨rfl, hs84⟩ := hQ84
            subst hs84
            replace W84 := W84.cast (st' := [(.int (isc [((pk p1).toInt8.toInt32), ((pk p2).toInt8.toInt32), ((pk p3).toInt8.toInt32), ((pk p4).toInt8.toInt32), ((pk p5).toInt8.toInt32)]))]) rfl
            replace W84 := W84.iload (pc' := 149) at_147 rfl rfl
            have hx149 : (isc [((pk p1).toInt8.toInt32), ((pk p2).toInt8.toInt32), ((pk p3).toInt8.toInt32), ((pk p4).toInt8.toInt32), ((pk p5).toInt8.toInt32)]) = (0 : Int32) := by simp [isc, ix, own_b61 (pk_rng p1), own_b61 (pk_rng p2), own_b61 (pk_rng p3), own_b61 (pk_rng p4), own_b61 (pk_rng p5), c74, c78, c82, c83]
            replace W84 := W84.icmpF (pc' := 152) at_149 (teq hx149).2 rfl
            replace W84 := W84.iconst (pc' := 153) (v := (1 : Int32)) at_152 rfl rfl
            replace W84 := W84.goto (pc' := 157) at_153 (by decide) (by decide)
            exact W84.iret (t := .boolean) at_157 rfl (by simp) (by decide) (by decide) (by decide) (fun V' cv => rfl)
          · replace W73 := W73.icmpF (pc' := 130) at_127 (feq c83).1 rfl
            replace W73 := W73.iload (pc' := 132) at_130 rfl rfl
            replace W73 := W73.ifF (pc' := 135) at_132 (feq (by decide : ¬ ((1 : Int32) = (0 : Int32)))).1 rfl
            replace W73 := W73.iconst (pc' := 136) (v := (1 : Int32)) at_135 rfl rfl
            replace W73 := W73.goto (pc' := 140) at_136 (by decide) (by decide)
            replace W73 := W73.istore (pc' := 142) (L' := #[.val (.int p0), .val (.int p1), .val (.int p2), .val (.int p3), .val (.int p4), .val (.int p5), .val (.int (5 : Int32)), .val (.int (pk p1)), .val (.int (pk p2)), .val (.int (pk p3)), .val (.int (pk p4)), .val (.int (pk p5)), .val (.ref xs73), .val (.int (1 : Int32)), .val (.int (1 : Int32))]) at_140 rfl rfl
            replace W73 := W73.aload (pc' := 144) at_142 rfl rfl rfl
            obtain ⟨V85, h85, r85, W85, K85, hQ85, SF85⟩ := W73.callS (pc' := 147) (argsL := [(.ref xs73)]) (rest := []) (Wd := 0) (cells' := 3) (slots' := 14) (y := (⟨"com/example/holdfast/holdfast/rules/Where", "isCondition", "(Ljava/lang/String;)Z"⟩ : MethodName)) at_144 (isc_5 l Z a0 n0 hw hEL G1 O1 P1 xs73 t73 kt73 ((pk p1).toInt8.toInt32) ((pk p2).toInt8.toInt32) ((pk p3).toInt8.toInt32) ((pk p4).toInt8.toInt32) ((pk p5).toInt8.toInt32) h73 W73.old q73_1 q73_2 q73_3 q73_4) (w30 hw) (w31 hw) (w32 hw) (w33 hw) (by decide) (lenOf pd14 rfl) rfl rfl (by decide) (by decide) rfl sf0 all0 rfl rfl rfl (by decide) (by decide)
            clear W73
            obtain ⟨rfl, hs85⟩ := hQ85
            subst hs85
            replace W85 := W85.cast (st' := [(.int (isc [((pk p1).toInt8.toInt32), ((pk p2).toInt8.toInt32), ((pk p3).toInt8.toInt32), ((pk p4).toInt8.toInt32), ((pk p5).toInt8.toInt32)]))]) rfl
            replace W85 := W85.iload (pc' := 149) at_147 rfl rfl
            have hx149 : (isc [((pk p1).toInt8.toInt32), ((pk p2).toInt8.toInt32), ((pk p3).toInt8.toInt32), ((pk p4).toInt8.toInt32), ((pk p5).toInt8.toInt32)]) = (1 : Int32) := by simp [isc, ix, own_b61 (pk_rng p1), own_b61 (pk_rng p2), own_b61 (pk_rng p3), own_b61 (pk_rng p4), own_b61 (pk_rng p5), c74, c78, c82, c83]
            replace W85 := W85.icmpF (pc' := 152) at_149 (teq hx149).2 rfl
            replace W85 := W85.iconst (pc' := 153) (v := (1 : Int32)) at_152 rfl rfl
            replace W85 := W85.goto (pc' := 157) at_153 (by decide) (by decide)
            exact W85.iret (t := .boolean) at_157 rfl (by simp) (by decide) (by decide) (by decide) (fun V' cv => rfl)
        · replace W73 := W73.icmpF (pc' := 97) at_94 (feq c82).1 rfl
          replace W73 := W73.iload (pc' := 99) at_97 rfl rfl
          replace W73 := W73.iconst (pc' := 100) (v := (5 : Int32)) at_99 rfl rfl
          replace W73 := W73.icmpF (pc' := 103) at_100 (flt (by decide : ¬ ((5 : Int32) < (5 : Int32)))).1 rfl
          replace W73 := W73.iload (pc' := 105) at_103 rfl rfl
          replace W73 := W73.bipush (pc' := 107) (v := (61 : Int32)) at_105 rfl rfl
          by_cases c86 : (pk p5) = (61 : Int32)
          · replace W73 := W73.icmpF (pc' := 110) at_107 (teq c86).2 rfl
            replace W73 := W73.iconst (pc' := 111) (v := (1 : Int32)) at_110 rfl rfl
            replace W73 := W73.goto (pc' := 115) at_111 (by decide) (by decide)
            replace W73 := W73.istore (pc' := 117) (L' := #[.val (.int p0), .val (.int p1), .val (.int p2), .val (.int p3), .val (.int p4), .val (.int p5), .val (.int (5 : Int32)), .val (.int (pk p1)), .val (.int (pk p2)), .val (.int (pk p3)), .val (.int (pk p4)), .val (.int (pk p5)), .val (.ref xs73), .val (.int (1 : Int32)), .unset]) at_115 rfl rfl
            replace W73 := W73.iload (pc' := 119) at_117 rfl rfl
            replace W73 := W73.iconst (pc' := 120) (v := (1 : Int32)) at_119 rfl rfl
            replace W73 := W73.icmpF (pc' := 123) at_120 (flt (by decide : ¬ ((5 : Int32) < (1 : Int32)))).1 rfl
            replace W73 := W73.iload (pc' := 125) at_123 rfl rfl
            replace W73 := W73.bipush (pc' := 127) (v := (61 : Int32)) at_125 rfl rfl
            by_cases c87 : (pk p1) = (61 : Int32)
            · replace W73 := W73.icmpT (pc' := 139) at_127 (teq c87).1 (by decide) (by decide)
              replace W73 := W73.iconst (pc' := 140) (v := (0 : Int32)) at_139 rfl rfl
              replace W73 := W73.istore (pc' := 142) (L' := #[.val (.int p0), .val (.int p1), .val (.int p2), .val (.int p3), .val (.int p4), .val (.int p5), .val (.int (5 : Int32)), .val (.int (pk p1)), .val (.int (pk p2)), .val (.int (pk p3)), .val (.int (pk p4)), .val (.int (pk p5)), .val (.ref xs73), .val (.int (1 : Int32)), .val (.int (0 : Int32))]) at_140 rfl rfl
              replace W73 := W73.aload (pc' := 144) at_142 rfl rfl rfl
              obtain ⟨V88, h88, r88, W88, K88, hQ88, SF88⟩ := W73.callS (pc' := 147) (argsL := [(.ref xs73)]) (rest := []) (Wd := 0) (cells' := 3) (slots' := 14) (y := (⟨"com/example/holdfast/holdfast/rules/Where", "isCondition", "(Ljava/lang/String;)Z"⟩ : MethodName)) at_144 (isc_5 l Z a0 n0 hw hEL G1 O1 P1 xs73 t73 kt73 ((pk p1).toInt8.toInt32) ((pk p2).toInt8.toInt32) ((pk p3).toInt8.toInt32) ((pk p4).toInt8.toInt32) ((pk p5).toInt8.toInt32) h73 W73.old q73_1 q73_2 q73_3 q73_4) (w30 hw) (w31 hw) (w32 hw) (w33 hw) (by decide) (lenOf pd14 rfl) rfl rfl (by decide) (by decide) rfl sf0 all0 rfl rfl rfl (by decide) (by decide)
              clear W73
              obtain ⟨rfl, hs88⟩ := hQ88
              subst hs88
              replace W88 := W88.cast (st' := [(.int (isc [((pk p1).toInt8.toInt32), ((pk p2).toInt8.toInt32), ((pk p3).toInt8.toInt32), ((pk p4).toInt8.toInt32), ((pk p5).toInt8.toInt32)]))]) rfl
              replace W88 := W88.iload (pc' := 149) at_147 rfl rfl
              have hx149 : (isc [((pk p1).toInt8.toInt32), ((pk p2).toInt8.toInt32), ((pk p3).toInt8.toInt32), ((pk p4).toInt8.toInt32), ((pk p5).toInt8.toInt32)]) = (0 : Int32) := by simp [isc, ix, own_b61 (pk_rng p1), own_b61 (pk_rng p2), own_b61 (pk_rng p3), own_b61 (pk_rng p4), own_b61 (pk_rng p5), c74, c78, c82, c86, c87]
              replace W88 := W88.icmpF (pc' := 152) at_149 (teq hx149).2 rfl
              replace W88 := W88.iconst (pc' := 153) (v := (1 : Int32)) at_152 rfl rfl
              replace W88 := W88.goto (pc' := 157) at_153 (by decide) (by decide)
              exact W88.iret (t := .boolean) at_157 rfl (by simp) (by decide) (by decide) (by decide) (fun V' cv => rfl)
            · replace W73 := W73.icmpF (pc' := 130) at_127 (feq c87).1 rfl
              replace W73 := W73.iload (pc' := 132) at_130 rfl rfl
              replace W73 := W73.ifF (pc' := 135) at_132 (feq (by decide : ¬ ((1 : Int32) = (0 : Int32)))).1 rfl
              replace W73 := W73.iconst (pc' := 136) (v := (1 : Int32)) at_135 rfl rfl
              replace W73 := W73.goto (pc' := 140) at_136 (by decide) (by decide)
              replace W73 := W73.istore (pc' := 142) (L' := #[.val (.int p0), .val (.int p1), .val (.int p2), .val (.int p3), .val (.int p4), .val (.int p5), .val (.int (5 : Int32)), .val (.int (pk p1)), .val (.int (pk p2)), .val (.int (pk p3)), .val (.int (pk p4)), .val (.int (pk p5)), .val (.ref xs73), .val (.int (1 : Int32)), .val (.int (1 : Int32))]) at_140 rfl rfl
              replace W73 := W73.aload (pc' := 144) at_142 rfl rfl rfl
              obtain ⟨V89, h89, r89, W89, K89, hQ89, SF89⟩ := W73.callS (pc' := 147) (argsL := [(.ref xs73)]) (rest := []) (Wd := 0) (cells' := 3) (slots' := 14) (y := (⟨"com/example/holdfast/holdfast/rules/Where", "isCondition", "(Ljava/lang/String;)Z"⟩ : MethodName)) at_144 (isc_5 l Z a0 n0 hw hEL G1 O1 P1 xs73 t73 kt73 ((pk p1).toInt8.toInt32) ((pk p2).toInt8.toInt32) ((pk p3).toInt8.toInt32) ((pk p4).toInt8.toInt32) ((pk p5).toInt8.toInt32) h73 W73.old q73_1 q73_2 q73_3 q73_4) (w30 hw) (w31 hw) (w32 hw) (w33 hw) (by decide) (lenOf pd14 rfl) rfl rfl (by decide) (by decide) rfl sf0 all0 rfl rfl rfl (by decide) (by decide)
              clear W73
              obtain ⟨rfl, hs89⟩ := hQ89
              subst hs89
              replace W89 := W89.cast (st' := [(.int (isc [((pk p1).toInt8.toInt32), ((pk p2).toInt8.toInt32), ((pk p3).toInt8.toInt32), ((pk p4).toInt8.toInt32), ((pk p5).toInt8.toInt32)]))]) rfl
              replace W89 := W89.iload (pc' := 149) at_147 rfl rfl
              have hx149 : (isc [((pk p1).toInt8.toInt32), ((pk p2).toInt8.toInt32), ((pk p3).toInt8.toInt32), ((pk p4).toInt8.toInt32), ((pk p5).toInt8.toInt32)]) = (1 : Int32) := by simp [isc, ix, own_b61 (pk_rng p1), own_b61 (pk_rng p2), own_b61 (pk_rng p3), own_b61 (pk_rng p4), own_b61 (pk_rng p5), c74, c78, c82, c86, c87]
              replace W89 := W89.icmpF (pc' := 152) at_149 (teq hx149).2 rfl
              replace W89 := W89.iconst (pc' := 153) (v := (1 : Int32)) at_152 rfl rfl
              replace W89 := W89.goto (pc' := 157) at_153 (by decide) (by decide)
              exact W89.iret (t := .boolean) at_157 rfl (by simp) (by decide) (by decide) (by decide) (fun V' cv => rfl)
          · replace W73 := W73.icmpT (pc' := 114) at_107 (feq c86).2 (by decide) (by decide)
            replace W73 := W73.iconst (pc' := 115) (v := (0 : Int32)) at_114 rfl rfl
            replace W73 := W73.istore (pc' := 117) (L' := #[.val (.int p0), .val (.int p1), .val (.int p2), .val (.int p3), .val (.int p4), .val (.int p5), .val (.int (5 : Int32)), .val (.int (pk p1)), .val (.int (pk p2)), .val (.int (pk p3)), .val (.int (pk p4)), .val (.int (pk p5)), .val (.ref xs73), .val (.int (0 : Int32)), .unset]) at_115 rfl rfl
            replace W73 := W73.iload (pc' := 119) at_117 rfl rfl
            replace W73 := W73.iconst (pc' := 120) (v := (1 : Int32)) at_119 rfl rfl
            replace W73 := W73.icmpF (pc' := 123) at_120 (flt (by decide : ¬ ((5 : Int32) < (1 : Int32)))).1 rfl
            replace W73 := W73.iload (pc' := 125) at_123 rfl rfl
            replace W73 := W73.bipush (pc' := 127) (v := (61 : Int32)) at_125 rfl rfl
            by_cases c90 : (pk p1) = (61 : Int32)
            · replace W73 := W73.icmpT (pc' := 139) at_127 (teq c90).1 (by decide) (by decide)
              replace W73 := W73.iconst (pc' := 140) (v := (0 : Int32)) at_139 rfl rfl
              replace W73 := W73.istore (pc' := 142) (L' := #[.val (.int p0), .val (.int p1), .val (.int p2), .val (.int p3), .val (.int p4), .val (.int p5), .val (.int (5 : Int32)), .val (.int (pk p1)), .val (.int (pk p2)), .val (.int (pk p3)), .val (.int (pk p4)), .val (.int (pk p5)), .val (.ref xs73), .val (.int (0 : Int32)), .val (.int (0 : Int32))]) at_140 rfl rfl
              replace W73 := W73.aload (pc' := 144) at_142 rfl rfl rfl
              obtain ⟨V91, h91, r91, W91, K91, hQ91, SF91⟩ := W73.callS (pc' := 147) (argsL := [(.ref xs73)]) (rest := []) (Wd := 0) (cells' := 3) (slots' := 14) (y := (⟨"com/example/holdfast/holdfast/rules/Where", "isCondition", "(Ljava/lang/String;)Z"⟩ : MethodName)) at_144 (isc_5 l Z a0 n0 hw hEL G1 O1 P1 xs73 t73 kt73 ((pk p1).toInt8.toInt32) ((pk p2).toInt8.toInt32) ((pk p3).toInt8.toInt32) ((pk p4).toInt8.toInt32) ((pk p5).toInt8.toInt32) h73 W73.old q73_1 q73_2 q73_3 q73_4) (w30 hw) (w31 hw) (w32 hw) (w33 hw) (by decide) (lenOf pd14 rfl) rfl rfl (by decide) (by decide) rfl sf0 all0 rfl rfl rfl (by decide) (by decide)
              clear W73
              obtain ⟨rfl, hs91⟩ := hQ91
              subst hs91
              replace W91 := W91.cast (st' := [(.int (isc [((pk p1).toInt8.toInt32), ((pk p2).toInt8.toInt32), ((pk p3).toInt8.toInt32), ((pk p4).toInt8.toInt32), ((pk p5).toInt8.toInt32)]))]) rfl
              replace W91 := W91.iload (pc' := 149) at_147 rfl rfl
              have hx149 : (isc [((pk p1).toInt8.toInt32), ((pk p2).toInt8.toInt32), ((pk p3).toInt8.toInt32), ((pk p4).toInt8.toInt32), ((pk p5).toInt8.toInt32)]) = (0 : Int32) := by simp [isc, ix, own_b61 (pk_rng p1), own_b61 (pk_rng p2), own_b61 (pk_rng p3), own_b61 (pk_rng p4), own_b61 (pk_rng p5), c74, c78, c82, c86, c90]
              replace W91 := W91.icmpF (pc' := 152) at_149 (teq hx149).2 rfl
              replace W91 := W91.iconst (pc' := 153) (v := (1 : Int32)) at_152 rfl rfl
              replace W91 := W91.goto (pc' := 157) at_153 (by decide) (by decide)
              exact W91.iret (t := .boolean) at_157 rfl (by simp) (by decide) (by decide) (by decide) (fun V' cv => rfl)
            · replace W73 := W73.icmpF (pc' := 130) at_127 (feq c90).1 rfl
              replace W73 := W73.iload (pc' := 132) at_130 rfl rfl
              replace W73 := W73.ifT (pc' := 139) at_132 (teq (by decide : (0 : Int32) = (0 : Int32))).1 (by decide) (by decide)
              replace W73 := W73.iconst (pc' := 140) (v := (0 : Int32)) at_139 rfl rfl
              replace W73 := W73.istore (pc' := 142) (L' := #[.val (.int p0), .val (.int p1), .val (.int p2), .val (.int p3), .val (.int p4), .val (.int p5), .val (.int (5 : Int32)), .val (.int (pk p1)), .val (.int (pk p2)), .val (.int (pk p3)), .val (.int (pk p4)), .val (.int (pk p5)), .val (.ref xs73), .val (.int (0 : Int32)), .val (.int (0 : Int32))]) at_140 rfl rfl
              replace W73 := W73.aload (pc' := 144) at_142 rfl rfl rfl
              obtain ⟨V92, h92, r92, W92, K92, hQ92, SF92⟩ := W73.callS (pc' := 147) (argsL := [(.ref xs73)]) (rest := []) (Wd := 0) (cells' := 3) (slots' := 14) (y := (⟨"com/example/holdfast/holdfast/rules/Where", "isCondition", "(Ljava/lang/String;)Z"⟩ : MethodName)) at_144 (isc_5 l Z a0 n0 hw hEL G1 O1 P1 xs73 t73 kt73 ((pk p1).toInt8.toInt32) ((pk p2).toInt8.toInt32) ((pk p3).toInt8.toInt32) ((pk p4).toInt8.toInt32) ((pk p5).toInt8.toInt32) h73 W73.old q73_1 q73_2 q73_3 q73_4) (w30 hw) (w31 hw) (w32 hw) (w33 hw) (by decide) (lenOf pd14 rfl) rfl rfl (by decide) (by decide) rfl sf0 all0 rfl rfl rfl (by decide) (by decide)
              clear W73
              obtain ⟨rfl, hs92⟩ := hQ92
              subst hs92
              replace W92 := W92.cast (st' := [(.int (isc [((pk p1).toInt8.toInt32), ((pk p2).toInt8.toInt32), ((pk p3).toInt8.toInt32), ((pk p4).toInt8.toInt32), ((pk p5).toInt8.toInt32)]))]) rfl
              replace W92 := W92.iload (pc' := 149) at_147 rfl rfl
              have hx149 : (isc [((pk p1).toInt8.toInt32), ((pk p2).toInt8.toInt32), ((pk p3).toInt8.toInt32), ((pk p4).toInt8.toInt32), ((pk p5).toInt8.toInt32)]) = (0 : Int32) := by simp [isc, ix, own_b61 (pk_rng p1), own_b61 (pk_rng p2), own_b61 (pk_rng p3), own_b61 (pk_rng p4), own_b61 (pk_rng p5), c74, c78, c82, c86, c90]
              replace W92 := W92.icmpF (pc' := 152) at_149 (teq hx149).2 rfl
              replace W92 := W92.iconst (pc' := 153) (v := (1 : Int32)) at_152 rfl rfl
              replace W92 := W92.goto (pc' := 157) at_153 (by decide) (by decide)
              exact W92.iret (t := .boolean) at_157 rfl (by simp) (by decide) (by decide) (by decide) (fun V' cv => rfl)
set_option maxRecDepth 65536 in
set_option maxHeartbeats 40000000 in
theorem comes_1 {Post : Tables → Env → Array Value → State → Outcome → State → Prop} (hpost : ∀ tb e args s v u, (limb_1_1.after args s (.returned v) u = true ∧ limb_1_2.after args s (.returned v) u = true ∧ True) → FramedW s (.returned v) u (Jvm.fieldLocs frame_1_writes args s ++ Jvm.arrayLocs frame_1_arrays args s ++ Jvm.staticLocs frame_1_statics s) 16 1152 → Post tb e args s (.returned v) u) :
    ArmFor flags0 classFile x code maxLocals ret World_1 tables_1 room_1 Calls_1 rest_1 Pre_1 Post := by
  intro l hfl _ _ p e ha hc hk s m args below hf hA hF happ hP
  obtain ⟨hcalls, hrest, hpre⟩ := hP
  obtain ⟨-, -, -, hnamed, -, -, -, hat⟩ := (Spec.applies_iff hf).mp happ
  obtain ⟨hg, hn⟩ := and_e (Cond.before_iff.mp (show (Jvm.Cond.and given_1 narrow_1).before args s = true from hpre))
  obtain ⟨hcount, hr0⟩ := and_e hg
  obtain ⟨ha0, hr1⟩ := and_e hr0
  obtain ⟨ha1, hr2⟩ := and_e hr1
  obtain ⟨ha2, hr3⟩ := and_e hr2
  obtain ⟨ha3, hr4⟩ := and_e hr3
  obtain ⟨ha4, hr5⟩ := and_e hr4
  have ha5 := hr5
  obtain ⟨w0, w1, w2, w3, w4, w5, rfl⟩ : ∃ w0 w1 w2 w3 w4 w5 : Value, args = #[w0, w1, w2, w3, w4, w5] := by
    have hs : args.size = 6 := by simpa [Cond.value, given_1] using hcount
    obtain ⟨L⟩ := args
    match L, hs with
    | [w0, w1, w2, w3, w4, w5], _ => exact ⟨w0, w1, w2, w3, w4, w5, rfl⟩
  have hw := fun d (hd : d ∈ tables_1) => atoms_spec (ws := Jvm.Cond.code x code maxLocals ret :: tables_1) hat d (List.mem_cons_of_mem _ hd)
  obtain ⟨hsets, hown0⟩ := atoms_of _ (rest_1_c_eq ▸ (show rest_1_c.before _ s = true from hrest))
  obtain ⟨i0, ei0⟩ := is_v ha0
  obtain rfl : w0 = (.int i0) := Option.some.inj ei0
  obtain ⟨i1, ei1⟩ := is_v ha1
  obtain rfl : w1 = (.int i1) := Option.some.inj ei1
  obtain ⟨i2, ei2⟩ := is_v ha2
  obtain rfl : w2 = (.int i2) := Option.some.inj ei2
  obtain ⟨i3, ei3⟩ := is_v ha3
  obtain rfl : w3 = (.int i3) := Option.some.inj ei3
  obtain ⟨i4, ei4⟩ := is_v ha4
  obtain rfl : w4 = (.int i4) := Option.some.inj ei4
  obtain ⟨i5, ei5⟩ := is_v ha5
  obtain rfl : w5 = (.int i5) := Option.some.inj ei5
  have n5 := not_v (Cond.before_iff.mp (hsets _ (List.mem_of_getElem? (i := 2) rfl)))
  obtain ⟨i11, e10⟩ := is_v (Cond.before_iff.mp (hsets _ (List.mem_of_getElem? (i := 1) rfl)))
  have S12 : Sta s s.heap "java/lang/String" "COMPACT_STRINGS" "Z" (.int i11) := Sta.start e10 (Or.inl (hsets _ (List.mem_of_getElem? (i := 0) rfl)))
  have c17 : ¬ (i11 = (0 : Int32)) := gotF (Cond.eq_ints e10 (Term.int_eval (0))) n5
  have hCH : CHv s consts_1 s.vm s.heap := CHv.start (hELs hw) (fun q hq => hcalls.1 q hq) (hsets _ (List.mem_of_getElem? (i := 2) rfl)) (w23 hw) (w9 hw)
  obtain ⟨n, o, h1, h2, h3, v, L, rfl, ⟨N, -, rfl⟩, -, r1, r2, r3, r4⟩ := law_c l s _ s.heap.size hw (hELs hw) i11 S12 c17 i0 i1 i2 i3 i4 i5 s.heap (Old.start s) tables_1 p e ha hc hk s m _ below hf ((Spec.applies_iff_loose hf).mp happ).1 ⟨rfl, State.Warmed39.refl s, rfl, hCH, sf0⟩ trivial
  exact ⟨n, _, h1, h2, h3, hpost _ _ _ _ _ _ ⟨Cond.after_iff.mpr rfl, Cond.after_iff.mpr (eq_i res_at (Term.int_eval (1)) rfl), trivial⟩ ⟨r1, r2, r3, (r4.sift fun y hy => Or.inr (N y hy)).mono (by decide) (by decide)⟩⟩
theorem main_1_1 : Claimed_1_1 := comes_1 fun _ _ _ _ _ _ h hF => ⟨h.1, hF⟩
theorem main_1_2 : Claimed_1_2 := comes_1 fun _ _ _ _ _ _ h hF => ⟨h.2.1, hF⟩
end Jvm.Pilot.@@N@@
namespace Jvm.Pilot.@@N@@
open Jvm Jvm.ClassFile Sem Op Lib Jvm.Free Jvm.Stand Jvm.Pilot.@@N@@.Jvm.D
/-! MADE BY PROGRAM (witnessworld.py) out of the Statement's table words and the real class files: 21 classes; the members and pool entries that the words name. The judged class is class 1, her method 3. -/
namespace start1
open Jvm.ClassFile
def u (s : String) : CpInfo := .utf8 (stringToUtf16 s)
/-- a pool by its gaps: so many unusable entries, then the entry; so many at the end -/
def gap : Nat → List CpInfo → List CpInfo
  | 0, r => r
  | n + 1, r => .unusable :: gap n r
def poolList (es : List (Nat × CpInfo)) (last : Nat) : List CpInfo := es.foldr (fun e r => gap e.1 (e.2 :: r)) (gap last [])
def pool (es : List (Nat × CpInfo)) (last : Nat) : Array CpInfo := ⟨poolList es last⟩
def fileOf (pool : Array CpInfo) (this : Nat) (attrs : Array Attribute := #[]) (ms : Array MethodInfo := #[]) (fl : Nat := 33) (sup : Nat := 0) (ifs : Array Nat := #[]) (fds : Array FieldInfo := #[]) : ClassFile where
  minorVersion := 0
  majorVersion := 65
  constantPool := pool
  accessFlags := fl
  thisClass := this
  superClass := sup
  interfaces := ifs
  fields := fds
  methods := ms
  attributes := attrs
def plain (name : String) (sup : Option ClassId) : Class where
  name := name
  kind := .ordinary
  loader := none
  accessFlags := 33
  super := sup
  interfaces := #[]
  cf := none
  fields := #[]
  methods := #[]
  instanceTypes := #[]
  staticTypes := #[]
  resolved := #[]
  callSites := []
  init := .initialized
  statics := none
  mirror := none

def pool0 : Array CpInfo := pool [(5, u "<init>"), (0, u "()V"), (1, .class_ 10), (1, u "java/lang/Object")] 113

def k0c0 : Code := { maxStack := 0, maxLocals := 1, code := object_method_1_code, exceptionTable := #[], attributes := #[] }
def k0m0 : Method := { name := "<init>", desc := "()V", sig := { parameters := [], returnType := none }, accessFlags := 1, code := some k0c0 }
/-- java/lang/Object -/
def k0 : Class := { plain "java/lang/Object" none with
  accessFlags := 33
  interfaces := #[]
  cf := some (fileOf pool0 8 #[] #[{ accessFlags := 1, nameIndex := 5, descriptorIndex := 6, attributes := #[] }] 33 0 #[] #[])
  fields := #[]
  methods := #[k0m0]
  instanceTypes := #[]
  staticTypes := #[]
  resolved := Array.replicate 124 none
  statics := none }

def pool1 : Array CpInfo := pool [(2, .class_ 4), (1, u "java/lang/Object"), (0, u "<init>"), (0, u "()V"), (0, .class_ 8), (0, u "java/lang/String"), (0, .methodref 7 10), (0, .nameAndType 5 11), (0, u "([C)V"), (0, .integer 2147483647), (0, .methodref 14 15), (0, .class_ 16), (0, .nameAndType 17 18), (0, u "com/example/holdfast/holdfast/rules/WhereIsConditionPinLaw"), (0, u "pick"), (0, u "(I)C"), (0, .methodref 14 20), (0, .nameAndType 21 22), (0, u "make"), (0, u "(ICCCCC)Ljava/lang/String;"), (0, .methodref 24 25), (0, .class_ 26), (0, .nameAndType 27 28), (0, u "com/example/holdfast/holdfast/rules/Where"), (0, u "isCondition"), (0, u "(Ljava/lang/String;)Z"), (3, u "law"), (0, u "(IIIIII)Z")] 2

def k1m0 : Method := { name := "<init>", desc := "()V", sig := { parameters := [], returnType := none }, accessFlags := 1, code := none }
def k1c1 : Code := { maxStack := 2, maxLocals := 1, code := method_2_code, exceptionTable := #[], attributes := #[] }
def k1m1 : Method := { name := "pick", desc := "(I)C", sig := { parameters := [.int], returnType := some .char }, accessFlags := 10, code := some k1c1 }
def k1c2 : Code := { maxStack := 6, maxLocals := 6, code := method_3_code, exceptionTable := #[], attributes := #[] }
def k1m2 : Method := { name := "make", desc := "(ICCCCC)Ljava/lang/String;", sig := { parameters := [.int, .char, .char, .char, .char, .char], returnType := some (.object "java/lang/String") }, accessFlags := 10, code := some k1c2 }
def k1c3 : Code := { maxStack := 6, maxLocals := 15, code := code, exceptionTable := #[], attributes := #[] }
def k1m3 : Method := { name := "law", desc := "(IIIIII)Z", sig := { parameters := [.int, .int, .int, .int, .int, .int], returnType := some .boolean }, accessFlags := 9, code := some k1c3 }
/-- com/example/holdfast/holdfast/rules/WhereIsConditionPinLaw -/
def k1 : Class := { plain "com/example/holdfast/holdfast/rules/WhereIsConditionPinLaw" (some 0) with
  accessFlags := 49
  interfaces := #[]
  cf := some (fileOf pool1 14 #[] #[{ accessFlags := 1, nameIndex := 5, descriptorIndex := 6, attributes := #[] }, { accessFlags := 10, nameIndex := 17, descriptorIndex := 18, attributes := #[] }, { accessFlags := 10, nameIndex := 21, descriptorIndex := 22, attributes := #[] }, { accessFlags := 9, nameIndex := 32, descriptorIndex := 33, attributes := #[] }] 49 2 #[] #[])
  fields := #[]
  methods := #[k1m0, k1m1, k1m2, k1m3]
  instanceTypes := #[]
  staticTypes := #[]
  resolved := Array.replicate 36 none
  statics := none }

def pool2 : Array CpInfo := pool [(1, .class_ 2), (0, u "java/io/Serializable"), (0, .class_ 4), (0, u "java/lang/Object")] 2

/-- java/io/Serializable -/
def k2 : Class := { plain "java/io/Serializable" (some 0) with
  accessFlags := 1537
  interfaces := #[]
  cf := some (fileOf pool2 1 #[] #[] 1537 3 #[] #[])
  fields := #[]
  methods := #[]
  instanceTypes := #[]
  staticTypes := #[]
  resolved := Array.replicate 7 none
  statics := none }

def pool3 : Array CpInfo := pool [(1, .class_ 2), (0, u "java/lang/Comparable"), (0, .class_ 4), (0, u "java/lang/Object")] 7

/-- java/lang/Comparable -/
def k3 : Class := { plain "java/lang/Comparable" (some 0) with
  accessFlags := 1537
  interfaces := #[]
  cf := some (fileOf pool3 1 #[] #[] 1537 3 #[] #[])
  fields := #[]
  methods := #[]
  instanceTypes := #[]
  staticTypes := #[]
  resolved := Array.replicate 12 none
  statics := none }

def pool4 : Array CpInfo := pool [(2, .class_ 4), (1, u "java/lang/CharSequence"), (42, .class_ 48), (0, u "java/lang/CharSequence$1CodePointIterator"), (10, .class_ 60), (0, u "java/lang/CharSequence$1CharIterator"), (5, .class_ 67), (0, u "java/lang/Object")] 63

/-- java/lang/CharSequence -/
def k4 : Class := { plain "java/lang/CharSequence" (some 0) with
  accessFlags := 1537
  interfaces := #[]
  cf := some (fileOf pool4 2 #[.nestMembers #[47, 59]] #[] 1537 66 #[] #[])
  fields := #[]
  methods := #[]
  instanceTypes := #[]
  staticTypes := #[]
  resolved := Array.replicate 131 none
  statics := none }

def pool5 : Array CpInfo := pool [(1, .class_ 2), (0, u "java/lang/constant/Constable"), (0, .class_ 4), (0, u "java/lang/Object")] 6

/-- java/lang/constant/Constable -/
def k5 : Class := { plain "java/lang/constant/Constable" (some 0) with
  accessFlags := 1537
  interfaces := #[]
  cf := some (fileOf pool5 1 #[] #[] 1537 3 #[] #[])
  fields := #[]
  methods := #[]
  instanceTypes := #[]
  staticTypes := #[]
  resolved := Array.replicate 11 none
  statics := none }

def pool6 : Array CpInfo := pool [(1, .class_ 2), (0, u "java/lang/constant/ConstantDesc"), (0, .class_ 4), (0, u "java/lang/Object")] 32

/-- java/lang/constant/ConstantDesc -/
def k6 : Class := { plain "java/lang/constant/ConstantDesc" (some 0) with
  accessFlags := 1537
  interfaces := #[]
  cf := some (fileOf pool6 1 #[] #[] 1537 3 #[] #[])
  fields := #[]
  methods := #[]
  instanceTypes := #[]
  staticTypes := #[]
  resolved := Array.replicate 37 none
  statics := none }

def pool7 : Array CpInfo := pool [(1, .methodref 2 3), (0, .class_ 4), (0, .nameAndType 5 6), (0, u "java/lang/Object"), (0, u "<init>"), (0, u "()V"), (0, .string 8), (0, u ""), (0, .fieldref 10 11), (0, .class_ 12), (0, .nameAndType 13 14), (0, u "java/lang/String"), (0, u "value"), (0, u "[B"), (0, .fieldref 10 16), (0, .nameAndType 17 18), (0, u "coder"), (0, u "B"), (2, u "hash"), (0, u "I"), (2, u "hashIsZero"), (0, u "Z"), (0, .methodref 10 28), (0, .nameAndType 5 29), (0, u "([CIILjava/lang/Void;)V"), (8, .fieldref 10 39), (0, .nameAndType 40 26), (0, u "COMPACT_STRINGS"), (1, .class_ 44), (1, u "java/lang/StringUTF16"), (0, u "compress"), (1, .methodref 42 48), (0, .nameAndType 49 50), (0, u "coderFromArrayLen"), (0, u "([BI)B"), (56, .class_ 109), (1, u "java/lang/StringLatin1"), (32, u "()Z"), (34, .methodref 42 178), (0, .nameAndType 45 179), (0, u "([CII)[B"), (154, u "()I"), (0, .methodref 10 336), (0, .nameAndType 17 337), (0, u "()B"), (154, .methodref 10 493), (0, .nameAndType 494 142), (0, u "isLatin1"), (10, .methodref 10 506), (0, .nameAndType 507 334), (0, u "length"), (67, .class_ 576), (0, u "java/lang/CharSequence"), (22, u "CASE_INSENSITIVE_ORDER"), (0, u "Ljava/util/Comparator;"), (32, .methodref 10 634), (0, .nameAndType 635 636), (0, u "indexOf"), (0, u "(II)I"), (0, .methodref 107 638), (0, .nameAndType 635 639), (0, u "([BIII)I"), (125, u "(I)I"), (244, u "([C)V"), (90, u "serialPersistentFields"), (0, u "[Ljava/io/ObjectStreamField;"), (0, .class_ 1104), (0, u "java/lang/String$CaseInsensitiveComparator"), (1, .class_ 1107), (0, u "java/io/Serializable"), (0, .class_ 1109), (0, u "java/lang/Comparable"), (0, .class_ 1111), (0, u "java/lang/constant/Constable"), (0, .class_ 1113), (0, u "java/lang/constant/ConstantDesc"), (2, u "serialVersionUID"), (0, u "J"), (3, u "REPL"), (0, u "C"), (2, u "LATIN1"), (1, u "UTF16")] 323

def k7m0 : Method := { name := "<init>", desc := "()V", sig := { parameters := [], returnType := none }, accessFlags := 1, code := none }
def k7c1 : Code := { maxStack := 5, maxLocals := 2, code := jdk_42_method_3_code, exceptionTable := #[], attributes := #[] }
def k7m1 : Method := { name := "<init>", desc := "([C)V", sig := { parameters := [(.array .char)], returnType := none }, accessFlags := 1, code := some k7c1 }
def k7c2 : Code := { maxStack := 2, maxLocals := 1, code := jdk_42_method_54_code, exceptionTable := #[], attributes := #[] }
def k7m2 : Method := { name := "length", desc := "()I", sig := { parameters := [], returnType := some .int }, accessFlags := 1, code := some k7c2 }
def k7c3 : Code := { maxStack := 3, maxLocals := 2, code := jdk_42_method_79_code, exceptionTable := #[], attributes := #[] }
def k7m3 : Method := { name := "indexOf", desc := "(I)I", sig := { parameters := [.int], returnType := some .int }, accessFlags := 1, code := some k7c3 }
def k7c4 : Code := { maxStack := 4, maxLocals := 3, code := jdk_42_method_80_code, exceptionTable := #[], attributes := #[] }
def k7m4 : Method := { name := "indexOf", desc := "(II)I", sig := { parameters := [.int, .int], returnType := some .int }, accessFlags := 1, code := some k7c4 }
def k7c5 : Code := { maxStack := 4, maxLocals := 6, code := jdk_42_method_149_code, exceptionTable := #[], attributes := #[] }
def k7m5 : Method := { name := "<init>", desc := "([CIILjava/lang/Void;)V", sig := { parameters := [(.array .char), .int, .int, (.object "java/lang/Void")], returnType := none }, accessFlags := 2, code := some k7c5 }
def k7c6 : Code := { maxStack := 1, maxLocals := 1, code := jdk_42_method_152_code, exceptionTable := #[], attributes := #[] }
def k7m6 : Method := { name := "coder", desc := "()B", sig := { parameters := [], returnType := some .byte }, accessFlags := 0, code := some k7c6 }
def k7c7 : Code := { maxStack := 1, maxLocals := 1, code := jdk_42_method_154_code, exceptionTable := #[], attributes := #[] }
def k7m7 : Method := { name := "isLatin1", desc := "()Z", sig := { parameters := [], returnType := some .boolean }, accessFlags := 0, code := some k7c7 }
/-- java/lang/String -/
def k7 : Class := { plain "java/lang/String" (some 0) with
  accessFlags := 49
  interfaces := #[2, 3, 4, 5, 6]
  cf := some (fileOf pool7 10 #[.nestMembers #[1103]] #[{ accessFlags := 1, nameIndex := 5, descriptorIndex := 6, attributes := #[] }, { accessFlags := 1, nameIndex := 5, descriptorIndex := 1010, attributes := #[] }, { accessFlags := 1, nameIndex := 507, descriptorIndex := 334, attributes := #[] }, { accessFlags := 1, nameIndex := 635, descriptorIndex := 765, attributes := #[] }, { accessFlags := 1, nameIndex := 635, descriptorIndex := 636, attributes := #[] }, { accessFlags := 2, nameIndex := 5, descriptorIndex := 29, attributes := #[] }, { accessFlags := 0, nameIndex := 17, descriptorIndex := 337, attributes := #[] }, { accessFlags := 0, nameIndex := 494, descriptorIndex := 142, attributes := #[] }] 49 2 #[1106, 1108, 575, 1110, 1112] #[{ accessFlags := 18, nameIndex := 13, descriptorIndex := 14, attributes := #[] }, { accessFlags := 18, nameIndex := 17, descriptorIndex := 18, attributes := #[] }, { accessFlags := 2, nameIndex := 21, descriptorIndex := 22, attributes := #[] }, { accessFlags := 2, nameIndex := 25, descriptorIndex := 26, attributes := #[] }, { accessFlags := 26, nameIndex := 1116, descriptorIndex := 1117, attributes := #[] }, { accessFlags := 24, nameIndex := 40, descriptorIndex := 26, attributes := #[] }, { accessFlags := 26, nameIndex := 1101, descriptorIndex := 1102, attributes := #[] }, { accessFlags := 26, nameIndex := 1121, descriptorIndex := 1122, attributes := #[] }, { accessFlags := 25, nameIndex := 599, descriptorIndex := 600, attributes := #[] }, { accessFlags := 24, nameIndex := 1125, descriptorIndex := 18, attributes := #[] }, { accessFlags := 24, nameIndex := 1127, descriptorIndex := 18, attributes := #[] }])
  fields := #[{ name := "value", type := (.array .byte), accessFlags := 18, slot := 0, constantValue := 0 }, { name := "coder", type := .byte, accessFlags := 18, slot := 1, constantValue := 0 }, { name := "hash", type := .int, accessFlags := 2, slot := 2, constantValue := 0 }, { name := "hashIsZero", type := .boolean, accessFlags := 2, slot := 3, constantValue := 0 }, { name := "serialVersionUID", type := .long, accessFlags := 26, slot := 0, constantValue := 0 }, { name := "COMPACT_STRINGS", type := .boolean, accessFlags := 24, slot := 1, constantValue := 0 }, { name := "serialPersistentFields", type := (.array (.object "java/io/ObjectStreamField")), accessFlags := 26, slot := 2, constantValue := 0 }, { name := "REPL", type := .char, accessFlags := 26, slot := 3, constantValue := 0 }, { name := "CASE_INSENSITIVE_ORDER", type := (.object "java/util/Comparator"), accessFlags := 25, slot := 4, constantValue := 0 }, { name := "LATIN1", type := .byte, accessFlags := 24, slot := 5, constantValue := 0 }, { name := "UTF16", type := .byte, accessFlags := 24, slot := 6, constantValue := 0 }]
  methods := #[k7m0, k7m1, k7m2, k7m3, k7m4, k7m5, k7m6, k7m7]
  instanceTypes := #[(.array .byte), .byte, .int, .boolean]
  staticTypes := #[.long, .boolean, (.array (.object "java/io/ObjectStreamField")), .char, (.object "java/util/Comparator"), .byte, .byte]
  resolved := Array.replicate 1451 none
  statics := some 0 }

def pool8 : Array CpInfo := pool [(2, .class_ 4), (1, u "java/lang/Object"), (21, .class_ 27), (0, u "java/lang/String"), (1, .class_ 31), (1, u "com/example/holdfast/holdfast/rules/Where"), (0, u "isCondition"), (0, u "(Ljava/lang/String;)Z"), (9, .methodref 26 44), (0, .nameAndType 45 46), (0, u "indexOf"), (0, u "(I)I"), (16, .class_ 64), (0, u "com/example/holdfast/holdfast/rules/Where$Condition"), (13, u "conditions"), (0, u "Ljava/util/List;"), (13, u "EVERY_ELEMENT"), (0, u "Lcom/example/holdfast/holdfast/rules/Where;"), (0, u "ANY_REST"), (0, u "Ljava/lang/String;")] 28

def k8c0 : Code := { maxStack := 2, maxLocals := 1, code := prog_28_method_2_code, exceptionTable := #[], attributes := #[] }
def k8m0 : Method := { name := "isCondition", desc := "(Ljava/lang/String;)Z", sig := { parameters := [(.object "java/lang/String")], returnType := some .boolean }, accessFlags := 8, code := some k8c0 }
/-- com/example/holdfast/holdfast/rules/Where -/
def k8 : Class := { plain "com/example/holdfast/holdfast/rules/Where" (some 0) with
  accessFlags := 48
  interfaces := #[]
  cf := some (fileOf pool8 29 #[.nestMembers #[63]] #[{ accessFlags := 8, nameIndex := 32, descriptorIndex := 33, attributes := #[] }] 48 2 #[] #[{ accessFlags := 24, nameIndex := 93, descriptorIndex := 94, attributes := #[] }, { accessFlags := 24, nameIndex := 95, descriptorIndex := 96, attributes := #[] }, { accessFlags := 18, nameIndex := 78, descriptorIndex := 79, attributes := #[] }])
  fields := #[{ name := "EVERY_ELEMENT", type := (.object "com/example/holdfast/holdfast/rules/Where"), accessFlags := 24, slot := 0, constantValue := 0 }, { name := "ANY_REST", type := (.object "java/lang/String"), accessFlags := 24, slot := 1, constantValue := 0 }, { name := "conditions", type := (.object "java/util/List"), accessFlags := 18, slot := 0, constantValue := 0 }]
  methods := #[k8m0]
  instanceTypes := #[(.object "java/util/List")]
  staticTypes := #[(.object "com/example/holdfast/holdfast/rules/Where"), (.object "java/lang/String")]
  resolved := Array.replicate 125 none
  statics := none }

def pool9 : Array CpInfo := pool [(4, .class_ 6), (1, u "java/lang/Object"), (0, u "<init>"), (0, u "()V"), (5, .class_ 16), (1, u "java/lang/StringLatin1"), (21, .methodref 39 40), (0, .class_ 41), (0, .nameAndType 42 43), (0, u "java/lang/Math"), (0, u "min"), (0, u "(II)I"), (44, .methodref 14 89), (0, .nameAndType 90 91), (0, u "canEncode"), (0, u "(I)Z"), (0, .methodref 39 93), (0, .nameAndType 94 43), (0, u "max"), (0, .methodref 14 96), (0, .nameAndType 97 98), (0, u "indexOfChar"), (0, u "([BIII)I"), (2, u "indexOf"), (19, u "$assertionsDisabled"), (0, u "Z"), (98, .class_ 223), (1, u "java/lang/StringLatin1$LinesSpliterator"), (166, .class_ 391), (0, u "java/lang/StringLatin1$CharsSpliterator")] 3

def k9m0 : Method := { name := "<init>", desc := "()V", sig := { parameters := [], returnType := none }, accessFlags := 0, code := none }
def k9c1 : Code := { maxStack := 2, maxLocals := 1, code := jdk_43_method_4_code, exceptionTable := #[], attributes := #[] }
def k9m1 : Method := { name := "canEncode", desc := "(I)Z", sig := { parameters := [.int], returnType := some .boolean }, accessFlags := 9, code := some k9c1 }
def k9c2 : Code := { maxStack := 4, maxLocals := 4, code := jdk_43_method_22_code, exceptionTable := #[], attributes := #[] }
def k9m2 : Method := { name := "indexOf", desc := "([BIII)I", sig := { parameters := [(.array .byte), .int, .int, .int], returnType := some .int }, accessFlags := 9, code := some k9c2 }
def k9c3 : Code := { maxStack := 2, maxLocals := 6, code := jdk_43_method_23_code, exceptionTable := #[], attributes := #[] }
def k9m3 : Method := { name := "indexOfChar", desc := "([BIII)I", sig := { parameters := [(.array .byte), .int, .int, .int], returnType := some .int }, accessFlags := 10, code := some k9c3 }
/-- java/lang/StringLatin1 -/
def k9 : Class := { plain "java/lang/StringLatin1" (some 0) with
  accessFlags := 48
  interfaces := #[]
  cf := some (fileOf pool9 14 #[.nestMembers #[390, 221]] #[{ accessFlags := 0, nameIndex := 7, descriptorIndex := 8, attributes := #[] }, { accessFlags := 9, nameIndex := 90, descriptorIndex := 91, attributes := #[] }, { accessFlags := 9, nameIndex := 101, descriptorIndex := 98, attributes := #[] }, { accessFlags := 10, nameIndex := 97, descriptorIndex := 98, attributes := #[] }] 48 4 #[] #[{ accessFlags := 4120, nameIndex := 121, descriptorIndex := 122, attributes := #[] }])
  fields := #[{ name := "$assertionsDisabled", type := .boolean, accessFlags := 4120, slot := 0, constantValue := 0 }]
  methods := #[k9m0, k9m1, k9m2, k9m3]
  instanceTypes := #[]
  staticTypes := #[.boolean]
  resolved := Array.replicate 395 none
  statics := none }

def pool10 : Array CpInfo := pool [(1, .class_ 2), (0, u "java/lang/Math"), (1, .class_ 6), (1, u "java/lang/Object"), (0, u "<init>"), (0, u "()V"), (89, .class_ 100), (1, u "java/lang/Math$RandomNumberGeneratorHolder"), (71, u "negativeZeroFloatBits"), (0, u "J"), (2, u "negativeZeroDoubleBits"), (21, u "max"), (2, u "min"), (43, u "$assertionsDisabled"), (0, u "Z"), (88, u "(II)I"), (2, u "twoToTheDoubleScaleDown"), (0, u "D"), (4, u "twoToTheDoubleScaleUp"), (9, u "E"), (3, u "PI"), (2, u "TAU"), (2, u "DEGREES_TO_RADIANS"), (0, u "RADIANS_TO_DEGREES")] 94

def k10m0 : Method := { name := "<init>", desc := "()V", sig := { parameters := [], returnType := none }, accessFlags := 2, code := none }
def k10c1 : Code := { maxStack := 2, maxLocals := 2, code := jdk_29_method_65_code, exceptionTable := #[], attributes := #[] }
def k10m1 : Method := { name := "max", desc := "(II)I", sig := { parameters := [.int, .int], returnType := some .int }, accessFlags := 9, code := some k10c1 }
def k10c2 : Code := { maxStack := 2, maxLocals := 2, code := jdk_29_method_69_code, exceptionTable := #[], attributes := #[] }
def k10m2 : Method := { name := "min", desc := "(II)I", sig := { parameters := [.int, .int], returnType := some .int }, accessFlags := 9, code := some k10c2 }
/-- java/lang/Math -/
def k10 : Class := { plain "java/lang/Math" (some 0) with
  accessFlags := 49
  interfaces := #[]
  cf := some (fileOf pool10 1 #[.nestMembers #[98]] #[{ accessFlags := 2, nameIndex := 7, descriptorIndex := 8, attributes := #[] }, { accessFlags := 9, nameIndex := 198, descriptorIndex := 335, attributes := #[] }, { accessFlags := 9, nameIndex := 201, descriptorIndex := 335, attributes := #[] }] 49 4 #[] #[{ accessFlags := 25, nameIndex := 354, descriptorIndex := 339, attributes := #[] }, { accessFlags := 25, nameIndex := 358, descriptorIndex := 339, attributes := #[] }, { accessFlags := 25, nameIndex := 361, descriptorIndex := 339, attributes := #[] }, { accessFlags := 26, nameIndex := 364, descriptorIndex := 339, attributes := #[] }, { accessFlags := 26, nameIndex := 365, descriptorIndex := 339, attributes := #[] }, { accessFlags := 26, nameIndex := 172, descriptorIndex := 173, attributes := #[] }, { accessFlags := 26, nameIndex := 176, descriptorIndex := 173, attributes := #[] }, { accessFlags := 8, nameIndex := 344, descriptorIndex := 339, attributes := #[] }, { accessFlags := 8, nameIndex := 338, descriptorIndex := 339, attributes := #[] }, { accessFlags := 4120, nameIndex := 245, descriptorIndex := 246, attributes := #[] }])
  fields := #[{ name := "E", type := .double, accessFlags := 25, slot := 0, constantValue := 0 }, { name := "PI", type := .double, accessFlags := 25, slot := 1, constantValue := 0 }, { name := "TAU", type := .double, accessFlags := 25, slot := 2, constantValue := 0 }, { name := "DEGREES_TO_RADIANS", type := .double, accessFlags := 26, slot := 3, constantValue := 0 }, { name := "RADIANS_TO_DEGREES", type := .double, accessFlags := 26, slot := 4, constantValue := 0 }, { name := "negativeZeroFloatBits", type := .long, accessFlags := 26, slot := 5, constantValue := 0 }, { name := "negativeZeroDoubleBits", type := .long, accessFlags := 26, slot := 6, constantValue := 0 }, { name := "twoToTheDoubleScaleUp", type := .double, accessFlags := 8, slot := 7, constantValue := 0 }, { name := "twoToTheDoubleScaleDown", type := .double, accessFlags := 8, slot := 8, constantValue := 0 }, { name := "$assertionsDisabled", type := .boolean, accessFlags := 4120, slot := 9, constantValue := 0 }]
  methods := #[k10m0, k10m1, k10m2]
  instanceTypes := #[]
  staticTypes := #[.double, .double, .double, .double, .double, .long, .long, .double, .double, .boolean]
  resolved := Array.replicate 460 none
  statics := none }

def pool11 : Array CpInfo := pool [(6, .class_ 8), (1, u "java/lang/Object"), (0, u "<init>"), (0, u "()V"), (1, .class_ 14), (1, u "java/lang/StringUTF16"), (31, u "$assertionsDisabled"), (0, u "Z"), (13, u "HI_BYTE_SHIFT"), (0, u "I"), (2, u "LO_BYTE_SHIFT"), (49, .methodref 12 116), (0, .nameAndType 117 118), (0, u "compress"), (0, u "([CI[BII)I"), (3, u "([CII)[B"), (138, u "coderFromArrayLen"), (0, u "([BI)B"), (106, .class_ 371), (1, u "java/lang/StringUTF16$LinesSpliterator"), (58, u "MAX_LENGTH"), (196, .class_ 628), (0, u "java/lang/StringUTF16$CodePointsSpliterator"), (0, .class_ 630), (0, u "java/lang/StringUTF16$CharsSpliterator")] 4

def k11m0 : Method := { name := "<init>", desc := "()V", sig := { parameters := [], returnType := none }, accessFlags := 0, code := none }
def k11c1 : Code := { maxStack := 2, maxLocals := 2, code := jdk_52_method_15_code, exceptionTable := #[], attributes := #[] }
def k11m1 : Method := { name := "coderFromArrayLen", desc := "([BI)B", sig := { parameters := [(.array .byte), .int], returnType := some .byte }, accessFlags := 8, code := some k11c1 }
def k11c2 : Code := { maxStack := 5, maxLocals := 6, code := jdk_52_method_16_code, exceptionTable := #[], attributes := #[] }
def k11m2 : Method := { name := "compress", desc := "([CII)[B", sig := { parameters := [(.array .char), .int, .int], returnType := some (.array .byte) }, accessFlags := 9, code := some k11c2 }
def k11c3 : Code := { maxStack := 3, maxLocals := 7, code := jdk_52_method_21_code, exceptionTable := #[], attributes := #[] }
def k11m3 : Method := { name := "compress", desc := "([CI[BII)I", sig := { parameters := [(.array .char), .int, (.array .byte), .int, .int], returnType := some .int }, accessFlags := 9, code := some k11c3 }
/-- java/lang/StringUTF16 -/
def k11 : Class := { plain "java/lang/StringUTF16" (some 0) with
  accessFlags := 48
  interfaces := #[]
  cf := some (fileOf pool11 12 #[.nestMembers #[627, 629, 369]] #[{ accessFlags := 0, nameIndex := 9, descriptorIndex := 10, attributes := #[] }, { accessFlags := 8, nameIndex := 261, descriptorIndex := 262, attributes := #[] }, { accessFlags := 9, nameIndex := 117, descriptorIndex := 122, attributes := #[] }, { accessFlags := 9, nameIndex := 117, descriptorIndex := 118, attributes := #[] }] 48 6 #[] #[{ accessFlags := 26, nameIndex := 61, descriptorIndex := 62, attributes := #[] }, { accessFlags := 26, nameIndex := 65, descriptorIndex := 62, attributes := #[] }, { accessFlags := 24, nameIndex := 430, descriptorIndex := 62, attributes := #[] }, { accessFlags := 4120, nameIndex := 46, descriptorIndex := 47, attributes := #[] }])
  fields := #[{ name := "HI_BYTE_SHIFT", type := .int, accessFlags := 26, slot := 0, constantValue := 0 }, { name := "LO_BYTE_SHIFT", type := .int, accessFlags := 26, slot := 1, constantValue := 0 }, { name := "MAX_LENGTH", type := .int, accessFlags := 24, slot := 2, constantValue := 0 }, { name := "$assertionsDisabled", type := .boolean, accessFlags := 4120, slot := 3, constantValue := 0 }]
  methods := #[k11m0, k11m1, k11m2, k11m3]
  instanceTypes := #[]
  staticTypes := #[.int, .int, .int, .boolean]
  resolved := Array.replicate 635 none
  statics := none }

def pool12 : Array CpInfo := pool [(2, .class_ 4), (1, u "java/lang/Object"), (0, u "<init>"), (0, u "()V"), (17, .class_ 26), (1, u "jdk/internal/util/Preconditions"), (28, .class_ 56), (0, u "jdk/internal/util/Preconditions$4"), (57, .class_ 115), (0, u "jdk/internal/util/Preconditions$1"), (7, u "SIOOBE_FORMATTER"), (0, u "Ljava/util/function/BiFunction;"), (0, .class_ 126), (0, u "jdk/internal/util/Preconditions$2"), (3, u "AIOOBE_FORMATTER"), (0, .class_ 132), (0, u "jdk/internal/util/Preconditions$3"), (3, u "IOOBE_FORMATTER")] 57

def k12m0 : Method := { name := "<init>", desc := "()V", sig := { parameters := [], returnType := none }, accessFlags := 1, code := none }
/-- jdk/internal/util/Preconditions -/
def k12 : Class := { plain "jdk/internal/util/Preconditions" (some 0) with
  accessFlags := 33
  interfaces := #[]
  cf := some (fileOf pool12 24 #[.nestMembers #[55, 131, 125, 114]] #[{ accessFlags := 1, nameIndex := 5, descriptorIndex := 6, attributes := #[] }] 33 2 #[] #[{ accessFlags := 25, nameIndex := 123, descriptorIndex := 124, attributes := #[] }, { accessFlags := 25, nameIndex := 130, descriptorIndex := 124, attributes := #[] }, { accessFlags := 25, nameIndex := 136, descriptorIndex := 124, attributes := #[] }])
  fields := #[{ name := "SIOOBE_FORMATTER", type := (.object "java/util/function/BiFunction"), accessFlags := 25, slot := 0, constantValue := 0 }, { name := "AIOOBE_FORMATTER", type := (.object "java/util/function/BiFunction"), accessFlags := 25, slot := 1, constantValue := 0 }, { name := "IOOBE_FORMATTER", type := (.object "java/util/function/BiFunction"), accessFlags := 25, slot := 2, constantValue := 0 }]
  methods := #[k12m0]
  instanceTypes := #[]
  staticTypes := #[(.object "java/util/function/BiFunction"), (.object "java/util/function/BiFunction"), (.object "java/util/function/BiFunction")]
  resolved := Array.replicate 194 none
  statics := some 1 }

def pool13 : Array CpInfo := pool [(9, u "<init>"), (6, .class_ 18), (1, u "java/lang/Object"), (0, u "()V"), (1, .class_ 23), (1, u "jdk/internal/util/ArraysSupport"), (0, u "LOG2_ARRAY_LONG_INDEX_SCALE"), (0, u "I"), (2, u "U"), (0, u "Ljdk/internal/misc/Unsafe;"), (8, u "BIG_ENDIAN"), (0, u "Z"), (8, u "LOG2_BYTE_BIT_SIZE"), (4, u "LOG2_ARRAY_INT_INDEX_SCALE"), (54, u "JLA"), (0, u "Ljdk/internal/access/JavaLangAccess;"), (11, u "LOG2_ARRAY_BOOLEAN_INDEX_SCALE"), (9, u "LOG2_ARRAY_BYTE_INDEX_SCALE"), (5, u "LOG2_ARRAY_CHAR_INDEX_SCALE"), (5, u "LOG2_ARRAY_SHORT_INDEX_SCALE"), (18, u "LOG2_ARRAY_FLOAT_INDEX_SCALE"), (24, u "LOG2_ARRAY_DOUBLE_INDEX_SCALE"), (89, u "T_BOOLEAN"), (2, u "T_CHAR"), (1, u "T_FLOAT"), (1, u "T_DOUBLE"), (1, u "T_BYTE"), (1, u "T_SHORT"), (1, u "T_INT"), (1, u "T_LONG"), (1, u "SOFT_MAX_ARRAY_LENGTH")] 83

def k13m0 : Method := { name := "<init>", desc := "()V", sig := { parameters := [], returnType := none }, accessFlags := 2, code := none }
/-- jdk/internal/util/ArraysSupport -/
def k13 : Class := { plain "jdk/internal/util/ArraysSupport" (some 0) with
  accessFlags := 33
  interfaces := #[]
  cf := some (fileOf pool13 21 #[] #[{ accessFlags := 2, nameIndex := 9, descriptorIndex := 19, attributes := #[] }] 33 16 #[] #[{ accessFlags := 24, nameIndex := 28, descriptorIndex := 29, attributes := #[] }, { accessFlags := 26, nameIndex := 38, descriptorIndex := 39, attributes := #[] }, { accessFlags := 25, nameIndex := 121, descriptorIndex := 25, attributes := #[] }, { accessFlags := 25, nameIndex := 131, descriptorIndex := 25, attributes := #[] }, { accessFlags := 25, nameIndex := 137, descriptorIndex := 25, attributes := #[] }, { accessFlags := 25, nameIndex := 143, descriptorIndex := 25, attributes := #[] }, { accessFlags := 25, nameIndex := 53, descriptorIndex := 25, attributes := #[] }, { accessFlags := 25, nameIndex := 24, descriptorIndex := 25, attributes := #[] }, { accessFlags := 25, nameIndex := 162, descriptorIndex := 25, attributes := #[] }, { accessFlags := 25, nameIndex := 187, descriptorIndex := 25, attributes := #[] }, { accessFlags := 26, nameIndex := 48, descriptorIndex := 25, attributes := #[] }, { accessFlags := 25, nameIndex := 277, descriptorIndex := 25, attributes := #[] }, { accessFlags := 25, nameIndex := 280, descriptorIndex := 25, attributes := #[] }, { accessFlags := 25, nameIndex := 282, descriptorIndex := 25, attributes := #[] }, { accessFlags := 25, nameIndex := 284, descriptorIndex := 25, attributes := #[] }, { accessFlags := 25, nameIndex := 286, descriptorIndex := 25, attributes := #[] }, { accessFlags := 25, nameIndex := 288, descriptorIndex := 25, attributes := #[] }, { accessFlags := 25, nameIndex := 290, descriptorIndex := 25, attributes := #[] }, { accessFlags := 25, nameIndex := 292, descriptorIndex := 25, attributes := #[] }, { accessFlags := 26, nameIndex := 108, descriptorIndex := 109, attributes := #[] }, { accessFlags := 25, nameIndex := 294, descriptorIndex := 25, attributes := #[] }])
  fields := #[{ name := "U", type := (.object "jdk/internal/misc/Unsafe"), accessFlags := 24, slot := 0, constantValue := 0 }, { name := "BIG_ENDIAN", type := .boolean, accessFlags := 26, slot := 1, constantValue := 0 }, { name := "LOG2_ARRAY_BOOLEAN_INDEX_SCALE", type := .int, accessFlags := 25, slot := 2, constantValue := 0 }, { name := "LOG2_ARRAY_BYTE_INDEX_SCALE", type := .int, accessFlags := 25, slot := 3, constantValue := 0 }, { name := "LOG2_ARRAY_CHAR_INDEX_SCALE", type := .int, accessFlags := 25, slot := 4, constantValue := 0 }, { name := "LOG2_ARRAY_SHORT_INDEX_SCALE", type := .int, accessFlags := 25, slot := 5, constantValue := 0 }, { name := "LOG2_ARRAY_INT_INDEX_SCALE", type := .int, accessFlags := 25, slot := 6, constantValue := 0 }, { name := "LOG2_ARRAY_LONG_INDEX_SCALE", type := .int, accessFlags := 25, slot := 7, constantValue := 0 }, { name := "LOG2_ARRAY_FLOAT_INDEX_SCALE", type := .int, accessFlags := 25, slot := 8, constantValue := 0 }, { name := "LOG2_ARRAY_DOUBLE_INDEX_SCALE", type := .int, accessFlags := 25, slot := 9, constantValue := 0 }, { name := "LOG2_BYTE_BIT_SIZE", type := .int, accessFlags := 26, slot := 10, constantValue := 0 }, { name := "T_BOOLEAN", type := .int, accessFlags := 25, slot := 11, constantValue := 0 }, { name := "T_CHAR", type := .int, accessFlags := 25, slot := 12, constantValue := 0 }, { name := "T_FLOAT", type := .int, accessFlags := 25, slot := 13, constantValue := 0 }, { name := "T_DOUBLE", type := .int, accessFlags := 25, slot := 14, constantValue := 0 }, { name := "T_BYTE", type := .int, accessFlags := 25, slot := 15, constantValue := 0 }, { name := "T_SHORT", type := .int, accessFlags := 25, slot := 16, constantValue := 0 }, { name := "T_INT", type := .int, accessFlags := 25, slot := 17, constantValue := 0 }, { name := "T_LONG", type := .int, accessFlags := 25, slot := 18, constantValue := 0 }, { name := "JLA", type := (.object "jdk/internal/access/JavaLangAccess"), accessFlags := 26, slot := 19, constantValue := 0 }, { name := "SOFT_MAX_ARRAY_LENGTH", type := .int, accessFlags := 25, slot := 20, constantValue := 0 }]
  methods := #[k13m0]
  instanceTypes := #[]
  staticTypes := #[(.object "jdk/internal/misc/Unsafe"), .boolean, .int, .int, .int, .int, .int, .int, .int, .int, .int, .int, .int, .int, .int, .int, .int, .int, .int, (.object "jdk/internal/access/JavaLangAccess"), .int]
  resolved := Array.replicate 378 none
  statics := none }

def pool14 : Array CpInfo := pool [(1, u "java/lang/Cloneable"), (0, .class_ 1), (0, u "java/lang/Object"), (0, .class_ 3)] 3

/-- java/lang/Cloneable -/
def k14 : Class := { plain "java/lang/Cloneable" (some 0) with
  accessFlags := 1537
  interfaces := #[]
  cf := some (fileOf pool14 2 #[] #[] 1537 4 #[] #[])
  fields := #[]
  methods := #[]
  instanceTypes := #[]
  staticTypes := #[]
  resolved := Array.replicate 8 none
  statics := none }

/-- the primitive byte -/
def k15 : Class := { plain "byte" none with kind := .primitive 'B', accessFlags := 0x411 }
/-- [B -/
def k16 : Class := { plain "[B" (some 0) with kind := .array 15 .byte, interfaces := #[14, 2], accessFlags := 1041 }

/-- the primitive char -/
def k17 : Class := { plain "char" none with kind := .primitive 'C', accessFlags := 0x411 }
/-- [C -/
def k18 : Class := { plain "[C" (some 0) with kind := .array 17 .char, interfaces := #[14, 2], accessFlags := 1041 }

/-- the primitive int -/
def k19 : Class := { plain "int" none with kind := .primitive 'I', accessFlags := 0x411 }
/-- [I -/
def k20 : Class := { plain "[I" (some 0) with kind := .array 19 .int, interfaces := #[14, 2], accessFlags := 1041 }

def heap : Heap := #[{ cls := 7, slots := #[.long 0, .int 1, .null, .int 0, .null, .int 0, .int 0], vm := .statics 7 },
  { cls := 12, slots := #[.null, .null, .null], vm := .statics 12 }]
def classes : Array Class := #[k0, k1, k2, k3, k4, k5, k6, k7, k8, k9, k10, k11, k12, k13, k14, k15, k16, k17, k18, k19, k20]
def interned : List (Array UInt16 × Addr) := []
def slotsUsed : Nat := 10
def theMethod : MethodId := ⟨1, 3⟩
def args0 : Array Value := #[.int 5, .int 5, .int 5, .int 5, .int 5, .int 5]
def aboutOver (below : List Frame) : State where
  vm := { classes := classes, interned := interned.toArray }
  heap := heap
  slotsUsed := slotsUsed
  threads := #[{ frames := .invoking theMethod args0 :: below }]
def below0 : List Frame := [.native { method := ⟨0, 0⟩, args := #[] }]
def about1 : State := aboutOver below0
def p0 : Program := .bare "" "" ""
def e0 : Env := launch0.env 0 0 0
theorem w_frames : about1.frames = Frame.invoking theMethod args0 :: below0 := rfl
set_option maxRecDepth 65536 in
theorem w_args : argsFit about1.vm theMethod args0 = true := by decide +kernel
set_option maxRecDepth 65536 in
theorem w_heap : heapFits about1 = true := by decide +kernel
set_option maxRecDepth 65536 in
theorem w_runnable : about1.curStatus? = some .runnable := by decide +kernel
set_option maxRecDepth 65536 in
theorem w_alone : about1.alone = true := by decide +kernel
set_option maxRecDepth 65536 in
theorem w_named : about1.methodNamed? x = some theMethod := by decide +kernel
set_option maxRecDepth 65536 in
theorem w_hears : about1.hears theMethod below0 = true := by decide +kernel
set_option maxRecDepth 65536 in
theorem w_ripe : about1.ripe theMethod args0 below0 = true := by decide +kernel
theorem w_running : about1.status = .running := rfl
set_option maxRecDepth 65536 in
theorem w_room : about1.hasRoom e0.platform room_1 = true :=
  launch0.hasRoom_least _ room_1 (by decide +kernel) (by decide +kernel) (by decide +kernel) (by decide +kernel) (by decide +kernel) (by decide +kernel)
theorem allAtoms_all (ts : List Jvm.Cond) (a : Array Jvm.Value) (st : Jvm.State) : (allAtoms ts).before a st = ts.all (fun c => c.before a st) := by
  induction ts with
  | nil => rfl
  | cons c t ih =>
    show (Jvm.Cond.and c (allAtoms t)).before a st = _
    rw [Jvm.Cond.before_and, ih, List.all_cons]
def words1 : List Jvm.Cond := Jvm.Cond.code x code maxLocals ret :: tables_1
/-- a 'code' word, met by the world's own term for the bytes: nothing is compared byte by byte -/
theorem code_word {y : MethodName} {bytes : ByteArray} {mx : Nat} {rt : Option FieldType} {a : Array Value} {s : State} {m : MethodId} {meth : Method} {c : Code} (h1 : s.methodNamed? y = some m) (h2 : s.vm.method? m = some meth) (h3 : meth.code = some c) (h4 : c.code = bytes)
    (h5 : (c.maxLocals == mx && c.exceptionTable.isEmpty && decide (c.maxStack ≤ mostOperands) && decide (meth.sig.returnType = rt) && !meth.locks && decide (parseMethodDescriptor y.desc = some meth.sig)) = true) : (Jvm.Cond.code y bytes mx rt).before a s = true := by
  simp only [Bool.and_eq_true, beq_iff_eq, Bool.not_eq_true', decide_eq_true_eq] at h5
  obtain ⟨⟨⟨⟨⟨g1, g2⟩, g3⟩, g4⟩, g5⟩, g6⟩ := h5
  simp [Cond.before, Cond.holds, Cond.value, h1, h2, h3, h4, g1, g2, g3, g4, g5, g6]
def isCode : Jvm.Cond → Bool
  | .code _ _ _ _ => true
  | _ => false
theorem all_split {L : List Jvm.Cond} {P : Jvm.Cond → Bool} (h1 : L.all (fun c => isCode c || P c) = true) (h2 : ∀ c ∈ L.filter isCode, P c = true) : L.all P = true := by
  refine List.all_eq_true.mpr fun c hc => ?_
  have h := List.all_eq_true.mp h1 c hc
  rcases Bool.eq_false_or_eq_true (isCode c) with hi | hi
  · exact h2 c (List.mem_filter.mpr ⟨hc, hi⟩)
  · simpa [hi] using h
set_option maxRecDepth 65536 in
theorem w_c0 : (Jvm.Cond.code x code maxLocals ret).before args0 about1 = true := code_word (m := ⟨1, 3⟩) (meth := k1m3) (c := k1c3) (by decide +kernel) rfl rfl rfl (by decide +kernel)
set_option maxRecDepth 65536 in
theorem w_c1 : (Jvm.Cond.code ({ cls := "com/example/holdfast/holdfast/rules/WhereIsConditionPinLaw", name := "pick", desc := "(I)C" } : Jvm.MethodName) method_2_code (1 : Nat) (Option.some Jvm.ClassFile.FieldType.char)).before args0 about1 = true := code_word (m := ⟨1, 1⟩) (meth := k1m1) (c := k1c1) (by decide +kernel) rfl rfl rfl (by decide +kernel)
set_option maxRecDepth 65536 in
theorem w_c2 : (Jvm.Cond.code ({ cls := "com/example/holdfast/holdfast/rules/WhereIsConditionPinLaw", name := "make", desc := "(ICCCCC)Ljava/lang/String;" } : Jvm.MethodName) method_3_code (6 : Nat) (Option.some (Jvm.ClassFile.FieldType.object "java/lang/String"))).before args0 about1 = true := code_word (m := ⟨1, 2⟩) (meth := k1m2) (c := k1c2) (by decide +kernel) rfl rfl rfl (by decide +kernel)
set_option maxRecDepth 65536 in
theorem w_c3 : (Jvm.Cond.code ({ cls := "java/lang/String", name := "<init>", desc := "([C)V" } : Jvm.MethodName) jdk_42_method_3_code (2 : Nat) (Option.none : Option Jvm.ClassFile.FieldType)).before args0 about1 = true := code_word (m := ⟨7, 1⟩) (meth := k7m1) (c := k7c1) (by decide +kernel) rfl rfl rfl (by decide +kernel)
set_option maxRecDepth 65536 in
theorem w_c4 : (Jvm.Cond.code ({ cls := "java/lang/String", name := "<init>", desc := "([CIILjava/lang/Void;)V" } : Jvm.MethodName) jdk_42_method_149_code (6 : Nat) (Option.none : Option Jvm.ClassFile.FieldType)).before args0 about1 = true := code_word (m := ⟨7, 5⟩) (meth := k7m5) (c := k7c5) (by decide +kernel) rfl rfl rfl (by decide +kernel)
set_option maxRecDepth 65536 in
theorem w_c5 : (Jvm.Cond.code ({ cls := "java/lang/Object", name := "<init>", desc := "()V" } : Jvm.MethodName) object_method_1_code (1 : Nat) (Option.none : Option Jvm.ClassFile.FieldType)).before args0 about1 = true := code_word (m := ⟨0, 0⟩) (meth := k0m0) (c := k0c0) (by decide +kernel) rfl rfl rfl (by decide +kernel)
set_option maxRecDepth 65536 in
theorem w_c6 : (Jvm.Cond.code ({ cls := "com/example/holdfast/holdfast/rules/Where", name := "isCondition", desc := "(Ljava/lang/String;)Z" } : Jvm.MethodName) prog_28_method_2_code (1 : Nat) (Option.some Jvm.ClassFile.FieldType.boolean)).before args0 about1 = true := code_word (m := ⟨8, 0⟩) (meth := k8m0) (c := k8c0) (by decide +kernel) rfl rfl rfl (by decide +kernel)
set_option maxRecDepth 65536 in
theorem w_c7 : (Jvm.Cond.code ({ cls := "java/lang/String", name := "indexOf", desc := "(I)I" } : Jvm.MethodName) jdk_42_method_79_code (2 : Nat) (Option.some Jvm.ClassFile.FieldType.int)).before args0 about1 = true := code_word (m := ⟨7, 3⟩) (meth := k7m3) (c := k7c3) (by decide +kernel) rfl rfl rfl (by decide +kernel)
set_option maxRecDepth 65536 in
theorem w_c8 : (Jvm.Cond.code ({ cls := "java/lang/String", name := "indexOf", desc := "(II)I" } : Jvm.MethodName) jdk_42_method_80_code (3 : Nat) (Option.some Jvm.ClassFile.FieldType.int)).before args0 about1 = true := code_word (m := ⟨7, 4⟩) (meth := k7m4) (c := k7c4) (by decide +kernel) rfl rfl rfl (by decide +kernel)
set_option maxRecDepth 65536 in
theorem w_c9 : (Jvm.Cond.code ({ cls := "java/lang/String", name := "isLatin1", desc := "()Z" } : Jvm.MethodName) jdk_42_method_154_code (1 : Nat) (Option.some Jvm.ClassFile.FieldType.boolean)).before args0 about1 = true := code_word (m := ⟨7, 7⟩) (meth := k7m7) (c := k7c7) (by decide +kernel) rfl rfl rfl (by decide +kernel)
set_option maxRecDepth 65536 in
theorem w_c10 : (Jvm.Cond.code ({ cls := "java/lang/String", name := "length", desc := "()I" } : Jvm.MethodName) jdk_42_method_54_code (1 : Nat) (Option.some Jvm.ClassFile.FieldType.int)).before args0 about1 = true := code_word (m := ⟨7, 2⟩) (meth := k7m2) (c := k7c2) (by decide +kernel) rfl rfl rfl (by decide +kernel)
set_option maxRecDepth 65536 in
theorem w_c11 : (Jvm.Cond.code ({ cls := "java/lang/String", name := "coder", desc := "()B" } : Jvm.MethodName) jdk_42_method_152_code (1 : Nat) (Option.some Jvm.ClassFile.FieldType.byte)).before args0 about1 = true := code_word (m := ⟨7, 6⟩) (meth := k7m6) (c := k7c6) (by decide +kernel) rfl rfl rfl (by decide +kernel)
set_option maxRecDepth 65536 in
theorem w_c12 : (Jvm.Cond.code ({ cls := "java/lang/StringLatin1", name := "indexOf", desc := "([BIII)I" } : Jvm.MethodName) jdk_43_method_22_code (4 : Nat) (Option.some Jvm.ClassFile.FieldType.int)).before args0 about1 = true := code_word (m := ⟨9, 2⟩) (meth := k9m2) (c := k9c2) (by decide +kernel) rfl rfl rfl (by decide +kernel)
set_option maxRecDepth 65536 in
theorem w_c13 : (Jvm.Cond.code ({ cls := "java/lang/StringLatin1", name := "canEncode", desc := "(I)Z" } : Jvm.MethodName) jdk_43_method_4_code (1 : Nat) (Option.some Jvm.ClassFile.FieldType.boolean)).before args0 about1 = true := code_word (m := ⟨9, 1⟩) (meth := k9m1) (c := k9c1) (by decide +kernel) rfl rfl rfl (by decide +kernel)
set_option maxRecDepth 65536 in
theorem w_c14 : (Jvm.Cond.code ({ cls := "java/lang/Math", name := "max", desc := "(II)I" } : Jvm.MethodName) jdk_29_method_65_code (2 : Nat) (Option.some Jvm.ClassFile.FieldType.int)).before args0 about1 = true := code_word (m := ⟨10, 1⟩) (meth := k10m1) (c := k10c1) (by decide +kernel) rfl rfl rfl (by decide +kernel)
set_option maxRecDepth 65536 in
theorem w_c15 : (Jvm.Cond.code ({ cls := "java/lang/Math", name := "min", desc := "(II)I" } : Jvm.MethodName) jdk_29_method_69_code (2 : Nat) (Option.some Jvm.ClassFile.FieldType.int)).before args0 about1 = true := code_word (m := ⟨10, 2⟩) (meth := k10m2) (c := k10c2) (by decide +kernel) rfl rfl rfl (by decide +kernel)
set_option maxRecDepth 65536 in
theorem w_c16 : (Jvm.Cond.code ({ cls := "java/lang/StringUTF16", name := "compress", desc := "([CII)[B" } : Jvm.MethodName) jdk_52_method_16_code (6 : Nat) (Option.some (Jvm.ClassFile.FieldType.array Jvm.ClassFile.FieldType.byte))).before args0 about1 = true := code_word (m := ⟨11, 2⟩) (meth := k11m2) (c := k11c2) (by decide +kernel) rfl rfl rfl (by decide +kernel)
set_option maxRecDepth 65536 in
theorem w_c17 : (Jvm.Cond.code ({ cls := "java/lang/StringUTF16", name := "compress", desc := "([CI[BII)I" } : Jvm.MethodName) jdk_52_method_21_code (7 : Nat) (Option.some Jvm.ClassFile.FieldType.int)).before args0 about1 = true := code_word (m := ⟨11, 3⟩) (meth := k11m3) (c := k11c3) (by decide +kernel) rfl rfl rfl (by decide +kernel)
set_option maxRecDepth 65536 in
theorem w_c18 : (Jvm.Cond.code ({ cls := "java/lang/StringUTF16", name := "coderFromArrayLen", desc := "([BI)B" } : Jvm.MethodName) jdk_52_method_15_code (2 : Nat) (Option.some Jvm.ClassFile.FieldType.byte)).before args0 about1 = true := code_word (m := ⟨11, 1⟩) (meth := k11m1) (c := k11c1) (by decide +kernel) rfl rfl rfl (by decide +kernel)
set_option maxRecDepth 65536 in
theorem w_c19 : (Jvm.Cond.code ({ cls := "java/lang/StringLatin1", name := "indexOfChar", desc := "([BIII)I" } : Jvm.MethodName) jdk_43_method_23_code (6 : Nat) (Option.some Jvm.ClassFile.FieldType.int)).before args0 about1 = true := code_word (m := ⟨9, 3⟩) (meth := k9m3) (c := k9c3) (by decide +kernel) rfl rfl rfl (by decide +kernel)
def codes1 : List Jvm.Cond := [Jvm.Cond.code x code maxLocals ret, Jvm.Cond.code ({ cls := "com/example/holdfast/holdfast/rules/WhereIsConditionPinLaw", name := "pick", desc := "(I)C" } : Jvm.MethodName) method_2_code (1 : Nat) (Option.some Jvm.ClassFile.FieldType.char), Jvm.Cond.code ({ cls := "com/example/holdfast/holdfast/rules/WhereIsConditionPinLaw", name := "make", desc := "(ICCCCC)Ljava/lang/String;" } : Jvm.MethodName) method_3_code (6 : Nat) (Option.some (Jvm.ClassFile.FieldType.object "java/lang/String")), Jvm.Cond.code ({ cls := "java/lang/String", name := "<init>", desc := "([C)V" } : Jvm.MethodName) jdk_42_method_3_code (2 : Nat) (Option.none : Option Jvm.ClassFile.FieldType), Jvm.Cond.code ({ cls := "java/lang/String", name := "<init>", desc := "([CIILjava/lang/Void;)V" } : Jvm.MethodName) jdk_42_method_149_code (6 : Nat) (Option.none : Option Jvm.ClassFile.FieldType), Jvm.Cond.code ({ cls := "java/lang/Object", name := "<init>", desc := "()V" } : Jvm.MethodName) object_method_1_code (1 : Nat) (Option.none : Option Jvm.ClassFile.FieldType), Jvm.Cond.code ({ cls := "com/example/holdfast/holdfast/rules/Where", name := "isCondition", desc := "(Ljava/lang/String;)Z" } : Jvm.MethodName) prog_28_method_2_code (1 : Nat) (Option.some Jvm.ClassFile.FieldType.boolean), Jvm.Cond.code ({ cls := "java/lang/String", name := "indexOf", desc := "(I)I" } : Jvm.MethodName) jdk_42_method_79_code (2 : Nat) (Option.some Jvm.ClassFile.FieldType.int), Jvm.Cond.code ({ cls := "java/lang/String", name := "indexOf", desc := "(II)I" } : Jvm.MethodName) jdk_42_method_80_code (3 : Nat) (Option.some Jvm.ClassFile.FieldType.int), Jvm.Cond.code ({ cls := "java/lang/String", name := "isLatin1", desc := "()Z" } : Jvm.MethodName) jdk_42_method_154_code (1 : Nat) (Option.some Jvm.ClassFile.FieldType.boolean), Jvm.Cond.code ({ cls := "java/lang/String", name := "length", desc := "()I" } : Jvm.MethodName) jdk_42_method_54_code (1 : Nat) (Option.some Jvm.ClassFile.FieldType.int), Jvm.Cond.code ({ cls := "java/lang/String", name := "coder", desc := "()B" } : Jvm.MethodName) jdk_42_method_152_code (1 : Nat) (Option.some Jvm.ClassFile.FieldType.byte), Jvm.Cond.code ({ cls := "java/lang/StringLatin1", name := "indexOf", desc := "([BIII)I" } : Jvm.MethodName) jdk_43_method_22_code (4 : Nat) (Option.some Jvm.ClassFile.FieldType.int), Jvm.Cond.code ({ cls := "java/lang/StringLatin1", name := "canEncode", desc := "(I)Z" } : Jvm.MethodName) jdk_43_method_4_code (1 : Nat) (Option.some Jvm.ClassFile.FieldType.boolean), Jvm.Cond.code ({ cls := "java/lang/Math", name := "max", desc := "(II)I" } : Jvm.MethodName) jdk_29_method_65_code (2 : Nat) (Option.some Jvm.ClassFile.FieldType.int), Jvm.Cond.code ({ cls := "java/lang/Math", name := "min", desc := "(II)I" } : Jvm.MethodName) jdk_29_method_69_code (2 : Nat) (Option.some Jvm.ClassFile.FieldType.int), Jvm.Cond.code ({ cls := "java/lang/StringUTF16", name := "compress", desc := "([CII)[B" } : Jvm.MethodName) jdk_52_method_16_code (6 : Nat) (Option.some (Jvm.ClassFile.FieldType.array Jvm.ClassFile.FieldType.byte)), Jvm.Cond.code ({ cls := "java/lang/StringUTF16", name := "compress", desc := "([CI[BII)I" } : Jvm.MethodName) jdk_52_method_21_code (7 : Nat) (Option.some Jvm.ClassFile.FieldType.int), Jvm.Cond.code ({ cls := "java/lang/StringUTF16", name := "coderFromArrayLen", desc := "([BI)B" } : Jvm.MethodName) jdk_52_method_15_code (2 : Nat) (Option.some Jvm.ClassFile.FieldType.byte), Jvm.Cond.code ({ cls := "java/lang/StringLatin1", name := "indexOfChar", desc := "([BIII)I" } : Jvm.MethodName) jdk_43_method_23_code (6 : Nat) (Option.some Jvm.ClassFile.FieldType.int)]
set_option maxRecDepth 65536 in
theorem codes_eq : words1.filter isCode = codes1 := rfl
theorem w_codes : ∀ c ∈ words1.filter isCode, c.before args0 about1 = true := by
  rw [codes_eq]
  intro c hc
  simp only [codes1, List.mem_cons, List.not_mem_nil, or_false] at hc
  rcases hc with rfl | rfl | rfl | rfl | rfl | rfl | rfl | rfl | rfl | rfl | rfl | rfl | rfl | rfl | rfl | rfl | rfl | rfl | rfl | rfl
  · exact w_c0
  · exact w_c1
  · exact w_c2
  · exact w_c3
  · exact w_c4
  · exact w_c5
  · exact w_c6
  · exact w_c7
  · exact w_c8
  · exact w_c9
  · exact w_c10
  · exact w_c11
  · exact w_c12
  · exact w_c13
  · exact w_c14
  · exact w_c15
  · exact w_c16
  · exact w_c17
  · exact w_c18
  · exact w_c19
set_option maxRecDepth 65536 in
theorem w_t1 : (words1.take 24).all (fun c => isCode c || c.before args0 about1) = true := by decide +kernel
set_option maxRecDepth 65536 in
theorem w_t2 : ((words1.drop 24).take 24).all (fun c => isCode c || c.before args0 about1) = true := by decide +kernel
set_option maxRecDepth 65536 in
theorem w_t3 : (((words1.drop 24).drop 24).take 24).all (fun c => isCode c || c.before args0 about1) = true := by decide +kernel
set_option maxRecDepth 65536 in
theorem w_t4 : (((words1.drop 24).drop 24).drop 24).all (fun c => isCode c || c.before args0 about1) = true := by decide +kernel
theorem w_tables : (allAtoms (Jvm.Cond.code x code maxLocals ret :: tables_1)).before args0 about1 = true := by
  rw [allAtoms_all]
  show words1.all (fun c => c.before args0 about1) = true
  refine all_split ?_ w_codes
  rw [← List.take_append_drop 24 words1, List.all_append, w_t1, ← List.take_append_drop 24 (words1.drop 24), List.all_append, w_t2, ← List.take_append_drop 24 ((words1.drop 24).drop 24), List.all_append, w_t3, w_t4]
  rfl
set_option maxRecDepth 65536 in
theorem w_rest : rest_1_c.before args0 about1 = true := by decide +kernel
set_option maxRecDepth 65536 in
theorem w_case : (Jvm.Cond.and given_1 narrow_1).before args0 about1 = true := by decide +kernel
set_option maxRecDepth 65536 in
theorem w_consts : constsHeld consts_1 about1 := Jvm.Lit.constsHeldB_iff.mp (by decide +kernel)
theorem w_applies : (headSpec (Jvm.Cond.code x code maxLocals ret :: tables_1) room_1).applies x e0.platform about1 = true :=
  (Spec.applies_iff w_frames).mpr ⟨w_running, w_runnable, w_alone, w_named, w_hears, w_ripe, w_room, w_tables⟩
theorem atStart : AtStart classFile x code maxLocals ret World_1 tables_1 room_1 Calls_1 rest_1 Pre_1 launch0 p0 e0 about1 theMethod args0 below0 :=
  ⟨lists_1, trivial, launch0.admits_env _ _ _, launch0.least_env, fairChoices_fair.cas, fairChoices_fair.clock, w_frames, w_args, w_heap, w_applies, ⟨w_consts, trivial⟩, w_rest, w_case⟩
end start1
theorem witness_1 : WitnessClaimed_1 := ⟨start1.p0, start1.e0, start1.about1, start1.theMethod, start1.args0, start1.below0, start1.atStart⟩
end Jvm.Pilot.@@N@@
