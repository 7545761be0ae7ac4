import JvmDerived
import JvmDerived.Pilot.@@N@@Statement
import JvmDerived.Pilot.@@N@@Code
set_option linter.unusedVariables false
set_option linter.unusedSimpArgs false
namespace Jvm.Pilot.@@N@@
open Jvm Jvm.ClassFile Sem Op Lib Jvm.Free Jvm.Stand Jvm.LawKit Jvm.RoadKit Bundle Jvm.Pilot.@@N@@.Jvm.D

section Layer
variable {p : Program} {l : Launch} {e : Env} {R : Room} {s : State} {m : MethodId} {args : Array Value} {below : List Frame} {meth : Method} {c : Code} {bytes : ByteArray} {mxl : Nat} {rt : Option FieldType} {Z : State} {a0 : Array Value} {EL : List (String × Nat)} {own : String} {n0 : Nat} {h0 : Heap} {ws : List Addr} {S0 : State} {V : Vm} {h : Heap} {cells slots pc pc' : Nat} {L : Array Slot} {st : List Value}
/-- where a walk stands: V the tables on which it is based, h its heap, g its frame -/
def Wk (p : Program) (l : Launch) (e : Env) (R : Room) (s : State) (m : MethodId) (args : Array Value) (below : List Frame) (meth : Method) (c : Code) (bytes : ByteArray) (mxl : Nat) (rt : Option FieldType) (Z : State) (a0 : Array Value) (EL : List (String × Nat)) (own : String) (n0 : Nat) (h0 : Heap) (ws : List Addr) (S0 : State) (V : Vm) (h : Heap) (cells slots : Nat) (g : JFrame) : Prop :=
  (p.tables.exec = Jvm.exec ∧ c.code = bytes ∧ c.maxLocals = mxl ∧ meth.sig.returnType = rt ∧ meth.locks = false ∧ EW Z a0 EL ∧ (∀ x ∈ ws, n0 ≤ x) ∧ n0 ≤ h0.size ∧ s.heap = h0 ∧ Old Z n0 h0) ∧
  (Z.Warmed39 V ∧ V.findClass own = some m.cls ∧ (∃ k, s.Since V k ∧ k ≤ h.size) ∧ Old Z n0 h ∧ CHr Z EL s.vm h0 V h ∧ Keep h0 h ws) ∧
  ∃ (T : State) (locs : List Loc), Stand p l e R (s.setVm V) m args below meth c T locs cells slots ∧ T.heap = h ∧ Fr n0 locs ∧ ∀ t, Steps p.tables e below (T.setTop g) t → Steps p.tables e below S0 t
theorem Wk.plain {g g' : JFrame} (W : Wk p l e R s m args below meth c bytes mxl rt Z a0 EL own n0 h0 ws S0 V h cells slots g) (f : ∀ (T : State), At T m c below → p.tables.exec = Jvm.exec → c.code = bytes → ∀ t, Steps p.tables e below (T.setTop g') t → Steps p.tables e below (T.setTop g) t) : Wk p l e R s m args below meth c bytes mxl rt Z a0 EL own n0 h0 ws S0 V h cells slots g' := by
  obtain ⟨a, b, T, locs, X, eT, N, k⟩ := W
  exact ⟨a, b, T, locs, X, eT, N, fun t q => k t (f T X.here a.1 a.2.1 t q)⟩
/-- a step that reads the tables and leaves the heap -/
theorem Wk.reads {g g' : JFrame} (W : Wk p l e R s m args below meth c bytes mxl rt Z a0 EL own n0 h0 ws S0 V h cells slots g) (f : ∀ (T : State) (locs : List Loc), Stand p l e R (s.setVm V) m args below meth c T locs cells slots → T.heap = h → p.tables.exec = Jvm.exec → c.code = bytes → Z.Warmed39 (s.setVm V).vm → (s.setVm V).vm.findClass own = some m.cls → ∃ T', Stand p l e R (s.setVm V) m args below meth c T' locs cells slots ∧ T'.heap = h ∧ ∀ t, Steps p.tables e below (T'.setTop g') t → Steps p.tables e below (T.setTop g) t) : Wk p l e R s m args below meth c bytes mxl rt Z a0 EL own n0 h0 ws S0 V h cells slots g' := by
  obtain ⟨a, b, T, locs, X, eT, N, k⟩ := W
  obtain ⟨T', X', eT', q⟩ := f T locs X eT a.1 a.2.1 b.1 b.2.1
  exact ⟨a, b, T', locs, X', eT', N, fun t z => k t (q t z)⟩
theorem Wk.cast {st' : List Value} (W : Wk p l e R s m args below meth c bytes mxl rt Z a0 EL own n0 h0 ws S0 V h cells slots (mkF m pc L st)) (q : st = st') : Wk p l e R s m args below meth c bytes mxl rt Z a0 EL own n0 h0 ws S0 V h cells slots (mkF m pc L st') := by subst q; exact W
theorem Wk.castL {L' : Array Slot} (W : Wk p l e R s m args below meth c bytes mxl rt Z a0 EL own n0 h0 ws S0 V h cells slots (mkF m pc L st)) (q : L = L') : Wk p l e R s m args below meth c bytes mxl rt Z a0 EL own n0 h0 ws S0 V h cells slots (mkF m pc L' st) := by subst q; exact W
theorem Wk.more {g : JFrame} {cells' slots' : Nat} (W : Wk p l e R s m args below meth c bytes mxl rt Z a0 EL own n0 h0 ws S0 V h cells slots g) (hc : cells ≤ cells') (hs : slots ≤ slots') : Wk p l e R s m args below meth c bytes mxl rt Z a0 EL own n0 h0 ws S0 V h cells' slots' g := by
  obtain ⟨a, b, T, locs, X, eT, N, k⟩ := W
  exact ⟨a, b, T, locs, X.mono hc hs, eT, N, k⟩
theorem Wk.alike {g : JFrame} (W : Wk p l e R s m args below meth c bytes mxl rt Z a0 EL own n0 h0 ws S0 V h cells slots g) : Z.vm.Alike V := W.2.1.1.alike
theorem Wk.old {g : JFrame} (W : Wk p l e R s m args below meth c bytes mxl rt Z a0 EL own n0 h0 ws S0 V h cells slots g) : Old Z n0 h := W.2.1.2.2.2.1
theorem Wk.n0le {g : JFrame} (W : Wk p l e R s m args below meth c bytes mxl rt Z a0 EL own n0 h0 ws S0 V h cells slots g) : n0 ≤ h.size := by have q := W.old; rw [← q.1]; exact q.2.1
theorem Wk.kept {g : JFrame} (W : Wk p l e R s m args below meth c bytes mxl rt Z a0 EL own n0 h0 ws S0 V h cells slots g) : Keep h0 h ws := W.2.1.2.2.2.2.2
theorem Wk.chv {g : JFrame} (W : Wk p l e R s m args below meth c bytes mxl rt Z a0 EL own n0 h0 ws S0 V h cells slots g) : CHv Z EL V h := W.2.1.2.2.2.2.1.1
theorem Wk.el {g : JFrame} (W : Wk p l e R s m args below meth c bytes mxl rt Z a0 EL own n0 h0 ws S0 V h cells slots g) : EW Z a0 EL := W.1.2.2.2.2.2.1
theorem Wk.sta {g : JFrame} (W : Wk p l e R s m args below meth c bytes mxl rt Z a0 EL own n0 h0 ws S0 V h cells slots g) {C n d : String} {v : Value} (S : Sta Z Z.heap C n d v) : Sta Z h C n d v := S.ext W.old.2
/-- an object of a class that no constant is of -/
theorem Wk.safeE {g : JFrame} (W : Wk p l e R s m args below meth c bytes mxl rt Z a0 EL own n0 h0 ws S0 V h cells slots g) {a : Addr} {C : String} (E : Exa Z h a C) (h1 : C ≠ "java/lang/String") (h2 : C ≠ "[B") : Safe Z EL V h a := Safe.exa W.alike E h1 h2
theorem Wk.safeA {g : JFrame} (W : Wk p l e R s m args below meth c bytes mxl rt Z a0 EL own n0 h0 ws S0 V h cells slots g) {a : Addr} {k : ClassId} {ty : FieldType} {z : Int32} {vs : List Value} {dv : Value} (A : Arv Z h a k ty z vs dv) (ht : ty ≠ .byte) : Safe Z EL V h a := Safe.arv W.alike A ht
/-- a write has been made at a -/
theorem Wk.wrote {g g' : JFrame} {h' : Heap} {a : Addr} {sl : Nat} {v : Value} {cells' slots' : Nat} (W : Wk p l e R s m args below meth c bytes mxl rt Z a0 EL own n0 h0 ws S0 V h cells slots g) (sf : Safe Z EL V h a) (q : a ∈ ws ∨ h0.size ≤ a) (f : ∀ (T : State) (locs : List Loc), Stand p l e R (s.setVm V) m args below meth c T locs cells slots → T.heap = h → p.tables.exec = Jvm.exec → c.code = bytes → Z.Warmed39 (s.setVm V).vm → (s.setVm V).vm.findClass own = some m.cls → ∃ T' h', Stand p l e R (s.setVm V) m args below meth c T' (locs ++ [⟨a, sl⟩]) cells slots ∧ T'.heap = h' ∧ Wr h h' a sl v ∧ ∀ t, Steps p.tables e below (T'.setTop g') t → Steps p.tables e below (T.setTop g) t) :
    ∃ h', Wk p l e R s m args below meth c bytes mxl rt Z a0 EL own n0 h0 ws S0 V h' cells slots g' ∧ Wr h h' a sl v ∧ ∀ x, Safe Z EL V h x → Safe Z EL V h' x := by
  obtain ⟨a1, b, T, locs, X, eT, N, k⟩ := W
  obtain ⟨T', h', X', eT', w, st⟩ := f T locs X eT a1.1 a1.2.1 b.1 b.2.1
  have hge : n0 ≤ a := q.elim (fun z => a1.2.2.2.2.2.2.1 a z) (fun z => Nat.le_trans a1.2.2.2.2.2.2.2.1 z)
  obtain ⟨k0, hS, hk⟩ := b.2.2.1
  have hsz : h.size ≤ h'.size := Nat.le_of_eq w.size.symm
  refine ⟨h', ⟨a1, ⟨b.1, b.2.1, ⟨k0, hS, Nat.le_trans hk hsz⟩, b.2.2.2.1.wr w hge, b.2.2.2.2.1.trans (CHr.wr w sf b.2.2.2.2.1.1), b.2.2.2.2.2.wr w q⟩, T', _, X', eT', Fr.snoc X' N hge, fun t z => k t (st t z)⟩, w, fun x sx => Safe.wr w sf b.2.2.2.2.1.1 sx⟩
/-- something has been made at the heap's end -/
theorem Wk.grew {g : JFrame} {G : Addr → JFrame} {cells' slots' : Nat} {Q : Heap → Prop} (W : Wk p l e R s m args below meth c bytes mxl rt Z a0 EL own n0 h0 ws S0 V h cells slots g) (f : ∀ (T : State) (locs : List Loc), Stand p l e R (s.setVm V) m args below meth c T locs cells slots → T.heap = h → p.tables.exec = Jvm.exec → c.code = bytes → Z.Warmed39 (s.setVm V).vm → (s.setVm V).vm.findClass own = some m.cls → ∃ T' h', Stand p l e R (s.setVm V) m args below meth c T' locs cells' slots' ∧ T'.heap = h' ∧ Ext h h' ∧ Q h' ∧ ∀ t, Steps p.tables e below (T'.setTop (G h.size)) t → Steps p.tables e below (T.setTop g) t) :
    ∃ h' a, Wk p l e R s m args below meth c bytes mxl rt Z a0 EL own n0 h0 ws S0 V h' cells' slots' (G a) ∧ Ext h h' ∧ a = h.size ∧ Q h' ∧ Safe Z EL V h' a ∧ ∀ x, Safe Z EL V h x → Safe Z EL V h' x := by
  obtain ⟨a1, b, T, locs, X, eT, N, k⟩ := W
  obtain ⟨T', h', X', eT', E, q, st⟩ := f T locs X eT a1.1 a1.2.1 b.1 b.2.1
  obtain ⟨k0, hS, hk⟩ := b.2.2.1
  have H := b.2.2.2.2.1.1
  exact ⟨h', h.size, ⟨a1, ⟨b.1, b.2.1, ⟨k0, hS, Nat.le_trans hk E.1⟩, b.2.2.2.1.ext E, b.2.2.2.2.1.trans (CHr.ext E H), b.2.2.2.2.2.ext E⟩, T', _, X', eT', N, fun t z => k t (st t z)⟩, E, rfl, q, Safe.ext E H (Safe.new (Nat.le_refl _)), fun x sx => Safe.ext E H sx⟩

theorem Wk.aloadN {k : Fin 4} {v : Value} (W : Wk p l e R s m args below meth c bytes mxl rt Z a0 EL own n0 h0 ws S0 V h cells slots (mkF m pc L st)) (hd : decode bytes pc = .ok (.aload_n k, 1)) (hl : L[k.val]? = some (.val v)) (hv : v.isRef = true) (hp : pc + 1 = pc') : Wk p l e R s m args below meth c bytes mxl rt Z a0 EL own n0 h0 ws S0 V h cells slots (mkF m pc' L (v :: st)) := by
  subst hp
  exact W.plain fun T hq hx hby t k => XS.aloadN hq hx rfl (hb hby hd) hl hv k
theorem Wk.aload {k : Nat} {v : Value} (W : Wk p l e R s m args below meth c bytes mxl rt Z a0 EL own n0 h0 ws S0 V h cells slots (mkF m pc L st)) (hd : decode bytes pc = .ok (.aload k, 2)) (hl : L[k]? = some (.val v)) (hv : v.isRef = true) (hp : pc + 2 = pc') : Wk p l e R s m args below meth c bytes mxl rt Z a0 EL own n0 h0 ws S0 V h cells slots (mkF m pc' L (v :: st)) := by
  subst hp
  exact W.plain fun T hq hx hby t k => XS.aload hq hx rfl (hb hby hd) hl hv k
theorem Wk.iloadN {k : Fin 4} {v : Int32} (W : Wk p l e R s m args below meth c bytes mxl rt Z a0 EL own n0 h0 ws S0 V h cells slots (mkF m pc L st)) (hd : decode bytes pc = .ok (.iload_n k, 1)) (hl : L[k.val]? = some (.val (.int v))) (hp : pc + 1 = pc') : Wk p l e R s m args below meth c bytes mxl rt Z a0 EL own n0 h0 ws S0 V h cells slots (mkF m pc' L (.int v :: st)) := by
  subst hp
  exact W.plain fun T hq hx hby t k => XS.iloadN hq hx rfl (hb hby hd) hl k
theorem Wk.iload {k : Nat} {v : Int32} (W : Wk p l e R s m args below meth c bytes mxl rt Z a0 EL own n0 h0 ws S0 V h cells slots (mkF m pc L st)) (hd : decode bytes pc = .ok (.iload k, 2)) (hl : L[k]? = some (.val (.int v))) (hp : pc + 2 = pc') : Wk p l e R s m args below meth c bytes mxl rt Z a0 EL own n0 h0 ws S0 V h cells slots (mkF m pc' L (.int v :: st)) := by
  subst hp
  exact W.plain fun T hq hx hby t k => XS.iload hq hx rfl (hb hby hd) hl k
theorem Wk.lloadN {k : Fin 4} {v : Int64} (W : Wk p l e R s m args below meth c bytes mxl rt Z a0 EL own n0 h0 ws S0 V h cells slots (mkF m pc L st)) (hd : decode bytes pc = .ok (.lload_n k, 1)) (hl : L[k.val]? = some (.val (.long v))) (hp : pc + 1 = pc') : Wk p l e R s m args below meth c bytes mxl rt Z a0 EL own n0 h0 ws S0 V h cells slots (mkF m pc' L (.long v :: st)) := by
  subst hp
  exact W.plain fun T hq hx hby t k => Jvm.Free.XT.lloadN hq hx rfl (hb hby hd) hl k
theorem Wk.lload {k : Nat} {v : Int64} (W : Wk p l e R s m args below meth c bytes mxl rt Z a0 EL own n0 h0 ws S0 V h cells slots (mkF m pc L st)) (hd : decode bytes pc = .ok (.lload k, 2)) (hl : L[k]? = some (.val (.long v))) (hp : pc + 2 = pc') : Wk p l e R s m args below meth c bytes mxl rt Z a0 EL own n0 h0 ws S0 V h cells slots (mkF m pc' L (.long v :: st)) := by
  subst hp
  exact W.plain fun T hq hx hby t k => Jvm.Free.XT.lload hq hx rfl (hb hby hd) hl k
theorem Wk.iconst {i : Int} {v : Int32} (W : Wk p l e R s m args below meth c bytes mxl rt Z a0 EL own n0 h0 ws S0 V h cells slots (mkF m pc L st)) (hd : decode bytes pc = .ok (.iconst i, 1)) (hv : Int32.ofInt i = v) (hp : pc + 1 = pc') : Wk p l e R s m args below meth c bytes mxl rt Z a0 EL own n0 h0 ws S0 V h cells slots (mkF m pc' L (.int v :: st)) := by
  subst hv hp
  exact W.plain fun T hq hx hby t k => XS.iconst hq hx rfl (hb hby hd)  k
theorem Wk.bipush {i : Int} {v : Int32} (W : Wk p l e R s m args below meth c bytes mxl rt Z a0 EL own n0 h0 ws S0 V h cells slots (mkF m pc L st)) (hd : decode bytes pc = .ok (.bipush i, 2)) (hv : (Int8.ofInt i).toInt32 = v) (hp : pc + 2 = pc') : Wk p l e R s m args below meth c bytes mxl rt Z a0 EL own n0 h0 ws S0 V h cells slots (mkF m pc' L (.int v :: st)) := by
  subst hv hp
  exact W.plain fun T hq hx hby t k => XS.bipush hq hx rfl (hb hby hd)  k
theorem Wk.sipush {i : Int} {v : Int32} (W : Wk p l e R s m args below meth c bytes mxl rt Z a0 EL own n0 h0 ws S0 V h cells slots (mkF m pc L st)) (hd : decode bytes pc = .ok (.sipush i, 3)) (hv : (Int16.ofInt i).toInt32 = v) (hp : pc + 3 = pc') : Wk p l e R s m args below meth c bytes mxl rt Z a0 EL own n0 h0 ws S0 V h cells slots (mkF m pc' L (.int v :: st)) := by
  subst hv hp
  exact W.plain fun T hq hx hby t k => XS.sipush hq hx rfl (hb hby hd)  k
theorem Wk.lconst {k : Fin 2} {v : Int64} (W : Wk p l e R s m args below meth c bytes mxl rt Z a0 EL own n0 h0 ws S0 V h cells slots (mkF m pc L st)) (hd : decode bytes pc = .ok (.lconst k, 1)) (hv : Int64.ofNat k = v) (hp : pc + 1 = pc') : Wk p l e R s m args below meth c bytes mxl rt Z a0 EL own n0 h0 ws S0 V h cells slots (mkF m pc' L (.long v :: st)) := by
  subst hv hp
  exact W.plain fun T hq hx hby t k => Jvm.Free.XT.lconst hq hx rfl (hb hby hd)  k
theorem Wk.aconstNull  (W : Wk p l e R s m args below meth c bytes mxl rt Z a0 EL own n0 h0 ws S0 V h cells slots (mkF m pc L st)) (hd : decode bytes pc = .ok (.aconst_null, 1))  (hp : pc + 1 = pc') : Wk p l e R s m args below meth c bytes mxl rt Z a0 EL own n0 h0 ws S0 V h cells slots (mkF m pc' L (.null :: st)) := by
  subst hp
  exact W.plain fun T hq hx hby t k => XS.aconstNull hq hx rfl (hb hby hd)  k
theorem Wk.iadd {x y v : Int32} (W : Wk p l e R s m args below meth c bytes mxl rt Z a0 EL own n0 h0 ws S0 V h cells slots (mkF m pc L (.int y :: .int x :: st))) (hd : decode bytes pc = .ok (.iadd, 1)) (hv : x + y = v) (hp : pc + 1 = pc') : Wk p l e R s m args below meth c bytes mxl rt Z a0 EL own n0 h0 ws S0 V h cells slots (mkF m pc' L (.int v :: st)) := by
  subst hv hp
  exact W.plain fun T hq hx hby t k => XS.iadd hq hx rfl (hb hby hd) rfl k
theorem Wk.isub {x y v : Int32} (W : Wk p l e R s m args below meth c bytes mxl rt Z a0 EL own n0 h0 ws S0 V h cells slots (mkF m pc L (.int y :: .int x :: st))) (hd : decode bytes pc = .ok (.isub, 1)) (hv : x - y = v) (hp : pc + 1 = pc') : Wk p l e R s m args below meth c bytes mxl rt Z a0 EL own n0 h0 ws S0 V h cells slots (mkF m pc' L (.int v :: st)) := by
  subst hv hp
  exact W.plain fun T hq hx hby t k => XS.isub hq hx rfl (hb hby hd) rfl k
theorem Wk.imul {x y v : Int32} (W : Wk p l e R s m args below meth c bytes mxl rt Z a0 EL own n0 h0 ws S0 V h cells slots (mkF m pc L (.int y :: .int x :: st))) (hd : decode bytes pc = .ok (.imul, 1)) (hv : x * y = v) (hp : pc + 1 = pc') : Wk p l e R s m args below meth c bytes mxl rt Z a0 EL own n0 h0 ws S0 V h cells slots (mkF m pc' L (.int v :: st)) := by
  subst hv hp
  exact W.plain fun T hq hx hby t k => XS.imul hq hx rfl (hb hby hd) rfl k
theorem Wk.iand {x y v : Int32} (W : Wk p l e R s m args below meth c bytes mxl rt Z a0 EL own n0 h0 ws S0 V h cells slots (mkF m pc L (.int y :: .int x :: st))) (hd : decode bytes pc = .ok (.iand, 1)) (hv : x &&& y = v) (hp : pc + 1 = pc') : Wk p l e R s m args below meth c bytes mxl rt Z a0 EL own n0 h0 ws S0 V h cells slots (mkF m pc' L (.int v :: st)) := by
  subst hv hp
  exact W.plain fun T hq hx hby t k => XS.iand hq hx rfl (hb hby hd) rfl k
theorem Wk.ior {x y v : Int32} (W : Wk p l e R s m args below meth c bytes mxl rt Z a0 EL own n0 h0 ws S0 V h cells slots (mkF m pc L (.int y :: .int x :: st))) (hd : decode bytes pc = .ok (.ior, 1)) (hv : x ||| y = v) (hp : pc + 1 = pc') : Wk p l e R s m args below meth c bytes mxl rt Z a0 EL own n0 h0 ws S0 V h cells slots (mkF m pc' L (.int v :: st)) := by
  subst hv hp
  exact W.plain fun T hq hx hby t k => Jvm.Free.XT.ior hq hx rfl (hb hby hd) rfl k
theorem Wk.ixor {x y v : Int32} (W : Wk p l e R s m args below meth c bytes mxl rt Z a0 EL own n0 h0 ws S0 V h cells slots (mkF m pc L (.int y :: .int x :: st))) (hd : decode bytes pc = .ok (.ixor, 1)) (hv : x ^^^ y = v) (hp : pc + 1 = pc') : Wk p l e R s m args below meth c bytes mxl rt Z a0 EL own n0 h0 ws S0 V h cells slots (mkF m pc' L (.int v :: st)) := by
  subst hv hp
  exact W.plain fun T hq hx hby t k => Jvm.Free.XT.ixor hq hx rfl (hb hby hd) rfl k
theorem Wk.ishl {x y v : Int32} (W : Wk p l e R s m args below meth c bytes mxl rt Z a0 EL own n0 h0 ws S0 V h cells slots (mkF m pc L (.int y :: .int x :: st))) (hd : decode bytes pc = .ok (.ishl, 1)) (hv : x <<< (y &&& 31) = v) (hp : pc + 1 = pc') : Wk p l e R s m args below meth c bytes mxl rt Z a0 EL own n0 h0 ws S0 V h cells slots (mkF m pc' L (.int v :: st)) := by
  subst hv hp
  exact W.plain fun T hq hx hby t k => Jvm.Free.XT.ishl hq hx rfl (hb hby hd) rfl k
theorem Wk.ishr {x y v : Int32} (W : Wk p l e R s m args below meth c bytes mxl rt Z a0 EL own n0 h0 ws S0 V h cells slots (mkF m pc L (.int y :: .int x :: st))) (hd : decode bytes pc = .ok (.ishr, 1)) (hv : x >>> (y &&& 31) = v) (hp : pc + 1 = pc') : Wk p l e R s m args below meth c bytes mxl rt Z a0 EL own n0 h0 ws S0 V h cells slots (mkF m pc' L (.int v :: st)) := by
  subst hv hp
  exact W.plain fun T hq hx hby t k => Jvm.Free.XT.ishr hq hx rfl (hb hby hd) rfl k
theorem Wk.iushr {x y v : Int32} (W : Wk p l e R s m args below meth c bytes mxl rt Z a0 EL own n0 h0 ws S0 V h cells slots (mkF m pc L (.int y :: .int x :: st))) (hd : decode bytes pc = .ok (.iushr, 1)) (hv : Jvm.Free.XT.ushr x y = v) (hp : pc + 1 = pc') : Wk p l e R s m args below meth c bytes mxl rt Z a0 EL own n0 h0 ws S0 V h cells slots (mkF m pc' L (.int v :: st)) := by
  subst hv hp
  exact W.plain fun T hq hx hby t k => Jvm.Free.XT.iushr hq hx rfl (hb hby hd) rfl k
theorem Wk.idiv {x y v : Int32} (W : Wk p l e R s m args below meth c bytes mxl rt Z a0 EL own n0 h0 ws S0 V h cells slots (mkF m pc L (.int y :: .int x :: st))) (hd : decode bytes pc = .ok (.idiv, 1)) (hy : y ≠ 0) (hv : x / y = v) (hp : pc + 1 = pc') : Wk p l e R s m args below meth c bytes mxl rt Z a0 EL own n0 h0 ws S0 V h cells slots (mkF m pc' L (.int v :: st)) := by
  subst hv hp
  exact W.plain fun T hq hx hby t k => XS.idiv hq hx rfl (hb hby hd) rfl hy k
theorem Wk.irem {x y v : Int32} (W : Wk p l e R s m args below meth c bytes mxl rt Z a0 EL own n0 h0 ws S0 V h cells slots (mkF m pc L (.int y :: .int x :: st))) (hd : decode bytes pc = .ok (.irem, 1)) (hy : y ≠ 0) (hv : x - (x / y) * y = v) (hp : pc + 1 = pc') : Wk p l e R s m args below meth c bytes mxl rt Z a0 EL own n0 h0 ws S0 V h cells slots (mkF m pc' L (.int v :: st)) := by
  subst hv hp
  exact W.plain fun T hq hx hby t k => XS.irem hq hx rfl (hb hby hd) rfl hy k
theorem Wk.ineg {x v : Int32} (W : Wk p l e R s m args below meth c bytes mxl rt Z a0 EL own n0 h0 ws S0 V h cells slots (mkF m pc L (.int x :: st))) (hd : decode bytes pc = .ok (.ineg, 1)) (hv : -x = v) (hp : pc + 1 = pc') : Wk p l e R s m args below meth c bytes mxl rt Z a0 EL own n0 h0 ws S0 V h cells slots (mkF m pc' L (.int v :: st)) := by
  subst hv hp
  exact W.plain fun T hq hx hby t k => XS.ineg hq hx rfl (hb hby hd) rfl k
theorem Wk.i2b {x v : Int32} (W : Wk p l e R s m args below meth c bytes mxl rt Z a0 EL own n0 h0 ws S0 V h cells slots (mkF m pc L (.int x :: st))) (hd : decode bytes pc = .ok (.i2b, 1)) (hv : x.toInt8.toInt32 = v) (hp : pc + 1 = pc') : Wk p l e R s m args below meth c bytes mxl rt Z a0 EL own n0 h0 ws S0 V h cells slots (mkF m pc' L (.int v :: st)) := by
  subst hv hp
  exact W.plain fun T hq hx hby t k => Jvm.Free.XT.i2b hq hx rfl (hb hby hd) rfl k
theorem Wk.i2c {x v : Int32} (W : Wk p l e R s m args below meth c bytes mxl rt Z a0 EL own n0 h0 ws S0 V h cells slots (mkF m pc L (.int x :: st))) (hd : decode bytes pc = .ok (.i2c, 1)) (hv : x.toUInt32.toUInt16.toUInt32.toInt32 = v) (hp : pc + 1 = pc') : Wk p l e R s m args below meth c bytes mxl rt Z a0 EL own n0 h0 ws S0 V h cells slots (mkF m pc' L (.int v :: st)) := by
  subst hv hp
  exact W.plain fun T hq hx hby t k => Jvm.Free.XT.i2c hq hx rfl (hb hby hd) rfl k
theorem Wk.i2s {x v : Int32} (W : Wk p l e R s m args below meth c bytes mxl rt Z a0 EL own n0 h0 ws S0 V h cells slots (mkF m pc L (.int x :: st))) (hd : decode bytes pc = .ok (.i2s, 1)) (hv : x.toInt16.toInt32 = v) (hp : pc + 1 = pc') : Wk p l e R s m args below meth c bytes mxl rt Z a0 EL own n0 h0 ws S0 V h cells slots (mkF m pc' L (.int v :: st)) := by
  subst hv hp
  exact W.plain fun T hq hx hby t k => Jvm.Free.XT.i2s hq hx rfl (hb hby hd) rfl k
theorem Wk.ladd {x y v : Int64} (W : Wk p l e R s m args below meth c bytes mxl rt Z a0 EL own n0 h0 ws S0 V h cells slots (mkF m pc L (.long y :: .long x :: st))) (hd : decode bytes pc = .ok (.ladd, 1)) (hv : x + y = v) (hp : pc + 1 = pc') : Wk p l e R s m args below meth c bytes mxl rt Z a0 EL own n0 h0 ws S0 V h cells slots (mkF m pc' L (.long v :: st)) := by
  subst hv hp
  exact W.plain fun T hq hx hby t k => Jvm.Free.XT.ladd hq hx rfl (hb hby hd) rfl k
theorem Wk.lsub {x y v : Int64} (W : Wk p l e R s m args below meth c bytes mxl rt Z a0 EL own n0 h0 ws S0 V h cells slots (mkF m pc L (.long y :: .long x :: st))) (hd : decode bytes pc = .ok (.lsub, 1)) (hv : x - y = v) (hp : pc + 1 = pc') : Wk p l e R s m args below meth c bytes mxl rt Z a0 EL own n0 h0 ws S0 V h cells slots (mkF m pc' L (.long v :: st)) := by
  subst hv hp
  exact W.plain fun T hq hx hby t k => Jvm.Free.XT.lsub hq hx rfl (hb hby hd) rfl k
theorem Wk.lmul {x y v : Int64} (W : Wk p l e R s m args below meth c bytes mxl rt Z a0 EL own n0 h0 ws S0 V h cells slots (mkF m pc L (.long y :: .long x :: st))) (hd : decode bytes pc = .ok (.lmul, 1)) (hv : x * y = v) (hp : pc + 1 = pc') : Wk p l e R s m args below meth c bytes mxl rt Z a0 EL own n0 h0 ws S0 V h cells slots (mkF m pc' L (.long v :: st)) := by
  subst hv hp
  exact W.plain fun T hq hx hby t k => Jvm.Free.XT.lmul hq hx rfl (hb hby hd) rfl k
theorem Wk.land {x y v : Int64} (W : Wk p l e R s m args below meth c bytes mxl rt Z a0 EL own n0 h0 ws S0 V h cells slots (mkF m pc L (.long y :: .long x :: st))) (hd : decode bytes pc = .ok (.land, 1)) (hv : x &&& y = v) (hp : pc + 1 = pc') : Wk p l e R s m args below meth c bytes mxl rt Z a0 EL own n0 h0 ws S0 V h cells slots (mkF m pc' L (.long v :: st)) := by
  subst hv hp
  exact W.plain fun T hq hx hby t k => Jvm.Free.XT.land hq hx rfl (hb hby hd) rfl k
theorem Wk.lor {x y v : Int64} (W : Wk p l e R s m args below meth c bytes mxl rt Z a0 EL own n0 h0 ws S0 V h cells slots (mkF m pc L (.long y :: .long x :: st))) (hd : decode bytes pc = .ok (.lor, 1)) (hv : x ||| y = v) (hp : pc + 1 = pc') : Wk p l e R s m args below meth c bytes mxl rt Z a0 EL own n0 h0 ws S0 V h cells slots (mkF m pc' L (.long v :: st)) := by
  subst hv hp
  exact W.plain fun T hq hx hby t k => Jvm.Free.XT.lor hq hx rfl (hb hby hd) rfl k
theorem Wk.lxor {x y v : Int64} (W : Wk p l e R s m args below meth c bytes mxl rt Z a0 EL own n0 h0 ws S0 V h cells slots (mkF m pc L (.long y :: .long x :: st))) (hd : decode bytes pc = .ok (.lxor, 1)) (hv : x ^^^ y = v) (hp : pc + 1 = pc') : Wk p l e R s m args below meth c bytes mxl rt Z a0 EL own n0 h0 ws S0 V h cells slots (mkF m pc' L (.long v :: st)) := by
  subst hv hp
  exact W.plain fun T hq hx hby t k => Jvm.Free.XT.lxor hq hx rfl (hb hby hd) rfl k
theorem Wk.ldiv {x y v : Int64} (W : Wk p l e R s m args below meth c bytes mxl rt Z a0 EL own n0 h0 ws S0 V h cells slots (mkF m pc L (.long y :: .long x :: st))) (hd : decode bytes pc = .ok (.ldiv, 1)) (hy : y ≠ 0) (hv : x / y = v) (hp : pc + 1 = pc') : Wk p l e R s m args below meth c bytes mxl rt Z a0 EL own n0 h0 ws S0 V h cells slots (mkF m pc' L (.long v :: st)) := by
  subst hv hp
  exact W.plain fun T hq hx hby t k => Jvm.Free.XT.ldiv hq hx rfl (hb hby hd) rfl hy k
theorem Wk.lrem {x y v : Int64} (W : Wk p l e R s m args below meth c bytes mxl rt Z a0 EL own n0 h0 ws S0 V h cells slots (mkF m pc L (.long y :: .long x :: st))) (hd : decode bytes pc = .ok (.lrem, 1)) (hy : y ≠ 0) (hv : x - (x / y) * y = v) (hp : pc + 1 = pc') : Wk p l e R s m args below meth c bytes mxl rt Z a0 EL own n0 h0 ws S0 V h cells slots (mkF m pc' L (.long v :: st)) := by
  subst hv hp
  exact W.plain fun T hq hx hby t k => Jvm.Free.XT.lrem hq hx rfl (hb hby hd) rfl hy k
theorem Wk.lshl {x v : Int64} {y : Int32} (W : Wk p l e R s m args below meth c bytes mxl rt Z a0 EL own n0 h0 ws S0 V h cells slots (mkF m pc L (.int y :: .long x :: st))) (hd : decode bytes pc = .ok (.lshl, 1)) (hv : x <<< (y.toInt64 &&& 63) = v) (hp : pc + 1 = pc') : Wk p l e R s m args below meth c bytes mxl rt Z a0 EL own n0 h0 ws S0 V h cells slots (mkF m pc' L (.long v :: st)) := by
  subst hv hp
  exact W.plain fun T hq hx hby t k => Jvm.Free.XT.lshl hq hx rfl (hb hby hd) rfl k
theorem Wk.lshr {x v : Int64} {y : Int32} (W : Wk p l e R s m args below meth c bytes mxl rt Z a0 EL own n0 h0 ws S0 V h cells slots (mkF m pc L (.int y :: .long x :: st))) (hd : decode bytes pc = .ok (.lshr, 1)) (hv : x >>> (y.toInt64 &&& 63) = v) (hp : pc + 1 = pc') : Wk p l e R s m args below meth c bytes mxl rt Z a0 EL own n0 h0 ws S0 V h cells slots (mkF m pc' L (.long v :: st)) := by
  subst hv hp
  exact W.plain fun T hq hx hby t k => Jvm.Free.XT.lshr hq hx rfl (hb hby hd) rfl k
theorem Wk.lushr {x v : Int64} {y : Int32} (W : Wk p l e R s m args below meth c bytes mxl rt Z a0 EL own n0 h0 ws S0 V h cells slots (mkF m pc L (.int y :: .long x :: st))) (hd : decode bytes pc = .ok (.lushr, 1)) (hv : Jvm.Free.XT.ushrL x y = v) (hp : pc + 1 = pc') : Wk p l e R s m args below meth c bytes mxl rt Z a0 EL own n0 h0 ws S0 V h cells slots (mkF m pc' L (.long v :: st)) := by
  subst hv hp
  exact W.plain fun T hq hx hby t k => Jvm.Free.XT.lushr hq hx rfl (hb hby hd) rfl k
theorem Wk.lneg {x v : Int64} (W : Wk p l e R s m args below meth c bytes mxl rt Z a0 EL own n0 h0 ws S0 V h cells slots (mkF m pc L (.long x :: st))) (hd : decode bytes pc = .ok (.lneg, 1)) (hv : -x = v) (hp : pc + 1 = pc') : Wk p l e R s m args below meth c bytes mxl rt Z a0 EL own n0 h0 ws S0 V h cells slots (mkF m pc' L (.long v :: st)) := by
  subst hv hp
  exact W.plain fun T hq hx hby t k => Jvm.Free.XT.lneg hq hx rfl (hb hby hd) rfl k
theorem Wk.i2l {x : Int32} {v : Int64} (W : Wk p l e R s m args below meth c bytes mxl rt Z a0 EL own n0 h0 ws S0 V h cells slots (mkF m pc L (.int x :: st))) (hd : decode bytes pc = .ok (.i2l, 1)) (hv : x.toInt64 = v) (hp : pc + 1 = pc') : Wk p l e R s m args below meth c bytes mxl rt Z a0 EL own n0 h0 ws S0 V h cells slots (mkF m pc' L (.long v :: st)) := by
  subst hv hp
  exact W.plain fun T hq hx hby t k => Jvm.Free.XT.i2l hq hx rfl (hb hby hd) rfl k
theorem Wk.l2i {x : Int64} {v : Int32} (W : Wk p l e R s m args below meth c bytes mxl rt Z a0 EL own n0 h0 ws S0 V h cells slots (mkF m pc L (.long x :: st))) (hd : decode bytes pc = .ok (.l2i, 1)) (hv : x.toInt32 = v) (hp : pc + 1 = pc') : Wk p l e R s m args below meth c bytes mxl rt Z a0 EL own n0 h0 ws S0 V h cells slots (mkF m pc' L (.int v :: st)) := by
  subst hv hp
  exact W.plain fun T hq hx hby t k => Jvm.Free.XT.l2i hq hx rfl (hb hby hd) rfl k
theorem Wk.lcmp {x y : Int64} {v : Int32} (W : Wk p l e R s m args below meth c bytes mxl rt Z a0 EL own n0 h0 ws S0 V h cells slots (mkF m pc L (.long y :: .long x :: st))) (hd : decode bytes pc = .ok (.lcmp, 1)) (hv : Jvm.Free.XT.cmpL x y = v) (hp : pc + 1 = pc') : Wk p l e R s m args below meth c bytes mxl rt Z a0 EL own n0 h0 ws S0 V h cells slots (mkF m pc' L (.int v :: st)) := by
  subst hv hp
  exact W.plain fun T hq hx hby t k => Jvm.Free.XT.lcmp hq hx rfl (hb hby hd) rfl k
theorem Wk.dup {x : Value} (W : Wk p l e R s m args below meth c bytes mxl rt Z a0 EL own n0 h0 ws S0 V h cells slots (mkF m pc L (x :: st))) (hd : decode bytes pc = .ok (.dup, 1)) (hc : x.category = 1) (hp : pc + 1 = pc') : Wk p l e R s m args below meth c bytes mxl rt Z a0 EL own n0 h0 ws S0 V h cells slots (mkF m pc' L (x :: x :: st)) := by
  subst hp
  exact W.plain fun T hq hx hby t k => XS.dup hq hx rfl (hb hby hd) rfl hc k
theorem Wk.pop {x : Value} (W : Wk p l e R s m args below meth c bytes mxl rt Z a0 EL own n0 h0 ws S0 V h cells slots (mkF m pc L (x :: st))) (hd : decode bytes pc = .ok (.pop, 1)) (hc : x.category = 1) (hp : pc + 1 = pc') : Wk p l e R s m args below meth c bytes mxl rt Z a0 EL own n0 h0 ws S0 V h cells slots (mkF m pc' L st) := by
  subst hp
  exact W.plain fun T hq hx hby t k => Jvm.Free.XT.pop hq hx rfl (hb hby hd) rfl hc k
theorem Wk.dupX1 {x y : Value} (W : Wk p l e R s m args below meth c bytes mxl rt Z a0 EL own n0 h0 ws S0 V h cells slots (mkF m pc L (x :: y :: st))) (hd : decode bytes pc = .ok (.dup_x1, 1)) (hc : x.category = 1) (hc' : y.category = 1) (hp : pc + 1 = pc') : Wk p l e R s m args below meth c bytes mxl rt Z a0 EL own n0 h0 ws S0 V h cells slots (mkF m pc' L (x :: y :: x :: st)) := by
  subst hp
  exact W.plain fun T hq hx hby t k => Jvm.Free.XT.dupX1 hq hx rfl (hb hby hd) rfl hc hc' k
theorem Wk.dup2 {x y : Value} (W : Wk p l e R s m args below meth c bytes mxl rt Z a0 EL own n0 h0 ws S0 V h cells slots (mkF m pc L (x :: y :: st))) (hd : decode bytes pc = .ok (.dup2, 1)) (hc : x.category = 1) (hc' : y.category = 1) (hp : pc + 1 = pc') : Wk p l e R s m args below meth c bytes mxl rt Z a0 EL own n0 h0 ws S0 V h cells slots (mkF m pc' L (x :: y :: x :: y :: st)) := by
  subst hp
  exact W.plain fun T hq hx hby t k => Jvm.Free.XT.dup2 hq hx rfl (hb hby hd) rfl hc hc' k
theorem Wk.dup2L {x : Int64} (W : Wk p l e R s m args below meth c bytes mxl rt Z a0 EL own n0 h0 ws S0 V h cells slots (mkF m pc L (.long x :: st))) (hd : decode bytes pc = .ok (.dup2, 1))  (hp : pc + 1 = pc') : Wk p l e R s m args below meth c bytes mxl rt Z a0 EL own n0 h0 ws S0 V h cells slots (mkF m pc' L (.long x :: .long x :: st)) := by
  subst hp
  exact W.plain fun T hq hx hby t k => Jvm.Free.XT.dup2L hq hx rfl (hb hby hd) rfl k
theorem Wk.istoreN {k : Fin 4} {x : Int32} {L' : Array Slot} (W : Wk p l e R s m args below meth c bytes mxl rt Z a0 EL own n0 h0 ws S0 V h cells slots (mkF m pc L (.int x :: st))) (hd : decode bytes pc = .ok (.istore_n k, 1)) (hl : storeLocals L k.val (.int x) = some L') (hp : pc + 1 = pc') : Wk p l e R s m args below meth c bytes mxl rt Z a0 EL own n0 h0 ws S0 V h cells slots (mkF m pc' L' st) := by
  subst hp
  exact W.plain fun T hq hx hby t k => XS.istoreN hq hx rfl (hb hby hd) rfl hl k
theorem Wk.istore {k : Nat} {x : Int32} {L' : Array Slot} (W : Wk p l e R s m args below meth c bytes mxl rt Z a0 EL own n0 h0 ws S0 V h cells slots (mkF m pc L (.int x :: st))) (hd : decode bytes pc = .ok (.istore k, 2)) (hl : storeLocals L k (.int x) = some L') (hp : pc + 2 = pc') : Wk p l e R s m args below meth c bytes mxl rt Z a0 EL own n0 h0 ws S0 V h cells slots (mkF m pc' L' st) := by
  subst hp
  exact W.plain fun T hq hx hby t k => XS.istore hq hx rfl (hb hby hd) rfl hl k
theorem Wk.astoreN {k : Fin 4} {x : Value} {L' : Array Slot} (W : Wk p l e R s m args below meth c bytes mxl rt Z a0 EL own n0 h0 ws S0 V h cells slots (mkF m pc L (x :: st))) (hd : decode bytes pc = .ok (.astore_n k, 1)) (hr : x.isRef = true) (hl : storeLocals L k.val x = some L') (hp : pc + 1 = pc') : Wk p l e R s m args below meth c bytes mxl rt Z a0 EL own n0 h0 ws S0 V h cells slots (mkF m pc' L' st) := by
  subst hp
  exact W.plain fun T hq hx hby t k => XS.astoreN hq hx rfl (hb hby hd) rfl hr hl k
theorem Wk.astore {k : Nat} {x : Value} {L' : Array Slot} (W : Wk p l e R s m args below meth c bytes mxl rt Z a0 EL own n0 h0 ws S0 V h cells slots (mkF m pc L (x :: st))) (hd : decode bytes pc = .ok (.astore k, 2)) (hr : x.isRef = true) (hl : storeLocals L k x = some L') (hp : pc + 2 = pc') : Wk p l e R s m args below meth c bytes mxl rt Z a0 EL own n0 h0 ws S0 V h cells slots (mkF m pc' L' st) := by
  subst hp
  exact W.plain fun T hq hx hby t k => XS.astore hq hx rfl (hb hby hd) rfl hr hl k
theorem Wk.lstoreN {k : Fin 4} {x : Int64} {L' : Array Slot} (W : Wk p l e R s m args below meth c bytes mxl rt Z a0 EL own n0 h0 ws S0 V h cells slots (mkF m pc L (.long x :: st))) (hd : decode bytes pc = .ok (.lstore_n k, 1)) (hl : storeLocals L k.val (.long x) = some L') (hp : pc + 1 = pc') : Wk p l e R s m args below meth c bytes mxl rt Z a0 EL own n0 h0 ws S0 V h cells slots (mkF m pc' L' st) := by
  subst hp
  exact W.plain fun T hq hx hby t k => Jvm.Free.XT.lstoreN hq hx rfl (hb hby hd) rfl hl k
theorem Wk.lstore {k : Nat} {x : Int64} {L' : Array Slot} (W : Wk p l e R s m args below meth c bytes mxl rt Z a0 EL own n0 h0 ws S0 V h cells slots (mkF m pc L (.long x :: st))) (hd : decode bytes pc = .ok (.lstore k, 2)) (hl : storeLocals L k (.long x) = some L') (hp : pc + 2 = pc') : Wk p l e R s m args below meth c bytes mxl rt Z a0 EL own n0 h0 ws S0 V h cells slots (mkF m pc' L' st) := by
  subst hp
  exact W.plain fun T hq hx hby t k => Jvm.Free.XT.lstore hq hx rfl (hb hby hd) rfl hl k
theorem Wk.iinc {k : Nat} {cst : Int} {x v : Int32} {L' : Array Slot} (W : Wk p l e R s m args below meth c bytes mxl rt Z a0 EL own n0 h0 ws S0 V h cells slots (mkF m pc L st)) (hd : decode bytes pc = .ok (.iinc k cst, 3)) (hl : L[k]? = some (.val (.int x))) (hv : x + Int32.ofInt cst = v) (hl' : storeLocals L k (.int v) = some L') (hp : pc + 3 = pc') : Wk p l e R s m args below meth c bytes mxl rt Z a0 EL own n0 h0 ws S0 V h cells slots (mkF m pc' L' st) := by
  subst hv hp
  exact W.plain fun T hq hx hby t k => XS.iinc hq hx rfl (hb hby hd) hl hl' k
theorem Wk.goto {o : Int} (W : Wk p l e R s m args below meth c bytes mxl rt Z a0 EL own n0 h0 ws S0 V h cells slots (mkF m pc L st)) (hd : decode bytes pc = .ok (.goto o, 3))  (ho : 0 ≤ (pc : Int) + o) (hp : ((pc : Int) + o).toNat = pc') : Wk p l e R s m args below meth c bytes mxl rt Z a0 EL own n0 h0 ws S0 V h cells slots (mkF m pc' L st) := by
  exact W.plain fun T hq hx hby t k => XS.goto hq hx rfl (pc0 := pc) rfl (hb hby hd)  ho hp k
theorem Wk.ifT {cd : ClassFile.Cond} {x : Int32} {o : Int} (W : Wk p l e R s m args below meth c bytes mxl rt Z a0 EL own n0 h0 ws S0 V h cells slots (mkF m pc L (.int x :: st))) (hd : decode bytes pc = .ok (.ifCond cd o, 3)) (hc : if_icmp.holds cd x 0 = true) (ho : 0 ≤ (pc : Int) + o) (hp : ((pc : Int) + o).toNat = pc') : Wk p l e R s m args below meth c bytes mxl rt Z a0 EL own n0 h0 ws S0 V h cells slots (mkF m pc' L st) := by
  exact W.plain fun T hq hx hby t k => XS.ifYes hq hx rfl (pc0 := pc) rfl (hb hby hd) rfl ((if0 cd x).trans hc) ho hp k
theorem Wk.ifF {cd : ClassFile.Cond} {x : Int32} {o : Int} (W : Wk p l e R s m args below meth c bytes mxl rt Z a0 EL own n0 h0 ws S0 V h cells slots (mkF m pc L (.int x :: st))) (hd : decode bytes pc = .ok (.ifCond cd o, 3)) (hc : if_icmp.holds cd x 0 = false) (hp : pc + 3 = pc') : Wk p l e R s m args below meth c bytes mxl rt Z a0 EL own n0 h0 ws S0 V h cells slots (mkF m pc' L st) := by
  subst hp
  exact W.plain fun T hq hx hby t k => XS.ifNo hq hx rfl (hb hby hd) rfl ((if0 cd x).trans hc) k
theorem Wk.icmpT {cd : ClassFile.Cond} {x y : Int32} {o : Int} (W : Wk p l e R s m args below meth c bytes mxl rt Z a0 EL own n0 h0 ws S0 V h cells slots (mkF m pc L (.int y :: .int x :: st))) (hd : decode bytes pc = .ok (.if_icmp cd o, 3)) (hc : if_icmp.holds cd x y = true) (ho : 0 ≤ (pc : Int) + o) (hp : ((pc : Int) + o).toNat = pc') : Wk p l e R s m args below meth c bytes mxl rt Z a0 EL own n0 h0 ws S0 V h cells slots (mkF m pc' L st) := by
  exact W.plain fun T hq hx hby t k => XS.icmpYes hq hx rfl (pc0 := pc) rfl (hb hby hd) rfl hc ho hp k
theorem Wk.icmpF {cd : ClassFile.Cond} {x y : Int32} {o : Int} (W : Wk p l e R s m args below meth c bytes mxl rt Z a0 EL own n0 h0 ws S0 V h cells slots (mkF m pc L (.int y :: .int x :: st))) (hd : decode bytes pc = .ok (.if_icmp cd o, 3)) (hc : if_icmp.holds cd x y = false) (hp : pc + 3 = pc') : Wk p l e R s m args below meth c bytes mxl rt Z a0 EL own n0 h0 ws S0 V h cells slots (mkF m pc' L st) := by
  subst hp
  exact W.plain fun T hq hx hby t k => XS.icmpNo hq hx rfl (hb hby hd) rfl hc k
theorem Wk.ifnullT {o : Int} (W : Wk p l e R s m args below meth c bytes mxl rt Z a0 EL own n0 h0 ws S0 V h cells slots (mkF m pc L (.null :: st))) (hd : decode bytes pc = .ok (.ifnull o, 3))  (ho : 0 ≤ (pc : Int) + o) (hp : ((pc : Int) + o).toNat = pc') : Wk p l e R s m args below meth c bytes mxl rt Z a0 EL own n0 h0 ws S0 V h cells slots (mkF m pc' L st) := by
  exact W.plain fun T hq hx hby t k => XS.ifnullYes hq hx rfl (pc0 := pc) rfl (hb hby hd) rfl ho hp k
theorem Wk.ifnullF {o : Int} {b : Addr} (W : Wk p l e R s m args below meth c bytes mxl rt Z a0 EL own n0 h0 ws S0 V h cells slots (mkF m pc L (.ref b :: st))) (hd : decode bytes pc = .ok (.ifnull o, 3))  (hp : pc + 3 = pc') : Wk p l e R s m args below meth c bytes mxl rt Z a0 EL own n0 h0 ws S0 V h cells slots (mkF m pc' L st) := by
  subst hp
  exact W.plain fun T hq hx hby t k => XS.ifnullNo hq hx rfl (hb hby hd) rfl k
theorem Wk.ifnonnullT {o : Int} {b : Addr} (W : Wk p l e R s m args below meth c bytes mxl rt Z a0 EL own n0 h0 ws S0 V h cells slots (mkF m pc L (.ref b :: st))) (hd : decode bytes pc = .ok (.ifnonnull o, 3))  (ho : 0 ≤ (pc : Int) + o) (hp : ((pc : Int) + o).toNat = pc') : Wk p l e R s m args below meth c bytes mxl rt Z a0 EL own n0 h0 ws S0 V h cells slots (mkF m pc' L st) := by
  exact W.plain fun T hq hx hby t k => Jvm.Free.XT.ifnonnullYes hq hx rfl (pc0 := pc) rfl (hb hby hd) rfl ho hp k
theorem Wk.ifnonnullF {o : Int} (W : Wk p l e R s m args below meth c bytes mxl rt Z a0 EL own n0 h0 ws S0 V h cells slots (mkF m pc L (.null :: st))) (hd : decode bytes pc = .ok (.ifnonnull o, 3))  (hp : pc + 3 = pc') : Wk p l e R s m args below meth c bytes mxl rt Z a0 EL own n0 h0 ws S0 V h cells slots (mkF m pc' L st) := by
  subst hp
  exact W.plain fun T hq hx hby t k => Jvm.Free.XT.ifnonnullNo hq hx rfl (hb hby hd) rfl k
theorem Wk.acmpT {cd : ClassFile.ACond} {x y : Value} {o : Int} (W : Wk p l e R s m args below meth c bytes mxl rt Z a0 EL own n0 h0 ws S0 V h cells slots (mkF m pc L (y :: x :: st))) (hd : decode bytes pc = .ok (.if_acmp cd o, 3)) (hx' : x.isRef = true) (hy' : y.isRef = true) (hc : Jvm.Free.XT.acmp cd x y = true) (ho : 0 ≤ (pc : Int) + o) (hp : ((pc : Int) + o).toNat = pc') : Wk p l e R s m args below meth c bytes mxl rt Z a0 EL own n0 h0 ws S0 V h cells slots (mkF m pc' L st) := by
  exact W.plain fun T hq hx hby t k => Jvm.Free.XT.acmpYes hq hx rfl (pc0 := pc) rfl (hb hby hd) rfl hx' hy' hc ho hp k
theorem Wk.acmpF {cd : ClassFile.ACond} {x y : Value} {o : Int} (W : Wk p l e R s m args below meth c bytes mxl rt Z a0 EL own n0 h0 ws S0 V h cells slots (mkF m pc L (y :: x :: st))) (hd : decode bytes pc = .ok (.if_acmp cd o, 3)) (hx' : x.isRef = true) (hy' : y.isRef = true) (hc : Jvm.Free.XT.acmp cd x y = false) (hp : pc + 3 = pc') : Wk p l e R s m args below meth c bytes mxl rt Z a0 EL own n0 h0 ws S0 V h cells slots (mkF m pc' L st) := by
  subst hp
  exact W.plain fun T hq hx hby t k => Jvm.Free.XT.acmpNo hq hx rfl (hb hby hd) rfl hx' hy' hc k
theorem Wk.new {C : String} {index n cells' slots' : Nat} (W : Wk p l e R s m args below meth c bytes mxl rt Z a0 EL own n0 h0 ws S0 V h cells slots (mkF m pc L st)) (hd : decode bytes pc = .ok (.new index, 3)) (w : (Jvm.Cond.classLink own index C).before a0 Z = true) (wi : (Jvm.Cond.instantiable C n).before a0 Z = true) (wz : (Jvm.Cond.initialized C).before a0 Z = true) (hp : pc + 3 = pc') (hc : cells + 1 = cells') (hs : slots + n = slots') (hc' : cells' ≤ R.cells) (hs' : slots' ≤ R.slots) :
    ∃ h' a, Wk p l e R s m args below meth c bytes mxl rt Z a0 EL own n0 h0 ws S0 V h' cells' slots' (mkF m pc' L (.ref a :: st)) ∧ Ext h h' ∧ a = h.size ∧ (Exa Z h' h.size C ∧ (∀ {O nm d : String} {ty : FieldType}, Laid Z a0 C O nm d → parseFieldDescriptor d = some ty → Fld Z h' h.size O nm d (defaultValue ty)) ∧ Unt h' h.size) ∧ Safe Z EL V h' a ∧ ∀ x, Safe Z EL V h x → Safe Z EL V h' x := by
  subst hp hc hs
  refine W.grew (G := fun a => mkF m (pc + 3) L (.ref a :: st)) (Q := fun h' => Exa Z h' h.size C ∧ (∀ {O nm d : String} {ty : FieldType}, Laid Z a0 C O nm d → parseFieldDescriptor d = some ty → Fld Z h' h.size O nm d (defaultValue ty)) ∧ Unt h' h.size) fun T locs X eT hx hby hZ hown => ?_
  obtain ⟨T', h', X', e', E, A, D, U, st'⟩ := newO X hx hZ hown w wi wz eT (g := mkF m pc L st) rfl (hb hby hd) hc' hs'
  exact ⟨T', h', X', e', E, ⟨A, D, U⟩, st'⟩
theorem Wk.newarr {aty : ArrayType} {z : Int32} {cap cells' slots' : Nat} (W : Wk p l e R s m args below meth c bytes mxl rt Z a0 EL own n0 h0 ws S0 V h cells slots (mkF m pc L (.int z :: st))) (hd : decode bytes pc = .ok (.newarray aty, 2)) (w : (Jvm.Cond.arrayClass (newarray.typeOf aty)).before a0 Z = true) (hn : ¬ z < 0) (hcap : z.toNatClampNeg ≤ cap) (hbig : cap * 8 ≤ 536870912) (hp : pc + 2 = pc') (hc : cells + 1 = cells') (hs : slots + cap = slots') (hc' : cells' ≤ R.cells) (hs' : slots' ≤ R.slots) :
    ∃ h' a, Wk p l e R s m args below meth c bytes mxl rt Z a0 EL own n0 h0 ws S0 V h' cells' slots' (mkF m pc' L (.ref a :: st)) ∧ Ext h h' ∧ a = h.size ∧ (∃ k, Arv Z h' h.size k (newarray.typeOf aty) z [] (defaultValue (newarray.typeOf aty))) ∧ Safe Z EL V h' a ∧ ∀ x, Safe Z EL V h x → Safe Z EL V h' x := by
  subst hp hc hs
  refine W.grew (G := fun a => mkF m (pc + 2) L (.ref a :: st)) (Q := fun h' => ∃ k, Arv Z h' h.size k (newarray.typeOf aty) z [] (defaultValue (newarray.typeOf aty))) fun T locs X eT hx hby hZ hown => ?_
  obtain ⟨T', h', k, X', e', E, A, st'⟩ := newP X hx hZ w eT (g := mkF m pc L (.int z :: st)) rfl (hb hby hd) rfl hn (cap := cap) hcap hbig hc' hs'
  exact ⟨T', h', X', e', E, ⟨k, Arv.new A hn⟩, st'⟩
theorem Wk.newarrE {aty : ArrayType} {z : Int32} {ad : String} {cap cells' slots' : Nat} (W : Wk p l e R s m args below meth c bytes mxl rt Z a0 EL own n0 h0 ws S0 V h cells slots (mkF m pc L (.int z :: st))) (hd : decode bytes pc = .ok (.newarray aty, 2)) (w : (Jvm.Cond.arrayClass (newarray.typeOf aty)).before a0 Z = true) (had : "[" ++ (newarray.typeOf aty).toString = ad) (hn : ¬ z < 0) (hcap : z.toNatClampNeg ≤ cap) (hbig : cap * 8 ≤ 536870912) (hp : pc + 2 = pc') (hc : cells + 1 = cells') (hs : slots + cap = slots') (hc' : cells' ≤ R.cells) (hs' : slots' ≤ R.slots) :
    ∃ h' a, Wk p l e R s m args below meth c bytes mxl rt Z a0 EL own n0 h0 ws S0 V h' cells' slots' (mkF m pc' L (.ref a :: st)) ∧ Ext h h' ∧ a = h.size ∧ ((∃ k, Arv Z h' h.size k (newarray.typeOf aty) z [] (defaultValue (newarray.typeOf aty))) ∧ Exa Z h' h.size ad) ∧ Safe Z EL V h' a ∧ ∀ x, Safe Z EL V h x → Safe Z EL V h' x := by
  subst hp hc hs
  refine W.grew (G := fun a => mkF m (pc + 2) L (.ref a :: st)) (Q := fun h' => (∃ k, Arv Z h' h.size k (newarray.typeOf aty) z [] (defaultValue (newarray.typeOf aty))) ∧ Exa Z h' h.size ad) fun T locs X eT hx hby hZ hown => ?_
  obtain ⟨T', h', k, X', e', E, A, B, st'⟩ := newPE X hx hZ w eT (g := mkF m pc L (.int z :: st)) rfl (hb hby hd) rfl hn (cap := cap) hcap hbig hc' hs' had
  exact ⟨T', h', X', e', E, ⟨⟨k, Arv.new A hn⟩, B⟩, st'⟩
theorem Wk.clone {index : Nat} {ad : String} {a : Addr} {k : ClassId} {ty : FieldType} {z : Int32} {vs : List Value} {dv : Value} {cap Wd cells' slots' : Nat} (W : Wk p l e R s m args below meth c bytes mxl rt Z a0 EL own n0 h0 ws S0 V h cells slots (mkF m pc L (.ref a :: st))) (hd : decode bytes pc = .ok (.invokevirtual index, 3)) (w1 : (Jvm.Cond.methodLink own index ⟨ad, "clone", "()Ljava/lang/Object;"⟩).before a0 Z = true) (w2 : (Jvm.Cond.sameMethod ad "java/lang/Object" "clone" "()Ljava/lang/Object;").before a0 Z = true) (w3 : (Jvm.Cond.native ⟨"java/lang/Object", "clone", "()Ljava/lang/Object;"⟩).before a0 Z = true) (w4 : (Jvm.Cond.instanceMethod ⟨"java/lang/Object", "clone", "()Ljava/lang/Object;"⟩).before a0 Z = true) (w5 : (Jvm.Cond.selects ad ⟨ad, "clone", "()Ljava/lang/Object;"⟩ ⟨"java/lang/Object", "clone", "()Ljava/lang/Object;"⟩).before a0 Z = true) (w6 : (Jvm.Cond.castable ad "java/lang/Cloneable").before a0 Z = true) (A : Arv Z h a k ty z vs dv) (E : Exa Z h a ad) (hL : L.size = mxl) (hW : (st.map fun v => v.category).sum = Wd) (hf : 1 ≤ R.frames) (hl : Wd + 14 ≤ R.locals) (hcap : z.toNatClampNeg ≤ cap) (hp : pc + 3 = pc') (hc : cells + 1 = cells') (hs : slots + cap = slots') (hc' : cells' ≤ R.cells) (hs' : slots' ≤ R.slots) :
    ∃ h' a, Wk p l e R s m args below meth c bytes mxl rt Z a0 EL own n0 h0 ws S0 V h' cells' slots' (mkF m pc' L (.ref a :: st)) ∧ Ext h h' ∧ a = h.size ∧ (Arv Z h' h.size k ty z vs dv ∧ Exa Z h' h.size ad) ∧ Safe Z EL V h' a ∧ ∀ x, Safe Z EL V h x → Safe Z EL V h' x := by
  subst hp hc hs hW
  have hml := W.1.2.2.1
  refine W.grew (G := fun b => mkF m (pc + 3) L (.ref b :: st)) (Q := fun h' => Arv Z h' h.size k ty z vs dv ∧ Exa Z h' h.size ad) fun T locs X eT hx hby hZ hown => ?_
  obtain ⟨T', h', X', e', E', ⟨c', B1, B2, B3, B4, B5, B6⟩, C, st'⟩ := cloneH X hx hZ hown w1 w2 w3 w4 w5 w6 eT (Arv.arh A) E (g := mkF m pc L (.ref a :: st)) rfl (hL.trans hml.symm) rfl (hb hby hd) hf (by show 2 * 0 + _ ≤ _; exact Nat.le_of_eq (Nat.zero_add _)) hl hcap hc' hs'
  exact ⟨T', h', X', e', E', ⟨⟨c', B1, B2, B3, B4, B5, B6⟩, C⟩, st'⟩
theorem Wk.getf {index : Nat} {R0 O n d : String} {a : Addr} {v : Value} (W : Wk p l e R s m args below meth c bytes mxl rt Z a0 EL own n0 h0 ws S0 V h cells slots (mkF m pc L (.ref a :: st))) (hd : decode bytes pc = .ok (.getfield index, 3)) (w : (Jvm.Cond.fieldLink own index R0 n d).before a0 Z = true) (via : Via Z R0 O n d) (F : Fld Z h a O n d v) (hp : pc + 3 = pc') : Wk p l e R s m args below meth c bytes mxl rt Z a0 EL own n0 h0 ws S0 V h cells slots (mkF m pc' L (v :: st)) := by
  subst hp
  exact W.reads fun T locs X eT hx hby hZ hown => getF X hx hZ hown (host := "") (Or.inl w) via eT F (g := mkF m pc L (.ref a :: st)) rfl rfl (hb hby hd)
theorem Wk.gets {index : Nat} {O n d : String} {v : Value} (W : Wk p l e R s m args below meth c bytes mxl rt Z a0 EL own n0 h0 ws S0 V h cells slots (mkF m pc L st)) (hd : decode bytes pc = .ok (.getstatic index, 3)) (w : (Jvm.Cond.fieldLink own index O n d).before a0 Z = true) (S : Sta Z Z.heap O n d v) (hp : pc + 3 = pc') : Wk p l e R s m args below meth c bytes mxl rt Z a0 EL own n0 h0 ws S0 V h cells slots (mkF m pc' L (v :: st)) := by
  subst hp
  have S' := W.sta S
  exact W.reads fun T locs X eT hx hby hZ hown => getS (host := "") X hx hZ hown w Via.refl eT S' (g := mkF m pc L st) rfl (hb hby hd)
theorem Wk.castY {index : Nat} {K : String} {a : Addr} (W : Wk p l e R s m args below meth c bytes mxl rt Z a0 EL own n0 h0 ws S0 V h cells slots (mkF m pc L (.ref a :: st))) (hd : decode bytes pc = .ok (.checkcast index, 3)) (w : (Jvm.Cond.classLink own index K).before a0 Z = true) (I : Ins Z h a K true) (hp : pc + 3 = pc') : Wk p l e R s m args below meth c bytes mxl rt Z a0 EL own n0 h0 ws S0 V h cells slots (mkF m pc' L (.ref a :: st)) := by
  subst hp
  exact W.reads fun T locs X eT hx hby hZ hown => Jvm.RoadKit.castY X hx hZ hown w eT I (g := mkF m pc L (.ref a :: st)) rfl rfl (hb hby hd)
theorem Wk.instY {index : Nat} {K : String} {a : Addr} (W : Wk p l e R s m args below meth c bytes mxl rt Z a0 EL own n0 h0 ws S0 V h cells slots (mkF m pc L (.ref a :: st))) (hd : decode bytes pc = .ok (.instanceof index, 3)) (w : (Jvm.Cond.classLink own index K).before a0 Z = true) (I : Ins Z h a K true) (hp : pc + 3 = pc') : Wk p l e R s m args below meth c bytes mxl rt Z a0 EL own n0 h0 ws S0 V h cells slots (mkF m pc' L (.int 1 :: st)) := by
  subst hp
  exact W.reads fun T locs X eT hx hby hZ hown => Jvm.RoadKit.instY X hx hZ hown w eT I (g := mkF m pc L (.ref a :: st)) rfl rfl (hb hby hd)
theorem Wk.putf {index kk : Nat} {R0 O n d C : String} {ty : FieldType} {a : Addr} {v old : Value} (W : Wk p l e R s m args below meth c bytes mxl rt Z a0 EL own n0 h0 ws S0 V h cells slots (mkF m pc L (v :: .ref a :: st))) (hd : decode bytes pc = .ok (.putfield index, 3)) (w : (Jvm.Cond.fieldLink own index R0 n d).before a0 Z = true) (via : Via Z R0 O n d) (F : Fld Z h a O n d old) (E : Exa Z h a C) (Lw : (Jvm.Cond.lays C O n d).before a0 Z = true ∨ ((Jvm.Cond.laysFinal C O n d).before a0 Z = true ∧ own = O ∧ meth.name = "<init>")) (wi : (Jvm.Cond.instantiable C kk).before a0 Z = true) (hty : parseFieldDescriptor d = some ty) (hn : narrow ty v = v) (hf : fits ty v = true) (sf : Safe Z EL V h a) (q : a ∈ ws ∨ h0.size ≤ a) (hp : pc + 3 = pc') :
    ∃ h', Wk p l e R s m args below meth c bytes mxl rt Z a0 EL own n0 h0 ws S0 V h' cells slots (mkF m pc' L st) ∧ Wr h h' a (Jvm.RoadKit.slotOf Z O n d) v ∧ ∀ x, Safe Z EL V h x → Safe Z EL V h' x := by
  subst hp
  exact W.wrote (cells' := 0) (slots' := 0) (h' := h) sf q fun T locs X eT hx hby hZ hown => putF X hx hZ hown (host := "") (Or.inl w) via eT F E Lw wi hty hn hf (g := mkF m pc L (v :: .ref a :: st)) rfl rfl (hb hby hd)
theorem Wk.initO {index : Nat} {a : Addr} {Wd : Nat} (W : Wk p l e R s m args below meth c bytes mxl rt Z a0 EL own n0 h0 ws S0 V h cells slots (mkF m pc L (.ref a :: st))) (hd : decode bytes pc = .ok (.invokespecial index, 3)) (w1 : (Jvm.Cond.methodLink own index Lib.objectInit).before a0 Z = true) (w2 : (Jvm.Cond.instanceMethod Lib.objectInit).before a0 Z = true) (w3 : (Jvm.Cond.code Lib.objectInit ⟨#[0xb1]⟩ 1 none).before a0 Z = true) (hL : L.size = mxl) (hW : (st.map fun v => v.category).sum = Wd) (hf : 1 ≤ R.frames) (hl : Wd + 12 ≤ R.locals) (hp : pc + 3 = pc') : Wk p l e R s m args below meth c bytes mxl rt Z a0 EL own n0 h0 ws S0 V h cells slots (mkF m pc' L st) := by
  subst hp hW
  have hml := W.1.2.2.1
  exact W.reads fun T locs X eT hx hby hZ hown => Jvm.RoadKit.initO X hx hZ hown w1 w2 w3 eT (g := mkF m pc L (.ref a :: st)) rfl (hL.trans hml.symm) rfl (hb hby hd) hf (by show 2 * 0 + _ ≤ _; exact Nat.le_of_eq (Nat.zero_add _)) hl
theorem Wk.ldcI {index : Nat} {v : Int32} (W : Wk p l e R s m args below meth c bytes mxl rt Z a0 EL own n0 h0 ws S0 V h cells slots (mkF m pc L st)) (hd : decode bytes pc = .ok (.ldc index, 2)) (w : (Jvm.Cond.constant own index v).before a0 Z = true) (hp : pc + 2 = pc') : Wk p l e R s m args below meth c bytes mxl rt Z a0 EL own n0 h0 ws S0 V h cells slots (mkF m pc' L (.int v :: st)) := by
  subst hp
  exact W.reads fun T locs X eT hx hby hZ hown => ⟨T, X, eT, X.ldcInt hx hown (mvT hZ w) (g := mkF m pc L st) rfl (hb hby hd)⟩
theorem Wk.ldc2 {index : Nat} {v : Int64} (W : Wk p l e R s m args below meth c bytes mxl rt Z a0 EL own n0 h0 ws S0 V h cells slots (mkF m pc L st)) (hd : decode bytes pc = .ok (.ldc2_w index, 3)) (w : (Jvm.Cond.constantLong own index v).before a0 Z = true) (hp : pc + 3 = pc') : Wk p l e R s m args below meth c bytes mxl rt Z a0 EL own n0 h0 ws S0 V h cells slots (mkF m pc' L (.long v :: st)) := by
  subst hp
  exact W.reads fun T locs X eT hx hby hZ hown => ⟨T, X, eT, X.ldc2Long hx hown (mvT hZ w) (g := mkF m pc L st) rfl (hb hby hd)⟩
section Arrays
variable {a : Addr} {k : ClassId} {z j : Int32} {vs : List Value} {dv w : Value} {ty : FieldType} {i : Nat}
theorem Wk.alen (W : Wk p l e R s m args below meth c bytes mxl rt Z a0 EL own n0 h0 ws S0 V h cells slots (mkF m pc L (.ref a :: st))) (hd : decode bytes pc = .ok (.arraylength, 1)) (A : Arv Z h a k ty z vs dv) (hp : pc + 1 = pc') : Wk p l e R s m args below meth c bytes mxl rt Z a0 EL own n0 h0 ws S0 V h cells slots (mkF m pc' L (.int z :: st)) := by
  subst hp
  obtain ⟨cl, A1, -, S, M, -, -⟩ := A
  exact W.reads fun T locs X eT hx hby hZ hown => ⟨T, X, eT, fun t q => X.arraylength hx (by rw [eT]; exact A1.1) (State.isArrayOf_alike hZ.alike A1.2.1) (g := mkF m pc L (.ref a :: st)) rfl rfl (hb hby hd) t (by rw [len_of S M]; exact q)⟩
theorem Wk.caload (W : Wk p l e R s m args below meth c bytes mxl rt Z a0 EL own n0 h0 ws S0 V h cells slots (mkF m pc L (.int j :: .ref a :: st))) (hd : decode bytes pc = .ok (.caload, 1)) (A : Arv Z h a k .char z vs dv) (hj : ¬ j < 0 ∧ j < z) (hv : vs.getD j.toNatClampNeg dv = w) (hp : pc + 1 = pc') : Wk p l e R s m args below meth c bytes mxl rt Z a0 EL own n0 h0 ws S0 V h cells slots (mkF m pc' L (w :: st)) := by
  subst hp
  obtain ⟨cl, A1, -, S, M, H, -⟩ := A
  have hin := inb_of S hj
  exact W.reads fun T locs X eT hx hby hZ hown => ⟨T, X, eT, X.caload hx (by rw [eT]; exact A1.1) (State.isArrayOf_alike hZ.alike A1.2.1) A1.2.2 hin (H.at hin hv) (g := mkF m pc L (.int j :: .ref a :: st)) rfl rfl (hb hby hd)⟩
theorem Wk.baload (W : Wk p l e R s m args below meth c bytes mxl rt Z a0 EL own n0 h0 ws S0 V h cells slots (mkF m pc L (.int j :: .ref a :: st))) (hd : decode bytes pc = .ok (.baload, 1)) (A : Arv Z h a k .byte z vs dv) (hj : ¬ j < 0 ∧ j < z) (hv : vs.getD j.toNatClampNeg dv = w) (hp : pc + 1 = pc') : Wk p l e R s m args below meth c bytes mxl rt Z a0 EL own n0 h0 ws S0 V h cells slots (mkF m pc' L (w :: st)) := by
  subst hp
  obtain ⟨cl, A1, -, S, M, H, -⟩ := A
  have hin := inb_of S hj
  exact W.reads fun T locs X eT hx hby hZ hown => ⟨T, X, eT, X.baloadBytes hx (by rw [eT]; exact A1.1) (State.isArrayOf_alike hZ.alike A1.2.1) A1.2.2 hin (H.at hin hv) (g := mkF m pc L (.int j :: .ref a :: st)) rfl rfl (hb hby hd)⟩
theorem Wk.iaload (W : Wk p l e R s m args below meth c bytes mxl rt Z a0 EL own n0 h0 ws S0 V h cells slots (mkF m pc L (.int j :: .ref a :: st))) (hd : decode bytes pc = .ok (.iaload, 1)) (A : Arv Z h a k .int z vs dv) (hj : ¬ j < 0 ∧ j < z) (hv : vs.getD j.toNatClampNeg dv = w) (hp : pc + 1 = pc') : Wk p l e R s m args below meth c bytes mxl rt Z a0 EL own n0 h0 ws S0 V h cells slots (mkF m pc' L (w :: st)) := by
  subst hp
  obtain ⟨cl, A1, -, S, M, H, -⟩ := A
  have hin := inb_of S hj
  exact W.reads fun T locs X eT hx hby hZ hown => ⟨T, X, eT, X.iaload hx (by rw [eT]; exact A1.1) (State.isArrayOf_alike hZ.alike A1.2.1) A1.2.2 hin (H.at hin hv) (g := mkF m pc L (.int j :: .ref a :: st)) rfl rfl (hb hby hd)⟩
theorem Wk.laload (W : Wk p l e R s m args below meth c bytes mxl rt Z a0 EL own n0 h0 ws S0 V h cells slots (mkF m pc L (.int j :: .ref a :: st))) (hd : decode bytes pc = .ok (.laload, 1)) (A : Arv Z h a k .long z vs dv) (hj : ¬ j < 0 ∧ j < z) (hv : vs.getD j.toNatClampNeg dv = w) (hp : pc + 1 = pc') : Wk p l e R s m args below meth c bytes mxl rt Z a0 EL own n0 h0 ws S0 V h cells slots (mkF m pc' L (w :: st)) := by
  subst hp
  obtain ⟨cl, A1, -, S, M, H, -⟩ := A
  have hin := inb_of S hj
  exact W.reads fun T locs X eT hx hby hZ hown => ⟨T, X, eT, X.laload hx (by rw [eT]; exact A1.1) (State.isArrayOf_alike hZ.alike A1.2.1) A1.2.2 hin (H.at hin hv) (g := mkF m pc L (.int j :: .ref a :: st)) rfl rfl (hb hby hd)⟩
theorem Wk.saload (W : Wk p l e R s m args below meth c bytes mxl rt Z a0 EL own n0 h0 ws S0 V h cells slots (mkF m pc L (.int j :: .ref a :: st))) (hd : decode bytes pc = .ok (.saload, 1)) (A : Arv Z h a k .short z vs dv) (hj : ¬ j < 0 ∧ j < z) (hv : vs.getD j.toNatClampNeg dv = w) (hp : pc + 1 = pc') : Wk p l e R s m args below meth c bytes mxl rt Z a0 EL own n0 h0 ws S0 V h cells slots (mkF m pc' L (w :: st)) := by
  subst hp
  obtain ⟨cl, A1, -, S, M, H, -⟩ := A
  have hin := inb_of S hj
  exact W.reads fun T locs X eT hx hby hZ hown => ⟨T, X, eT, X.saload hx (by rw [eT]; exact A1.1) (State.isArrayOf_alike hZ.alike A1.2.1) A1.2.2 hin (H.at hin hv) (g := mkF m pc L (.int j :: .ref a :: st)) rfl rfl (hb hby hd)⟩
theorem Wk.aaload (W : Wk p l e R s m args below meth c bytes mxl rt Z a0 EL own n0 h0 ws S0 V h cells slots (mkF m pc L (.int j :: .ref a :: st))) (hd : decode bytes pc = .ok (.aaload, 1)) (A : Arv Z h a k ty z vs dv) (ht : ty.isReference = true) (hj : ¬ j < 0 ∧ j < z) (hv : vs.getD j.toNatClampNeg dv = w) (hp : pc + 1 = pc') : Wk p l e R s m args below meth c bytes mxl rt Z a0 EL own n0 h0 ws S0 V h cells slots (mkF m pc' L (w :: st)) := by
  subst hp
  obtain ⟨cl, A1, -, S, M, H, -⟩ := A
  have hin := inb_of S hj
  exact W.reads fun T locs X eT hx hby hZ hown => ⟨T, X, eT, X.aaload hx (by rw [eT]; exact A1.1) (State.isArrayOf_alike hZ.alike A1.2.1) ht A1.2.2 hin (H.at hin hv) (g := mkF m pc L (.int j :: .ref a :: st)) rfl rfl (hb hby hd)⟩
theorem Wk.castore {x x' : Int32} (W : Wk p l e R s m args below meth c bytes mxl rt Z a0 EL own n0 h0 ws S0 V h cells slots (mkF m pc L (.int x :: .int j :: .ref a :: st))) (hd : decode bytes pc = .ok (.castore, 1)) (A : Arv Z h a k .char z vs dv) (hj : ¬ j < 0 ∧ j < z) (hi : j.toNatClampNeg = i) (hlt : i < vs.length) (hx' : nar .char x = x') (sf : Safe Z EL V h a) (q : a ∈ ws ∨ h0.size ≤ a) (hp : pc + 1 = pc') :
    ∃ h', Wk p l e R s m args below meth c bytes mxl rt Z a0 EL own n0 h0 ws S0 V h' cells slots (mkF m pc' L st) ∧ Wr h h' a j.toNatClampNeg (.int x') ∧ Arv Z h' a k .char z (vs.set i (.int x')) dv ∧ ∀ x, Safe Z EL V h x → Safe Z EL V h' x := by
  subst hp hx'
  obtain ⟨cl, A1, q1, S, M, H, G⟩ := A
  have hin := inb_of S hj
  obtain ⟨h', W', w', sf'⟩ := W.wrote (cells' := 0) (slots' := 0) (h' := h) sf q fun T locs X eT hx hby hZ hown => stC X hx hZ eT A1 hin (g := mkF m pc L (.int x :: .int j :: .ref a :: st)) rfl rfl (hb hby hd)
  exact ⟨h', W', w', Arv.set A1 q1 S M H G (fits_nar_char _) w' i hi hlt, sf'⟩
theorem Wk.bastore {x x' : Int32} (W : Wk p l e R s m args below meth c bytes mxl rt Z a0 EL own n0 h0 ws S0 V h cells slots (mkF m pc L (.int x :: .int j :: .ref a :: st))) (hd : decode bytes pc = .ok (.bastore, 1)) (A : Arv Z h a k .byte z vs dv) (hj : ¬ j < 0 ∧ j < z) (hi : j.toNatClampNeg = i) (hlt : i < vs.length) (hx' : nar .byte x = x') (sf : Safe Z EL V h a) (q : a ∈ ws ∨ h0.size ≤ a) (hp : pc + 1 = pc') :
    ∃ h', Wk p l e R s m args below meth c bytes mxl rt Z a0 EL own n0 h0 ws S0 V h' cells slots (mkF m pc' L st) ∧ Wr h h' a j.toNatClampNeg (.int x') ∧ Arv Z h' a k .byte z (vs.set i (.int x')) dv ∧ ∀ x, Safe Z EL V h x → Safe Z EL V h' x := by
  subst hp hx'
  obtain ⟨cl, A1, q1, S, M, H, G⟩ := A
  have hin := inb_of S hj
  obtain ⟨h', W', w', sf'⟩ := W.wrote (cells' := 0) (slots' := 0) (h' := h) sf q fun T locs X eT hx hby hZ hown => stB X hx hZ eT A1 hin (g := mkF m pc L (.int x :: .int j :: .ref a :: st)) rfl rfl (hb hby hd)
  exact ⟨h', W', w', Arv.set A1 q1 S M H G (fits_nar_byte _) w' i hi hlt, sf'⟩
theorem Wk.iastore {x x' : Int32} (W : Wk p l e R s m args below meth c bytes mxl rt Z a0 EL own n0 h0 ws S0 V h cells slots (mkF m pc L (.int x :: .int j :: .ref a :: st))) (hd : decode bytes pc = .ok (.iastore, 1)) (A : Arv Z h a k .int z vs dv) (hj : ¬ j < 0 ∧ j < z) (hi : j.toNatClampNeg = i) (hlt : i < vs.length) (hx' : x = x') (sf : Safe Z EL V h a) (q : a ∈ ws ∨ h0.size ≤ a) (hp : pc + 1 = pc') :
    ∃ h', Wk p l e R s m args below meth c bytes mxl rt Z a0 EL own n0 h0 ws S0 V h' cells slots (mkF m pc' L st) ∧ Wr h h' a j.toNatClampNeg (.int x') ∧ Arv Z h' a k .int z (vs.set i (.int x')) dv ∧ ∀ x, Safe Z EL V h x → Safe Z EL V h' x := by
  subst hp hx'
  obtain ⟨cl, A1, q1, S, M, H, G⟩ := A
  have hin := inb_of S hj
  obtain ⟨h', W', w', sf'⟩ := W.wrote (cells' := 0) (slots' := 0) (h' := h) sf q fun T locs X eT hx hby hZ hown => stI X hx hZ eT A1 hin (g := mkF m pc L (.int x :: .int j :: .ref a :: st)) rfl rfl (hb hby hd)
  exact ⟨h', W', w', Arv.set A1 q1 S M H G rfl w' i hi hlt, sf'⟩
theorem Wk.lastore {x x' : Int64} (W : Wk p l e R s m args below meth c bytes mxl rt Z a0 EL own n0 h0 ws S0 V h cells slots (mkF m pc L (.long x :: .int j :: .ref a :: st))) (hd : decode bytes pc = .ok (.lastore, 1)) (A : Arv Z h a k .long z vs dv) (hj : ¬ j < 0 ∧ j < z) (hi : j.toNatClampNeg = i) (hlt : i < vs.length) (hx' : x = x') (sf : Safe Z EL V h a) (q : a ∈ ws ∨ h0.size ≤ a) (hp : pc + 1 = pc') :
    ∃ h', Wk p l e R s m args below meth c bytes mxl rt Z a0 EL own n0 h0 ws S0 V h' cells slots (mkF m pc' L st) ∧ Wr h h' a j.toNatClampNeg (.long x') ∧ Arv Z h' a k .long z (vs.set i (.long x')) dv ∧ ∀ x, Safe Z EL V h x → Safe Z EL V h' x := by
  subst hp hx'
  obtain ⟨cl, A1, q1, S, M, H, G⟩ := A
  have hin := inb_of S hj
  obtain ⟨h', W', w', sf'⟩ := W.wrote (cells' := 0) (slots' := 0) (h' := h) sf q fun T locs X eT hx hby hZ hown => stJ X hx hZ eT A1 hin (g := mkF m pc L (.long x :: .int j :: .ref a :: st)) rfl rfl (hb hby hd)
  exact ⟨h', W', w', Arv.set A1 q1 S M H G rfl w' i hi hlt, sf'⟩
end Arrays

/-- what a walk owes at its end -/
def Done (p : Program) (e : Env) (below : List Frame) (S0 s : State) (Z : State) (EL : List (String × Nat)) (n0 : Nat) (h0 : Heap) (ws : List Addr) (R : Room) (Q : Option Value → Heap → Vm → Prop) : Prop :=
  ∃ s₂ o, Steps p.tables e below S0 s₂ ∧ s₂.status = .running ∧ Ended s₂ below o ∧ ∃ v L, o = .returned v ∧ (Fr n0 L ∧ Keep h0 s₂.heap ws ∧ Q v s₂.heap s₂.vm) ∧ CHr Z EL s.vm h0 s₂.vm s₂.heap ∧ ReturnedEndW s o s₂ L R.cells R.slots
theorem Wk.fin {g : JFrame} (W : Wk p l e R s m args below meth c bytes mxl rt Z a0 EL own n0 h0 ws S0 V h cells slots g) {v : Option Value} {Q : Option Value → Heap → Vm → Prop} (hv : rt = none → v = none) (hc : cells ≤ R.cells) (hs : slots ≤ R.slots) (hQ : ∀ V', (∀ x, x < h.size → Safe Z EL V h x → Safe Z EL V' h x) → Q v h V')
    (f : ∀ (T : State) (locs : List Loc) (fs : List Frame), Stand p l e R (s.setVm V) m args below meth c T locs cells slots → p.tables.exec = Jvm.exec → c.code = bytes → (∀ (f : JFrame) (acts : List Action), f.method = m → f.locked = none → f.entered = [] → (doReturn e (T.setTop f) acts v).1 = T.setFrames fs) → Steps p.tables e below (T.setTop g) (T.setFrames fs)) : Done p e below S0 s Z EL n0 h0 ws R Q := by
  obtain ⟨a1, b, T, locs, X, eT, N, k⟩ := W
  obtain ⟨k0, hS, hk⟩ := b.2.2.1
  obtain ⟨fs, hr, hrun, hended, r1, r2, r3, r4⟩ := X.leaveW hS (by rw [eT]; exact hk) (v := v) (fun z => hv (by rw [← a1.2.2.2.1]; exact z)) a1.2.2.2.2.1
  have hh : (T.setFrames fs).heap = h := eT
  have hC2 := CHv.at X b.1 a1.2.2.2.2.2.1 b.2.2.2.2.1.1
  have hC : CHr Z EL s.vm h0 (T.setFrames fs).vm (T.setFrames fs).heap := by
    rw [hh]
    exact b.2.2.2.2.1.trans hC2
  refine ⟨_, _, k _ (f T locs fs X a1.1 a1.2.1 hr), hrun, hended, v, locs, rfl, ⟨N, by rw [hh]; exact b.2.2.2.2.2, by rw [hh]; exact hQ _ fun x hx sx => hC2.safe hx sx⟩, hC, r1, r2, r3, r4.mono hc hs⟩
theorem Wk.vret (W : Wk p l e R s m args below meth c bytes mxl rt Z a0 EL own n0 h0 ws S0 V h cells slots (mkF m pc L [])) (hd : decode bytes pc = .ok (.return_, 1)) (hr : rt = none) {Q : Option Value → Heap → Vm → Prop} (hc : cells ≤ R.cells) (hs : slots ≤ R.slots) (hQ : ∀ V', (∀ x, x < h.size → Safe Z EL V h x → Safe Z EL V' h x) → Q none h V') : Done p e below S0 s Z EL n0 h0 ws R Q := by
  have hrt := W.1.2.2.2.1
  exact W.fin (v := none) (fun _ => rfl) hc hs hQ fun T locs fs X hx hby hr' => X.returnOut hx (hrt.trans hr) (hb hby hd) hr'
theorem Wk.aret {w : Value} {t : FieldType} (W : Wk p l e R s m args below meth c bytes mxl rt Z a0 EL own n0 h0 ws S0 V h cells slots (mkF m pc L (w :: st))) (hd : decode bytes pc = .ok (.areturn, 1)) (hr : rt = some t) (ht : t.isReference = true) (hw : w.isRef = true) (hn : narrow t w = w) {Q : Option Value → Heap → Vm → Prop} (hc : cells ≤ R.cells) (hs : slots ≤ R.slots) (hQ : ∀ V', (∀ x, x < h.size → Safe Z EL V h x → Safe Z EL V' h x) → Q (some w) h V') : Done p e below S0 s Z EL n0 h0 ws R Q := by
  have hrt := W.1.2.2.2.1
  exact W.fin (v := some w) (fun z => by rw [hr] at z; cases z) hc hs hQ fun T locs fs X hx hby hr' => retOut X hx (hrt.trans hr) hn (Or.inr (Or.inr (Or.inr (Or.inr ⟨rfl, ht, hw⟩)))) (hb hby hd) hr'
theorem Wk.iret {z : Int32} {t : FieldType} (W : Wk p l e R s m args below meth c bytes mxl rt Z a0 EL own n0 h0 ws S0 V h cells slots (mkF m pc L (.int z :: st))) (hd : decode bytes pc = .ok (.ireturn, 1)) (hr : rt = some t) (ht : t = .int ∨ t = .boolean ∨ t = .byte ∨ t = .char ∨ t = .short) (hn : narrow t (.int z) = .int z) {Q : Option Value → Heap → Vm → Prop} (hc : cells ≤ R.cells) (hs : slots ≤ R.slots) (hQ : ∀ V', (∀ x, x < h.size → Safe Z EL V h x → Safe Z EL V' h x) → Q (some (.int z)) h V') : Done p e below S0 s Z EL n0 h0 ws R Q := by
  have hrt := W.1.2.2.2.1
  exact W.fin (v := some (.int z)) (fun z => by rw [hr] at z; cases z) hc hs hQ fun T locs fs X hx hby hr' => retOut X hx (hrt.trans hr) hn (Or.inl ⟨rfl, ht, z, rfl⟩) (hb hby hd) hr'
theorem Wk.lret {z : Int64} (W : Wk p l e R s m args below meth c bytes mxl rt Z a0 EL own n0 h0 ws S0 V h cells slots (mkF m pc L (.long z :: st))) (hd : decode bytes pc = .ok (.lreturn, 1)) (hr : rt = some .long) {Q : Option Value → Heap → Vm → Prop} (hc : cells ≤ R.cells) (hs : slots ≤ R.slots) (hQ : ∀ V', (∀ x, x < h.size → Safe Z EL V h x → Safe Z EL V' h x) → Q (some (.long z)) h V') : Done p e below S0 s Z EL n0 h0 ws R Q := by
  have hrt := W.1.2.2.2.1
  exact W.fin (v := some (.long z)) (fun z => by rw [hr] at z; cases z) hc hs hQ fun T locs fs X hx hby hr' => retOut X hx (hrt.trans hr) rfl (Or.inr (Or.inl ⟨rfl, rfl, z, rfl⟩)) (hb hby hd) hr'
/-- a body's contract: called with as', on the heap h, it comes back; it has written at most the cells ws and new ones; Q holds of what it returned and of the heap -/
def Con (l : Launch) (Z : State) (EL : List (String × Nat)) (n0 : Nat) (y : MethodName) (bytes : ByteArray) (mxl : Nat) (rt : Option FieldType) (rm : Room) (as' : Array Value) (h : Heap) (ws : List Addr) (Q : Option Value → Heap → Vm → Prop) (wds : List Jvm.Cond) : Prop :=
  MetFree l y (head1 (Jvm.Cond.code y bytes mxl rt :: wds) rm) (fun a U => a = as' ∧ Z.Warmed39 U.vm ∧ U.heap = h ∧ CHv Z EL U.vm h ∧ ∀ x ∈ ws, Safe Z EL U.vm h x) (fun _ _ _ _ _ => True) (fun _ U o U' => ∃ v L, o = .returned v ∧ (Fr n0 L ∧ Keep h U'.heap ws ∧ Q v U'.heap U'.vm) ∧ CHr Z EL U.vm U.heap U'.vm U'.heap ∧ ReturnedEndW U o U' L rm.cells rm.slots)
theorem Con.of {y : MethodName} {rm : Room} {as' : Array Value} {Q : Option Value → Heap → Vm → Prop} {wds : List Jvm.Cond} {L0 : Array Slot} (hpn : plainFor y = true) (hef : ∀ m, entryFrame m as' mxl = mkF m 0 L0 []) (hws : ∀ x ∈ ws, n0 ≤ x) (hO : Old Z n0 h0) (hEL : EW Z a0 EL)
    (body : ∀ (p : Program) (e : Env) (s : State) (m : MethodId) (below : List Frame) (meth : Method) (c : Code) (S0 : State), meth.name = y.name → (∀ x ∈ ws, Safe Z EL s.vm h0 x) → Wk p l e rm s m as' below meth c bytes mxl rt Z a0 EL y.cls n0 h0 ws S0 s.vm h0 0 0 (mkF m 0 L0 []) → Done p e below S0 s Z EL n0 h0 ws rm Q) : Con l Z EL n0 y bytes mxl rt rm as' h0 ws Q wds := by
  refine MetFree.of_bodySF hpn hisR ?_
  intro p e s m args below meth c s₁ Bd hml hP hK
  obtain ⟨rfl, hZ, hh, hC, hsf⟩ := hP
  have hnm := (name_of_methodNamed Bd.named Bd.method).1
  have e0 : s₁.heap = h0 := by rw [← hh, Bd.state]; rfl
  have hn0 : n0 ≤ h0.size := by rw [← hO.1]; exact hO.2.1
  have X0 : Stand p l e rm (s.setVm s.vm) m args below meth c s₁ [] 0 0 := Stand.of_body Bd
  obtain ⟨s₂, o, g1, g2, g3, v, L, g4, g5, g6, g7⟩ := body p e s m below meth c (s₁.setTop (entryFrame m args mxl)) hnm hsf ⟨⟨Bd.exec, Bd.bytes, hml, Bd.returns, Bd.notSynchronized, hEL, hws, hn0, hh, hO⟩, ⟨hZ, findClass_of_methodNamed Bd.named, ⟨0, (State.WarmedH.refl s).since 0, Nat.zero_le _⟩, hO, CHr.refl hC, Keep.refl _ _⟩, s₁, [], X0, e0, Fr.nil n0, fun t k => castTop (hef m) k⟩
  exact ⟨s₂, o, g1, g2, g3, v, L, g4, g5, by rw [hh]; exact g6, g7⟩

theorem Con.back {y : MethodName} {bytes' : ByteArray} {mxl' : Nat} {rt' : Option FieldType} {rm : Room} {as' : Array Value} {ws' : List Addr} {Q : Option Value → Heap → Vm → Prop} {len Wd : Nat} (con : Con l Z EL n0 y bytes' mxl' rt' rm as' h ws' Q []) (hZ : Z.Warmed39 V) (wc : (Jvm.Cond.code y bytes' mxl' rt').before a0 Z = true) (wz : (Jvm.Cond.initialized y.cls).before a0 Z = true) (hf : rm.frames + 1 ≤ R.frames) (hl : Wd + (mxl' + 11) + rm.locals ≤ R.locals) (hEL : EW Z a0 EL) (H : CHv Z EL V h) (hsf : ∀ x ∈ ws', Safe Z EL V h x) :
    BackS l R p e below (s.setVm V) args y len Wd (fun A a => a = as' ∧ A.U.heap = h ∧ A.cells + rm.cells ≤ R.cells ∧ A.slots + rm.slots ≤ R.slots) (fun A _ v B => ∃ L, (Fr n0 L ∧ Keep h B.U.heap ws' ∧ Q v B.U.heap B.U.vm) ∧ B.locs = A.locs ++ L ∧ B.cells = A.cells + rm.cells ∧ B.slots = A.slots + rm.slots ∧ CHr Z EL V h B.U.vm B.U.heap) := by
  refine BackS.of_freeW (bytes := bytes') (maxL := mxl') (ret := rt') (E := fun _ first o t L k n => k = rm.cells ∧ n = rm.slots ∧ (∃ v, o = .returned v ∧ (Fr n0 L ∧ Keep h t.heap ws' ∧ Q v t.heap t.vm)) ∧ CHr Z EL first.vm first.heap t.vm t.heap) con hf hl ?_ ?_ (fun _ _ _ _ _ _ _ _ _ => trivial) ?_ ?_
  · intro m meth c A a Y hp
    have hU : Z.Warmed39 A.U.vm := wtrans (s := s.setVm V) hZ Y.warmed
    exact ⟨by show (Jvm.Cond.and _ .tt).before a A.U = true; rw [Cond.before_and, mv hU wc]; rfl, mv hU wc, mv hU wz, hp.2.2.1, hp.2.2.2⟩
  · intro m meth c A a g mk Y hp
    have q := CHv.at Y hZ hEL H
    exact ⟨hp.1, wtrans (s := s.setVm V) hZ Y.warmed, hp.2.1, q.1, fun x hx => (Nat.lt_or_ge x h.size).elim (fun z => q.safe z (hsf x hx)) (fun z => Safe.new z)⟩
  · rintro _ _ _ _ ⟨v, L, h1, h2, h3, h4⟩
    exact ⟨L, _, _, h4, rfl, rfl, ⟨v, h1, h2⟩, h3⟩
  · intro m meth c A a g mk v t L k n Y hp _ _ he
    obtain ⟨e1, e2, ⟨v', e3, e4⟩, e5⟩ := he
    cases e3; subst e1 e2
    exact ⟨L, e4, rfl, rfl, rfl, (CHv.at Y hZ hEL H).trans (by rw [← hp.2.1]; exact e5)⟩
theorem Wk.called {g : JFrame} {G : Option Value → JFrame} {rm : Room} {ws' : List Addr} {Q : Option Value → Heap → Vm → Prop} {cells' slots' : Nat} (W : Wk p l e R s m args below meth c bytes mxl rt Z a0 EL own n0 h0 ws S0 V h cells slots g) (hq : ∀ x ∈ ws', x ∈ ws ∨ h0.size ≤ x) (hc : cells + rm.cells = cells') (hs : slots + rm.slots = slots')
    (f : ∀ (T : State) (locs : List Loc), Stand p l e R (s.setVm V) m args below meth c T locs cells slots → T.heap = h → p.tables.exec = Jvm.exec → c.code = bytes → Z.Warmed39 (s.setVm V).vm → (s.setVm V).vm.findClass own = some m.cls → ∃ (v : Option Value) (vm₁ : Vm) (B : Pt), (s.setVm V).WarmedH vm₁ ∧ Stand p l e R ((s.setVm V).setVm B.U.vm) m args below meth c B.U B.locs B.cells B.slots ∧ (s.setVm V).Since B.U.vm B.U.heap.size ∧ T.heap.size ≤ B.U.heap.size ∧ (∃ L, (Fr n0 L ∧ Keep h B.U.heap ws' ∧ Q v B.U.heap B.U.vm) ∧ B.locs = locs ++ L ∧ B.cells = cells + rm.cells ∧ B.slots = slots + rm.slots ∧ CHr Z EL V h B.U.vm B.U.heap) ∧ Steps p.tables e below (T.setTop g) (B.U.setTop (G v))) :
    ∃ V' h' v, Wk p l e R s m args below meth c bytes mxl rt Z a0 EL own n0 h0 ws S0 V' h' cells' slots' (G v) ∧ Keep h h' ws' ∧ Q v h' V' ∧ ∀ x, x < h.size → Safe Z EL V h x → Safe Z EL V' h' x := by
  obtain ⟨a1, b, T, locs, X, eT, N, k⟩ := W
  obtain ⟨k0, hS, hk⟩ := b.2.2.1
  obtain ⟨v, vm₁, B, -, X', hS', hle, ⟨L', hQ, l1, l2, l3, hC⟩, stp⟩ := f T locs X eT a1.1 a1.2.1 b.1 b.2.1
  obtain ⟨X2, hS2, hZ2, hown2⟩ := rebS hS (by rw [eT]; exact hk) X' hS' hle b.1 b.2.1
  rw [l1, l2, l3, hc, hs] at X2
  have hge : ∀ x ∈ ws', n0 ≤ x := fun x hx => (hq x hx).elim (fun z => a1.2.2.2.2.2.2.1 x z) (fun z => Nat.le_trans a1.2.2.2.2.2.2.2.1 z)
  exact ⟨B.U.vm, B.U.heap, v, ⟨a1, ⟨hZ2, hown2, ⟨_, hS2, Nat.le_refl _⟩, b.2.2.2.1.keep hQ.2.1 hge, b.2.2.2.2.1.trans hC, b.2.2.2.2.2.trans hQ.2.1 hq⟩, B.U, _, X2, rfl, N.app hQ.1, fun t z => k t (stp.trans z)⟩, hQ.2.1, hQ.2.2, fun x hx sx => hC.safe hx sx⟩
section Calls
variable {y z : MethodName} {bytes' : ByteArray} {mxl' : Nat} {rt' : Option FieldType} {rm : Room} {ws' : List Addr} {Q : Option Value → Heap → Vm → Prop} {argsL rest stk : List Value} {index Wd cells' slots' : Nat}
theorem Wk.callS (W : Wk p l e R s m args below meth c bytes mxl rt Z a0 EL own n0 h0 ws S0 V h cells slots (mkF m pc L stk)) (hd : decode bytes pc = .ok (.invokestatic index, 3)) (con : Con l Z EL n0 y bytes' mxl' rt' rm argsL.toArray h ws' Q []) (w1 : (Jvm.Cond.methodLink own index y).before a0 Z = true) (w2 : (Jvm.Cond.static y).before a0 Z = true) (w3 : (Jvm.Cond.initialized y.cls).before a0 Z = true) (w4 : (Jvm.Cond.code y bytes' mxl' rt').before a0 Z = true) (hy : y.cls ≠ "java/lang/invoke/MethodHandle" ∧ y.cls ≠ "java/lang/invoke/VarHandle") (hlen : ∀ sig, parseMethodDescriptor y.desc = some sig → argsL.length = sig.parameters.length) (hstk : stk = argsL.reverse ++ rest) (hW : (rest.map fun v => v.category).sum = Wd) (hf : rm.frames + 1 ≤ R.frames) (hl : Wd + (mxl' + 11) + rm.locals ≤ R.locals) (hL : L.size = mxl) (hsf : ∀ x ∈ ws', Safe Z EL V h x) (hq : ∀ x ∈ ws', x ∈ ws ∨ h0.size ≤ x) (hp : pc + 3 = pc') (hc : cells + rm.cells = cells') (hs : slots + rm.slots = slots') (hc' : cells' ≤ R.cells) (hs' : slots' ≤ R.slots) :
    ∃ V' h' v, Wk p l e R s m args below meth c bytes mxl rt Z a0 EL own n0 h0 ws S0 V' h' cells' slots' (mkF m pc' L (v.toList ++ rest)) ∧ Keep h h' ws' ∧ Q v h' V' ∧ ∀ x, x < h.size → Safe Z EL V h x → Safe Z EL V' h' x := by
  subst hp
  have hml := W.1.2.2.1
  have hEL := W.el
  have H := W.chv
  refine W.called (G := fun v => mkF m (pc + 3) L (v.toList ++ rest)) hq hc hs fun T locs X eT hx hby hZ hown => ?_
  exact callSS X hx (y := y) hown (mvT hZ w1) (mvT hZ w2) (mvT hZ w3) (mvT hZ w4) hy (con.back hZ w4 w3 hf hl hEL H hsf) (g := mkF m pc L stk) rfl (hL.trans hml.symm) (argsL := argsL) (rest := rest) hlen hstk (by subst hW; show 2 * 0 + _ ≤ _; exact Nat.le_of_eq (Nat.zero_add _)) (hb hby hd) (fun _ _ => ⟨rfl, eT, by rw [← hc] at hc'; exact hc', by rw [← hs] at hs'; exact hs'⟩)
theorem Wk.callI {a : Addr} (W : Wk p l e R s m args below meth c bytes mxl rt Z a0 EL own n0 h0 ws S0 V h cells slots (mkF m pc L stk)) (hd : decode bytes pc = .ok (.invokespecial index, 3)) (con : Con l Z EL n0 y bytes' mxl' none rm (.ref a :: argsL).toArray h ws' Q []) (hy1 : y.name = "<init>") (w1 : (Jvm.Cond.methodLink own index y).before a0 Z = true) (w2 : (Jvm.Cond.instanceMethod y).before a0 Z = true) (w3 : (Jvm.Cond.initialized y.cls).before a0 Z = true) (w4 : (Jvm.Cond.code y bytes' mxl' none).before a0 Z = true) (hy : y.cls ≠ "java/lang/invoke/MethodHandle" ∧ y.cls ≠ "java/lang/invoke/VarHandle") (hlen : ∀ sig, parseMethodDescriptor y.desc = some sig → argsL.length = sig.parameters.length) (hstk : stk = argsL.reverse ++ .ref a :: rest) (hW : (rest.map fun v => v.category).sum = Wd) (hf : rm.frames + 1 ≤ R.frames) (hl : Wd + (mxl' + 11) + rm.locals ≤ R.locals) (hL : L.size = mxl) (hsf : ∀ x ∈ ws', Safe Z EL V h x) (hq : ∀ x ∈ ws', x ∈ ws ∨ h0.size ≤ x) (hp : pc + 3 = pc') (hc : cells + rm.cells = cells') (hs : slots + rm.slots = slots') (hc' : cells' ≤ R.cells) (hs' : slots' ≤ R.slots) :
    ∃ V' h' v, Wk p l e R s m args below meth c bytes mxl rt Z a0 EL own n0 h0 ws S0 V' h' cells' slots' (mkF m pc' L (v.toList ++ rest)) ∧ Keep h h' ws' ∧ Q v h' V' ∧ ∀ x, x < h.size → Safe Z EL V h x → Safe Z EL V' h' x := by
  subst hp
  have hml := W.1.2.2.1
  have hEL := W.el
  have H := W.chv
  refine W.called (G := fun v => mkF m (pc + 3) L (v.toList ++ rest)) hq hc hs fun T locs X eT hx hby hZ hown => ?_
  exact X.specialBackS hx (y := y) hy1 hown (mvT hZ w1) (mvT hZ w2) (mvT hZ w4) hy (con.back hZ w4 w3 hf hl hEL H hsf) (g := mkF m pc L stk) rfl (hL.trans hml.symm) (Steps.refl _) (a := a) (argsL := argsL) (rest := rest) hlen hstk (by subst hW; show 2 * 0 + _ ≤ _; exact Nat.le_of_eq (Nat.zero_add _)) (hb hby hd) (fun _ _ => ⟨rfl, eT, by rw [← hc] at hc'; exact hc', by rw [← hs] at hs'; exact hs'⟩)
theorem Wk.callV {a : Addr} {C : String} (W : Wk p l e R s m args below meth c bytes mxl rt Z a0 EL own n0 h0 ws S0 V h cells slots (mkF m pc L stk)) (hd : decode bytes pc = .ok (.invokevirtual index, 3)) (con : Con l Z EL n0 z bytes' mxl' rt' rm (.ref a :: argsL).toArray h ws' Q []) (E : Exa Z h a C) (w1 : (Jvm.Cond.methodLink own index y).before a0 Z = true) (wd : (Jvm.Cond.declares y).before a0 Z = true) (wn : (Jvm.Cond.selects C y y).before a0 Z = true ∨ ∃ S, (Jvm.Cond.superclass y.cls S).before a0 Z = true) (ws1 : (Jvm.Cond.selects C y z).before a0 Z = true) (w2 : (Jvm.Cond.instanceMethod z).before a0 Z = true) (w3 : (Jvm.Cond.initialized z.cls).before a0 Z = true) (w4 : (Jvm.Cond.code z bytes' mxl' rt').before a0 Z = true) (hy : y.cls ≠ "java/lang/invoke/MethodHandle" ∧ y.cls ≠ "java/lang/invoke/VarHandle") (hlen : ∀ sig, parseMethodDescriptor y.desc = some sig → argsL.length = sig.parameters.length) (hstk : stk = argsL.reverse ++ .ref a :: rest) (hW : (rest.map fun v => v.category).sum = Wd) (hf : rm.frames + 1 ≤ R.frames) (hl : Wd + (mxl' + 11) + rm.locals ≤ R.locals) (hL : L.size = mxl) (hsf : ∀ x ∈ ws', Safe Z EL V h x) (hq : ∀ x ∈ ws', x ∈ ws ∨ h0.size ≤ x) (hp : pc + 3 = pc') (hc : cells + rm.cells = cells') (hs : slots + rm.slots = slots') (hc' : cells' ≤ R.cells) (hs' : slots' ≤ R.slots) :
    ∃ V' h' v, Wk p l e R s m args below meth c bytes mxl rt Z a0 EL own n0 h0 ws S0 V' h' cells' slots' (mkF m pc' L (v.toList ++ rest)) ∧ Keep h h' ws' ∧ Q v h' V' ∧ ∀ x, x < h.size → Safe Z EL V h x → Safe Z EL V' h' x := by
  subst hp
  have hml := W.1.2.2.1
  have hEL := W.el
  have H := W.chv
  refine W.called (G := fun v => mkF m (pc + 3) L (v.toList ++ rest)) hq hc hs fun T locs X eT hx hby hZ hown => ?_
  obtain ⟨cB, kB, q1, q2, q3⟩ := isOf hZ eT E
  have hnf : NotFace (s.setVm V) y := wn.elim (fun w => notFace_of_selects (args := #[]) (mvT hZ w)) (fun ⟨S, w⟩ => nf_super (args := #[]) (mvT hZ w))
  exact X.virtualBackS hx (y := y) (z := z) hown (mvT hZ w1) (mvT hZ wd) hnf (mvT hZ ws1) (mvT hZ w2) hy (con.back hZ w4 w3 hf hl hEL H hsf) q1 q3 (g := mkF m pc L stk) rfl (hL.trans hml.symm) (Steps.refl _) (argsL := argsL) (rest := rest) hlen hstk (by subst hW; show 2 * 0 + _ ≤ _; exact Nat.le_of_eq (Nat.zero_add _)) (hb hby hd) (fun _ _ => ⟨rfl, eT, by rw [← hc] at hc'; exact hc', by rw [← hs] at hs'; exact hs'⟩)
/-- a private method, called by invokevirtual -/
theorem Wk.callP {a : Addr} {C : String} (W : Wk p l e R s m args below meth c bytes mxl rt Z a0 EL own n0 h0 ws S0 V h cells slots (mkF m pc L stk)) (hd : decode bytes pc = .ok (.invokevirtual index, 3)) (con : Con l Z EL n0 y bytes' mxl' rt' rm (.ref a :: argsL).toArray h ws' Q []) (E : Exa Z h a C) (w1 : (Jvm.Cond.methodLink own index y).before a0 Z = true) (w2 : (Jvm.Cond.instanceMethod y).before a0 Z = true) (ws1 : (Jvm.Cond.selects y.cls y y).before a0 Z = true) (wp : (Jvm.Cond.privateMethod y).before a0 Z = true) (w3 : (Jvm.Cond.initialized y.cls).before a0 Z = true) (w4 : (Jvm.Cond.code y bytes' mxl' rt').before a0 Z = true) (hy : y.cls ≠ "java/lang/invoke/MethodHandle" ∧ y.cls ≠ "java/lang/invoke/VarHandle") (hlen : ∀ sig, parseMethodDescriptor y.desc = some sig → argsL.length = sig.parameters.length) (hstk : stk = argsL.reverse ++ .ref a :: rest) (hW : (rest.map fun v => v.category).sum = Wd) (hf : rm.frames + 1 ≤ R.frames) (hl : Wd + (mxl' + 11) + rm.locals ≤ R.locals) (hL : L.size = mxl) (hsf : ∀ x ∈ ws', Safe Z EL V h x) (hq : ∀ x ∈ ws', x ∈ ws ∨ h0.size ≤ x) (hp : pc + 3 = pc') (hc : cells + rm.cells = cells') (hs : slots + rm.slots = slots') (hc' : cells' ≤ R.cells) (hs' : slots' ≤ R.slots) :
    ∃ V' h' v, Wk p l e R s m args below meth c bytes mxl rt Z a0 EL own n0 h0 ws S0 V' h' cells' slots' (mkF m pc' L (v.toList ++ rest)) ∧ Keep h h' ws' ∧ Q v h' V' ∧ ∀ x, x < h.size → Safe Z EL V h x → Safe Z EL V' h' x := by
  subst hp
  have hml := W.1.2.2.1
  have hEL := W.el
  have H := W.chv
  refine W.called (G := fun v => mkF m (pc + 3) L (v.toList ++ rest)) hq hc hs fun T locs X eT hx hby hZ hown => ?_
  obtain ⟨cl, q1, q2⟩ := (Ins.self E).cell
  exact X.privateBackS hx (y := y) hown (mvT hZ w1) (mvT hZ w2) (mvT hZ ws1) (Cond.privateMethod_at (mvP hZ wp (args := #[]))) (mvT hZ w4) hy (con.back hZ w4 w3 hf hl hEL H hsf) (g := mkF m pc L stk) rfl (hL.trans hml.symm) (Steps.refl _) (a := a) (by rw [eT]; exact q1) q2 (argsL := argsL) (rest := rest) hlen hstk (by subst hW; show 2 * 0 + _ ≤ _; exact Nat.le_of_eq (Nat.zero_add _)) (hb hby hd) (fun _ _ => ⟨rfl, eT, by rw [← hc] at hc'; exact hc', by rw [← hs] at hs'; exact hs'⟩)
/-- .. the entry names a subclass of the declaring one -/
theorem Wk.callU {a : Addr} {C owner : String} (W : Wk p l e R s m args below meth c bytes mxl rt Z a0 EL own n0 h0 ws S0 V h cells slots (mkF m pc L stk)) (hd : decode bytes pc = .ok (.invokevirtual index, 3)) (con : Con l Z EL n0 z bytes' mxl' rt' rm (.ref a :: argsL).toArray h ws' Q []) (E : Exa Z h a C) (w1 : (Jvm.Cond.methodLink own index y).before a0 Z = true) (wsm : (Jvm.Cond.sameMethod y.cls owner y.name y.desc).before a0 Z = true) (wd : (Jvm.Cond.declares ⟨owner, y.name, y.desc⟩).before a0 Z = true) (how : owner ≠ "java/lang/invoke/MethodHandle" ∧ owner ≠ "java/lang/invoke/VarHandle") (ws1 : (Jvm.Cond.selects C y z).before a0 Z = true) (w2 : (Jvm.Cond.instanceMethod z).before a0 Z = true) (w3 : (Jvm.Cond.initialized z.cls).before a0 Z = true) (w4 : (Jvm.Cond.code z bytes' mxl' rt').before a0 Z = true) (hlen : ∀ sig, parseMethodDescriptor y.desc = some sig → argsL.length = sig.parameters.length) (hstk : stk = argsL.reverse ++ .ref a :: rest) (hW : (rest.map fun v => v.category).sum = Wd) (hf : rm.frames + 1 ≤ R.frames) (hl : Wd + (mxl' + 11) + rm.locals ≤ R.locals) (hL : L.size = mxl) (hsf : ∀ x ∈ ws', Safe Z EL V h x) (hq : ∀ x ∈ ws', x ∈ ws ∨ h0.size ≤ x) (hp : pc + 3 = pc') (hc : cells + rm.cells = cells') (hs : slots + rm.slots = slots') (hc' : cells' ≤ R.cells) (hs' : slots' ≤ R.slots) :
    ∃ V' h' v, Wk p l e R s m args below meth c bytes mxl rt Z a0 EL own n0 h0 ws S0 V' h' cells' slots' (mkF m pc' L (v.toList ++ rest)) ∧ Keep h h' ws' ∧ Q v h' V' ∧ ∀ x, x < h.size → Safe Z EL V h x → Safe Z EL V' h' x := by
  subst hp
  have hml := W.1.2.2.1
  have hEL := W.el
  have H := W.chv
  refine W.called (G := fun v => mkF m (pc + 3) L (v.toList ++ rest)) hq hc hs fun T locs X eT hx hby hZ hown => ?_
  obtain ⟨cB, kB, q1, q2, q3⟩ := isOf hZ eT E
  exact X.virtualBackUpS hx (x := y) (y := z) hown (mvT hZ w1) (mvT hZ wsm) (mvT hZ wd) how (mvT hZ ws1) (mvT hZ w2) (con.back hZ w4 w3 hf hl hEL H hsf) q1 q3 (g := mkF m pc L stk) rfl (hL.trans hml.symm) (Steps.refl _) (argsL := argsL) (rest := rest) hlen hstk (by subst hW; show 2 * 0 + _ ≤ _; exact Nat.le_of_eq (Nat.zero_add _)) (hb hby hd) (fun _ _ => ⟨rfl, eT, by rw [← hc] at hc'; exact hc', by rw [← hs] at hs'; exact hs'⟩)
end Calls

/-- 'ldc' of a String constant of EL, its text read -/
theorem Wk.ldcT {index : Nat} {text : String} {vs : List Value} {z : Int32} {n cells' slots' : Nat} (W : Wk p l e R s m args below meth c bytes mxl rt Z a0 EL own n0 h0 ws S0 V h cells slots (mkF m pc L st)) (hd : decode bytes pc = .ok (.ldc index, 2)) (w : (Jvm.Cond.stringLink own index text).before a0 Z = true) (wS : ∀ a ∈ Bundle.stringAtoms, a.before a0 Z = true) (hmem : (own, index) ∈ EL) (ht : (∀ c ∈ text.toList, c.toNat < 256) ∧ text.toList.map (fun c => Value.int (Jvm.Lit.byteI c.toNat.toUInt16)) = vs) (hz : ¬ z < 0) (hl : z.toNatClampNeg = vs.length) (hn : 4 * text.toList.length ≤ n) (hbig : n ≤ 536870912) (hp : pc + 2 = pc') (hc : cells + 2 = cells') (hs : slots + (n + 4) = slots') (hc' : cells' ≤ R.cells) (hs' : slots' ≤ R.slots) :
    ∃ V' h' a b k, Wk p l e R s m args below meth c bytes mxl rt Z a0 EL own n0 h0 ws S0 V' h' cells' slots' (mkF m pc' L (.ref a :: st)) ∧ Ext h h' ∧ Exa Z h' a "java/lang/String" ∧ Fld Z h' a "java/lang/String" "coder" "B" (.int 0) ∧ Fld Z h' a "java/lang/String" "value" "[B" (.ref b) ∧ Arv Z h' b k .byte z vs (.int 0) ∧ Lit (s.setVm V') own index a ∧ (∀ x, Safe Z EL V' h' x → x ≠ a ∧ x ≠ b) ∧ ∀ x, x < h.size → Safe Z EL V h x → Safe Z EL V' h' x := by
  subst hp hc hs
  obtain ⟨a1, b, T, locs, X, eT, N, k⟩ := W
  obtain ⟨k0, hS, hk⟩ := b.2.2.1
  obtain ⟨a, T', h', k1, bb, kk, X', eT', E, hS', hk', hZ', hown', A1, A2, A3, A4, -, -, hC, hL, hne, stp⟩ := ldcCH X a1.1 b.1 b.2.1 w wS eT hS hk a1.2.2.2.2.2.1 hmem b.2.2.2.2.1.1 ht hz hl (g := mkF m pc L st) rfl (hb a1.2.1 hd) hn hbig hc' hs'
  exact ⟨T'.vm, h', a, bb, kk, ⟨a1, ⟨hZ', hown', ⟨k1, hS', hk'⟩, b.2.2.2.1.ext E, b.2.2.2.2.1.trans hC, b.2.2.2.2.2.ext E⟩, T', locs, X', eT', N, fun t q => k t (stp t q)⟩, E, A1, A2, A3, A4, hL, hne, fun x hx sx => hC.safe hx sx⟩
/-- 'ldc' of any String constant, handed on unread -/
theorem Wk.ldcO {index : Nat} {text : String} {n cells' slots' : Nat} (W : Wk p l e R s m args below meth c bytes mxl rt Z a0 EL own n0 h0 ws S0 V h cells slots (mkF m pc L st)) (hd : decode bytes pc = .ok (.ldc index, 2)) (w : (Jvm.Cond.stringLink own index text).before a0 Z = true) (wS : ∀ a ∈ Bundle.stringAtoms, a.before a0 Z = true) (hn : 4 * text.toList.length ≤ n) (hbig : n ≤ 536870912) (hp : pc + 2 = pc') (hc : cells + 2 = cells') (hs : slots + (n + 4) = slots') (hc' : cells' ≤ R.cells) (hs' : slots' ≤ R.slots) :
    ∃ V' h' a, Wk p l e R s m args below meth c bytes mxl rt Z a0 EL own n0 h0 ws S0 V' h' cells' slots' (mkF m pc' L (.ref a :: st)) ∧ Ext h h' ∧ Lit (s.setVm V') own index a ∧ ∀ x, x < h.size → Safe Z EL V h x → Safe Z EL V' h' x := by
  subst hp hc hs
  obtain ⟨a1, b, T, locs, X, eT, N, k⟩ := W
  obtain ⟨k0, hS, hk⟩ := b.2.2.1
  obtain ⟨a, T', h', k1, X', eT', E, hS', hk', hZ', hown', hC, hL, stp⟩ := ldcOH X a1.1 b.1 b.2.1 w wS eT hS hk a1.2.2.2.2.2.1 b.2.2.2.2.1.1 (g := mkF m pc L st) rfl (hb a1.2.1 hd) hn hbig hc' hs'
  exact ⟨T'.vm, h', a, ⟨a1, ⟨hZ', hown', ⟨k1, hS', hk'⟩, b.2.2.2.1.ext E, b.2.2.2.2.1.trans hC, b.2.2.2.2.2.ext E⟩, T', locs, X', eT', N, fun t q => k t (stp t q)⟩, E, hL, fun x hx sx => hC.safe hx sx⟩
/-- the same entry again, the tables' base being the same -/
theorem Wk.ldcA {index : Nat} {text : String} {a : Addr} (W : Wk p l e R s m args below meth c bytes mxl rt Z a0 EL own n0 h0 ws S0 V h cells slots (mkF m pc L st)) (hd : decode bytes pc = .ok (.ldc index, 2)) (w : (Jvm.Cond.stringLink own index text).before a0 Z = true) (hL : Lit (s.setVm V) own index a) (hp : pc + 2 = pc') : Wk p l e R s m args below meth c bytes mxl rt Z a0 EL own n0 h0 ws S0 V h cells slots (mkF m pc' L (.ref a :: st)) := by
  subst hp
  exact W.reads fun T locs X eT hx hby hZ hown => ⟨T, X, eT, ldcAgain X hx hZ hown w hL (g := mkF m pc L st) rfl (hb hby hd)⟩
/-- a String whose value is not yet set is no constant's -/
theorem safeNull {V : Vm} {a : Addr} (hal : Z.vm.Alike V) (E : Exa Z h a "java/lang/String") (F : Fld Z h a "java/lang/String" "value" "[B" .null) : Safe Z EL V h a := fun B => by
  obtain ⟨cell, cf, k, i, f, h1, h2, h3, h4, h5, h6, h7⟩ := F
  obtain ⟨p, -, u, b, -, q, -, G, e1 | e1⟩ := B
  · subst e1
    cases (show h[q.sa]? = some q.sC from G.ha).symm.trans h1
    obtain ⟨cS, ⟨⟨-, -, -, ⟨c1, k1, i1, f1, -⟩, -, -, -, v1, -⟩, -⟩, -⟩ := G
    obtain ⟨k', f2, -⟩ := State.fieldFound?_setVm (s := Z) hal h2
    have f2' : (Wst Z V h).fieldFound? "java/lang/String" "value" "[B" = some (cf, k', i, f) := f2
    have e4 := f2'.symm.trans f1
    simp only [Option.some.injEq, Prod.mk.injEq] at e4
    rw [e4.2.2.2, v1] at h7
    cases h7
  · subst e1
    obtain ⟨cell2, k2, e1, e2, -⟩ := E
    cases (show h[q.sd]? = some q.SA from G.hd).symm.trans e1
    obtain ⟨cS, -, -, f1, -⟩ := G
    have f1 : V.findClass "[B" = some q.SA.cls := f1
    rw [hal.findClass] at f1
    obtain ⟨k3, q1, q2⟩ := Vm.findClass_spec f1
    obtain ⟨k4, q3, q4⟩ := Vm.findClass_spec e2
    cases q1.symm.trans q3
    exact absurd (q2.symm.trans q4) (by decide)
end Layer
theorem safe0 {Z : State} {h : Heap} {V : Vm} {a : Addr} : Safe Z [] V h a := fun B => by obtain ⟨p, hp, -⟩ := B; cases hp


theorem own_small {c : Int32} (h0 : ¬ c < 0) (h1 : ¬ (255 : Int32) < c) : ∃ k : Fin 256, c = Int32.ofNat k.val := by
  rw [Int32.lt_iff_toInt_lt] at h0 h1
  have e1 : (255 : Int32).toInt = 255 := rfl
  have e0 : (0 : Int32).toInt = 0 := rfl
  refine ⟨⟨c.toInt.toNat, by omega⟩, ?_⟩
  apply Int32.toInt_inj.mp
  show c.toInt = (Int32.ofNat c.toInt.toNat).toInt
  rw [Int32.toInt_ofNat_of_lt (by omega)]
  omega
theorem own_narb (x : Int32) : nar .byte (x.toInt8.toInt32) = x.toInt8.toInt32 := by
  show (x.toInt8.toInt32).toInt8.toInt32 = x.toInt8.toInt32
  simp
theorem own_narc {c : Int32} (h : ¬ c < 0 ∧ ¬ (65535 : Int32) < c) : nar .char c = c := by
  show c.toUInt32.toUInt16.toUInt32.toInt32 = c
  have h0 := h.1
  have h1 := h.2
  rw [Int32.lt_iff_toInt_lt] at h0 h1
  have e1 : (65535 : Int32).toInt = 65535 := rfl
  have e0 : (0 : Int32).toInt = 0 := rfl
  obtain ⟨q1, q2, q3⟩ := c_i2c c
  apply Int32.toInt_inj.mp
  omega
theorem own_up {c : Int32} (h : ¬ c < 0 ∧ ¬ (255 : Int32) < c) : ¬ c < 0 ∧ ¬ (65535 : Int32) < c := by
  refine ⟨h.1, fun q => h.2 ?_⟩
  rw [Int32.lt_iff_toInt_lt] at q ⊢
  have e1 : (65535 : Int32).toInt = 65535 := rfl
  have e0 : (255 : Int32).toInt = 255 := rfl
  omega
theorem own_narrow_char {c : Int32} (h : ¬ c < 0 ∧ ¬ (65535 : Int32) < c) : narrow .char (.int c) = .int c := congrArg Value.int (own_narc h)
theorem own_and255 (x : Int32) : ¬ (x &&& (255 : Int32)) < 0 ∧ ¬ (255 : Int32) < (x &&& (255 : Int32)) := by
  obtain ⟨q1, q2⟩ := c_and x 255 (by decide)
  rw [Int32.lt_iff_toInt_lt, Int32.lt_iff_toInt_lt]
  have e1 : (255 : Int32).toInt = 255 := rfl
  have e0 : (0 : Int32).toInt = 0 := rfl
  omega
theorem own_fits_ref {t : FieldType} {v : Value} (h : v.isRef = true) (ht : t.isReference = true) : fits t v = true := by
  rcases ref_cases h with rfl | ⟨a, rfl⟩ <;> cases t <;> simp_all [fits, FieldType.isReference]
theorem own_nar_ref {t : FieldType} {v : Value} (h : v.isRef = true) (ht : t.isReference = true) : narrow t v = v := by
  rcases ref_cases h with rfl | ⟨a, rfl⟩ <;> cases t <;> simp_all [narrow, FieldType.isReference]

def PU (c : Int32) : Prop := (¬ c < 33 ∧ ¬ (126 : Int32) < c) ∧ (c < 65 ∨ (90 : Int32) < c) ∧ (c < 97 ∨ (122 : Int32) < c) ∧ (c < 48 ∨ (57 : Int32) < c)
def ND (c : Int32) : Prop := (c < 65 ∨ (90 : Int32) < c) ∧ (c < 97 ∨ (122 : Int32) < c) ∧ (c < 48 ∨ (57 : Int32) < c)
instance (c : Int32) : Decidable (PU c) := by unfold PU; infer_instance
theorem own_and31 (x : Int32) : ∃ k : Fin 32, (x &&& (31 : Int32)) = Int32.ofNat k.val := by
  obtain ⟨q1, q2⟩ := c_and x 31 (by decide)
  have e1 : (31 : Int32).toInt = 31 := rfl
  refine ⟨⟨(x &&& 31).toInt.toNat, by omega⟩, ?_⟩
  apply Int32.toInt_inj.mp
  show (x &&& 31).toInt = (Int32.ofNat (x &&& 31).toInt.toNat).toInt
  rw [Int32.toInt_ofNat_of_lt (by omega)]
  omega
theorem pu_all (x : Int32) : ((x &&& (31 : Int32)) < (15 : Int32) → PU (((33 : Int32) + (x &&& (31 : Int32))).toUInt32.toUInt16.toUInt32.toInt32)) ∧ (¬ (x &&& (31 : Int32)) < (15 : Int32) → (x &&& (31 : Int32)) < (22 : Int32) → PU ((((58 : Int32) + (x &&& (31 : Int32))) - (15 : Int32)).toUInt32.toUInt16.toUInt32.toInt32)) ∧ (¬ (x &&& (31 : Int32)) < (22 : Int32) → (x &&& (31 : Int32)) < (28 : Int32) → PU ((((91 : Int32) + (x &&& (31 : Int32))) - (22 : Int32)).toUInt32.toUInt16.toUInt32.toInt32)) ∧ (¬ (x &&& (31 : Int32)) < (28 : Int32) → PU ((((123 : Int32) + (x &&& (31 : Int32))) - (28 : Int32)).toUInt32.toUInt16.toUInt32.toInt32)) := by
  obtain ⟨k, hk⟩ := own_and31 x
  rw [hk]
  clear hk; revert k; decide +kernel
theorem pu_lat {c : Int32} (h : PU c) : ¬ c < 0 ∧ ¬ (255 : Int32) < c := by
  obtain ⟨⟨h1, h2⟩, -⟩ := h
  rw [Int32.lt_iff_toInt_lt] at h1 h2
  rw [Int32.lt_iff_toInt_lt, Int32.lt_iff_toInt_lt]
  have e1 : (255 : Int32).toInt = 255 := rfl
  have e0 : (0 : Int32).toInt = 0 := rfl
  have e2 : (33 : Int32).toInt = 33 := rfl
  have e3 : (126 : Int32).toInt = 126 := rfl
  omega
theorem own_lt_trans {a b c : Int32} (h : a < b) (q : ¬ c < b) : a < c := by
  rw [Int32.lt_iff_toInt_lt] at *; omega
theorem own_not_lt {a b c : Int32} (h : ¬ a < b) (q : c < b) : ¬ a < c := by
  rw [Int32.lt_iff_toInt_lt] at *; omega
theorem own_lt_not {a b c : Int32} (h : ¬ b < a) (q : b < c) : a < c := by
  rw [Int32.lt_iff_toInt_lt] at *; omega
theorem own_i2c {c : Int32} (h : ¬ c < 0 ∧ ¬ (65535 : Int32) < c) : c.toUInt32.toUInt16.toUInt32.toInt32 = c := own_narc h
theorem own_i2cn (e : Int32) : narrow .char (.int (e.toUInt32.toUInt16.toUInt32.toInt32)) = .int (e.toUInt32.toUInt16.toUInt32.toInt32) := by
  refine own_narrow_char ?_
  obtain ⟨-, q2, q3⟩ := c_i2c e
  rw [Int32.lt_iff_toInt_lt, Int32.lt_iff_toInt_lt]
  have e1 : (65535 : Int32).toInt = 65535 := rfl
  have e0 : (0 : Int32).toInt = 0 := rfl
  omega
theorem own_lo8mask {c : Int32} (h : ¬ c < 0 ∧ ¬ (255 : Int32) < c) : (c.toInt8.toInt32 &&& (255 : Int32)) = c := by
  obtain ⟨k, rfl⟩ := own_small h.1 h.2
  revert k; decide +kernel
theorem own_lo8inj {c d : Int32} (h : ¬ c < 0 ∧ ¬ (255 : Int32) < c) (h' : ¬ d < 0 ∧ ¬ (255 : Int32) < d) (q : ¬ d = c) : ¬ c.toInt8.toInt32 = d.toInt8.toInt32 := fun e => q (by rw [← own_lo8mask h, ← own_lo8mask h', e])

theorem tw0 {Z : State} {a0 : Array Value} (hw : ∀ d ∈ tables_1, d.before a0 Z = true) : (Jvm.Cond.methodLink "com/example/lokit/lokit/password/PasswordAlphabetClassOfPinLaw" (7 : Nat) ({ cls := "com/example/lokit/lokit/password/PasswordAlphabetClassOfPinLaw", name := "punct", desc := "(I)C" } : Jvm.MethodName)).before a0 Z = true := hw _ (List.mem_of_getElem? (i := 0) rfl)
theorem tw1 {Z : State} {a0 : Array Value} (hw : ∀ d ∈ tables_1, d.before a0 Z = true) : (Jvm.Cond.static ({ cls := "com/example/lokit/lokit/password/PasswordAlphabetClassOfPinLaw", name := "punct", desc := "(I)C" } : Jvm.MethodName)).before a0 Z = true := hw _ (List.mem_of_getElem? (i := 1) rfl)
theorem tw2 {Z : State} {a0 : Array Value} (hw : ∀ d ∈ tables_1, d.before a0 Z = true) : (Jvm.Cond.initialized "com/example/lokit/lokit/password/PasswordAlphabetClassOfPinLaw").before a0 Z = true := hw _ (List.mem_of_getElem? (i := 2) rfl)
theorem tw3 {Z : State} {a0 : Array Value} (hw : ∀ d ∈ tables_1, d.before a0 Z = true) : (Jvm.Cond.code ({ cls := "com/example/lokit/lokit/password/PasswordAlphabetClassOfPinLaw", name := "punct", desc := "(I)C" } : Jvm.MethodName) method_2_code (2 : Nat) (Option.some Jvm.ClassFile.FieldType.char)).before a0 Z = true := hw _ (List.mem_of_getElem? (i := 3) rfl)
theorem tw4 {Z : State} {a0 : Array Value} (hw : ∀ d ∈ tables_1, d.before a0 Z = true) : (Jvm.Cond.arrayClass Jvm.ClassFile.FieldType.char).before a0 Z = true := hw _ (List.mem_of_getElem? (i := 4) rfl)
theorem tw5 {Z : State} {a0 : Array Value} (hw : ∀ d ∈ tables_1, d.before a0 Z = true) : (Jvm.Cond.classLink "com/example/lokit/lokit/password/PasswordAlphabetClassOfPinLaw" (15 : Nat) "java/lang/String").before a0 Z = true := hw _ (List.mem_of_getElem? (i := 5) rfl)
theorem tw6 {Z : State} {a0 : Array Value} (hw : ∀ d ∈ tables_1, d.before a0 Z = true) : (Jvm.Cond.instantiable "java/lang/String" (4 : Nat)).before a0 Z = true := hw _ (List.mem_of_getElem? (i := 6) rfl)
theorem tw7 {Z : State} {a0 : Array Value} (hw : ∀ d ∈ tables_1, d.before a0 Z = true) : (Jvm.Cond.initialized "java/lang/String").before a0 Z = true := hw _ (List.mem_of_getElem? (i := 7) rfl)
theorem tw8 {Z : State} {a0 : Array Value} (hw : ∀ d ∈ tables_1, d.before a0 Z = true) : (Jvm.Cond.methodLink "com/example/lokit/lokit/password/PasswordAlphabetClassOfPinLaw" (17 : Nat) ({ cls := "java/lang/String", name := "<init>", desc := "([C)V" } : Jvm.MethodName)).before a0 Z = true := hw _ (List.mem_of_getElem? (i := 8) rfl)
theorem tw9 {Z : State} {a0 : Array Value} (hw : ∀ d ∈ tables_1, d.before a0 Z = true) : (Jvm.Cond.instanceMethod ({ cls := "java/lang/String", name := "<init>", desc := "([C)V" } : Jvm.MethodName)).before a0 Z = true := hw _ (List.mem_of_getElem? (i := 9) rfl)
theorem tw10 {Z : State} {a0 : Array Value} (hw : ∀ d ∈ tables_1, d.before a0 Z = true) : (Jvm.Cond.code ({ cls := "java/lang/String", name := "<init>", desc := "([C)V" } : Jvm.MethodName) jdk_42_method_3_code (2 : Nat) (Option.none : Option Jvm.ClassFile.FieldType)).before a0 Z = true := hw _ (List.mem_of_getElem? (i := 10) rfl)
theorem tw11 {Z : State} {a0 : Array Value} (hw : ∀ d ∈ tables_1, d.before a0 Z = true) : (Jvm.Cond.methodLink "java/lang/String" (27 : Nat) ({ cls := "java/lang/String", name := "<init>", desc := "([CIILjava/lang/Void;)V" } : Jvm.MethodName)).before a0 Z = true := hw _ (List.mem_of_getElem? (i := 11) rfl)
theorem tw12 {Z : State} {a0 : Array Value} (hw : ∀ d ∈ tables_1, d.before a0 Z = true) : (Jvm.Cond.instanceMethod ({ cls := "java/lang/String", name := "<init>", desc := "([CIILjava/lang/Void;)V" } : Jvm.MethodName)).before a0 Z = true := hw _ (List.mem_of_getElem? (i := 12) rfl)
theorem tw14 {Z : State} {a0 : Array Value} (hw : ∀ d ∈ tables_1, d.before a0 Z = true) : (Jvm.Cond.code ({ cls := "java/lang/String", name := "<init>", desc := "([CIILjava/lang/Void;)V" } : Jvm.MethodName) jdk_42_method_149_code (6 : Nat) (Option.none : Option Jvm.ClassFile.FieldType)).before a0 Z = true := hw _ (List.mem_of_getElem? (i := 14) rfl)
theorem tw15 {Z : State} {a0 : Array Value} (hw : ∀ d ∈ tables_1, d.before a0 Z = true) : (Jvm.Cond.methodLink "java/lang/String" (1 : Nat) ({ cls := "java/lang/Object", name := "<init>", desc := "()V" } : Jvm.MethodName)).before a0 Z = true := hw _ (List.mem_of_getElem? (i := 15) rfl)
theorem tw16 {Z : State} {a0 : Array Value} (hw : ∀ d ∈ tables_1, d.before a0 Z = true) : (Jvm.Cond.instanceMethod ({ cls := "java/lang/Object", name := "<init>", desc := "()V" } : Jvm.MethodName)).before a0 Z = true := hw _ (List.mem_of_getElem? (i := 16) rfl)
theorem tw17 {Z : State} {a0 : Array Value} (hw : ∀ d ∈ tables_1, d.before a0 Z = true) : (Jvm.Cond.code ({ cls := "java/lang/Object", name := "<init>", desc := "()V" } : Jvm.MethodName) object_method_1_code (1 : Nat) (Option.none : Option Jvm.ClassFile.FieldType)).before a0 Z = true := hw _ (List.mem_of_getElem? (i := 17) rfl)
theorem tw18 {Z : State} {a0 : Array Value} (hw : ∀ d ∈ tables_1, d.before a0 Z = true) : (Jvm.Cond.fieldLink "java/lang/String" (38 : Nat) "java/lang/String" "COMPACT_STRINGS" "Z").before a0 Z = true := hw _ (List.mem_of_getElem? (i := 18) rfl)
theorem tw19 {Z : State} {a0 : Array Value} (hw : ∀ d ∈ tables_1, d.before a0 Z = true) : (Jvm.Cond.methodLink "java/lang/String" (177 : Nat) ({ cls := "java/lang/StringUTF16", name := "compress", desc := "([CII)[B" } : Jvm.MethodName)).before a0 Z = true := hw _ (List.mem_of_getElem? (i := 19) rfl)
theorem tw20 {Z : State} {a0 : Array Value} (hw : ∀ d ∈ tables_1, d.before a0 Z = true) : (Jvm.Cond.static ({ cls := "java/lang/StringUTF16", name := "compress", desc := "([CII)[B" } : Jvm.MethodName)).before a0 Z = true := hw _ (List.mem_of_getElem? (i := 20) rfl)
theorem tw21 {Z : State} {a0 : Array Value} (hw : ∀ d ∈ tables_1, d.before a0 Z = true) : (Jvm.Cond.initialized "java/lang/StringUTF16").before a0 Z = true := hw _ (List.mem_of_getElem? (i := 21) rfl)
theorem tw22 {Z : State} {a0 : Array Value} (hw : ∀ d ∈ tables_1, d.before a0 Z = true) : (Jvm.Cond.code ({ cls := "java/lang/StringUTF16", name := "compress", desc := "([CII)[B" } : Jvm.MethodName) jdk_52_method_16_code (6 : Nat) (Option.some (Jvm.ClassFile.FieldType.array Jvm.ClassFile.FieldType.byte))).before a0 Z = true := hw _ (List.mem_of_getElem? (i := 22) rfl)
theorem tw23 {Z : State} {a0 : Array Value} (hw : ∀ d ∈ tables_1, d.before a0 Z = true) : (Jvm.Cond.arrayClass Jvm.ClassFile.FieldType.byte).before a0 Z = true := hw _ (List.mem_of_getElem? (i := 23) rfl)
theorem tw24 {Z : State} {a0 : Array Value} (hw : ∀ d ∈ tables_1, d.before a0 Z = true) : (Jvm.Cond.methodLink "java/lang/StringUTF16" (115 : Nat) ({ cls := "java/lang/StringUTF16", name := "compress", desc := "([CI[BII)I" } : Jvm.MethodName)).before a0 Z = true := hw _ (List.mem_of_getElem? (i := 24) rfl)
theorem tw25 {Z : State} {a0 : Array Value} (hw : ∀ d ∈ tables_1, d.before a0 Z = true) : (Jvm.Cond.static ({ cls := "java/lang/StringUTF16", name := "compress", desc := "([CI[BII)I" } : Jvm.MethodName)).before a0 Z = true := hw _ (List.mem_of_getElem? (i := 25) rfl)
theorem tw26 {Z : State} {a0 : Array Value} (hw : ∀ d ∈ tables_1, d.before a0 Z = true) : (Jvm.Cond.code ({ cls := "java/lang/StringUTF16", name := "compress", desc := "([CI[BII)I" } : Jvm.MethodName) jdk_52_method_21_code (7 : Nat) (Option.some Jvm.ClassFile.FieldType.int)).before a0 Z = true := hw _ (List.mem_of_getElem? (i := 26) rfl)
theorem tw27 {Z : State} {a0 : Array Value} (hw : ∀ d ∈ tables_1, d.before a0 Z = true) : (Jvm.Cond.methodLink "java/lang/String" (47 : Nat) ({ cls := "java/lang/StringUTF16", name := "coderFromArrayLen", desc := "([BI)B" } : Jvm.MethodName)).before a0 Z = true := hw _ (List.mem_of_getElem? (i := 27) rfl)
theorem tw28 {Z : State} {a0 : Array Value} (hw : ∀ d ∈ tables_1, d.before a0 Z = true) : (Jvm.Cond.static ({ cls := "java/lang/StringUTF16", name := "coderFromArrayLen", desc := "([BI)B" } : Jvm.MethodName)).before a0 Z = true := hw _ (List.mem_of_getElem? (i := 28) rfl)
theorem tw29 {Z : State} {a0 : Array Value} (hw : ∀ d ∈ tables_1, d.before a0 Z = true) : (Jvm.Cond.code ({ cls := "java/lang/StringUTF16", name := "coderFromArrayLen", desc := "([BI)B" } : Jvm.MethodName) jdk_52_method_15_code (2 : Nat) (Option.some Jvm.ClassFile.FieldType.byte)).before a0 Z = true := hw _ (List.mem_of_getElem? (i := 29) rfl)
theorem tw30 {Z : State} {a0 : Array Value} (hw : ∀ d ∈ tables_1, d.before a0 Z = true) : (Jvm.Cond.fieldLink "java/lang/String" (15 : Nat) "java/lang/String" "coder" "B").before a0 Z = true := hw _ (List.mem_of_getElem? (i := 30) rfl)
theorem tw31 {Z : State} {a0 : Array Value} (hw : ∀ d ∈ tables_1, d.before a0 Z = true) : (Jvm.Cond.laysFinal "java/lang/String" "java/lang/String" "coder" "B").before a0 Z = true := hw _ (List.mem_of_getElem? (i := 31) rfl)
theorem tw32 {Z : State} {a0 : Array Value} (hw : ∀ d ∈ tables_1, d.before a0 Z = true) : (Jvm.Cond.fieldLink "java/lang/String" (9 : Nat) "java/lang/String" "value" "[B").before a0 Z = true := hw _ (List.mem_of_getElem? (i := 32) rfl)
theorem tw33 {Z : State} {a0 : Array Value} (hw : ∀ d ∈ tables_1, d.before a0 Z = true) : (Jvm.Cond.laysFinal "java/lang/String" "java/lang/String" "value" "[B").before a0 Z = true := hw _ (List.mem_of_getElem? (i := 33) rfl)
theorem tw34 {Z : State} {a0 : Array Value} (hw : ∀ d ∈ tables_1, d.before a0 Z = true) : (Jvm.Cond.classLink "com/example/lokit/lokit/password/PasswordAlphabetClassOfPinLaw" (20 : Nat) "com/example/lokit/lokit/password/PasswordAlphabet").before a0 Z = true := hw _ (List.mem_of_getElem? (i := 34) rfl)
theorem tw35 {Z : State} {a0 : Array Value} (hw : ∀ d ∈ tables_1, d.before a0 Z = true) : (Jvm.Cond.instantiable "com/example/lokit/lokit/password/PasswordAlphabet" (1 : Nat)).before a0 Z = true := hw _ (List.mem_of_getElem? (i := 35) rfl)
theorem tw36 {Z : State} {a0 : Array Value} (hw : ∀ d ∈ tables_1, d.before a0 Z = true) : (Jvm.Cond.initialized "com/example/lokit/lokit/password/PasswordAlphabet").before a0 Z = true := hw _ (List.mem_of_getElem? (i := 36) rfl)
theorem tw37 {Z : State} {a0 : Array Value} (hw : ∀ d ∈ tables_1, d.before a0 Z = true) : (Jvm.Cond.methodLink "com/example/lokit/lokit/password/PasswordAlphabetClassOfPinLaw" (22 : Nat) ({ cls := "com/example/lokit/lokit/password/PasswordAlphabet", name := "<init>", desc := "(Ljava/lang/String;)V" } : Jvm.MethodName)).before a0 Z = true := hw _ (List.mem_of_getElem? (i := 37) rfl)
theorem tw38 {Z : State} {a0 : Array Value} (hw : ∀ d ∈ tables_1, d.before a0 Z = true) : (Jvm.Cond.instanceMethod ({ cls := "com/example/lokit/lokit/password/PasswordAlphabet", name := "<init>", desc := "(Ljava/lang/String;)V" } : Jvm.MethodName)).before a0 Z = true := hw _ (List.mem_of_getElem? (i := 38) rfl)
theorem tw39 {Z : State} {a0 : Array Value} (hw : ∀ d ∈ tables_1, d.before a0 Z = true) : (Jvm.Cond.code ({ cls := "com/example/lokit/lokit/password/PasswordAlphabet", name := "<init>", desc := "(Ljava/lang/String;)V" } : Jvm.MethodName) prog_12_method_1_code (4 : Nat) (Option.none : Option Jvm.ClassFile.FieldType)).before a0 Z = true := hw _ (List.mem_of_getElem? (i := 39) rfl)
theorem tw40 {Z : State} {a0 : Array Value} (hw : ∀ d ∈ tables_1, d.before a0 Z = true) : (Jvm.Cond.methodLink "com/example/lokit/lokit/password/PasswordAlphabet" (1 : Nat) ({ cls := "java/lang/Object", name := "<init>", desc := "()V" } : Jvm.MethodName)).before a0 Z = true := hw _ (List.mem_of_getElem? (i := 40) rfl)
theorem tw41 {Z : State} {a0 : Array Value} (hw : ∀ d ∈ tables_1, d.before a0 Z = true) : (Jvm.Cond.stringLink "com/example/lokit/lokit/password/PasswordAlphabet" (7 : Nat) "symbols").before a0 Z = true := hw _ (List.mem_of_getElem? (i := 41) rfl)
theorem tw44 {Z : State} {a0 : Array Value} (hw : ∀ d ∈ tables_1, d.before a0 Z = true) : (Jvm.Cond.methodLink "com/example/lokit/lokit/password/PasswordAlphabet" (9 : Nat) ({ cls := "java/util/Objects", name := "requireNonNull", desc := "(Ljava/lang/Object;Ljava/lang/String;)Ljava/lang/Object;" } : Jvm.MethodName)).before a0 Z = true := hw _ (List.mem_of_getElem? (i := 44) rfl)
theorem tw45 {Z : State} {a0 : Array Value} (hw : ∀ d ∈ tables_1, d.before a0 Z = true) : (Jvm.Cond.static ({ cls := "java/util/Objects", name := "requireNonNull", desc := "(Ljava/lang/Object;Ljava/lang/String;)Ljava/lang/Object;" } : Jvm.MethodName)).before a0 Z = true := hw _ (List.mem_of_getElem? (i := 45) rfl)
theorem tw46 {Z : State} {a0 : Array Value} (hw : ∀ d ∈ tables_1, d.before a0 Z = true) : (Jvm.Cond.initialized "java/util/Objects").before a0 Z = true := hw _ (List.mem_of_getElem? (i := 46) rfl)
theorem tw47 {Z : State} {a0 : Array Value} (hw : ∀ d ∈ tables_1, d.before a0 Z = true) : (Jvm.Cond.code ({ cls := "java/util/Objects", name := "requireNonNull", desc := "(Ljava/lang/Object;Ljava/lang/String;)Ljava/lang/Object;" } : Jvm.MethodName) jdk_31_method_11_code (2 : Nat) (Option.some (Jvm.ClassFile.FieldType.object "java/lang/Object"))).before a0 Z = true := hw _ (List.mem_of_getElem? (i := 47) rfl)
theorem tw48 {Z : State} {a0 : Array Value} (hw : ∀ d ∈ tables_1, d.before a0 Z = true) : (Jvm.Cond.methodLink "com/example/lokit/lokit/password/PasswordAlphabet" (15 : Nat) ({ cls := "java/lang/String", name := "length", desc := "()I" } : Jvm.MethodName)).before a0 Z = true := hw _ (List.mem_of_getElem? (i := 48) rfl)
theorem tw49 {Z : State} {a0 : Array Value} (hw : ∀ d ∈ tables_1, d.before a0 Z = true) : (Jvm.Cond.declares ({ cls := "java/lang/String", name := "length", desc := "()I" } : Jvm.MethodName)).before a0 Z = true := hw _ (List.mem_of_getElem? (i := 49) rfl)
theorem tw50 {Z : State} {a0 : Array Value} (hw : ∀ d ∈ tables_1, d.before a0 Z = true) : (Jvm.Cond.instanceMethod ({ cls := "java/lang/String", name := "length", desc := "()I" } : Jvm.MethodName)).before a0 Z = true := hw _ (List.mem_of_getElem? (i := 50) rfl)
theorem tw51 {Z : State} {a0 : Array Value} (hw : ∀ d ∈ tables_1, d.before a0 Z = true) : (Jvm.Cond.selects "java/lang/String" ({ cls := "java/lang/String", name := "length", desc := "()I" } : Jvm.MethodName) ({ cls := "java/lang/String", name := "length", desc := "()I" } : Jvm.MethodName)).before a0 Z = true := hw _ (List.mem_of_getElem? (i := 51) rfl)
theorem tw52 {Z : State} {a0 : Array Value} (hw : ∀ d ∈ tables_1, d.before a0 Z = true) : (Jvm.Cond.code ({ cls := "java/lang/String", name := "length", desc := "()I" } : Jvm.MethodName) jdk_42_method_54_code (1 : Nat) (Option.some Jvm.ClassFile.FieldType.int)).before a0 Z = true := hw _ (List.mem_of_getElem? (i := 52) rfl)
theorem tw53 {Z : State} {a0 : Array Value} (hw : ∀ d ∈ tables_1, d.before a0 Z = true) : (Jvm.Cond.methodLink "java/lang/String" (335 : Nat) ({ cls := "java/lang/String", name := "coder", desc := "()B" } : Jvm.MethodName)).before a0 Z = true := hw _ (List.mem_of_getElem? (i := 53) rfl)
theorem tw54 {Z : State} {a0 : Array Value} (hw : ∀ d ∈ tables_1, d.before a0 Z = true) : (Jvm.Cond.declares ({ cls := "java/lang/String", name := "coder", desc := "()B" } : Jvm.MethodName)).before a0 Z = true := hw _ (List.mem_of_getElem? (i := 54) rfl)
theorem tw55 {Z : State} {a0 : Array Value} (hw : ∀ d ∈ tables_1, d.before a0 Z = true) : (Jvm.Cond.instanceMethod ({ cls := "java/lang/String", name := "coder", desc := "()B" } : Jvm.MethodName)).before a0 Z = true := hw _ (List.mem_of_getElem? (i := 55) rfl)
theorem tw56 {Z : State} {a0 : Array Value} (hw : ∀ d ∈ tables_1, d.before a0 Z = true) : (Jvm.Cond.selects "java/lang/String" ({ cls := "java/lang/String", name := "coder", desc := "()B" } : Jvm.MethodName) ({ cls := "java/lang/String", name := "coder", desc := "()B" } : Jvm.MethodName)).before a0 Z = true := hw _ (List.mem_of_getElem? (i := 56) rfl)
theorem tw57 {Z : State} {a0 : Array Value} (hw : ∀ d ∈ tables_1, d.before a0 Z = true) : (Jvm.Cond.code ({ cls := "java/lang/String", name := "coder", desc := "()B" } : Jvm.MethodName) jdk_42_method_152_code (1 : Nat) (Option.some Jvm.ClassFile.FieldType.byte)).before a0 Z = true := hw _ (List.mem_of_getElem? (i := 57) rfl)
theorem tw58 {Z : State} {a0 : Array Value} (hw : ∀ d ∈ tables_1, d.before a0 Z = true) : (Jvm.Cond.methodLink "com/example/lokit/lokit/password/PasswordAlphabet" (21 : Nat) ({ cls := "java/lang/String", name := "charAt", desc := "(I)C" } : Jvm.MethodName)).before a0 Z = true := hw _ (List.mem_of_getElem? (i := 58) rfl)
theorem tw59 {Z : State} {a0 : Array Value} (hw : ∀ d ∈ tables_1, d.before a0 Z = true) : (Jvm.Cond.declares ({ cls := "java/lang/String", name := "charAt", desc := "(I)C" } : Jvm.MethodName)).before a0 Z = true := hw _ (List.mem_of_getElem? (i := 59) rfl)
theorem tw60 {Z : State} {a0 : Array Value} (hw : ∀ d ∈ tables_1, d.before a0 Z = true) : (Jvm.Cond.instanceMethod ({ cls := "java/lang/String", name := "charAt", desc := "(I)C" } : Jvm.MethodName)).before a0 Z = true := hw _ (List.mem_of_getElem? (i := 60) rfl)
theorem tw61 {Z : State} {a0 : Array Value} (hw : ∀ d ∈ tables_1, d.before a0 Z = true) : (Jvm.Cond.selects "java/lang/String" ({ cls := "java/lang/String", name := "charAt", desc := "(I)C" } : Jvm.MethodName) ({ cls := "java/lang/String", name := "charAt", desc := "(I)C" } : Jvm.MethodName)).before a0 Z = true := hw _ (List.mem_of_getElem? (i := 61) rfl)
theorem tw62 {Z : State} {a0 : Array Value} (hw : ∀ d ∈ tables_1, d.before a0 Z = true) : (Jvm.Cond.code ({ cls := "java/lang/String", name := "charAt", desc := "(I)C" } : Jvm.MethodName) jdk_42_method_56_code (2 : Nat) (Option.some Jvm.ClassFile.FieldType.char)).before a0 Z = true := hw _ (List.mem_of_getElem? (i := 62) rfl)
theorem tw63 {Z : State} {a0 : Array Value} (hw : ∀ d ∈ tables_1, d.before a0 Z = true) : (Jvm.Cond.methodLink "java/lang/String" (492 : Nat) ({ cls := "java/lang/String", name := "isLatin1", desc := "()Z" } : Jvm.MethodName)).before a0 Z = true := hw _ (List.mem_of_getElem? (i := 63) rfl)
theorem tw64 {Z : State} {a0 : Array Value} (hw : ∀ d ∈ tables_1, d.before a0 Z = true) : (Jvm.Cond.declares ({ cls := "java/lang/String", name := "isLatin1", desc := "()Z" } : Jvm.MethodName)).before a0 Z = true := hw _ (List.mem_of_getElem? (i := 64) rfl)
theorem tw65 {Z : State} {a0 : Array Value} (hw : ∀ d ∈ tables_1, d.before a0 Z = true) : (Jvm.Cond.instanceMethod ({ cls := "java/lang/String", name := "isLatin1", desc := "()Z" } : Jvm.MethodName)).before a0 Z = true := hw _ (List.mem_of_getElem? (i := 65) rfl)
theorem tw66 {Z : State} {a0 : Array Value} (hw : ∀ d ∈ tables_1, d.before a0 Z = true) : (Jvm.Cond.selects "java/lang/String" ({ cls := "java/lang/String", name := "isLatin1", desc := "()Z" } : Jvm.MethodName) ({ cls := "java/lang/String", name := "isLatin1", desc := "()Z" } : Jvm.MethodName)).before a0 Z = true := hw _ (List.mem_of_getElem? (i := 66) rfl)
theorem tw67 {Z : State} {a0 : Array Value} (hw : ∀ d ∈ tables_1, d.before a0 Z = true) : (Jvm.Cond.code ({ cls := "java/lang/String", name := "isLatin1", desc := "()Z" } : Jvm.MethodName) jdk_42_method_154_code (1 : Nat) (Option.some Jvm.ClassFile.FieldType.boolean)).before a0 Z = true := hw _ (List.mem_of_getElem? (i := 67) rfl)
theorem tw68 {Z : State} {a0 : Array Value} (hw : ∀ d ∈ tables_1, d.before a0 Z = true) : (Jvm.Cond.methodLink "java/lang/String" (495 : Nat) ({ cls := "java/lang/StringLatin1", name := "charAt", desc := "([BI)C" } : Jvm.MethodName)).before a0 Z = true := hw _ (List.mem_of_getElem? (i := 68) rfl)
theorem tw69 {Z : State} {a0 : Array Value} (hw : ∀ d ∈ tables_1, d.before a0 Z = true) : (Jvm.Cond.static ({ cls := "java/lang/StringLatin1", name := "charAt", desc := "([BI)C" } : Jvm.MethodName)).before a0 Z = true := hw _ (List.mem_of_getElem? (i := 69) rfl)
theorem tw70 {Z : State} {a0 : Array Value} (hw : ∀ d ∈ tables_1, d.before a0 Z = true) : (Jvm.Cond.initialized "java/lang/StringLatin1").before a0 Z = true := hw _ (List.mem_of_getElem? (i := 70) rfl)
theorem tw71 {Z : State} {a0 : Array Value} (hw : ∀ d ∈ tables_1, d.before a0 Z = true) : (Jvm.Cond.code ({ cls := "java/lang/StringLatin1", name := "charAt", desc := "([BI)C" } : Jvm.MethodName) jdk_43_method_2_code (2 : Nat) (Option.some Jvm.ClassFile.FieldType.char)).before a0 Z = true := hw _ (List.mem_of_getElem? (i := 71) rfl)
theorem tw72 {Z : State} {a0 : Array Value} (hw : ∀ d ∈ tables_1, d.before a0 Z = true) : (Jvm.Cond.methodLink "java/lang/StringLatin1" (9 : Nat) ({ cls := "java/lang/String", name := "checkIndex", desc := "(II)V" } : Jvm.MethodName)).before a0 Z = true := hw _ (List.mem_of_getElem? (i := 72) rfl)
theorem tw73 {Z : State} {a0 : Array Value} (hw : ∀ d ∈ tables_1, d.before a0 Z = true) : (Jvm.Cond.static ({ cls := "java/lang/String", name := "checkIndex", desc := "(II)V" } : Jvm.MethodName)).before a0 Z = true := hw _ (List.mem_of_getElem? (i := 73) rfl)
theorem tw74 {Z : State} {a0 : Array Value} (hw : ∀ d ∈ tables_1, d.before a0 Z = true) : (Jvm.Cond.code ({ cls := "java/lang/String", name := "checkIndex", desc := "(II)V" } : Jvm.MethodName) jdk_42_method_155_code (2 : Nat) (Option.none : Option Jvm.ClassFile.FieldType)).before a0 Z = true := hw _ (List.mem_of_getElem? (i := 74) rfl)
theorem tw75 {Z : State} {a0 : Array Value} (hw : ∀ d ∈ tables_1, d.before a0 Z = true) : (Jvm.Cond.fieldLink "java/lang/String" (1053 : Nat) "jdk/internal/util/Preconditions" "SIOOBE_FORMATTER" "Ljava/util/function/BiFunction;").before a0 Z = true := hw _ (List.mem_of_getElem? (i := 75) rfl)
theorem tw76 {Z : State} {a0 : Array Value} (hw : ∀ d ∈ tables_1, d.before a0 Z = true) : (Jvm.Cond.initialized "jdk/internal/util/Preconditions").before a0 Z = true := hw _ (List.mem_of_getElem? (i := 76) rfl)
theorem tw77 {Z : State} {a0 : Array Value} (hw : ∀ d ∈ tables_1, d.before a0 Z = true) : (Jvm.Cond.methodLink "java/lang/String" (1059 : Nat) ({ cls := "jdk/internal/util/Preconditions", name := "checkIndex", desc := "(IILjava/util/function/BiFunction;)I" } : Jvm.MethodName)).before a0 Z = true := hw _ (List.mem_of_getElem? (i := 77) rfl)
theorem tw78 {Z : State} {a0 : Array Value} (hw : ∀ d ∈ tables_1, d.before a0 Z = true) : (Jvm.Cond.static ({ cls := "jdk/internal/util/Preconditions", name := "checkIndex", desc := "(IILjava/util/function/BiFunction;)I" } : Jvm.MethodName)).before a0 Z = true := hw _ (List.mem_of_getElem? (i := 78) rfl)
theorem tw79 {Z : State} {a0 : Array Value} (hw : ∀ d ∈ tables_1, d.before a0 Z = true) : (Jvm.Cond.code ({ cls := "jdk/internal/util/Preconditions", name := "checkIndex", desc := "(IILjava/util/function/BiFunction;)I" } : Jvm.MethodName) jdk_41_method_11_code (3 : Nat) (Option.some Jvm.ClassFile.FieldType.int)).before a0 Z = true := hw _ (List.mem_of_getElem? (i := 79) rfl)
theorem tw80 {Z : State} {a0 : Array Value} (hw : ∀ d ∈ tables_1, d.before a0 Z = true) : (Jvm.Cond.methodLink "com/example/lokit/lokit/password/PasswordAlphabet" (25 : Nat) ({ cls := "com/example/lokit/lokit/password/PasswordAlphabet", name := "letterOrDigitClassOf", desc := "(I)Ljava/util/Optional;" } : Jvm.MethodName)).before a0 Z = true := hw _ (List.mem_of_getElem? (i := 80) rfl)
theorem tw81 {Z : State} {a0 : Array Value} (hw : ∀ d ∈ tables_1, d.before a0 Z = true) : (Jvm.Cond.static ({ cls := "com/example/lokit/lokit/password/PasswordAlphabet", name := "letterOrDigitClassOf", desc := "(I)Ljava/util/Optional;" } : Jvm.MethodName)).before a0 Z = true := hw _ (List.mem_of_getElem? (i := 81) rfl)
theorem tw82 {Z : State} {a0 : Array Value} (hw : ∀ d ∈ tables_1, d.before a0 Z = true) : (Jvm.Cond.code ({ cls := "com/example/lokit/lokit/password/PasswordAlphabet", name := "letterOrDigitClassOf", desc := "(I)Ljava/util/Optional;" } : Jvm.MethodName) prog_12_method_3_code (1 : Nat) (Option.some (Jvm.ClassFile.FieldType.object "java/util/Optional"))).before a0 Z = true := hw _ (List.mem_of_getElem? (i := 82) rfl)
theorem tw83 {Z : State} {a0 : Array Value} (hw : ∀ d ∈ tables_1, d.before a0 Z = true) : (Jvm.Cond.methodLink "com/example/lokit/lokit/password/PasswordAlphabet" (71 : Nat) ({ cls := "java/util/Optional", name := "empty", desc := "()Ljava/util/Optional;" } : Jvm.MethodName)).before a0 Z = true := hw _ (List.mem_of_getElem? (i := 83) rfl)
theorem tw84 {Z : State} {a0 : Array Value} (hw : ∀ d ∈ tables_1, d.before a0 Z = true) : (Jvm.Cond.static ({ cls := "java/util/Optional", name := "empty", desc := "()Ljava/util/Optional;" } : Jvm.MethodName)).before a0 Z = true := hw _ (List.mem_of_getElem? (i := 84) rfl)
theorem tw85 {Z : State} {a0 : Array Value} (hw : ∀ d ∈ tables_1, d.before a0 Z = true) : (Jvm.Cond.initialized "java/util/Optional").before a0 Z = true := hw _ (List.mem_of_getElem? (i := 85) rfl)
theorem tw86 {Z : State} {a0 : Array Value} (hw : ∀ d ∈ tables_1, d.before a0 Z = true) : (Jvm.Cond.code ({ cls := "java/util/Optional", name := "empty", desc := "()Ljava/util/Optional;" } : Jvm.MethodName) jdk_32_method_1_code (1 : Nat) (Option.some (Jvm.ClassFile.FieldType.object "java/util/Optional"))).before a0 Z = true := hw _ (List.mem_of_getElem? (i := 86) rfl)
theorem tw87 {Z : State} {a0 : Array Value} (hw : ∀ d ∈ tables_1, d.before a0 Z = true) : (Jvm.Cond.fieldLink "java/util/Optional" (1 : Nat) "java/util/Optional" "EMPTY" "Ljava/util/Optional;").before a0 Z = true := hw _ (List.mem_of_getElem? (i := 87) rfl)
theorem tw88 {Z : State} {a0 : Array Value} (hw : ∀ d ∈ tables_1, d.before a0 Z = true) : (Jvm.Cond.methodLink "com/example/lokit/lokit/password/PasswordAlphabet" (31 : Nat) ({ cls := "java/util/Optional", name := "isPresent", desc := "()Z" } : Jvm.MethodName)).before a0 Z = true := hw _ (List.mem_of_getElem? (i := 88) rfl)
theorem tw89 {Z : State} {a0 : Array Value} (hw : ∀ d ∈ tables_1, d.before a0 Z = true) : (Jvm.Cond.declares ({ cls := "java/util/Optional", name := "isPresent", desc := "()Z" } : Jvm.MethodName)).before a0 Z = true := hw _ (List.mem_of_getElem? (i := 89) rfl)
theorem tw90 {Z : State} {a0 : Array Value} (hw : ∀ d ∈ tables_1, d.before a0 Z = true) : (Jvm.Cond.instanceMethod ({ cls := "java/util/Optional", name := "isPresent", desc := "()Z" } : Jvm.MethodName)).before a0 Z = true := hw _ (List.mem_of_getElem? (i := 90) rfl)
theorem tw91 {Z : State} {a0 : Array Value} (hw : ∀ d ∈ tables_1, d.before a0 Z = true) : (Jvm.Cond.selects "java/util/Optional" ({ cls := "java/util/Optional", name := "isPresent", desc := "()Z" } : Jvm.MethodName) ({ cls := "java/util/Optional", name := "isPresent", desc := "()Z" } : Jvm.MethodName)).before a0 Z = true := hw _ (List.mem_of_getElem? (i := 91) rfl)
theorem tw92 {Z : State} {a0 : Array Value} (hw : ∀ d ∈ tables_1, d.before a0 Z = true) : (Jvm.Cond.code ({ cls := "java/util/Optional", name := "isPresent", desc := "()Z" } : Jvm.MethodName) jdk_32_method_6_code (1 : Nat) (Option.some Jvm.ClassFile.FieldType.boolean)).before a0 Z = true := hw _ (List.mem_of_getElem? (i := 92) rfl)
theorem tw93 {Z : State} {a0 : Array Value} (hw : ∀ d ∈ tables_1, d.before a0 Z = true) : (Jvm.Cond.fieldLink "java/util/Optional" (13 : Nat) "java/util/Optional" "value" "Ljava/lang/Object;").before a0 Z = true := hw _ (List.mem_of_getElem? (i := 93) rfl)
theorem tw94 {Z : State} {a0 : Array Value} (hw : ∀ d ∈ tables_1, d.before a0 Z = true) : (Jvm.Cond.laysFinal "java/util/Optional" "java/util/Optional" "value" "Ljava/lang/Object;").before a0 Z = true := hw _ (List.mem_of_getElem? (i := 94) rfl)
theorem tw95 {Z : State} {a0 : Array Value} (hw : ∀ d ∈ tables_1, d.before a0 Z = true) : (Jvm.Cond.fieldLink "com/example/lokit/lokit/password/PasswordAlphabet" (54 : Nat) "com/example/lokit/lokit/password/PasswordAlphabet" "symbols" "Ljava/lang/String;").before a0 Z = true := hw _ (List.mem_of_getElem? (i := 95) rfl)
theorem tw96 {Z : State} {a0 : Array Value} (hw : ∀ d ∈ tables_1, d.before a0 Z = true) : (Jvm.Cond.laysFinal "com/example/lokit/lokit/password/PasswordAlphabet" "com/example/lokit/lokit/password/PasswordAlphabet" "symbols" "Ljava/lang/String;").before a0 Z = true := hw _ (List.mem_of_getElem? (i := 96) rfl)
theorem tw97 {Z : State} {a0 : Array Value} (hw : ∀ d ∈ tables_1, d.before a0 Z = true) : (Jvm.Cond.methodLink "com/example/lokit/lokit/password/PasswordAlphabetClassOfPinLaw" (40 : Nat) ({ cls := "com/example/lokit/lokit/password/PasswordAlphabet", name := "classOf", desc := "(I)Ljava/util/Optional;" } : Jvm.MethodName)).before a0 Z = true := hw _ (List.mem_of_getElem? (i := 97) rfl)
theorem tw98 {Z : State} {a0 : Array Value} (hw : ∀ d ∈ tables_1, d.before a0 Z = true) : (Jvm.Cond.declares ({ cls := "com/example/lokit/lokit/password/PasswordAlphabet", name := "classOf", desc := "(I)Ljava/util/Optional;" } : Jvm.MethodName)).before a0 Z = true := hw _ (List.mem_of_getElem? (i := 98) rfl)
theorem tw99 {Z : State} {a0 : Array Value} (hw : ∀ d ∈ tables_1, d.before a0 Z = true) : (Jvm.Cond.instanceMethod ({ cls := "com/example/lokit/lokit/password/PasswordAlphabet", name := "classOf", desc := "(I)Ljava/util/Optional;" } : Jvm.MethodName)).before a0 Z = true := hw _ (List.mem_of_getElem? (i := 99) rfl)
theorem tw100 {Z : State} {a0 : Array Value} (hw : ∀ d ∈ tables_1, d.before a0 Z = true) : (Jvm.Cond.selects "com/example/lokit/lokit/password/PasswordAlphabet" ({ cls := "com/example/lokit/lokit/password/PasswordAlphabet", name := "classOf", desc := "(I)Ljava/util/Optional;" } : Jvm.MethodName) ({ cls := "com/example/lokit/lokit/password/PasswordAlphabet", name := "classOf", desc := "(I)Ljava/util/Optional;" } : Jvm.MethodName)).before a0 Z = true := hw _ (List.mem_of_getElem? (i := 100) rfl)
theorem tw101 {Z : State} {a0 : Array Value} (hw : ∀ d ∈ tables_1, d.before a0 Z = true) : (Jvm.Cond.code ({ cls := "com/example/lokit/lokit/password/PasswordAlphabet", name := "classOf", desc := "(I)Ljava/util/Optional;" } : Jvm.MethodName) prog_12_method_2_code (3 : Nat) (Option.some (Jvm.ClassFile.FieldType.object "java/util/Optional"))).before a0 Z = true := hw _ (List.mem_of_getElem? (i := 101) rfl)
theorem tw102 {Z : State} {a0 : Array Value} (hw : ∀ d ∈ tables_1, d.before a0 Z = true) : (Jvm.Cond.methodLink "com/example/lokit/lokit/password/PasswordAlphabet" (57 : Nat) ({ cls := "java/lang/String", name := "indexOf", desc := "(I)I" } : Jvm.MethodName)).before a0 Z = true := hw _ (List.mem_of_getElem? (i := 102) rfl)
theorem tw103 {Z : State} {a0 : Array Value} (hw : ∀ d ∈ tables_1, d.before a0 Z = true) : (Jvm.Cond.declares ({ cls := "java/lang/String", name := "indexOf", desc := "(I)I" } : Jvm.MethodName)).before a0 Z = true := hw _ (List.mem_of_getElem? (i := 103) rfl)
theorem tw104 {Z : State} {a0 : Array Value} (hw : ∀ d ∈ tables_1, d.before a0 Z = true) : (Jvm.Cond.instanceMethod ({ cls := "java/lang/String", name := "indexOf", desc := "(I)I" } : Jvm.MethodName)).before a0 Z = true := hw _ (List.mem_of_getElem? (i := 104) rfl)
theorem tw105 {Z : State} {a0 : Array Value} (hw : ∀ d ∈ tables_1, d.before a0 Z = true) : (Jvm.Cond.selects "java/lang/String" ({ cls := "java/lang/String", name := "indexOf", desc := "(I)I" } : Jvm.MethodName) ({ cls := "java/lang/String", name := "indexOf", desc := "(I)I" } : Jvm.MethodName)).before a0 Z = true := hw _ (List.mem_of_getElem? (i := 105) rfl)
theorem tw106 {Z : State} {a0 : Array Value} (hw : ∀ d ∈ tables_1, d.before a0 Z = true) : (Jvm.Cond.code ({ cls := "java/lang/String", name := "indexOf", desc := "(I)I" } : Jvm.MethodName) jdk_42_method_79_code (2 : Nat) (Option.some Jvm.ClassFile.FieldType.int)).before a0 Z = true := hw _ (List.mem_of_getElem? (i := 106) rfl)
theorem tw107 {Z : State} {a0 : Array Value} (hw : ∀ d ∈ tables_1, d.before a0 Z = true) : (Jvm.Cond.methodLink "java/lang/String" (633 : Nat) ({ cls := "java/lang/String", name := "indexOf", desc := "(II)I" } : Jvm.MethodName)).before a0 Z = true := hw _ (List.mem_of_getElem? (i := 107) rfl)
theorem tw108 {Z : State} {a0 : Array Value} (hw : ∀ d ∈ tables_1, d.before a0 Z = true) : (Jvm.Cond.declares ({ cls := "java/lang/String", name := "indexOf", desc := "(II)I" } : Jvm.MethodName)).before a0 Z = true := hw _ (List.mem_of_getElem? (i := 108) rfl)
theorem tw109 {Z : State} {a0 : Array Value} (hw : ∀ d ∈ tables_1, d.before a0 Z = true) : (Jvm.Cond.instanceMethod ({ cls := "java/lang/String", name := "indexOf", desc := "(II)I" } : Jvm.MethodName)).before a0 Z = true := hw _ (List.mem_of_getElem? (i := 109) rfl)
theorem tw110 {Z : State} {a0 : Array Value} (hw : ∀ d ∈ tables_1, d.before a0 Z = true) : (Jvm.Cond.selects "java/lang/String" ({ cls := "java/lang/String", name := "indexOf", desc := "(II)I" } : Jvm.MethodName) ({ cls := "java/lang/String", name := "indexOf", desc := "(II)I" } : Jvm.MethodName)).before a0 Z = true := hw _ (List.mem_of_getElem? (i := 110) rfl)
theorem tw111 {Z : State} {a0 : Array Value} (hw : ∀ d ∈ tables_1, d.before a0 Z = true) : (Jvm.Cond.code ({ cls := "java/lang/String", name := "indexOf", desc := "(II)I" } : Jvm.MethodName) jdk_42_method_80_code (3 : Nat) (Option.some Jvm.ClassFile.FieldType.int)).before a0 Z = true := hw _ (List.mem_of_getElem? (i := 111) rfl)
theorem tw112 {Z : State} {a0 : Array Value} (hw : ∀ d ∈ tables_1, d.before a0 Z = true) : (Jvm.Cond.methodLink "java/lang/String" (505 : Nat) ({ cls := "java/lang/String", name := "length", desc := "()I" } : Jvm.MethodName)).before a0 Z = true := hw _ (List.mem_of_getElem? (i := 112) rfl)
theorem tw113 {Z : State} {a0 : Array Value} (hw : ∀ d ∈ tables_1, d.before a0 Z = true) : (Jvm.Cond.methodLink "java/lang/String" (637 : Nat) ({ cls := "java/lang/StringLatin1", name := "indexOf", desc := "([BIII)I" } : Jvm.MethodName)).before a0 Z = true := hw _ (List.mem_of_getElem? (i := 113) rfl)
theorem tw114 {Z : State} {a0 : Array Value} (hw : ∀ d ∈ tables_1, d.before a0 Z = true) : (Jvm.Cond.static ({ cls := "java/lang/StringLatin1", name := "indexOf", desc := "([BIII)I" } : Jvm.MethodName)).before a0 Z = true := hw _ (List.mem_of_getElem? (i := 114) rfl)
theorem tw115 {Z : State} {a0 : Array Value} (hw : ∀ d ∈ tables_1, d.before a0 Z = true) : (Jvm.Cond.code ({ cls := "java/lang/StringLatin1", name := "indexOf", desc := "([BIII)I" } : Jvm.MethodName) jdk_43_method_22_code (4 : Nat) (Option.some Jvm.ClassFile.FieldType.int)).before a0 Z = true := hw _ (List.mem_of_getElem? (i := 115) rfl)
theorem tw116 {Z : State} {a0 : Array Value} (hw : ∀ d ∈ tables_1, d.before a0 Z = true) : (Jvm.Cond.methodLink "java/lang/StringLatin1" (88 : Nat) ({ cls := "java/lang/StringLatin1", name := "canEncode", desc := "(I)Z" } : Jvm.MethodName)).before a0 Z = true := hw _ (List.mem_of_getElem? (i := 116) rfl)
theorem tw117 {Z : State} {a0 : Array Value} (hw : ∀ d ∈ tables_1, d.before a0 Z = true) : (Jvm.Cond.static ({ cls := "java/lang/StringLatin1", name := "canEncode", desc := "(I)Z" } : Jvm.MethodName)).before a0 Z = true := hw _ (List.mem_of_getElem? (i := 117) rfl)
theorem tw118 {Z : State} {a0 : Array Value} (hw : ∀ d ∈ tables_1, d.before a0 Z = true) : (Jvm.Cond.code ({ cls := "java/lang/StringLatin1", name := "canEncode", desc := "(I)Z" } : Jvm.MethodName) jdk_43_method_4_code (1 : Nat) (Option.some Jvm.ClassFile.FieldType.boolean)).before a0 Z = true := hw _ (List.mem_of_getElem? (i := 118) rfl)
theorem tw119 {Z : State} {a0 : Array Value} (hw : ∀ d ∈ tables_1, d.before a0 Z = true) : (Jvm.Cond.methodLink "java/lang/StringLatin1" (92 : Nat) ({ cls := "java/lang/Math", name := "max", desc := "(II)I" } : Jvm.MethodName)).before a0 Z = true := hw _ (List.mem_of_getElem? (i := 119) rfl)
theorem tw120 {Z : State} {a0 : Array Value} (hw : ∀ d ∈ tables_1, d.before a0 Z = true) : (Jvm.Cond.static ({ cls := "java/lang/Math", name := "max", desc := "(II)I" } : Jvm.MethodName)).before a0 Z = true := hw _ (List.mem_of_getElem? (i := 120) rfl)
theorem tw121 {Z : State} {a0 : Array Value} (hw : ∀ d ∈ tables_1, d.before a0 Z = true) : (Jvm.Cond.initialized "java/lang/Math").before a0 Z = true := hw _ (List.mem_of_getElem? (i := 121) rfl)
theorem tw122 {Z : State} {a0 : Array Value} (hw : ∀ d ∈ tables_1, d.before a0 Z = true) : (Jvm.Cond.code ({ cls := "java/lang/Math", name := "max", desc := "(II)I" } : Jvm.MethodName) jdk_29_method_65_code (2 : Nat) (Option.some Jvm.ClassFile.FieldType.int)).before a0 Z = true := hw _ (List.mem_of_getElem? (i := 122) rfl)
theorem tw123 {Z : State} {a0 : Array Value} (hw : ∀ d ∈ tables_1, d.before a0 Z = true) : (Jvm.Cond.methodLink "java/lang/StringLatin1" (38 : Nat) ({ cls := "java/lang/Math", name := "min", desc := "(II)I" } : Jvm.MethodName)).before a0 Z = true := hw _ (List.mem_of_getElem? (i := 123) rfl)
theorem tw124 {Z : State} {a0 : Array Value} (hw : ∀ d ∈ tables_1, d.before a0 Z = true) : (Jvm.Cond.static ({ cls := "java/lang/Math", name := "min", desc := "(II)I" } : Jvm.MethodName)).before a0 Z = true := hw _ (List.mem_of_getElem? (i := 124) rfl)
theorem tw125 {Z : State} {a0 : Array Value} (hw : ∀ d ∈ tables_1, d.before a0 Z = true) : (Jvm.Cond.code ({ cls := "java/lang/Math", name := "min", desc := "(II)I" } : Jvm.MethodName) jdk_29_method_69_code (2 : Nat) (Option.some Jvm.ClassFile.FieldType.int)).before a0 Z = true := hw _ (List.mem_of_getElem? (i := 125) rfl)
theorem tw126 {Z : State} {a0 : Array Value} (hw : ∀ d ∈ tables_1, d.before a0 Z = true) : (Jvm.Cond.methodLink "java/lang/StringLatin1" (95 : Nat) ({ cls := "java/lang/StringLatin1", name := "indexOfChar", desc := "([BIII)I" } : Jvm.MethodName)).before a0 Z = true := hw _ (List.mem_of_getElem? (i := 126) rfl)
theorem tw127 {Z : State} {a0 : Array Value} (hw : ∀ d ∈ tables_1, d.before a0 Z = true) : (Jvm.Cond.static ({ cls := "java/lang/StringLatin1", name := "indexOfChar", desc := "([BIII)I" } : Jvm.MethodName)).before a0 Z = true := hw _ (List.mem_of_getElem? (i := 127) rfl)
theorem tw128 {Z : State} {a0 : Array Value} (hw : ∀ d ∈ tables_1, d.before a0 Z = true) : (Jvm.Cond.code ({ cls := "java/lang/StringLatin1", name := "indexOfChar", desc := "([BIII)I" } : Jvm.MethodName) jdk_43_method_23_code (6 : Nat) (Option.some Jvm.ClassFile.FieldType.int)).before a0 Z = true := hw _ (List.mem_of_getElem? (i := 128) rfl)
theorem tw129 {Z : State} {a0 : Array Value} (hw : ∀ d ∈ tables_1, d.before a0 Z = true) : (Jvm.Cond.methodLink "com/example/lokit/lokit/password/PasswordAlphabetClassOfPinLaw" (44 : Nat) ({ cls := "java/util/Optional", name := "isPresent", desc := "()Z" } : Jvm.MethodName)).before a0 Z = true := hw _ (List.mem_of_getElem? (i := 129) rfl)
theorem tw130 {Z : State} {a0 : Array Value} (hw : ∀ d ∈ tables_1, d.before a0 Z = true) : (Jvm.Cond.stringLink "com/example/lokit/lokit/password/PasswordAlphabetClassOfPinLaw" (13 : Nat) "").before a0 Z = true := hw _ (List.mem_of_getElem? (i := 130) rfl)
theorem tw131 {Z : State} {a0 : Array Value} (hw : ∀ d ∈ tables_1, d.before a0 Z = true) : (Jvm.Cond.fieldLink "com/example/lokit/lokit/password/PasswordAlphabetClassOfPinLaw" (37 : Nat) "com/example/lokit/lokit/password/CharacterClass" "SYMBOL" "Lcom/example/lokit/lokit/password/CharacterClass;").before a0 Z = true := hw _ (List.mem_of_getElem? (i := 131) rfl)
theorem tw132 {Z : State} {a0 : Array Value} (hw : ∀ d ∈ tables_1, d.before a0 Z = true) : (Jvm.Cond.initialized "com/example/lokit/lokit/password/CharacterClass").before a0 Z = true := hw _ (List.mem_of_getElem? (i := 132) rfl)
theorem tw133 {Z : State} {a0 : Array Value} (hw : ∀ d ∈ tables_1, d.before a0 Z = true) : (Jvm.Cond.laysStatic "com/example/lokit/lokit/password/CharacterClass" "SYMBOL" "Lcom/example/lokit/lokit/password/CharacterClass;").before a0 Z = true := hw _ (List.mem_of_getElem? (i := 133) rfl)
theorem tw134 {Z : State} {a0 : Array Value} (hw : ∀ d ∈ tables_1, d.before a0 Z = true) : (Jvm.Cond.fieldLink "com/example/lokit/lokit/password/PasswordAlphabet" (61 : Nat) "com/example/lokit/lokit/password/CharacterClass" "SYMBOL" "Lcom/example/lokit/lokit/password/CharacterClass;").before a0 Z = true := hw _ (List.mem_of_getElem? (i := 134) rfl)
theorem tw135 {Z : State} {a0 : Array Value} (hw : ∀ d ∈ tables_1, d.before a0 Z = true) : (Jvm.Cond.methodLink "com/example/lokit/lokit/password/PasswordAlphabet" (67 : Nat) ({ cls := "java/util/Optional", name := "of", desc := "(Ljava/lang/Object;)Ljava/util/Optional;" } : Jvm.MethodName)).before a0 Z = true := hw _ (List.mem_of_getElem? (i := 135) rfl)
theorem tw136 {Z : State} {a0 : Array Value} (hw : ∀ d ∈ tables_1, d.before a0 Z = true) : (Jvm.Cond.static ({ cls := "java/util/Optional", name := "of", desc := "(Ljava/lang/Object;)Ljava/util/Optional;" } : Jvm.MethodName)).before a0 Z = true := hw _ (List.mem_of_getElem? (i := 136) rfl)
theorem tw137 {Z : State} {a0 : Array Value} (hw : ∀ d ∈ tables_1, d.before a0 Z = true) : (Jvm.Cond.code ({ cls := "java/util/Optional", name := "of", desc := "(Ljava/lang/Object;)Ljava/util/Optional;" } : Jvm.MethodName) jdk_32_method_3_code (1 : Nat) (Option.some (Jvm.ClassFile.FieldType.object "java/util/Optional"))).before a0 Z = true := hw _ (List.mem_of_getElem? (i := 137) rfl)
theorem tw138 {Z : State} {a0 : Array Value} (hw : ∀ d ∈ tables_1, d.before a0 Z = true) : (Jvm.Cond.classLink "java/util/Optional" (2 : Nat) "java/util/Optional").before a0 Z = true := hw _ (List.mem_of_getElem? (i := 138) rfl)
theorem tw139 {Z : State} {a0 : Array Value} (hw : ∀ d ∈ tables_1, d.before a0 Z = true) : (Jvm.Cond.instantiable "java/util/Optional" (1 : Nat)).before a0 Z = true := hw _ (List.mem_of_getElem? (i := 139) rfl)
theorem tw140 {Z : State} {a0 : Array Value} (hw : ∀ d ∈ tables_1, d.before a0 Z = true) : (Jvm.Cond.methodLink "java/util/Optional" (17 : Nat) ({ cls := "java/util/Objects", name := "requireNonNull", desc := "(Ljava/lang/Object;)Ljava/lang/Object;" } : Jvm.MethodName)).before a0 Z = true := hw _ (List.mem_of_getElem? (i := 140) rfl)
theorem tw141 {Z : State} {a0 : Array Value} (hw : ∀ d ∈ tables_1, d.before a0 Z = true) : (Jvm.Cond.static ({ cls := "java/util/Objects", name := "requireNonNull", desc := "(Ljava/lang/Object;)Ljava/lang/Object;" } : Jvm.MethodName)).before a0 Z = true := hw _ (List.mem_of_getElem? (i := 141) rfl)
theorem tw142 {Z : State} {a0 : Array Value} (hw : ∀ d ∈ tables_1, d.before a0 Z = true) : (Jvm.Cond.code ({ cls := "java/util/Objects", name := "requireNonNull", desc := "(Ljava/lang/Object;)Ljava/lang/Object;" } : Jvm.MethodName) jdk_31_method_10_code (1 : Nat) (Option.some (Jvm.ClassFile.FieldType.object "java/lang/Object"))).before a0 Z = true := hw _ (List.mem_of_getElem? (i := 142) rfl)
theorem tw143 {Z : State} {a0 : Array Value} (hw : ∀ d ∈ tables_1, d.before a0 Z = true) : (Jvm.Cond.methodLink "java/util/Optional" (23 : Nat) ({ cls := "java/util/Optional", name := "<init>", desc := "(Ljava/lang/Object;)V" } : Jvm.MethodName)).before a0 Z = true := hw _ (List.mem_of_getElem? (i := 143) rfl)
theorem tw144 {Z : State} {a0 : Array Value} (hw : ∀ d ∈ tables_1, d.before a0 Z = true) : (Jvm.Cond.instanceMethod ({ cls := "java/util/Optional", name := "<init>", desc := "(Ljava/lang/Object;)V" } : Jvm.MethodName)).before a0 Z = true := hw _ (List.mem_of_getElem? (i := 144) rfl)
theorem tw146 {Z : State} {a0 : Array Value} (hw : ∀ d ∈ tables_1, d.before a0 Z = true) : (Jvm.Cond.code ({ cls := "java/util/Optional", name := "<init>", desc := "(Ljava/lang/Object;)V" } : Jvm.MethodName) jdk_32_method_2_code (2 : Nat) (Option.none : Option Jvm.ClassFile.FieldType)).before a0 Z = true := hw _ (List.mem_of_getElem? (i := 146) rfl)
theorem tw147 {Z : State} {a0 : Array Value} (hw : ∀ d ∈ tables_1, d.before a0 Z = true) : (Jvm.Cond.methodLink "java/util/Optional" (7 : Nat) ({ cls := "java/lang/Object", name := "<init>", desc := "()V" } : Jvm.MethodName)).before a0 Z = true := hw _ (List.mem_of_getElem? (i := 147) rfl)
theorem tw148 {Z : State} {a0 : Array Value} (hw : ∀ d ∈ tables_1, d.before a0 Z = true) : (Jvm.Cond.methodLink "com/example/lokit/lokit/password/PasswordAlphabetClassOfPinLaw" (50 : Nat) ({ cls := "java/util/Optional", name := "get", desc := "()Ljava/lang/Object;" } : Jvm.MethodName)).before a0 Z = true := hw _ (List.mem_of_getElem? (i := 148) rfl)
theorem tw149 {Z : State} {a0 : Array Value} (hw : ∀ d ∈ tables_1, d.before a0 Z = true) : (Jvm.Cond.declares ({ cls := "java/util/Optional", name := "get", desc := "()Ljava/lang/Object;" } : Jvm.MethodName)).before a0 Z = true := hw _ (List.mem_of_getElem? (i := 149) rfl)
theorem tw150 {Z : State} {a0 : Array Value} (hw : ∀ d ∈ tables_1, d.before a0 Z = true) : (Jvm.Cond.instanceMethod ({ cls := "java/util/Optional", name := "get", desc := "()Ljava/lang/Object;" } : Jvm.MethodName)).before a0 Z = true := hw _ (List.mem_of_getElem? (i := 150) rfl)
theorem tw151 {Z : State} {a0 : Array Value} (hw : ∀ d ∈ tables_1, d.before a0 Z = true) : (Jvm.Cond.selects "java/util/Optional" ({ cls := "java/util/Optional", name := "get", desc := "()Ljava/lang/Object;" } : Jvm.MethodName) ({ cls := "java/util/Optional", name := "get", desc := "()Ljava/lang/Object;" } : Jvm.MethodName)).before a0 Z = true := hw _ (List.mem_of_getElem? (i := 151) rfl)
theorem tw152 {Z : State} {a0 : Array Value} (hw : ∀ d ∈ tables_1, d.before a0 Z = true) : (Jvm.Cond.code ({ cls := "java/util/Optional", name := "get", desc := "()Ljava/lang/Object;" } : Jvm.MethodName) jdk_32_method_5_code (1 : Nat) (Option.some (Jvm.ClassFile.FieldType.object "java/lang/Object"))).before a0 Z = true := hw _ (List.mem_of_getElem? (i := 152) rfl)
theorem tw153 {Z : State} {a0 : Array Value} (hw : ∀ d ∈ tables_1, d.before a0 Z = true) : (Jvm.Cond.fieldLink "com/example/lokit/lokit/password/PasswordAlphabetClassOfPinLaw" (31 : Nat) "com/example/lokit/lokit/password/CharacterClass" "LOWER_CASE" "Lcom/example/lokit/lokit/password/CharacterClass;").before a0 Z = true := hw _ (List.mem_of_getElem? (i := 153) rfl)
theorem tw154 {Z : State} {a0 : Array Value} (hw : ∀ d ∈ tables_1, d.before a0 Z = true) : (Jvm.Cond.laysStatic "com/example/lokit/lokit/password/CharacterClass" "LOWER_CASE" "Lcom/example/lokit/lokit/password/CharacterClass;").before a0 Z = true := hw _ (List.mem_of_getElem? (i := 154) rfl)
theorem tw155 {Z : State} {a0 : Array Value} (hw : ∀ d ∈ tables_1, d.before a0 Z = true) : (Jvm.Cond.fieldLink "com/example/lokit/lokit/password/PasswordAlphabet" (78 : Nat) "com/example/lokit/lokit/password/CharacterClass" "LOWER_CASE" "Lcom/example/lokit/lokit/password/CharacterClass;").before a0 Z = true := hw _ (List.mem_of_getElem? (i := 155) rfl)
theorem tw156 {Z : State} {a0 : Array Value} (hw : ∀ d ∈ tables_1, d.before a0 Z = true) : (Jvm.Cond.fieldLink "com/example/lokit/lokit/password/PasswordAlphabetClassOfPinLaw" (34 : Nat) "com/example/lokit/lokit/password/CharacterClass" "DIGIT" "Lcom/example/lokit/lokit/password/CharacterClass;").before a0 Z = true := hw _ (List.mem_of_getElem? (i := 156) rfl)
theorem tw157 {Z : State} {a0 : Array Value} (hw : ∀ d ∈ tables_1, d.before a0 Z = true) : (Jvm.Cond.laysStatic "com/example/lokit/lokit/password/CharacterClass" "DIGIT" "Lcom/example/lokit/lokit/password/CharacterClass;").before a0 Z = true := hw _ (List.mem_of_getElem? (i := 157) rfl)
theorem tw158 {Z : State} {a0 : Array Value} (hw : ∀ d ∈ tables_1, d.before a0 Z = true) : (Jvm.Cond.fieldLink "com/example/lokit/lokit/password/PasswordAlphabet" (81 : Nat) "com/example/lokit/lokit/password/CharacterClass" "DIGIT" "Lcom/example/lokit/lokit/password/CharacterClass;").before a0 Z = true := hw _ (List.mem_of_getElem? (i := 158) rfl)
theorem tw159 {Z : State} {a0 : Array Value} (hw : ∀ d ∈ tables_1, d.before a0 Z = true) : (Jvm.Cond.fieldLink "com/example/lokit/lokit/password/PasswordAlphabetClassOfPinLaw" (25 : Nat) "com/example/lokit/lokit/password/CharacterClass" "UPPER_CASE" "Lcom/example/lokit/lokit/password/CharacterClass;").before a0 Z = true := hw _ (List.mem_of_getElem? (i := 159) rfl)
theorem tw160 {Z : State} {a0 : Array Value} (hw : ∀ d ∈ tables_1, d.before a0 Z = true) : (Jvm.Cond.laysStatic "com/example/lokit/lokit/password/CharacterClass" "UPPER_CASE" "Lcom/example/lokit/lokit/password/CharacterClass;").before a0 Z = true := hw _ (List.mem_of_getElem? (i := 160) rfl)
theorem tw161 {Z : State} {a0 : Array Value} (hw : ∀ d ∈ tables_1, d.before a0 Z = true) : (Jvm.Cond.fieldLink "com/example/lokit/lokit/password/PasswordAlphabet" (75 : Nat) "com/example/lokit/lokit/password/CharacterClass" "UPPER_CASE" "Lcom/example/lokit/lokit/password/CharacterClass;").before a0 Z = true := hw _ (List.mem_of_getElem? (i := 161) rfl)
theorem pd0 : parseMethodDescriptor "([CI[BII)I" = some ⟨[(.array .char), .int, (.array .byte), .int, .int], some .int⟩ := by decide +kernel
theorem pd1 : parseMethodDescriptor "([CII)[B" = some ⟨[(.array .char), .int, .int], some (.array .byte)⟩ := by decide +kernel
theorem pd2 : parseMethodDescriptor "([BI)B" = some ⟨[(.array .byte), .int], some .byte⟩ := by decide +kernel
theorem pd3 : parseMethodDescriptor "([CIILjava/lang/Void;)V" = some ⟨[(.array .char), .int, .int, (.object "java/lang/Void")], none⟩ := by decide +kernel
theorem pd4 : parseMethodDescriptor "(Ljava/lang/Object;)Ljava/lang/Object;" = some ⟨[(.object "java/lang/Object")], some (.object "java/lang/Object")⟩ := by decide +kernel
theorem pd5 : parseMethodDescriptor "(Ljava/lang/Object;)V" = some ⟨[(.object "java/lang/Object")], none⟩ := by decide +kernel
theorem pd6 : parseMethodDescriptor "(Ljava/lang/Object;)Ljava/util/Optional;" = some ⟨[(.object "java/lang/Object")], some (.object "java/util/Optional")⟩ := by decide +kernel
theorem pd7 : parseMethodDescriptor "()Ljava/util/Optional;" = some ⟨[], some (.object "java/util/Optional")⟩ := by decide +kernel
theorem pd8 : parseMethodDescriptor "()B" = some ⟨[], some .byte⟩ := by decide +kernel
theorem pd9 : parseMethodDescriptor "(I)Z" = some ⟨[.int], some .boolean⟩ := by decide +kernel
theorem pd10 : parseMethodDescriptor "(II)I" = some ⟨[.int, .int], some .int⟩ := by decide +kernel
theorem pd11 : parseMethodDescriptor "([BIII)I" = some ⟨[(.array .byte), .int, .int, .int], some .int⟩ := by decide +kernel
theorem pd12 : parseMethodDescriptor "()Z" = some ⟨[], some .boolean⟩ := by decide +kernel
theorem pd13 : parseMethodDescriptor "()I" = some ⟨[], some .int⟩ := by decide +kernel
theorem pd14 : parseMethodDescriptor "(I)Ljava/util/Optional;" = some ⟨[.int], some (.object "java/util/Optional")⟩ := by decide +kernel
theorem pd15 : parseMethodDescriptor "(I)I" = some ⟨[.int], some .int⟩ := by decide +kernel
theorem pd16 : parseMethodDescriptor "(IILjava/util/function/BiFunction;)I" = some ⟨[.int, .int, (.object "java/util/function/BiFunction")], some .int⟩ := by decide +kernel
theorem pd17 : parseMethodDescriptor "(II)V" = some ⟨[.int, .int], none⟩ := by decide +kernel
theorem pd18 : parseMethodDescriptor "([BI)C" = some ⟨[(.array .byte), .int], some .char⟩ := by decide +kernel
theorem pd19 : parseMethodDescriptor "(Ljava/lang/Object;Ljava/lang/String;)Ljava/lang/Object;" = some ⟨[(.object "java/lang/Object"), (.object "java/lang/String")], some (.object "java/lang/Object")⟩ := by decide +kernel
theorem pd20 : parseMethodDescriptor "(I)C" = some ⟨[.int], some .char⟩ := by decide +kernel
theorem pd21 : parseMethodDescriptor "([C)V" = some ⟨[(.array .char)], none⟩ := by decide +kernel
theorem pd22 : parseMethodDescriptor "(Ljava/lang/String;)V" = some ⟨[(.object "java/lang/String")], none⟩ := by decide +kernel
theorem pd23 : parseMethodDescriptor "()Ljava/lang/Object;" = some ⟨[], some (.object "java/lang/Object")⟩ := by decide +kernel
theorem dm_2_0 : decode method_2_code 0 = .ok (.iload_n 0, 1) := by decide +kernel
theorem dm_2_1 : decode method_2_code 1 = .ok (.bipush 31, 2) := by decide +kernel
theorem dm_2_3 : decode method_2_code 3 = .ok (.iand, 1) := by decide +kernel
theorem dm_2_4 : decode method_2_code 4 = .ok (.istore_n 1, 1) := by decide +kernel
theorem dm_2_5 : decode method_2_code 5 = .ok (.iload_n 1, 1) := by decide +kernel
theorem dm_2_6 : decode method_2_code 6 = .ok (.bipush 15, 2) := by decide +kernel
theorem dm_2_8 : decode method_2_code 8 = .ok (.if_icmp .ge 9, 3) := by decide +kernel
theorem dm_2_11 : decode method_2_code 11 = .ok (.bipush 33, 2) := by decide +kernel
theorem dm_2_13 : decode method_2_code 13 = .ok (.iload_n 1, 1) := by decide +kernel
theorem dm_2_14 : decode method_2_code 14 = .ok (.iadd, 1) := by decide +kernel
theorem dm_2_15 : decode method_2_code 15 = .ok (.i2c, 1) := by decide +kernel
theorem dm_2_16 : decode method_2_code 16 = .ok (.ireturn, 1) := by decide +kernel
theorem dm_2_17 : decode method_2_code 17 = .ok (.iload_n 1, 1) := by decide +kernel
theorem dm_2_18 : decode method_2_code 18 = .ok (.bipush 22, 2) := by decide +kernel
theorem dm_2_20 : decode method_2_code 20 = .ok (.if_icmp .ge 12, 3) := by decide +kernel
theorem dm_2_23 : decode method_2_code 23 = .ok (.bipush 58, 2) := by decide +kernel
theorem dm_2_25 : decode method_2_code 25 = .ok (.iload_n 1, 1) := by decide +kernel
theorem dm_2_26 : decode method_2_code 26 = .ok (.iadd, 1) := by decide +kernel
theorem dm_2_27 : decode method_2_code 27 = .ok (.bipush 15, 2) := by decide +kernel
theorem dm_2_29 : decode method_2_code 29 = .ok (.isub, 1) := by decide +kernel
theorem dm_2_30 : decode method_2_code 30 = .ok (.i2c, 1) := by decide +kernel
theorem dm_2_31 : decode method_2_code 31 = .ok (.ireturn, 1) := by decide +kernel
theorem dm_2_32 : decode method_2_code 32 = .ok (.iload_n 1, 1) := by decide +kernel
theorem dm_2_33 : decode method_2_code 33 = .ok (.bipush 28, 2) := by decide +kernel
theorem dm_2_35 : decode method_2_code 35 = .ok (.if_icmp .ge 12, 3) := by decide +kernel
theorem dm_2_38 : decode method_2_code 38 = .ok (.bipush 91, 2) := by decide +kernel
theorem dm_2_40 : decode method_2_code 40 = .ok (.iload_n 1, 1) := by decide +kernel
theorem dm_2_41 : decode method_2_code 41 = .ok (.iadd, 1) := by decide +kernel
theorem dm_2_42 : decode method_2_code 42 = .ok (.bipush 22, 2) := by decide +kernel
theorem dm_2_44 : decode method_2_code 44 = .ok (.isub, 1) := by decide +kernel
theorem dm_2_45 : decode method_2_code 45 = .ok (.i2c, 1) := by decide +kernel
theorem dm_2_46 : decode method_2_code 46 = .ok (.ireturn, 1) := by decide +kernel
theorem dm_2_47 : decode method_2_code 47 = .ok (.bipush 123, 2) := by decide +kernel
theorem dm_2_49 : decode method_2_code 49 = .ok (.iload_n 1, 1) := by decide +kernel
theorem dm_2_50 : decode method_2_code 50 = .ok (.iadd, 1) := by decide +kernel
theorem dm_2_51 : decode method_2_code 51 = .ok (.bipush 28, 2) := by decide +kernel
theorem dm_2_53 : decode method_2_code 53 = .ok (.isub, 1) := by decide +kernel
theorem dm_2_54 : decode method_2_code 54 = .ok (.i2c, 1) := by decide +kernel
theorem dm_2_55 : decode method_2_code 55 = .ok (.ireturn, 1) := by decide +kernel
theorem djdk_52_21_0 : decode jdk_52_method_21_code 0 = .ok (.iconst 0, 1) := by decide +kernel
theorem djdk_52_21_1 : decode jdk_52_method_21_code 1 = .ok (.istore 5, 2) := by decide +kernel
theorem djdk_52_21_3 : decode jdk_52_method_21_code 3 = .ok (.iload 5, 2) := by decide +kernel
theorem djdk_52_21_5 : decode jdk_52_method_21_code 5 = .ok (.iload 4, 2) := by decide +kernel
theorem djdk_52_21_7 : decode jdk_52_method_21_code 7 = .ok (.if_icmp .ge 37, 3) := by decide +kernel
theorem djdk_52_21_10 : decode jdk_52_method_21_code 10 = .ok (.aload_n 0, 1) := by decide +kernel
theorem djdk_52_21_11 : decode jdk_52_method_21_code 11 = .ok (.iload_n 1, 1) := by decide +kernel
theorem djdk_52_21_12 : decode jdk_52_method_21_code 12 = .ok (.caload, 1) := by decide +kernel
theorem djdk_52_21_13 : decode jdk_52_method_21_code 13 = .ok (.istore 6, 2) := by decide +kernel
theorem djdk_52_21_15 : decode jdk_52_method_21_code 15 = .ok (.iload 6, 2) := by decide +kernel
theorem djdk_52_21_17 : decode jdk_52_method_21_code 17 = .ok (.sipush 255, 3) := by decide +kernel
theorem djdk_52_21_20 : decode jdk_52_method_21_code 20 = .ok (.if_icmp .le 6, 3) := by decide +kernel
theorem djdk_52_21_26 : decode jdk_52_method_21_code 26 = .ok (.aload_n 2, 1) := by decide +kernel
theorem djdk_52_21_27 : decode jdk_52_method_21_code 27 = .ok (.iload_n 3, 1) := by decide +kernel
theorem djdk_52_21_28 : decode jdk_52_method_21_code 28 = .ok (.iload 6, 2) := by decide +kernel
theorem djdk_52_21_30 : decode jdk_52_method_21_code 30 = .ok (.i2b, 1) := by decide +kernel
theorem djdk_52_21_31 : decode jdk_52_method_21_code 31 = .ok (.bastore, 1) := by decide +kernel
theorem djdk_52_21_32 : decode jdk_52_method_21_code 32 = .ok (.iinc 1 1, 3) := by decide +kernel
theorem djdk_52_21_35 : decode jdk_52_method_21_code 35 = .ok (.iinc 3 1, 3) := by decide +kernel
theorem djdk_52_21_38 : decode jdk_52_method_21_code 38 = .ok (.iinc 5 1, 3) := by decide +kernel
theorem djdk_52_21_41 : decode jdk_52_method_21_code 41 = .ok (.goto (-38), 3) := by decide +kernel
theorem djdk_52_21_44 : decode jdk_52_method_21_code 44 = .ok (.iload 4, 2) := by decide +kernel
theorem djdk_52_21_46 : decode jdk_52_method_21_code 46 = .ok (.ireturn, 1) := by decide +kernel
theorem djdk_52_16_0 : decode jdk_52_method_16_code 0 = .ok (.iload_n 2, 1) := by decide +kernel
theorem djdk_52_16_1 : decode jdk_52_method_16_code 1 = .ok (.newarray .byte, 2) := by decide +kernel
theorem djdk_52_16_3 : decode jdk_52_method_16_code 3 = .ok (.astore_n 3, 1) := by decide +kernel
theorem djdk_52_16_4 : decode jdk_52_method_16_code 4 = .ok (.aload_n 0, 1) := by decide +kernel
theorem djdk_52_16_5 : decode jdk_52_method_16_code 5 = .ok (.iload_n 1, 1) := by decide +kernel
theorem djdk_52_16_6 : decode jdk_52_method_16_code 6 = .ok (.aload_n 3, 1) := by decide +kernel
theorem djdk_52_16_7 : decode jdk_52_method_16_code 7 = .ok (.iconst 0, 1) := by decide +kernel
theorem djdk_52_16_8 : decode jdk_52_method_16_code 8 = .ok (.iload_n 2, 1) := by decide +kernel
theorem djdk_52_16_9 : decode jdk_52_method_16_code 9 = .ok (.invokestatic 115, 3) := by decide +kernel
theorem djdk_52_16_12 : decode jdk_52_method_16_code 12 = .ok (.istore 4, 2) := by decide +kernel
theorem djdk_52_16_14 : decode jdk_52_method_16_code 14 = .ok (.iload 4, 2) := by decide +kernel
theorem djdk_52_16_16 : decode jdk_52_method_16_code 16 = .ok (.iload_n 2, 1) := by decide +kernel
theorem djdk_52_16_17 : decode jdk_52_method_16_code 17 = .ok (.if_icmp .eq 40, 3) := by decide +kernel
theorem djdk_52_16_57 : decode jdk_52_method_16_code 57 = .ok (.aload_n 3, 1) := by decide +kernel
theorem djdk_52_16_58 : decode jdk_52_method_16_code 58 = .ok (.areturn, 1) := by decide +kernel
theorem djdk_52_15_0 : decode jdk_52_method_15_code 0 = .ok (.iload_n 1, 1) := by decide +kernel
theorem djdk_52_15_1 : decode jdk_52_method_15_code 1 = .ok (.aload_n 0, 1) := by decide +kernel
theorem djdk_52_15_2 : decode jdk_52_method_15_code 2 = .ok (.arraylength, 1) := by decide +kernel
theorem djdk_52_15_3 : decode jdk_52_method_15_code 3 = .ok (.isub, 1) := by decide +kernel
theorem djdk_52_15_4 : decode jdk_52_method_15_code 4 = .ok (.bipush 31, 2) := by decide +kernel
theorem djdk_52_15_6 : decode jdk_52_method_15_code 6 = .ok (.iushr, 1) := by decide +kernel
theorem djdk_52_15_7 : decode jdk_52_method_15_code 7 = .ok (.i2b, 1) := by decide +kernel
theorem djdk_52_15_8 : decode jdk_52_method_15_code 8 = .ok (.ireturn, 1) := by decide +kernel
theorem djdk_42_149_0 : decode jdk_42_method_149_code 0 = .ok (.aload_n 0, 1) := by decide +kernel
theorem djdk_42_149_1 : decode jdk_42_method_149_code 1 = .ok (.invokespecial 1, 3) := by decide +kernel
theorem djdk_42_149_4 : decode jdk_42_method_149_code 4 = .ok (.iload_n 3, 1) := by decide +kernel
theorem djdk_42_149_5 : decode jdk_42_method_149_code 5 = .ok (.ifCond .ne 22, 3) := by decide +kernel
theorem djdk_42_149_27 : decode jdk_42_method_149_code 27 = .ok (.getstatic 38, 3) := by decide +kernel
theorem djdk_42_149_30 : decode jdk_42_method_149_code 30 = .ok (.ifCond .eq 28, 3) := by decide +kernel
theorem djdk_42_149_33 : decode jdk_42_method_149_code 33 = .ok (.aload_n 1, 1) := by decide +kernel
theorem djdk_42_149_34 : decode jdk_42_method_149_code 34 = .ok (.iload_n 2, 1) := by decide +kernel
theorem djdk_42_149_35 : decode jdk_42_method_149_code 35 = .ok (.iload_n 3, 1) := by decide +kernel
theorem djdk_42_149_36 : decode jdk_42_method_149_code 36 = .ok (.invokestatic 177, 3) := by decide +kernel
theorem djdk_42_149_39 : decode jdk_42_method_149_code 39 = .ok (.astore 5, 2) := by decide +kernel
theorem djdk_42_149_41 : decode jdk_42_method_149_code 41 = .ok (.aload_n 0, 1) := by decide +kernel
theorem djdk_42_149_42 : decode jdk_42_method_149_code 42 = .ok (.aload 5, 2) := by decide +kernel
theorem djdk_42_149_44 : decode jdk_42_method_149_code 44 = .ok (.iload_n 3, 1) := by decide +kernel
theorem djdk_42_149_45 : decode jdk_42_method_149_code 45 = .ok (.invokestatic 47, 3) := by decide +kernel
theorem djdk_42_149_48 : decode jdk_42_method_149_code 48 = .ok (.putfield 15, 3) := by decide +kernel
theorem djdk_42_149_51 : decode jdk_42_method_149_code 51 = .ok (.aload_n 0, 1) := by decide +kernel
theorem djdk_42_149_52 : decode jdk_42_method_149_code 52 = .ok (.aload 5, 2) := by decide +kernel
theorem djdk_42_149_54 : decode jdk_42_method_149_code 54 = .ok (.putfield 9, 3) := by decide +kernel
theorem djdk_42_149_57 : decode jdk_42_method_149_code 57 = .ok (.return_, 1) := by decide +kernel
theorem djdk_42_3_0 : decode jdk_42_method_3_code 0 = .ok (.aload_n 0, 1) := by decide +kernel
theorem djdk_42_3_1 : decode jdk_42_method_3_code 1 = .ok (.aload_n 1, 1) := by decide +kernel
theorem djdk_42_3_2 : decode jdk_42_method_3_code 2 = .ok (.iconst 0, 1) := by decide +kernel
theorem djdk_42_3_3 : decode jdk_42_method_3_code 3 = .ok (.aload_n 1, 1) := by decide +kernel
theorem djdk_42_3_4 : decode jdk_42_method_3_code 4 = .ok (.arraylength, 1) := by decide +kernel
theorem djdk_42_3_5 : decode jdk_42_method_3_code 5 = .ok (.aconst_null, 1) := by decide +kernel
theorem djdk_42_3_6 : decode jdk_42_method_3_code 6 = .ok (.invokespecial 27, 3) := by decide +kernel
theorem djdk_42_3_9 : decode jdk_42_method_3_code 9 = .ok (.return_, 1) := by decide +kernel
theorem djdk_31_11_0 : decode jdk_31_method_11_code 0 = .ok (.aload_n 0, 1) := by decide +kernel
theorem djdk_31_11_1 : decode jdk_31_method_11_code 1 = .ok (.ifnonnull 12, 3) := by decide +kernel
theorem djdk_31_11_13 : decode jdk_31_method_11_code 13 = .ok (.aload_n 0, 1) := by decide +kernel
theorem djdk_31_11_14 : decode jdk_31_method_11_code 14 = .ok (.areturn, 1) := by decide +kernel
theorem djdk_31_10_0 : decode jdk_31_method_10_code 0 = .ok (.aload_n 0, 1) := by decide +kernel
theorem djdk_31_10_1 : decode jdk_31_method_10_code 1 = .ok (.ifnonnull 11, 3) := by decide +kernel
theorem djdk_31_10_12 : decode jdk_31_method_10_code 12 = .ok (.aload_n 0, 1) := by decide +kernel
theorem djdk_31_10_13 : decode jdk_31_method_10_code 13 = .ok (.areturn, 1) := by decide +kernel
theorem djdk_42_154_0 : decode jdk_42_method_154_code 0 = .ok (.getstatic 38, 3) := by decide +kernel
theorem djdk_42_154_3 : decode jdk_42_method_154_code 3 = .ok (.ifCond .eq 14, 3) := by decide +kernel
theorem djdk_42_154_6 : decode jdk_42_method_154_code 6 = .ok (.aload_n 0, 1) := by decide +kernel
theorem djdk_42_154_7 : decode jdk_42_method_154_code 7 = .ok (.getfield 15, 3) := by decide +kernel
theorem djdk_42_154_10 : decode jdk_42_method_154_code 10 = .ok (.ifCond .ne 7, 3) := by decide +kernel
theorem djdk_42_154_13 : decode jdk_42_method_154_code 13 = .ok (.iconst 1, 1) := by decide +kernel
theorem djdk_42_154_14 : decode jdk_42_method_154_code 14 = .ok (.goto 4, 3) := by decide +kernel
theorem djdk_42_154_18 : decode jdk_42_method_154_code 18 = .ok (.ireturn, 1) := by decide +kernel
theorem djdk_42_152_0 : decode jdk_42_method_152_code 0 = .ok (.getstatic 38, 3) := by decide +kernel
theorem djdk_42_152_3 : decode jdk_42_method_152_code 3 = .ok (.ifCond .eq 10, 3) := by decide +kernel
theorem djdk_42_152_6 : decode jdk_42_method_152_code 6 = .ok (.aload_n 0, 1) := by decide +kernel
theorem djdk_42_152_7 : decode jdk_42_method_152_code 7 = .ok (.getfield 15, 3) := by decide +kernel
theorem djdk_42_152_10 : decode jdk_42_method_152_code 10 = .ok (.goto 4, 3) := by decide +kernel
theorem djdk_42_152_14 : decode jdk_42_method_152_code 14 = .ok (.ireturn, 1) := by decide +kernel
theorem djdk_32_1_0 : decode jdk_32_method_1_code 0 = .ok (.getstatic 1, 3) := by decide +kernel
theorem djdk_32_1_3 : decode jdk_32_method_1_code 3 = .ok (.astore_n 0, 1) := by decide +kernel
theorem djdk_32_1_4 : decode jdk_32_method_1_code 4 = .ok (.aload_n 0, 1) := by decide +kernel
theorem djdk_32_1_5 : decode jdk_32_method_1_code 5 = .ok (.areturn, 1) := by decide +kernel
theorem djdk_32_2_0 : decode jdk_32_method_2_code 0 = .ok (.aload_n 0, 1) := by decide +kernel
theorem djdk_32_2_1 : decode jdk_32_method_2_code 1 = .ok (.invokespecial 7, 3) := by decide +kernel
theorem djdk_32_2_4 : decode jdk_32_method_2_code 4 = .ok (.aload_n 0, 1) := by decide +kernel
theorem djdk_32_2_5 : decode jdk_32_method_2_code 5 = .ok (.aload_n 1, 1) := by decide +kernel
theorem djdk_32_2_6 : decode jdk_32_method_2_code 6 = .ok (.putfield 13, 3) := by decide +kernel
theorem djdk_32_2_9 : decode jdk_32_method_2_code 9 = .ok (.return_, 1) := by decide +kernel
theorem djdk_32_3_0 : decode jdk_32_method_3_code 0 = .ok (.new 2, 3) := by decide +kernel
theorem djdk_32_3_3 : decode jdk_32_method_3_code 3 = .ok (.dup, 1) := by decide +kernel
theorem djdk_32_3_4 : decode jdk_32_method_3_code 4 = .ok (.aload_n 0, 1) := by decide +kernel
theorem djdk_32_3_5 : decode jdk_32_method_3_code 5 = .ok (.invokestatic 17, 3) := by decide +kernel
theorem djdk_32_3_8 : decode jdk_32_method_3_code 8 = .ok (.invokespecial 23, 3) := by decide +kernel
theorem djdk_32_3_11 : decode jdk_32_method_3_code 11 = .ok (.areturn, 1) := by decide +kernel
theorem djdk_32_6_0 : decode jdk_32_method_6_code 0 = .ok (.aload_n 0, 1) := by decide +kernel
theorem djdk_32_6_1 : decode jdk_32_method_6_code 1 = .ok (.getfield 13, 3) := by decide +kernel
theorem djdk_32_6_4 : decode jdk_32_method_6_code 4 = .ok (.ifnull 7, 3) := by decide +kernel
theorem djdk_32_6_7 : decode jdk_32_method_6_code 7 = .ok (.iconst 1, 1) := by decide +kernel
theorem djdk_32_6_8 : decode jdk_32_method_6_code 8 = .ok (.goto 4, 3) := by decide +kernel
theorem djdk_32_6_12 : decode jdk_32_method_6_code 12 = .ok (.ireturn, 1) := by decide +kernel
theorem djdk_32_6_11 : decode jdk_32_method_6_code 11 = .ok (.iconst 0, 1) := by decide +kernel
theorem djdk_32_5_0 : decode jdk_32_method_5_code 0 = .ok (.aload_n 0, 1) := by decide +kernel
theorem djdk_32_5_1 : decode jdk_32_method_5_code 1 = .ok (.getfield 13, 3) := by decide +kernel
theorem djdk_32_5_4 : decode jdk_32_method_5_code 4 = .ok (.ifnonnull 13, 3) := by decide +kernel
theorem djdk_32_5_17 : decode jdk_32_method_5_code 17 = .ok (.aload_n 0, 1) := by decide +kernel
theorem djdk_32_5_18 : decode jdk_32_method_5_code 18 = .ok (.getfield 13, 3) := by decide +kernel
theorem djdk_32_5_21 : decode jdk_32_method_5_code 21 = .ok (.areturn, 1) := by decide +kernel
theorem dprog_12_3_0 : decode prog_12_method_3_code 0 = .ok (.iload_n 0, 1) := by decide +kernel
theorem dprog_12_3_1 : decode prog_12_method_3_code 1 = .ok (.bipush 65, 2) := by decide +kernel
theorem dprog_12_3_3 : decode prog_12_method_3_code 3 = .ok (.if_icmp .lt 16, 3) := by decide +kernel
theorem dprog_12_3_6 : decode prog_12_method_3_code 6 = .ok (.iload_n 0, 1) := by decide +kernel
theorem dprog_12_3_7 : decode prog_12_method_3_code 7 = .ok (.bipush 90, 2) := by decide +kernel
theorem dprog_12_3_9 : decode prog_12_method_3_code 9 = .ok (.if_icmp .gt 10, 3) := by decide +kernel
theorem dprog_12_3_12 : decode prog_12_method_3_code 12 = .ok (.getstatic 75, 3) := by decide +kernel
theorem dprog_12_3_15 : decode prog_12_method_3_code 15 = .ok (.invokestatic 67, 3) := by decide +kernel
theorem dprog_12_3_18 : decode prog_12_method_3_code 18 = .ok (.areturn, 1) := by decide +kernel
theorem dprog_12_3_19 : decode prog_12_method_3_code 19 = .ok (.iload_n 0, 1) := by decide +kernel
theorem dprog_12_3_20 : decode prog_12_method_3_code 20 = .ok (.bipush 97, 2) := by decide +kernel
theorem dprog_12_3_22 : decode prog_12_method_3_code 22 = .ok (.if_icmp .lt 16, 3) := by decide +kernel
theorem dprog_12_3_25 : decode prog_12_method_3_code 25 = .ok (.iload_n 0, 1) := by decide +kernel
theorem dprog_12_3_26 : decode prog_12_method_3_code 26 = .ok (.bipush 122, 2) := by decide +kernel
theorem dprog_12_3_28 : decode prog_12_method_3_code 28 = .ok (.if_icmp .gt 10, 3) := by decide +kernel
theorem dprog_12_3_31 : decode prog_12_method_3_code 31 = .ok (.getstatic 78, 3) := by decide +kernel
theorem dprog_12_3_34 : decode prog_12_method_3_code 34 = .ok (.invokestatic 67, 3) := by decide +kernel
theorem dprog_12_3_37 : decode prog_12_method_3_code 37 = .ok (.areturn, 1) := by decide +kernel
theorem dprog_12_3_38 : decode prog_12_method_3_code 38 = .ok (.iload_n 0, 1) := by decide +kernel
theorem dprog_12_3_39 : decode prog_12_method_3_code 39 = .ok (.bipush 48, 2) := by decide +kernel
theorem dprog_12_3_41 : decode prog_12_method_3_code 41 = .ok (.if_icmp .lt 16, 3) := by decide +kernel
theorem dprog_12_3_44 : decode prog_12_method_3_code 44 = .ok (.iload_n 0, 1) := by decide +kernel
theorem dprog_12_3_45 : decode prog_12_method_3_code 45 = .ok (.bipush 57, 2) := by decide +kernel
theorem dprog_12_3_47 : decode prog_12_method_3_code 47 = .ok (.if_icmp .gt 10, 3) := by decide +kernel
theorem dprog_12_3_50 : decode prog_12_method_3_code 50 = .ok (.getstatic 81, 3) := by decide +kernel
theorem dprog_12_3_53 : decode prog_12_method_3_code 53 = .ok (.invokestatic 67, 3) := by decide +kernel
theorem dprog_12_3_56 : decode prog_12_method_3_code 56 = .ok (.areturn, 1) := by decide +kernel
theorem dprog_12_3_57 : decode prog_12_method_3_code 57 = .ok (.invokestatic 71, 3) := by decide +kernel
theorem dprog_12_3_60 : decode prog_12_method_3_code 60 = .ok (.areturn, 1) := by decide +kernel
theorem djdk_43_4_0 : decode jdk_43_method_4_code 0 = .ok (.iload_n 0, 1) := by decide +kernel
theorem djdk_43_4_1 : decode jdk_43_method_4_code 1 = .ok (.ifCond .lt 14, 3) := by decide +kernel
theorem djdk_43_4_4 : decode jdk_43_method_4_code 4 = .ok (.iload_n 0, 1) := by decide +kernel
theorem djdk_43_4_5 : decode jdk_43_method_4_code 5 = .ok (.sipush 255, 3) := by decide +kernel
theorem djdk_43_4_8 : decode jdk_43_method_4_code 8 = .ok (.if_icmp .gt 7, 3) := by decide +kernel
theorem djdk_43_4_11 : decode jdk_43_method_4_code 11 = .ok (.iconst 1, 1) := by decide +kernel
theorem djdk_43_4_12 : decode jdk_43_method_4_code 12 = .ok (.goto 4, 3) := by decide +kernel
theorem djdk_43_4_16 : decode jdk_43_method_4_code 16 = .ok (.ireturn, 1) := by decide +kernel
theorem djdk_43_4_15 : decode jdk_43_method_4_code 15 = .ok (.iconst 0, 1) := by decide +kernel
theorem djdk_42_54_0 : decode jdk_42_method_54_code 0 = .ok (.aload_n 0, 1) := by decide +kernel
theorem djdk_42_54_1 : decode jdk_42_method_54_code 1 = .ok (.getfield 9, 3) := by decide +kernel
theorem djdk_42_54_4 : decode jdk_42_method_54_code 4 = .ok (.arraylength, 1) := by decide +kernel
theorem djdk_42_54_5 : decode jdk_42_method_54_code 5 = .ok (.aload_n 0, 1) := by decide +kernel
theorem djdk_42_54_6 : decode jdk_42_method_54_code 6 = .ok (.invokevirtual 335, 3) := by decide +kernel
theorem djdk_42_54_9 : decode jdk_42_method_54_code 9 = .ok (.ishr, 1) := by decide +kernel
theorem djdk_42_54_10 : decode jdk_42_method_54_code 10 = .ok (.ireturn, 1) := by decide +kernel
theorem djdk_29_65_0 : decode jdk_29_method_65_code 0 = .ok (.iload_n 0, 1) := by decide +kernel
theorem djdk_29_65_1 : decode jdk_29_method_65_code 1 = .ok (.iload_n 1, 1) := by decide +kernel
theorem djdk_29_65_2 : decode jdk_29_method_65_code 2 = .ok (.if_icmp .lt 7, 3) := by decide +kernel
theorem djdk_29_65_5 : decode jdk_29_method_65_code 5 = .ok (.iload_n 0, 1) := by decide +kernel
theorem djdk_29_65_6 : decode jdk_29_method_65_code 6 = .ok (.goto 4, 3) := by decide +kernel
theorem djdk_29_65_10 : decode jdk_29_method_65_code 10 = .ok (.ireturn, 1) := by decide +kernel
theorem djdk_29_69_0 : decode jdk_29_method_69_code 0 = .ok (.iload_n 0, 1) := by decide +kernel
theorem djdk_29_69_1 : decode jdk_29_method_69_code 1 = .ok (.iload_n 1, 1) := by decide +kernel
theorem djdk_29_69_2 : decode jdk_29_method_69_code 2 = .ok (.if_icmp .gt 7, 3) := by decide +kernel
theorem djdk_29_69_5 : decode jdk_29_method_69_code 5 = .ok (.iload_n 0, 1) := by decide +kernel
theorem djdk_29_69_6 : decode jdk_29_method_69_code 6 = .ok (.goto 4, 3) := by decide +kernel
theorem djdk_29_69_10 : decode jdk_29_method_69_code 10 = .ok (.ireturn, 1) := by decide +kernel
theorem djdk_43_23_0 : decode jdk_43_method_23_code 0 = .ok (.iload_n 1, 1) := by decide +kernel
theorem djdk_43_23_1 : decode jdk_43_method_23_code 1 = .ok (.i2b, 1) := by decide +kernel
theorem djdk_43_23_2 : decode jdk_43_method_23_code 2 = .ok (.istore 4, 2) := by decide +kernel
theorem djdk_43_23_4 : decode jdk_43_method_23_code 4 = .ok (.iload_n 2, 1) := by decide +kernel
theorem djdk_43_23_5 : decode jdk_43_method_23_code 5 = .ok (.istore 5, 2) := by decide +kernel
theorem djdk_43_23_7 : decode jdk_43_method_23_code 7 = .ok (.iload 5, 2) := by decide +kernel
theorem djdk_43_23_9 : decode jdk_43_method_23_code 9 = .ok (.iload_n 3, 1) := by decide +kernel
theorem djdk_43_23_10 : decode jdk_43_method_23_code 10 = .ok (.if_icmp .ge 21, 3) := by decide +kernel
theorem djdk_43_23_13 : decode jdk_43_method_23_code 13 = .ok (.aload_n 0, 1) := by decide +kernel
theorem djdk_43_23_14 : decode jdk_43_method_23_code 14 = .ok (.iload 5, 2) := by decide +kernel
theorem djdk_43_23_16 : decode jdk_43_method_23_code 16 = .ok (.baload, 1) := by decide +kernel
theorem djdk_43_23_17 : decode jdk_43_method_23_code 17 = .ok (.iload 4, 2) := by decide +kernel
theorem djdk_43_23_19 : decode jdk_43_method_23_code 19 = .ok (.if_icmp .ne 6, 3) := by decide +kernel
theorem djdk_43_23_22 : decode jdk_43_method_23_code 22 = .ok (.iload 5, 2) := by decide +kernel
theorem djdk_43_23_24 : decode jdk_43_method_23_code 24 = .ok (.ireturn, 1) := by decide +kernel
theorem djdk_43_22_0 : decode jdk_43_method_22_code 0 = .ok (.iload_n 1, 1) := by decide +kernel
theorem djdk_43_22_1 : decode jdk_43_method_22_code 1 = .ok (.invokestatic 88, 3) := by decide +kernel
theorem djdk_43_22_4 : decode jdk_43_method_22_code 4 = .ok (.ifCond .ne 5, 3) := by decide +kernel
theorem djdk_43_22_9 : decode jdk_43_method_22_code 9 = .ok (.iload_n 2, 1) := by decide +kernel
theorem djdk_43_22_10 : decode jdk_43_method_22_code 10 = .ok (.iconst 0, 1) := by decide +kernel
theorem djdk_43_22_11 : decode jdk_43_method_22_code 11 = .ok (.invokestatic 92, 3) := by decide +kernel
theorem djdk_43_22_14 : decode jdk_43_method_22_code 14 = .ok (.istore_n 2, 1) := by decide +kernel
theorem djdk_43_22_15 : decode jdk_43_method_22_code 15 = .ok (.iload_n 3, 1) := by decide +kernel
theorem djdk_43_22_16 : decode jdk_43_method_22_code 16 = .ok (.aload_n 0, 1) := by decide +kernel
theorem djdk_43_22_17 : decode jdk_43_method_22_code 17 = .ok (.arraylength, 1) := by decide +kernel
theorem djdk_43_22_18 : decode jdk_43_method_22_code 18 = .ok (.invokestatic 38, 3) := by decide +kernel
theorem djdk_43_22_21 : decode jdk_43_method_22_code 21 = .ok (.istore_n 3, 1) := by decide +kernel
theorem djdk_43_22_22 : decode jdk_43_method_22_code 22 = .ok (.iload_n 2, 1) := by decide +kernel
theorem djdk_43_22_23 : decode jdk_43_method_22_code 23 = .ok (.iload_n 3, 1) := by decide +kernel
theorem djdk_43_22_24 : decode jdk_43_method_22_code 24 = .ok (.if_icmp .lt 5, 3) := by decide +kernel
theorem djdk_43_22_29 : decode jdk_43_method_22_code 29 = .ok (.aload_n 0, 1) := by decide +kernel
theorem djdk_43_22_30 : decode jdk_43_method_22_code 30 = .ok (.iload_n 1, 1) := by decide +kernel
theorem djdk_43_22_31 : decode jdk_43_method_22_code 31 = .ok (.iload_n 2, 1) := by decide +kernel
theorem djdk_43_22_32 : decode jdk_43_method_22_code 32 = .ok (.iload_n 3, 1) := by decide +kernel
theorem djdk_43_22_33 : decode jdk_43_method_22_code 33 = .ok (.invokestatic 95, 3) := by decide +kernel
theorem djdk_43_22_36 : decode jdk_43_method_22_code 36 = .ok (.ireturn, 1) := by decide +kernel
theorem djdk_42_80_0 : decode jdk_42_method_80_code 0 = .ok (.aload_n 0, 1) := by decide +kernel
theorem djdk_42_80_1 : decode jdk_42_method_80_code 1 = .ok (.invokevirtual 492, 3) := by decide +kernel
theorem djdk_42_80_4 : decode jdk_42_method_80_code 4 = .ok (.ifCond .eq 19, 3) := by decide +kernel
theorem djdk_42_80_7 : decode jdk_42_method_80_code 7 = .ok (.aload_n 0, 1) := by decide +kernel
theorem djdk_42_80_8 : decode jdk_42_method_80_code 8 = .ok (.getfield 9, 3) := by decide +kernel
theorem djdk_42_80_11 : decode jdk_42_method_80_code 11 = .ok (.iload_n 1, 1) := by decide +kernel
theorem djdk_42_80_12 : decode jdk_42_method_80_code 12 = .ok (.iload_n 2, 1) := by decide +kernel
theorem djdk_42_80_13 : decode jdk_42_method_80_code 13 = .ok (.aload_n 0, 1) := by decide +kernel
theorem djdk_42_80_14 : decode jdk_42_method_80_code 14 = .ok (.invokevirtual 505, 3) := by decide +kernel
theorem djdk_42_80_17 : decode jdk_42_method_80_code 17 = .ok (.invokestatic 637, 3) := by decide +kernel
theorem djdk_42_80_20 : decode jdk_42_method_80_code 20 = .ok (.goto 16, 3) := by decide +kernel
theorem djdk_42_80_36 : decode jdk_42_method_80_code 36 = .ok (.ireturn, 1) := by decide +kernel
theorem djdk_42_79_0 : decode jdk_42_method_79_code 0 = .ok (.aload_n 0, 1) := by decide +kernel
theorem djdk_42_79_1 : decode jdk_42_method_79_code 1 = .ok (.iload_n 1, 1) := by decide +kernel
theorem djdk_42_79_2 : decode jdk_42_method_79_code 2 = .ok (.iconst 0, 1) := by decide +kernel
theorem djdk_42_79_3 : decode jdk_42_method_79_code 3 = .ok (.invokevirtual 633, 3) := by decide +kernel
theorem djdk_42_79_6 : decode jdk_42_method_79_code 6 = .ok (.ireturn, 1) := by decide +kernel
theorem djdk_43_23_25 : decode jdk_43_method_23_code 25 = .ok (.iinc 5 1, 3) := by decide +kernel
theorem djdk_43_23_28 : decode jdk_43_method_23_code 28 = .ok (.goto (-21), 3) := by decide +kernel
theorem djdk_43_23_31 : decode jdk_43_method_23_code 31 = .ok (.iconst (-1), 1) := by decide +kernel
theorem djdk_43_23_32 : decode jdk_43_method_23_code 32 = .ok (.ireturn, 1) := by decide +kernel
theorem djdk_43_22_7 : decode jdk_43_method_22_code 7 = .ok (.iconst (-1), 1) := by decide +kernel
theorem djdk_43_22_8 : decode jdk_43_method_22_code 8 = .ok (.ireturn, 1) := by decide +kernel
theorem djdk_43_22_27 : decode jdk_43_method_22_code 27 = .ok (.iconst (-1), 1) := by decide +kernel
theorem djdk_43_22_28 : decode jdk_43_method_22_code 28 = .ok (.ireturn, 1) := by decide +kernel
theorem dprog_12_2_0 : decode prog_12_method_2_code 0 = .ok (.iload_n 1, 1) := by decide +kernel
theorem dprog_12_2_1 : decode prog_12_method_2_code 1 = .ok (.invokestatic 25, 3) := by decide +kernel
theorem dprog_12_2_4 : decode prog_12_method_2_code 4 = .ok (.astore_n 2, 1) := by decide +kernel
theorem dprog_12_2_5 : decode prog_12_method_2_code 5 = .ok (.aload_n 2, 1) := by decide +kernel
theorem dprog_12_2_6 : decode prog_12_method_2_code 6 = .ok (.invokevirtual 31, 3) := by decide +kernel
theorem dprog_12_2_9 : decode prog_12_method_2_code 9 = .ok (.ifCond .eq 5, 3) := by decide +kernel
theorem dprog_12_2_12 : decode prog_12_method_2_code 12 = .ok (.aload_n 2, 1) := by decide +kernel
theorem dprog_12_2_13 : decode prog_12_method_2_code 13 = .ok (.areturn, 1) := by decide +kernel
theorem dprog_12_2_14 : decode prog_12_method_2_code 14 = .ok (.aload_n 0, 1) := by decide +kernel
theorem dprog_12_2_15 : decode prog_12_method_2_code 15 = .ok (.getfield 54, 3) := by decide +kernel
theorem dprog_12_2_18 : decode prog_12_method_2_code 18 = .ok (.iload_n 1, 1) := by decide +kernel
theorem dprog_12_2_19 : decode prog_12_method_2_code 19 = .ok (.invokevirtual 57, 3) := by decide +kernel
theorem dprog_12_2_22 : decode prog_12_method_2_code 22 = .ok (.ifCond .lt 10, 3) := by decide +kernel
theorem dprog_12_2_25 : decode prog_12_method_2_code 25 = .ok (.getstatic 61, 3) := by decide +kernel
theorem dprog_12_2_28 : decode prog_12_method_2_code 28 = .ok (.invokestatic 67, 3) := by decide +kernel
theorem dprog_12_2_31 : decode prog_12_method_2_code 31 = .ok (.areturn, 1) := by decide +kernel
theorem dprog_12_2_32 : decode prog_12_method_2_code 32 = .ok (.invokestatic 71, 3) := by decide +kernel
theorem dprog_12_2_35 : decode prog_12_method_2_code 35 = .ok (.areturn, 1) := by decide +kernel
theorem djdk_41_11_0 : decode jdk_41_method_11_code 0 = .ok (.iload_n 0, 1) := by decide +kernel
theorem djdk_41_11_1 : decode jdk_41_method_11_code 1 = .ok (.ifCond .lt 8, 3) := by decide +kernel
theorem djdk_41_11_4 : decode jdk_41_method_11_code 4 = .ok (.iload_n 0, 1) := by decide +kernel
theorem djdk_41_11_5 : decode jdk_41_method_11_code 5 = .ok (.iload_n 1, 1) := by decide +kernel
theorem djdk_41_11_6 : decode jdk_41_method_11_code 6 = .ok (.if_icmp .lt 10, 3) := by decide +kernel
theorem djdk_41_11_16 : decode jdk_41_method_11_code 16 = .ok (.iload_n 0, 1) := by decide +kernel
theorem djdk_41_11_17 : decode jdk_41_method_11_code 17 = .ok (.ireturn, 1) := by decide +kernel
theorem djdk_42_155_0 : decode jdk_42_method_155_code 0 = .ok (.iload_n 0, 1) := by decide +kernel
theorem djdk_42_155_1 : decode jdk_42_method_155_code 1 = .ok (.iload_n 1, 1) := by decide +kernel
theorem djdk_42_155_2 : decode jdk_42_method_155_code 2 = .ok (.getstatic 1053, 3) := by decide +kernel
theorem djdk_42_155_5 : decode jdk_42_method_155_code 5 = .ok (.invokestatic 1059, 3) := by decide +kernel
theorem djdk_42_155_8 : decode jdk_42_method_155_code 8 = .ok (.pop, 1) := by decide +kernel
theorem djdk_42_155_9 : decode jdk_42_method_155_code 9 = .ok (.return_, 1) := by decide +kernel
theorem djdk_43_2_0 : decode jdk_43_method_2_code 0 = .ok (.iload_n 1, 1) := by decide +kernel
theorem djdk_43_2_1 : decode jdk_43_method_2_code 1 = .ok (.aload_n 0, 1) := by decide +kernel
theorem djdk_43_2_2 : decode jdk_43_method_2_code 2 = .ok (.arraylength, 1) := by decide +kernel
theorem djdk_43_2_3 : decode jdk_43_method_2_code 3 = .ok (.invokestatic 9, 3) := by decide +kernel
theorem djdk_43_2_6 : decode jdk_43_method_2_code 6 = .ok (.aload_n 0, 1) := by decide +kernel
theorem djdk_43_2_7 : decode jdk_43_method_2_code 7 = .ok (.iload_n 1, 1) := by decide +kernel
theorem djdk_43_2_8 : decode jdk_43_method_2_code 8 = .ok (.baload, 1) := by decide +kernel
theorem djdk_43_2_9 : decode jdk_43_method_2_code 9 = .ok (.sipush 255, 3) := by decide +kernel
theorem djdk_43_2_12 : decode jdk_43_method_2_code 12 = .ok (.iand, 1) := by decide +kernel
theorem djdk_43_2_13 : decode jdk_43_method_2_code 13 = .ok (.i2c, 1) := by decide +kernel
theorem djdk_43_2_14 : decode jdk_43_method_2_code 14 = .ok (.ireturn, 1) := by decide +kernel
theorem djdk_42_56_0 : decode jdk_42_method_56_code 0 = .ok (.aload_n 0, 1) := by decide +kernel
theorem djdk_42_56_1 : decode jdk_42_method_56_code 1 = .ok (.invokevirtual 492, 3) := by decide +kernel
theorem djdk_42_56_4 : decode jdk_42_method_56_code 4 = .ok (.ifCond .eq 12, 3) := by decide +kernel
theorem djdk_42_56_7 : decode jdk_42_method_56_code 7 = .ok (.aload_n 0, 1) := by decide +kernel
theorem djdk_42_56_8 : decode jdk_42_method_56_code 8 = .ok (.getfield 9, 3) := by decide +kernel
theorem djdk_42_56_11 : decode jdk_42_method_56_code 11 = .ok (.iload_n 1, 1) := by decide +kernel
theorem djdk_42_56_12 : decode jdk_42_method_56_code 12 = .ok (.invokestatic 495, 3) := by decide +kernel
theorem djdk_42_56_15 : decode jdk_42_method_56_code 15 = .ok (.ireturn, 1) := by decide +kernel
theorem dprog_12_1_0 : decode prog_12_method_1_code 0 = .ok (.aload_n 0, 1) := by decide +kernel
theorem dprog_12_1_1 : decode prog_12_method_1_code 1 = .ok (.invokespecial 1, 3) := by decide +kernel
theorem dprog_12_1_4 : decode prog_12_method_1_code 4 = .ok (.aload_n 1, 1) := by decide +kernel
theorem dprog_12_1_5 : decode prog_12_method_1_code 5 = .ok (.ldc 7, 2) := by decide +kernel
theorem dprog_12_1_7 : decode prog_12_method_1_code 7 = .ok (.invokestatic 9, 3) := by decide +kernel
theorem dprog_12_1_10 : decode prog_12_method_1_code 10 = .ok (.pop, 1) := by decide +kernel
theorem dprog_12_1_11 : decode prog_12_method_1_code 11 = .ok (.iconst 0, 1) := by decide +kernel
theorem dprog_12_1_12 : decode prog_12_method_1_code 12 = .ok (.istore_n 2, 1) := by decide +kernel
theorem dprog_12_1_13 : decode prog_12_method_1_code 13 = .ok (.iload_n 2, 1) := by decide +kernel
theorem dprog_12_1_14 : decode prog_12_method_1_code 14 = .ok (.aload_n 1, 1) := by decide +kernel
theorem dprog_12_1_15 : decode prog_12_method_1_code 15 = .ok (.invokevirtual 15, 3) := by decide +kernel
theorem dprog_12_1_18 : decode prog_12_method_1_code 18 = .ok (.if_icmp .ge 68, 3) := by decide +kernel
theorem dprog_12_1_86 : decode prog_12_method_1_code 86 = .ok (.aload_n 0, 1) := by decide +kernel
theorem dprog_12_1_87 : decode prog_12_method_1_code 87 = .ok (.aload_n 1, 1) := by decide +kernel
theorem dprog_12_1_88 : decode prog_12_method_1_code 88 = .ok (.putfield 54, 3) := by decide +kernel
theorem dprog_12_1_91 : decode prog_12_method_1_code 91 = .ok (.return_, 1) := by decide +kernel
theorem dprog_12_1_21 : decode prog_12_method_1_code 21 = .ok (.aload_n 1, 1) := by decide +kernel
theorem dprog_12_1_22 : decode prog_12_method_1_code 22 = .ok (.iload_n 2, 1) := by decide +kernel
theorem dprog_12_1_23 : decode prog_12_method_1_code 23 = .ok (.invokevirtual 21, 3) := by decide +kernel
theorem dprog_12_1_26 : decode prog_12_method_1_code 26 = .ok (.istore_n 3, 1) := by decide +kernel
theorem dprog_12_1_27 : decode prog_12_method_1_code 27 = .ok (.iload_n 3, 1) := by decide +kernel
theorem dprog_12_1_28 : decode prog_12_method_1_code 28 = .ok (.bipush 33, 2) := by decide +kernel
theorem dprog_12_1_30 : decode prog_12_method_1_code 30 = .ok (.if_icmp .lt 19, 3) := by decide +kernel
theorem dprog_12_1_33 : decode prog_12_method_1_code 33 = .ok (.iload_n 3, 1) := by decide +kernel
theorem dprog_12_1_34 : decode prog_12_method_1_code 34 = .ok (.bipush 126, 2) := by decide +kernel
theorem dprog_12_1_36 : decode prog_12_method_1_code 36 = .ok (.if_icmp .gt 13, 3) := by decide +kernel
theorem dprog_12_1_39 : decode prog_12_method_1_code 39 = .ok (.iload_n 3, 1) := by decide +kernel
theorem dprog_12_1_40 : decode prog_12_method_1_code 40 = .ok (.invokestatic 25, 3) := by decide +kernel
theorem dprog_12_1_43 : decode prog_12_method_1_code 43 = .ok (.invokevirtual 31, 3) := by decide +kernel
theorem dprog_12_1_46 : decode prog_12_method_1_code 46 = .ok (.ifCond .eq 34, 3) := by decide +kernel
theorem dprog_12_1_80 : decode prog_12_method_1_code 80 = .ok (.iinc 2 1, 3) := by decide +kernel
theorem dprog_12_1_83 : decode prog_12_method_1_code 83 = .ok (.goto (-70), 3) := by decide +kernel
theorem pf0 : plainFor (⟨"com/example/lokit/lokit/password/PasswordAlphabetClassOfPinLaw", "punct", "(I)C"⟩ : MethodName) = true := by first | exact plainFor_of_name (by first | (simp [plainName, overriddenIn]; done) | decide +kernel) | decide +kernel
theorem pf1 : plainFor (⟨"java/lang/StringUTF16", "compress", "([CI[BII)I"⟩ : MethodName) = true := by first | exact plainFor_of_name (by first | (simp [plainName, overriddenIn]; done) | decide +kernel) | decide +kernel
theorem pf2 : plainFor (⟨"java/lang/StringUTF16", "compress", "([CII)[B"⟩ : MethodName) = true := by first | exact plainFor_of_name (by first | (simp [plainName, overriddenIn]; done) | decide +kernel) | decide +kernel
theorem pf3 : plainFor (⟨"java/lang/StringUTF16", "coderFromArrayLen", "([BI)B"⟩ : MethodName) = true := by first | exact plainFor_of_name (by first | (simp [plainName, overriddenIn]; done) | decide +kernel) | decide +kernel
theorem pf4 : plainFor (⟨"java/lang/String", "<init>", "([CIILjava/lang/Void;)V"⟩ : MethodName) = true := by first | exact plainFor_of_name (by first | (simp [plainName, overriddenIn]; done) | decide +kernel) | decide +kernel
theorem pf5 : plainFor (⟨"java/lang/String", "<init>", "([C)V"⟩ : MethodName) = true := by first | exact plainFor_of_name (by first | (simp [plainName, overriddenIn]; done) | decide +kernel) | decide +kernel
theorem pf6 : plainFor (⟨"java/util/Objects", "requireNonNull", "(Ljava/lang/Object;Ljava/lang/String;)Ljava/lang/Object;"⟩ : MethodName) = true := by first | exact plainFor_of_name (by first | (simp [plainName, overriddenIn]; done) | decide +kernel) | decide +kernel
theorem pf7 : plainFor (⟨"java/util/Objects", "requireNonNull", "(Ljava/lang/Object;)Ljava/lang/Object;"⟩ : MethodName) = true := by first | exact plainFor_of_name (by first | (simp [plainName, overriddenIn]; done) | decide +kernel) | decide +kernel
theorem pf8 : plainFor (⟨"java/lang/String", "isLatin1", "()Z"⟩ : MethodName) = true := by first | exact plainFor_of_name (by first | (simp [plainName, overriddenIn]; done) | decide +kernel) | decide +kernel
theorem pf9 : plainFor (⟨"java/lang/String", "coder", "()B"⟩ : MethodName) = true := by first | exact plainFor_of_name (by first | (simp [plainName, overriddenIn]; done) | decide +kernel) | decide +kernel
theorem pf10 : plainFor (⟨"java/util/Optional", "empty", "()Ljava/util/Optional;"⟩ : MethodName) = true := by first | exact plainFor_of_name (by first | (simp [plainName, overriddenIn]; done) | decide +kernel) | decide +kernel
theorem pf11 : plainFor (⟨"java/util/Optional", "<init>", "(Ljava/lang/Object;)V"⟩ : MethodName) = true := by first | exact plainFor_of_name (by first | (simp [plainName, overriddenIn]; done) | decide +kernel) | decide +kernel
theorem pf12 : plainFor (⟨"java/util/Optional", "of", "(Ljava/lang/Object;)Ljava/util/Optional;"⟩ : MethodName) = true := by first | exact plainFor_of_name (by first | (simp [plainName, overriddenIn]; done) | decide +kernel) | decide +kernel
theorem pf13 : plainFor (⟨"java/util/Optional", "isPresent", "()Z"⟩ : MethodName) = true := by first | exact plainFor_of_name (by first | (simp [plainName, overriddenIn]; done) | decide +kernel) | decide +kernel
theorem pf14 : plainFor (⟨"java/util/Optional", "get", "()Ljava/lang/Object;"⟩ : MethodName) = true := by first | exact plainFor_of_name (by first | (simp [plainName, overriddenIn]; done) | decide +kernel) | decide +kernel
theorem pf15 : plainFor (⟨"com/example/lokit/lokit/password/PasswordAlphabet", "letterOrDigitClassOf", "(I)Ljava/util/Optional;"⟩ : MethodName) = true := by first | exact plainFor_of_name (by first | (simp [plainName, overriddenIn]; done) | decide +kernel) | decide +kernel
theorem pf16 : plainFor (⟨"java/lang/StringLatin1", "canEncode", "(I)Z"⟩ : MethodName) = true := by first | exact plainFor_of_name (by first | (simp [plainName, overriddenIn]; done) | decide +kernel) | decide +kernel
theorem pf17 : plainFor (⟨"java/lang/String", "length", "()I"⟩ : MethodName) = true := by first | exact plainFor_of_name (by first | (simp [plainName, overriddenIn]; done) | decide +kernel) | decide +kernel
theorem pf18 : plainFor (⟨"java/lang/Math", "max", "(II)I"⟩ : MethodName) = true := by first | exact plainFor_of_name (by first | (simp [plainName, overriddenIn]; done) | decide +kernel) | decide +kernel
theorem pf19 : plainFor (⟨"java/lang/Math", "min", "(II)I"⟩ : MethodName) = true := by first | exact plainFor_of_name (by first | (simp [plainName, overriddenIn]; done) | decide +kernel) | decide +kernel
theorem pf20 : plainFor (⟨"java/lang/StringLatin1", "indexOfChar", "([BIII)I"⟩ : MethodName) = true := by first | exact plainFor_of_name (by first | (simp [plainName, overriddenIn]; done) | decide +kernel) | decide +kernel
theorem pf21 : plainFor (⟨"java/lang/StringLatin1", "indexOf", "([BIII)I"⟩ : MethodName) = true := by first | exact plainFor_of_name (by first | (simp [plainName, overriddenIn]; done) | decide +kernel) | decide +kernel
theorem pf22 : plainFor (⟨"java/lang/String", "indexOf", "(II)I"⟩ : MethodName) = true := by first | exact plainFor_of_name (by first | (simp [plainName, overriddenIn]; done) | decide +kernel) | decide +kernel
theorem pf23 : plainFor (⟨"java/lang/String", "indexOf", "(I)I"⟩ : MethodName) = true := by first | exact plainFor_of_name (by first | (simp [plainName, overriddenIn]; done) | decide +kernel) | decide +kernel
theorem pf24 : plainFor (⟨"com/example/lokit/lokit/password/PasswordAlphabet", "classOf", "(I)Ljava/util/Optional;"⟩ : MethodName) = true := by first | exact plainFor_of_name (by first | (simp [plainName, overriddenIn]; done) | decide +kernel) | decide +kernel
theorem pf25 : plainFor (⟨"jdk/internal/util/Preconditions", "checkIndex", "(IILjava/util/function/BiFunction;)I"⟩ : MethodName) = true := by first | exact plainFor_of_name (by first | (simp [plainName, overriddenIn]; done) | decide +kernel) | decide +kernel
theorem pf26 : plainFor (⟨"java/lang/String", "checkIndex", "(II)V"⟩ : MethodName) = true := by first | exact plainFor_of_name (by first | (simp [plainName, overriddenIn]; done) | decide +kernel) | decide +kernel
theorem pf27 : plainFor (⟨"java/lang/StringLatin1", "charAt", "([BI)C"⟩ : MethodName) = true := by first | exact plainFor_of_name (by first | (simp [plainName, overriddenIn]; done) | decide +kernel) | decide +kernel
theorem pf28 : plainFor (⟨"java/lang/String", "charAt", "(I)C"⟩ : MethodName) = true := by first | exact plainFor_of_name (by first | (simp [plainName, overriddenIn]; done) | decide +kernel) | decide +kernel
theorem pf29 : plainFor (⟨"com/example/lokit/lokit/password/PasswordAlphabet", "<init>", "(Ljava/lang/String;)V"⟩ : MethodName) = true := by first | exact plainFor_of_name (by first | (simp [plainName, overriddenIn]; done) | decide +kernel) | decide +kernel
theorem pf30 : plainFor (⟨"com/example/lokit/lokit/password/PasswordAlphabetClassOfPinLaw", "law", "(IIII)Z"⟩ : MethodName) = true := by first | exact plainFor_of_name (by first | (simp [plainName, overriddenIn]; done) | decide +kernel) | decide +kernel
theorem hSA {Z : State} {a0 : Array Value} (hw : ∀ d ∈ tables_1, d.before a0 Z = true) : ∀ a ∈ Bundle.stringAtoms, a.before a0 Z = true := fun d hd => hw d ((by decide +kernel : ∀ d ∈ Bundle.stringAtoms, d ∈ tables_1) d hd)
theorem hELs {Z : State} {a0 : Array Value} (hw : ∀ d ∈ tables_1, d.before a0 Z = true) : EW Z a0 consts_1 := (EW.cons (tw41 hw) (by decide) (EW.cons (tw130 hw) (by decide) EW.nil))
theorem ef_punct_c (m : MethodId) (x : Int32) : entryFrame m #[(.int x)] 2 = mkF m 0 #[.val (.int x), .unset] [] := by first | (simp [entryFrame, mkF, argsToLocals, Value.category]; done) | rfl
set_option maxRecDepth 65536 in
set_option maxHeartbeats 40000000 in
theorem punct_c (l : Launch) (Z : State) (a0 : Array Value) (n0 : Nat) (hw : ∀ d ∈ tables_1, d.before a0 Z = true) (hEL : EW Z a0 consts_1) (G1 : Int32) (O1 : Sta Z Z.heap "java/lang/String" "COMPACT_STRINGS" "Z" (.int G1)) (P1 : ¬ (G1 = (0 : Int32))) (G3 : Value) (O3 : Sta Z Z.heap "jdk/internal/util/Preconditions" "SIOOBE_FORMATTER" "Ljava/util/function/BiFunction;" G3) (rG3 : G3.isRef = true) (oe up lo di sy : Addr) (O5 : Sta Z Z.heap "java/util/Optional" "EMPTY" "Ljava/util/Optional;" (.ref oe)) (E5 : Exa Z Z.heap oe "java/util/Optional") (F5 : Fld Z Z.heap oe "java/util/Optional" "value" "Ljava/lang/Object;" .null) (O_up : Sta Z Z.heap "com/example/lokit/lokit/password/CharacterClass" "UPPER_CASE" "Lcom/example/lokit/lokit/password/CharacterClass;" (.ref up)) (O_lo : Sta Z Z.heap "com/example/lokit/lokit/password/CharacterClass" "LOWER_CASE" "Lcom/example/lokit/lokit/password/CharacterClass;" (.ref lo)) (O_di : Sta Z Z.heap "com/example/lokit/lokit/password/CharacterClass" "DIGIT" "Lcom/example/lokit/lokit/password/CharacterClass;" (.ref di)) (O_sy : Sta Z Z.heap "com/example/lokit/lokit/password/CharacterClass" "SYMBOL" "Lcom/example/lokit/lokit/password/CharacterClass;" (.ref sy)) (x : Int32) (h0 : Heap) (hO : Old Z n0 h0)  :
    Con l Z consts_1 n0 (⟨"com/example/lokit/lokit/password/PasswordAlphabetClassOfPinLaw", "punct", "(I)C"⟩ : MethodName) method_2_code 2 (some .char) ({ frames := 0, cells := 0, slots := 0, locals := 0 } : Room) #[(.int x)] h0 [] (fun v h V' => ∃ (r : Int32), v = some (.int r) ∧ h0 = h ∧ PU r) [] := by
  refine Con.of (a0 := a0) pf0 (fun m => ef_punct_c m x) all0 hO hEL ?_
  intro p e s m below meth c S0 hnm hsf W
  replace W := W.iloadN (pc' := 1) dm_2_0 rfl rfl
  replace W := W.bipush (pc' := 3) (v := (31 : Int32)) dm_2_1 rfl rfl
  replace W := W.iand (pc' := 4) (v := (x &&& (31 : Int32))) dm_2_3 rfl rfl
  replace W := W.istoreN (pc' := 5) (L' := #[.val (.int x), .val (.int (x &&& (31 : Int32)))]) dm_2_4 rfl rfl
  replace W := W.iloadN (pc' := 6) dm_2_5 rfl rfl
  replace W := W.bipush (pc' := 8) (v := (15 : Int32)) dm_2_6 rfl rfl
  by_cases hc1 : (x &&& (31 : Int32)) < (15 : Int32)
  · replace W := W.icmpF (pc' := 11) dm_2_8 (tlt hc1).2.1 rfl
    replace W := W.bipush (pc' := 13) (v := (33 : Int32)) dm_2_11 rfl rfl
    replace W := W.iloadN (pc' := 14) dm_2_13 rfl rfl
    replace W := W.iadd (pc' := 15) (v := ((33 : Int32) + (x &&& (31 : Int32)))) dm_2_14 rfl rfl
    replace W := W.i2c (pc' := 16) (v := (((33 : Int32) + (x &&& (31 : Int32))).toUInt32.toUInt16.toUInt32.toInt32)) dm_2_15 rfl rfl
    exact W.iret (t := .char) dm_2_16 rfl (by simp) (own_i2cn _) (by decide) (by decide) (fun V' cv => ⟨(((33 : Int32) + (x &&& (31 : Int32))).toUInt32.toUInt16.toUInt32.toInt32), rfl, rfl, ((pu_all x).1 hc1)⟩)
  · replace W := W.icmpT (pc' := 17) dm_2_8 (flt hc1).2.1 (by decide) (by decide)
    replace W := W.iloadN (pc' := 18) dm_2_17 rfl rfl
    replace W := W.bipush (pc' := 20) (v := (22 : Int32)) dm_2_18 rfl rfl
    by_cases hc2 : (x &&& (31 : Int32)) < (22 : Int32)
    · replace W := W.icmpF (pc' := 23) dm_2_20 (tlt hc2).2.1 rfl
      replace W := W.bipush (pc' := 25) (v := (58 : Int32)) dm_2_23 rfl rfl
      replace W := W.iloadN (pc' := 26) dm_2_25 rfl rfl
      replace W := W.iadd (pc' := 27) (v := ((58 : Int32) + (x &&& (31 : Int32)))) dm_2_26 rfl rfl
      replace W := W.bipush (pc' := 29) (v := (15 : Int32)) dm_2_27 rfl rfl
      replace W := W.isub (pc' := 30) (v := (((58 : Int32) + (x &&& (31 : Int32))) - (15 : Int32))) dm_2_29 rfl rfl
      replace W := W.i2c (pc' := 31) (v := ((((58 : Int32) + (x &&& (31 : Int32))) - (15 : Int32)).toUInt32.toUInt16.toUInt32.toInt32)) dm_2_30 rfl rfl
      exact W.iret (t := .char) dm_2_31 rfl (by simp) (own_i2cn _) (by decide) (by decide) (fun V' cv => ⟨((((58 : Int32) + (x &&& (31 : Int32))) - (15 : Int32)).toUInt32.toUInt16.toUInt32.toInt32), rfl, rfl, ((pu_all x).2.1 hc1 hc2)⟩)
    · replace W := W.icmpT (pc' := 32) dm_2_20 (flt hc2).2.1 (by decide) (by decide)
      replace W := W.iloadN (pc' := 33) dm_2_32 rfl rfl
      replace W := W.bipush (pc' := 35) (v := (28 : Int32)) dm_2_33 rfl rfl
      by_cases hc3 : (x &&& (31 : Int32)) < (28 : Int32)
      · replace W := W.icmpF (pc' := 38) dm_2_35 (tlt hc3).2.1 rfl
        replace W := W.bipush (pc' := 40) (v := (91 : Int32)) dm_2_38 rfl rfl
        replace W := W.iloadN (pc' := 41) dm_2_40 rfl rfl
        replace W := W.iadd (pc' := 42) (v := ((91 : Int32) + (x &&& (31 : Int32)))) dm_2_41 rfl rfl
        replace W := W.bipush (pc' := 44) (v := (22 : Int32)) dm_2_42 rfl rfl
        replace W := W.isub (pc' := 45) (v := (((91 : Int32) + (x &&& (31 : Int32))) - (22 : Int32))) dm_2_44 rfl rfl
        replace W := W.i2c (pc' := 46) (v := ((((91 : Int32) + (x &&& (31 : Int32))) - (22 : Int32)).toUInt32.toUInt16.toUInt32.toInt32)) dm_2_45 rfl rfl
        exact W.iret (t := .char) dm_2_46 rfl (by simp) (own_i2cn _) (by decide) (by decide) (fun V' cv => ⟨((((91 : Int32) + (x &&& (31 : Int32))) - (22 : Int32)).toUInt32.toUInt16.toUInt32.toInt32), rfl, rfl, ((pu_all x).2.2.1 hc2 hc3)⟩)
      · replace W := W.icmpT (pc' := 47) dm_2_35 (flt hc3).2.1 (by decide) (by decide)
        replace W := W.bipush (pc' := 49) (v := (123 : Int32)) dm_2_47 rfl rfl
        replace W := W.iloadN (pc' := 50) dm_2_49 rfl rfl
        replace W := W.iadd (pc' := 51) (v := ((123 : Int32) + (x &&& (31 : Int32)))) dm_2_50 rfl rfl
        replace W := W.bipush (pc' := 53) (v := (28 : Int32)) dm_2_51 rfl rfl
        replace W := W.isub (pc' := 54) (v := (((123 : Int32) + (x &&& (31 : Int32))) - (28 : Int32))) dm_2_53 rfl rfl
        replace W := W.i2c (pc' := 55) (v := ((((123 : Int32) + (x &&& (31 : Int32))) - (28 : Int32)).toUInt32.toUInt16.toUInt32.toInt32)) dm_2_54 rfl rfl
        exact W.iret (t := .char) dm_2_55 rfl (by simp) (own_i2cn _) (by decide) (by decide) (fun V' cv => ⟨((((123 : Int32) + (x &&& (31 : Int32))) - (28 : Int32)).toUInt32.toUInt16.toUInt32.toInt32), rfl, rfl, ((pu_all x).2.2.2 hc3)⟩)
theorem ef_cmp5_2 (m : MethodId) (ca : Addr) (kc : ClassId) (ba : Addr) (kb : ClassId) (c0 : Int32) (c1 : Int32) : entryFrame m #[(.ref ca), (.int (0 : Int32)), (.ref ba), (.int (0 : Int32)), (.int (2 : Int32))] 7 = mkF m 0 #[.val (.ref ca), .val (.int (0 : Int32)), .val (.ref ba), .val (.int (0 : Int32)), .val (.int (2 : Int32)), .unset, .unset] [] := by first | (simp [entryFrame, mkF, argsToLocals, Value.category]; done) | rfl
set_option maxRecDepth 65536 in
set_option maxHeartbeats 40000000 in
theorem cmp5_2 (l : Launch) (Z : State) (a0 : Array Value) (n0 : Nat) (hw : ∀ d ∈ tables_1, d.before a0 Z = true) (hEL : EW Z a0 consts_1) (G1 : Int32) (O1 : Sta Z Z.heap "java/lang/String" "COMPACT_STRINGS" "Z" (.int G1)) (P1 : ¬ (G1 = (0 : Int32))) (G3 : Value) (O3 : Sta Z Z.heap "jdk/internal/util/Preconditions" "SIOOBE_FORMATTER" "Ljava/util/function/BiFunction;" G3) (rG3 : G3.isRef = true) (oe up lo di sy : Addr) (O5 : Sta Z Z.heap "java/util/Optional" "EMPTY" "Ljava/util/Optional;" (.ref oe)) (E5 : Exa Z Z.heap oe "java/util/Optional") (F5 : Fld Z Z.heap oe "java/util/Optional" "value" "Ljava/lang/Object;" .null) (O_up : Sta Z Z.heap "com/example/lokit/lokit/password/CharacterClass" "UPPER_CASE" "Lcom/example/lokit/lokit/password/CharacterClass;" (.ref up)) (O_lo : Sta Z Z.heap "com/example/lokit/lokit/password/CharacterClass" "LOWER_CASE" "Lcom/example/lokit/lokit/password/CharacterClass;" (.ref lo)) (O_di : Sta Z Z.heap "com/example/lokit/lokit/password/CharacterClass" "DIGIT" "Lcom/example/lokit/lokit/password/CharacterClass;" (.ref di)) (O_sy : Sta Z Z.heap "com/example/lokit/lokit/password/CharacterClass" "SYMBOL" "Lcom/example/lokit/lokit/password/CharacterClass;" (.ref sy)) (ca : Addr) (kc : ClassId) (ba : Addr) (kb : ClassId) (c0 : Int32) (c1 : Int32) (h0 : Heap) (hO : Old Z n0 h0) (V_ca : Arv Z h0 ca kc .char (2 : Int32) [(.int c0), (.int c1)] (.int (0 : Int32))) (V_ba : Arv Z h0 ba kb .byte (2 : Int32) [(.int (0 : Int32)), (.int (0 : Int32))] (.int (0 : Int32))) (N_ca_ba : ca ≠ ba) (hp_c0 : ¬ c0 < 0 ∧ ¬ (255 : Int32) < c0) (hp_c1 : ¬ c1 < 0 ∧ ¬ (255 : Int32) < c1) (g_ba : n0 ≤ ba) :
    Con l Z consts_1 n0 (⟨"java/lang/StringUTF16", "compress", "([CI[BII)I"⟩ : MethodName) jdk_52_method_21_code 7 (some .int) ({ frames := 0, cells := 0, slots := 0, locals := 0 } : Room) #[(.ref ca), (.int (0 : Int32)), (.ref ba), (.int (0 : Int32)), (.int (2 : Int32))] h0 [ba] (fun v h V' => v = some (.int (2 : Int32)) ∧ Arv Z h ba kb .byte (2 : Int32) [(.int (c0.toInt8.toInt32)), (.int (c1.toInt8.toInt32))] (.int (0 : Int32))) [] := by
  refine Con.of (a0 := a0) pf1 (fun m => ef_cmp5_2 m ca kc ba kb c0 c1) (allS g_ba all0) hO hEL ?_
  intro p e s m below meth c S0 hnm hsf W
  replace W := W.iconst (pc' := 1) (v := (0 : Int32)) djdk_52_21_0 rfl rfl
  replace W := W.istore (pc' := 3) (L' := #[.val (.ref ca), .val (.int (0 : Int32)), .val (.ref ba), .val (.int (0 : Int32)), .val (.int (2 : Int32)), .val (.int (0 : Int32)), .unset]) djdk_52_21_1 rfl rfl
  replace W := W.iload (pc' := 5) djdk_52_21_3 rfl rfl
  replace W := W.iload (pc' := 7) djdk_52_21_5 rfl rfl
  replace W := W.icmpF (pc' := 10) djdk_52_21_7 (tlt (by decide : (0 : Int32) < (2 : Int32))).2.1 rfl
  replace W := W.aloadN (pc' := 11) djdk_52_21_10 rfl rfl rfl
  replace W := W.iloadN (pc' := 12) djdk_52_21_11 rfl rfl
  replace W := W.caload (pc' := 13) (w := (.int c0)) djdk_52_21_12 V_ca ⟨by decide, by decide⟩ rfl rfl
  replace W := W.istore (pc' := 15) (L' := #[.val (.ref ca), .val (.int (0 : Int32)), .val (.ref ba), .val (.int (0 : Int32)), .val (.int (2 : Int32)), .val (.int (0 : Int32)), .val (.int c0)]) djdk_52_21_13 rfl rfl
  replace W := W.iload (pc' := 17) djdk_52_21_15 rfl rfl
  replace W := W.sipush (pc' := 20) (v := (255 : Int32)) djdk_52_21_17 rfl rfl
  replace W := W.icmpT (pc' := 26) djdk_52_21_20 (flt hp_c0.2).2.2.2 (by decide) (by decide)
  replace W := W.aloadN (pc' := 27) djdk_52_21_26 rfl rfl rfl
  replace W := W.iloadN (pc' := 28) djdk_52_21_27 rfl rfl
  replace W := W.iload (pc' := 30) djdk_52_21_28 rfl rfl
  replace W := W.i2b (pc' := 31) (v := (c0.toInt8.toInt32)) djdk_52_21_30 rfl rfl
  obtain ⟨h1, W1, w1, A1, SF1⟩ := W.bastore (pc' := 32) (i := 0) (x' := (c0.toInt8.toInt32)) djdk_52_21_31 V_ba ⟨by decide, by decide⟩ rfl (by show 0 < 2; decide) (own_narb _) (hsf _ (List.mem_of_getElem? (i := 0) rfl)) (Or.inl (List.mem_of_getElem? (i := 0) rfl)) rfl
  clear W
  have z1 : h0.size ≤ h1.size := Nat.le_of_eq w1.size.symm
  have v1 : Arv Z h1 ba kb .byte (2 : Int32) [(.int (c0.toInt8.toInt32)), (.int (0 : Int32))] (.int (0 : Int32)) := A1
  replace W1 := W1.iinc (pc' := 35) (v := (1 : Int32)) (L' := #[.val (.ref ca), .val (.int (1 : Int32)), .val (.ref ba), .val (.int (0 : Int32)), .val (.int (2 : Int32)), .val (.int (0 : Int32)), .val (.int c0)]) djdk_52_21_32 rfl (by decide) rfl rfl
  replace W1 := W1.iinc (pc' := 38) (v := (1 : Int32)) (L' := #[.val (.ref ca), .val (.int (1 : Int32)), .val (.ref ba), .val (.int (1 : Int32)), .val (.int (2 : Int32)), .val (.int (0 : Int32)), .val (.int c0)]) djdk_52_21_35 rfl (by decide) rfl rfl
  replace W1 := W1.iinc (pc' := 41) (v := (1 : Int32)) (L' := #[.val (.ref ca), .val (.int (1 : Int32)), .val (.ref ba), .val (.int (1 : Int32)), .val (.int (2 : Int32)), .val (.int (1 : Int32)), .val (.int c0)]) djdk_52_21_38 rfl (by decide) rfl rfl
  replace W1 := W1.goto (pc' := 3) djdk_52_21_41 (by decide) (by decide)
  replace W1 := W1.iload (pc' := 5) djdk_52_21_3 rfl rfl
  replace W1 := W1.iload (pc' := 7) djdk_52_21_5 rfl rfl
  replace W1 := W1.icmpF (pc' := 10) djdk_52_21_7 (tlt (by decide : (1 : Int32) < (2 : Int32))).2.1 rfl
  replace W1 := W1.aloadN (pc' := 11) djdk_52_21_10 rfl rfl rfl
  replace W1 := W1.iloadN (pc' := 12) djdk_52_21_11 rfl rfl
  have v2 := (V_ca.other w1 N_ca_ba)
  replace W1 := W1.caload (pc' := 13) (w := (.int c1)) djdk_52_21_12 v2 ⟨by decide, by decide⟩ rfl rfl
  replace W1 := W1.istore (pc' := 15) (L' := #[.val (.ref ca), .val (.int (1 : Int32)), .val (.ref ba), .val (.int (1 : Int32)), .val (.int (2 : Int32)), .val (.int (1 : Int32)), .val (.int c1)]) djdk_52_21_13 rfl rfl
  replace W1 := W1.iload (pc' := 17) djdk_52_21_15 rfl rfl
  replace W1 := W1.sipush (pc' := 20) (v := (255 : Int32)) djdk_52_21_17 rfl rfl
  replace W1 := W1.icmpT (pc' := 26) djdk_52_21_20 (flt hp_c1.2).2.2.2 (by decide) (by decide)
  replace W1 := W1.aloadN (pc' := 27) djdk_52_21_26 rfl rfl rfl
  replace W1 := W1.iloadN (pc' := 28) djdk_52_21_27 rfl rfl
  replace W1 := W1.iload (pc' := 30) djdk_52_21_28 rfl rfl
  replace W1 := W1.i2b (pc' := 31) (v := (c1.toInt8.toInt32)) djdk_52_21_30 rfl rfl
  have sf3 := (SF1 ba (hsf _ (List.mem_of_getElem? (i := 0) rfl)))
  obtain ⟨h4, W4, w4, A4, SF4⟩ := W1.bastore (pc' := 32) (i := 1) (x' := (c1.toInt8.toInt32)) djdk_52_21_31 v1 ⟨by decide, by decide⟩ rfl (by show 1 < 2; decide) (own_narb _) sf3 (Or.inl (List.mem_of_getElem? (i := 0) rfl)) rfl
  clear W1
  have z4 : h1.size ≤ h4.size := Nat.le_of_eq w4.size.symm
  have v4 : Arv Z h4 ba kb .byte (2 : Int32) [(.int (c0.toInt8.toInt32)), (.int (c1.toInt8.toInt32))] (.int (0 : Int32)) := A4
  replace W4 := W4.iinc (pc' := 35) (v := (2 : Int32)) (L' := #[.val (.ref ca), .val (.int (2 : Int32)), .val (.ref ba), .val (.int (1 : Int32)), .val (.int (2 : Int32)), .val (.int (1 : Int32)), .val (.int c1)]) djdk_52_21_32 rfl (by decide) rfl rfl
  replace W4 := W4.iinc (pc' := 38) (v := (2 : Int32)) (L' := #[.val (.ref ca), .val (.int (2 : Int32)), .val (.ref ba), .val (.int (2 : Int32)), .val (.int (2 : Int32)), .val (.int (1 : Int32)), .val (.int c1)]) djdk_52_21_35 rfl (by decide) rfl rfl
  replace W4 := W4.iinc (pc' := 41) (v := (2 : Int32)) (L' := #[.val (.ref ca), .val (.int (2 : Int32)), .val (.ref ba), .val (.int (2 : Int32)), .val (.int (2 : Int32)), .val (.int (2 : Int32)), .val (.int c1)]) djdk_52_21_38 rfl (by decide) rfl rfl
  replace W4 := W4.goto (pc' := 3) djdk_52_21_41 (by decide) (by decide)
  replace W4 := W4.iload (pc' := 5) djdk_52_21_3 rfl rfl
  replace W4 := W4.iload (pc' := 7) djdk_52_21_5 rfl rfl
  replace W4 := W4.icmpT (pc' := 44) djdk_52_21_7 (flt (by decide : ¬ ((2 : Int32) < (2 : Int32)))).2.1 (by decide) (by decide)
  replace W4 := W4.iload (pc' := 46) djdk_52_21_44 rfl rfl
  exact W4.iret (t := .int) djdk_52_21_46 rfl (by simp) rfl (by decide) (by decide) (fun V' cv => ⟨rfl, v4⟩)
theorem ef_cmp3_2 (m : MethodId) (ca : Addr) (kc : ClassId) (c0 : Int32) (c1 : Int32) : entryFrame m #[(.ref ca), (.int (0 : Int32)), (.int (2 : Int32))] 6 = mkF m 0 #[.val (.ref ca), .val (.int (0 : Int32)), .val (.int (2 : Int32)), .unset, .unset, .unset] [] := by first | (simp [entryFrame, mkF, argsToLocals, Value.category]; done) | rfl
set_option maxRecDepth 65536 in
set_option maxHeartbeats 40000000 in
theorem cmp3_2 (l : Launch) (Z : State) (a0 : Array Value) (n0 : Nat) (hw : ∀ d ∈ tables_1, d.before a0 Z = true) (hEL : EW Z a0 consts_1) (G1 : Int32) (O1 : Sta Z Z.heap "java/lang/String" "COMPACT_STRINGS" "Z" (.int G1)) (P1 : ¬ (G1 = (0 : Int32))) (G3 : Value) (O3 : Sta Z Z.heap "jdk/internal/util/Preconditions" "SIOOBE_FORMATTER" "Ljava/util/function/BiFunction;" G3) (rG3 : G3.isRef = true) (oe up lo di sy : Addr) (O5 : Sta Z Z.heap "java/util/Optional" "EMPTY" "Ljava/util/Optional;" (.ref oe)) (E5 : Exa Z Z.heap oe "java/util/Optional") (F5 : Fld Z Z.heap oe "java/util/Optional" "value" "Ljava/lang/Object;" .null) (O_up : Sta Z Z.heap "com/example/lokit/lokit/password/CharacterClass" "UPPER_CASE" "Lcom/example/lokit/lokit/password/CharacterClass;" (.ref up)) (O_lo : Sta Z Z.heap "com/example/lokit/lokit/password/CharacterClass" "LOWER_CASE" "Lcom/example/lokit/lokit/password/CharacterClass;" (.ref lo)) (O_di : Sta Z Z.heap "com/example/lokit/lokit/password/CharacterClass" "DIGIT" "Lcom/example/lokit/lokit/password/CharacterClass;" (.ref di)) (O_sy : Sta Z Z.heap "com/example/lokit/lokit/password/CharacterClass" "SYMBOL" "Lcom/example/lokit/lokit/password/CharacterClass;" (.ref sy)) (ca : Addr) (kc : ClassId) (c0 : Int32) (c1 : Int32) (h0 : Heap) (hO : Old Z n0 h0) (V_ca : Arv Z h0 ca kc .char (2 : Int32) [(.int c0), (.int c1)] (.int (0 : Int32))) (hp_c0 : ¬ c0 < 0 ∧ ¬ (255 : Int32) < c0) (hp_c1 : ¬ c1 < 0 ∧ ¬ (255 : Int32) < c1) :
    Con l Z consts_1 n0 (⟨"java/lang/StringUTF16", "compress", "([CII)[B"⟩ : MethodName) jdk_52_method_16_code 6 (some (.array .byte)) ({ frames := 1, cells := 1, slots := 2, locals := 18 } : Room) #[(.ref ca), (.int (0 : Int32)), (.int (2 : Int32))] h0 [] (fun v h V' => ∃ (t : Addr) (kt : ClassId), v = some (.ref t) ∧ Arv Z h t kt .byte (2 : Int32) [(.int (c0.toInt8.toInt32)), (.int (c1.toInt8.toInt32))] (.int (0 : Int32)) ∧ h0.size ≤ t) [] := by
  refine Con.of (a0 := a0) pf2 (fun m => ef_cmp3_2 m ca kc c0 c1) all0 hO hEL ?_
  intro p e s m below meth c S0 hnm hsf W
  replace W := W.iloadN (pc' := 1) djdk_52_16_0 rfl rfl
  obtain ⟨h1, a1, W1, E1, g1, ⟨k1, A1⟩, sf1, SF1⟩ := W.newarr (pc' := 3) (cap := 2) (cells' := 1) (slots' := 2) djdk_52_16_1 (tw23 hw) (by decide) (by decide) (by decide) rfl rfl rfl (by decide) (by decide)
  clear W
  rw [← g1] at A1
  have z1 : h0.size ≤ h1.size := E1.1
  have v1 : Arv Z h1 a1 k1 .byte (2 : Int32) [(.int (0 : Int32)), (.int (0 : Int32))] (.int (0 : Int32)) := A1.pad (pad_rep [] (.int (0 : Int32)) 2)
  replace W1 := W1.astoreN (pc' := 4) (L' := #[.val (.ref ca), .val (.int (0 : Int32)), .val (.int (2 : Int32)), .val (.ref a1), .unset, .unset]) djdk_52_16_3 rfl rfl rfl
  replace W1 := W1.aloadN (pc' := 5) djdk_52_16_4 rfl rfl rfl
  replace W1 := W1.iloadN (pc' := 6) djdk_52_16_5 rfl rfl
  replace W1 := W1.aloadN (pc' := 7) djdk_52_16_6 rfl rfl rfl
  replace W1 := W1.iconst (pc' := 8) (v := (0 : Int32)) djdk_52_16_7 rfl rfl
  replace W1 := W1.iloadN (pc' := 9) djdk_52_16_8 rfl rfl
  have v2 := (V_ca.ext E1)
  obtain ⟨V3, h3, r3, W3, K3, hQ3, SF3⟩ := W1.callS (pc' := 12) (argsL := [(.ref ca), (.int (0 : Int32)), (.ref a1), (.int (0 : Int32)), (.int (2 : Int32))]) (rest := []) (Wd := 0) (cells' := 1) (slots' := 2) (y := (⟨"java/lang/StringUTF16", "compress", "([CI[BII)I"⟩ : MethodName)) djdk_52_16_9 (cmp5_2 l Z a0 n0 hw hEL G1 O1 P1 G3 O3 rG3 oe up lo di sy O5 E5 F5 O_up O_lo O_di O_sy ca kc a1 k1 c0 c1 h1 W1.old v2 v1 (Nat.ne_of_lt (Nat.lt_of_lt_of_le V_ca.lt (Nat.le_of_eq g1.symm))) hp_c0 hp_c1 (Nat.le_trans W1.1.2.2.2.2.2.2.2.1 (Nat.le_of_eq g1.symm))) (tw24 hw) (tw25 hw) (tw21 hw) (tw26 hw) (by decide) (lenOf pd0 rfl) rfl rfl (by decide) (by decide) rfl (sfS sf1 sf0) (allS (Or.inr (Nat.le_of_eq g1.symm)) all0) rfl rfl rfl (by decide) (by decide)
  clear W1
  obtain ⟨rfl, q3_1⟩ := hQ3
  have z3 : h1.size ≤ h3.size := K3.1
  replace W3 := W3.cast (st' := [(.int (2 : Int32))]) rfl
  replace W3 := W3.istore (pc' := 14) (L' := #[.val (.ref ca), .val (.int (0 : Int32)), .val (.int (2 : Int32)), .val (.ref a1), .val (.int (2 : Int32)), .unset]) djdk_52_16_12 rfl rfl
  replace W3 := W3.iload (pc' := 16) djdk_52_16_14 rfl rfl
  replace W3 := W3.iloadN (pc' := 17) djdk_52_16_16 rfl rfl
  replace W3 := W3.icmpT (pc' := 57) djdk_52_16_17 (teq (by decide : (2 : Int32) = (2 : Int32))).1 (by decide) (by decide)
  replace W3 := W3.aloadN (pc' := 58) djdk_52_16_57 rfl rfl rfl
  exact W3.aret (t := (.array .byte)) djdk_52_16_58 rfl rfl rfl rfl (by decide) (by decide) (fun V' cv => ⟨a1, k1, rfl, q3_1, (Nat.le_of_eq g1.symm)⟩)
theorem ef_codl_2 (m : MethodId) (ta : Addr) (kt : ClassId) (vt : List Value) : entryFrame m #[(.ref ta), (.int (2 : Int32))] 2 = mkF m 0 #[.val (.ref ta), .val (.int (2 : Int32))] [] := by first | (simp [entryFrame, mkF, argsToLocals, Value.category]; done) | rfl
set_option maxRecDepth 65536 in
set_option maxHeartbeats 40000000 in
theorem codl_2 (l : Launch) (Z : State) (a0 : Array Value) (n0 : Nat) (hw : ∀ d ∈ tables_1, d.before a0 Z = true) (hEL : EW Z a0 consts_1) (G1 : Int32) (O1 : Sta Z Z.heap "java/lang/String" "COMPACT_STRINGS" "Z" (.int G1)) (P1 : ¬ (G1 = (0 : Int32))) (G3 : Value) (O3 : Sta Z Z.heap "jdk/internal/util/Preconditions" "SIOOBE_FORMATTER" "Ljava/util/function/BiFunction;" G3) (rG3 : G3.isRef = true) (oe up lo di sy : Addr) (O5 : Sta Z Z.heap "java/util/Optional" "EMPTY" "Ljava/util/Optional;" (.ref oe)) (E5 : Exa Z Z.heap oe "java/util/Optional") (F5 : Fld Z Z.heap oe "java/util/Optional" "value" "Ljava/lang/Object;" .null) (O_up : Sta Z Z.heap "com/example/lokit/lokit/password/CharacterClass" "UPPER_CASE" "Lcom/example/lokit/lokit/password/CharacterClass;" (.ref up)) (O_lo : Sta Z Z.heap "com/example/lokit/lokit/password/CharacterClass" "LOWER_CASE" "Lcom/example/lokit/lokit/password/CharacterClass;" (.ref lo)) (O_di : Sta Z Z.heap "com/example/lokit/lokit/password/CharacterClass" "DIGIT" "Lcom/example/lokit/lokit/password/CharacterClass;" (.ref di)) (O_sy : Sta Z Z.heap "com/example/lokit/lokit/password/CharacterClass" "SYMBOL" "Lcom/example/lokit/lokit/password/CharacterClass;" (.ref sy)) (ta : Addr) (kt : ClassId) (vt : List Value) (h0 : Heap) (hO : Old Z n0 h0) (V_ta : Arv Z h0 ta kt .byte (2 : Int32) vt (.int (0 : Int32))) :
    Con l Z consts_1 n0 (⟨"java/lang/StringUTF16", "coderFromArrayLen", "([BI)B"⟩ : MethodName) jdk_52_method_15_code 2 (some .byte) ({ frames := 0, cells := 0, slots := 0, locals := 0 } : Room) #[(.ref ta), (.int (2 : Int32))] h0 [] (fun v h V' => v = some (.int (0 : Int32)) ∧ h0 = h) [] := by
  refine Con.of (a0 := a0) pf3 (fun m => ef_codl_2 m ta kt vt) all0 hO hEL ?_
  intro p e s m below meth c S0 hnm hsf W
  replace W := W.iloadN (pc' := 1) djdk_52_15_0 rfl rfl
  replace W := W.aloadN (pc' := 2) djdk_52_15_1 rfl rfl rfl
  replace W := W.alen (pc' := 3) djdk_52_15_2 V_ta rfl
  replace W := W.isub (pc' := 4) (v := (0 : Int32)) djdk_52_15_3 (by decide) rfl
  replace W := W.bipush (pc' := 6) (v := (31 : Int32)) djdk_52_15_4 rfl rfl
  replace W := W.iushr (pc' := 7) (v := (0 : Int32)) djdk_52_15_6 (by decide) rfl
  replace W := W.i2b (pc' := 8) (v := (0 : Int32)) djdk_52_15_7 (by decide) rfl
  exact W.iret (t := .byte) djdk_52_15_8 rfl (by simp) (by decide) (by decide) (by decide) (fun V' cv => ⟨rfl, rfl⟩)
theorem ef_new4_2 (m : MethodId) (xa : Addr) (ca : Addr) (kc : ClassId) (c0 : Int32) (c1 : Int32) : entryFrame m #[(.ref xa), (.ref ca), (.int (0 : Int32)), (.int (2 : Int32)), .null] 6 = mkF m 0 #[.val (.ref xa), .val (.ref ca), .val (.int (0 : Int32)), .val (.int (2 : Int32)), .val .null, .unset] [] := by first | (simp [entryFrame, mkF, argsToLocals, Value.category]; done) | rfl
set_option maxRecDepth 65536 in
set_option maxHeartbeats 40000000 in
theorem new4_2 (l : Launch) (Z : State) (a0 : Array Value) (n0 : Nat) (hw : ∀ d ∈ tables_1, d.before a0 Z = true) (hEL : EW Z a0 consts_1) (G1 : Int32) (O1 : Sta Z Z.heap "java/lang/String" "COMPACT_STRINGS" "Z" (.int G1)) (P1 : ¬ (G1 = (0 : Int32))) (G3 : Value) (O3 : Sta Z Z.heap "jdk/internal/util/Preconditions" "SIOOBE_FORMATTER" "Ljava/util/function/BiFunction;" G3) (rG3 : G3.isRef = true) (oe up lo di sy : Addr) (O5 : Sta Z Z.heap "java/util/Optional" "EMPTY" "Ljava/util/Optional;" (.ref oe)) (E5 : Exa Z Z.heap oe "java/util/Optional") (F5 : Fld Z Z.heap oe "java/util/Optional" "value" "Ljava/lang/Object;" .null) (O_up : Sta Z Z.heap "com/example/lokit/lokit/password/CharacterClass" "UPPER_CASE" "Lcom/example/lokit/lokit/password/CharacterClass;" (.ref up)) (O_lo : Sta Z Z.heap "com/example/lokit/lokit/password/CharacterClass" "LOWER_CASE" "Lcom/example/lokit/lokit/password/CharacterClass;" (.ref lo)) (O_di : Sta Z Z.heap "com/example/lokit/lokit/password/CharacterClass" "DIGIT" "Lcom/example/lokit/lokit/password/CharacterClass;" (.ref di)) (O_sy : Sta Z Z.heap "com/example/lokit/lokit/password/CharacterClass" "SYMBOL" "Lcom/example/lokit/lokit/password/CharacterClass;" (.ref sy)) (xa : Addr) (ca : Addr) (kc : ClassId) (c0 : Int32) (c1 : Int32) (h0 : Heap) (hO : Old Z n0 h0) (E_xa : Exa Z h0 xa "java/lang/String") (F_xa_value : Fld Z h0 xa "java/lang/String" "value" "[B" .null) (F_xa_coder : Fld Z h0 xa "java/lang/String" "coder" "B" (.int (0 : Int32))) (V_ca : Arv Z h0 ca kc .char (2 : Int32) [(.int c0), (.int c1)] (.int (0 : Int32))) (hp_c0 : ¬ c0 < 0 ∧ ¬ (255 : Int32) < c0) (hp_c1 : ¬ c1 < 0 ∧ ¬ (255 : Int32) < c1) (g_xa : n0 ≤ xa) :
    Con l Z consts_1 n0 (⟨"java/lang/String", "<init>", "([CIILjava/lang/Void;)V"⟩ : MethodName) jdk_42_method_149_code 6 none ({ frames := 2, cells := 1, slots := 2, locals := 35 } : Room) #[(.ref xa), (.ref ca), (.int (0 : Int32)), (.int (2 : Int32)), .null] h0 [xa] (fun v h V' => ∃ (t : Addr) (kt : ClassId), v = none ∧ Exa Z h xa "java/lang/String" ∧ Fld Z h xa "java/lang/String" "coder" "B" (.int (0 : Int32)) ∧ Fld Z h xa "java/lang/String" "value" "[B" (.ref t) ∧ Arv Z h t kt .byte (2 : Int32) [(.int (c0.toInt8.toInt32)), (.int (c1.toInt8.toInt32))] (.int (0 : Int32))) [] := by
  refine Con.of (a0 := a0) pf4 (fun m => ef_new4_2 m xa ca kc c0 c1) (allS g_xa all0) hO hEL ?_
  intro p e s m below meth c S0 hnm hsf W
  replace W := W.aloadN (pc' := 1) djdk_42_149_0 rfl rfl rfl
  replace W := W.initO (pc' := 4) (Wd := 0) djdk_42_149_1 (tw15 hw) (tw16 hw) (tw17 hw) rfl rfl (by decide) (by decide) rfl
  replace W := W.iloadN (pc' := 5) djdk_42_149_4 rfl rfl
  replace W := W.ifT (pc' := 27) djdk_42_149_5 (feq (by decide : ¬ ((2 : Int32) = (0 : Int32)))).2 (by decide) (by decide)
  replace W := W.gets (pc' := 30) djdk_42_149_27 (tw18 hw) O1 rfl
  replace W := W.ifF (pc' := 33) djdk_42_149_30 (feq P1).1 rfl
  replace W := W.aloadN (pc' := 34) djdk_42_149_33 rfl rfl rfl
  replace W := W.iloadN (pc' := 35) djdk_42_149_34 rfl rfl
  replace W := W.iloadN (pc' := 36) djdk_42_149_35 rfl rfl
  obtain ⟨V1, h1, r1, W1, K1, hQ1, SF1⟩ := W.callS (pc' := 39) (argsL := [(.ref ca), (.int (0 : Int32)), (.int (2 : Int32))]) (rest := []) (Wd := 0) (cells' := 1) (slots' := 2) (y := (⟨"java/lang/StringUTF16", "compress", "([CII)[B"⟩ : MethodName)) djdk_42_149_36 (cmp3_2 l Z a0 n0 hw hEL G1 O1 P1 G3 O3 rG3 oe up lo di sy O5 E5 F5 O_up O_lo O_di O_sy ca kc c0 c1 h0 W.old V_ca hp_c0 hp_c1) (tw19 hw) (tw20 hw) (tw21 hw) (tw22 hw) (by decide) (lenOf pd1 rfl) rfl rfl (by decide) (by decide) rfl sf0 all0 rfl rfl rfl (by decide) (by decide)
  clear W
  obtain ⟨t1, kt1, rfl, q1_1, q1_2⟩ := hQ1
  have z1 : h0.size ≤ h1.size := K1.1
  replace W1 := W1.cast (st' := [(.ref t1)]) rfl
  replace W1 := W1.astore (pc' := 41) (L' := #[.val (.ref xa), .val (.ref ca), .val (.int (0 : Int32)), .val (.int (2 : Int32)), .val .null, .val (.ref t1)]) djdk_42_149_39 rfl rfl rfl
  replace W1 := W1.aloadN (pc' := 42) djdk_42_149_41 rfl rfl rfl
  replace W1 := W1.aload (pc' := 44) djdk_42_149_42 rfl rfl rfl
  replace W1 := W1.iloadN (pc' := 45) djdk_42_149_44 rfl rfl
  obtain ⟨V2, h2, r2, W2, K2, hQ2, SF2⟩ := W1.callS (pc' := 48) (argsL := [(.ref t1), (.int (2 : Int32))]) (rest := [(.ref xa)]) (Wd := 1) (cells' := 1) (slots' := 2) (y := (⟨"java/lang/StringUTF16", "coderFromArrayLen", "([BI)B"⟩ : MethodName)) djdk_42_149_45 (codl_2 l Z a0 n0 hw hEL G1 O1 P1 G3 O3 rG3 oe up lo di sy O5 E5 F5 O_up O_lo O_di O_sy t1 kt1 ([(.int (c0.toInt8.toInt32)), (.int (c1.toInt8.toInt32))]) h1 W1.old q1_1) (tw27 hw) (tw28 hw) (tw21 hw) (tw29 hw) (by decide) (lenOf pd2 rfl) rfl rfl (by decide) (by decide) rfl sf0 all0 rfl rfl rfl (by decide) (by decide)
  clear W1
  obtain ⟨rfl, hs2⟩ := hQ2
  subst hs2
  have sf3 := (SF1 xa E_xa.lt (hsf _ (List.mem_of_getElem? (i := 0) rfl)))
  have sf4 := SF2 xa (Nat.lt_of_lt_of_le E_xa.lt z1) sf3
  replace W2 := W2.cast (st' := [(.int (0 : Int32)), (.ref xa)]) rfl
  have f5 := (F_xa_coder.keep K1 nin0)
  have e6 := (E_xa.keep K1)
  obtain ⟨h7, W7, w7, SF7⟩ := W2.putf (pc' := 51) (ty := .byte) djdk_42_149_48 (tw30 hw) Via.refl f5 e6 (Or.inr ⟨(tw31 hw), rfl, hnm⟩) (tw6 hw) (by decide) rfl rfl sf4 (Or.inl (List.mem_of_getElem? (i := 0) rfl)) rfl
  clear W2
  have z7 : h1.size ≤ h7.size := Nat.le_of_eq w7.size.symm
  have f7 := f5.same w7
  replace W7 := W7.aloadN (pc' := 52) djdk_42_149_51 rfl rfl rfl
  replace W7 := W7.aload (pc' := 54) djdk_42_149_52 rfl rfl rfl
  have f8 := ((F_xa_value.keep K1 nin0).other w7 (Or.inr (slot_ne (C := "java/lang/String") (Or.inr (tw33 hw)) (Or.inr (tw31 hw)) (by decide) (t := (.array .byte)) (t' := .byte) (by decide) (by decide))))
  have e9 := (e6.wr w7)
  have sf10 := (SF7 xa sf4)
  obtain ⟨h11, W11, w11, SF11⟩ := W7.putf (pc' := 57) (ty := (.array .byte)) djdk_42_149_54 (tw32 hw) Via.refl f8 e9 (Or.inr ⟨(tw33 hw), rfl, hnm⟩) (tw6 hw) (by decide) rfl rfl sf10 (Or.inl (List.mem_of_getElem? (i := 0) rfl)) rfl
  clear W7
  have z11 : h7.size ≤ h11.size := Nat.le_of_eq w11.size.symm
  have f11 := f8.same w11
  have e12 := (e9.wr w11)
  have f13 := (f7.other w11 (Or.inr (slot_ne (C := "java/lang/String") (Or.inr (tw31 hw)) (Or.inr (tw33 hw)) (by decide) (t := .byte) (t' := (.array .byte)) (by decide) (by decide))))
  have v14 := ((q1_1.other w7 (Nat.ne_of_gt (Nat.lt_of_lt_of_le E_xa.lt q1_2))).other w11 (Nat.ne_of_gt (Nat.lt_of_lt_of_le E_xa.lt q1_2)))
  exact W11.vret djdk_42_149_57 rfl (by decide) (by decide) (fun V' cv => ⟨t1, kt1, rfl, e12, f13, f11, v14⟩)
theorem ef_new1_2 (m : MethodId) (xa : Addr) (ca : Addr) (kc : ClassId) (c0 : Int32) (c1 : Int32) : entryFrame m #[(.ref xa), (.ref ca)] 2 = mkF m 0 #[.val (.ref xa), .val (.ref ca)] [] := by first | (simp [entryFrame, mkF, argsToLocals, Value.category]; done) | rfl
set_option maxRecDepth 65536 in
set_option maxHeartbeats 40000000 in
theorem new1_2 (l : Launch) (Z : State) (a0 : Array Value) (n0 : Nat) (hw : ∀ d ∈ tables_1, d.before a0 Z = true) (hEL : EW Z a0 consts_1) (G1 : Int32) (O1 : Sta Z Z.heap "java/lang/String" "COMPACT_STRINGS" "Z" (.int G1)) (P1 : ¬ (G1 = (0 : Int32))) (G3 : Value) (O3 : Sta Z Z.heap "jdk/internal/util/Preconditions" "SIOOBE_FORMATTER" "Ljava/util/function/BiFunction;" G3) (rG3 : G3.isRef = true) (oe up lo di sy : Addr) (O5 : Sta Z Z.heap "java/util/Optional" "EMPTY" "Ljava/util/Optional;" (.ref oe)) (E5 : Exa Z Z.heap oe "java/util/Optional") (F5 : Fld Z Z.heap oe "java/util/Optional" "value" "Ljava/lang/Object;" .null) (O_up : Sta Z Z.heap "com/example/lokit/lokit/password/CharacterClass" "UPPER_CASE" "Lcom/example/lokit/lokit/password/CharacterClass;" (.ref up)) (O_lo : Sta Z Z.heap "com/example/lokit/lokit/password/CharacterClass" "LOWER_CASE" "Lcom/example/lokit/lokit/password/CharacterClass;" (.ref lo)) (O_di : Sta Z Z.heap "com/example/lokit/lokit/password/CharacterClass" "DIGIT" "Lcom/example/lokit/lokit/password/CharacterClass;" (.ref di)) (O_sy : Sta Z Z.heap "com/example/lokit/lokit/password/CharacterClass" "SYMBOL" "Lcom/example/lokit/lokit/password/CharacterClass;" (.ref sy)) (xa : Addr) (ca : Addr) (kc : ClassId) (c0 : Int32) (c1 : Int32) (h0 : Heap) (hO : Old Z n0 h0) (E_xa : Exa Z h0 xa "java/lang/String") (F_xa_value : Fld Z h0 xa "java/lang/String" "value" "[B" .null) (F_xa_coder : Fld Z h0 xa "java/lang/String" "coder" "B" (.int (0 : Int32))) (V_ca : Arv Z h0 ca kc .char (2 : Int32) [(.int c0), (.int c1)] (.int (0 : Int32))) (hp_c0 : ¬ c0 < 0 ∧ ¬ (255 : Int32) < c0) (hp_c1 : ¬ c1 < 0 ∧ ¬ (255 : Int32) < c1) (g_xa : n0 ≤ xa) :
    Con l Z consts_1 n0 (⟨"java/lang/String", "<init>", "([C)V"⟩ : MethodName) jdk_42_method_3_code 2 none ({ frames := 3, cells := 1, slots := 2, locals := 52 } : Room) #[(.ref xa), (.ref ca)] h0 [xa] (fun v h V' => ∃ (t : Addr) (kt : ClassId), v = none ∧ Exa Z h xa "java/lang/String" ∧ Fld Z h xa "java/lang/String" "coder" "B" (.int (0 : Int32)) ∧ Fld Z h xa "java/lang/String" "value" "[B" (.ref t) ∧ Arv Z h t kt .byte (2 : Int32) [(.int (c0.toInt8.toInt32)), (.int (c1.toInt8.toInt32))] (.int (0 : Int32))) [] := by
  refine Con.of (a0 := a0) pf5 (fun m => ef_new1_2 m xa ca kc c0 c1) (allS g_xa all0) hO hEL ?_
  intro p e s m below meth c S0 hnm hsf W
  replace W := W.aloadN (pc' := 1) djdk_42_3_0 rfl rfl rfl
  replace W := W.aloadN (pc' := 2) djdk_42_3_1 rfl rfl rfl
  replace W := W.iconst (pc' := 3) (v := (0 : Int32)) djdk_42_3_2 rfl rfl
  replace W := W.aloadN (pc' := 4) djdk_42_3_3 rfl rfl rfl
  replace W := W.alen (pc' := 5) djdk_42_3_4 V_ca rfl
  replace W := W.aconstNull (pc' := 6) djdk_42_3_5 rfl
  obtain ⟨V1, h1, r1, W1, K1, hQ1, SF1⟩ := W.callI (pc' := 9) (argsL := [(.ref ca), (.int (0 : Int32)), (.int (2 : Int32)), .null]) (rest := []) (Wd := 0) (cells' := 1) (slots' := 2) (a := xa) (y := (⟨"java/lang/String", "<init>", "([CIILjava/lang/Void;)V"⟩ : MethodName)) djdk_42_3_6 (new4_2 l Z a0 n0 hw hEL G1 O1 P1 G3 O3 rG3 oe up lo di sy O5 E5 F5 O_up O_lo O_di O_sy xa ca kc c0 c1 h0 W.old E_xa F_xa_value F_xa_coder V_ca hp_c0 hp_c1 g_xa) rfl (tw11 hw) (tw12 hw) (tw7 hw) (tw14 hw) (by decide) (lenOf pd3 rfl) rfl rfl (by decide) (by decide) rfl (sfS (hsf _ (List.mem_of_getElem? (i := 0) rfl)) sf0) (allS (Or.inl (List.mem_of_getElem? (i := 0) rfl)) all0) rfl rfl rfl (by decide) (by decide)
  clear W
  obtain ⟨t1, kt1, rfl, q1_1, q1_2, q1_3, q1_4⟩ := hQ1
  have z1 : h0.size ≤ h1.size := K1.1
  replace W1 := W1.cast (st' := []) rfl
  exact W1.vret djdk_42_3_9 rfl (by decide) (by decide) (fun V' cv => ⟨t1, kt1, rfl, q1_1, q1_2, q1_3, q1_4⟩)
theorem ef_rnn2 (m : MethodId) (oa : Addr) (ma : Addr) : entryFrame m #[(.ref oa), (.ref ma)] 2 = mkF m 0 #[.val (.ref oa), .val (.ref ma)] [] := by first | (simp [entryFrame, mkF, argsToLocals, Value.category]; done) | rfl
set_option maxRecDepth 65536 in
set_option maxHeartbeats 40000000 in
theorem rnn2 (l : Launch) (Z : State) (a0 : Array Value) (n0 : Nat) (hw : ∀ d ∈ tables_1, d.before a0 Z = true) (hEL : EW Z a0 consts_1) (G1 : Int32) (O1 : Sta Z Z.heap "java/lang/String" "COMPACT_STRINGS" "Z" (.int G1)) (P1 : ¬ (G1 = (0 : Int32))) (G3 : Value) (O3 : Sta Z Z.heap "jdk/internal/util/Preconditions" "SIOOBE_FORMATTER" "Ljava/util/function/BiFunction;" G3) (rG3 : G3.isRef = true) (oe up lo di sy : Addr) (O5 : Sta Z Z.heap "java/util/Optional" "EMPTY" "Ljava/util/Optional;" (.ref oe)) (E5 : Exa Z Z.heap oe "java/util/Optional") (F5 : Fld Z Z.heap oe "java/util/Optional" "value" "Ljava/lang/Object;" .null) (O_up : Sta Z Z.heap "com/example/lokit/lokit/password/CharacterClass" "UPPER_CASE" "Lcom/example/lokit/lokit/password/CharacterClass;" (.ref up)) (O_lo : Sta Z Z.heap "com/example/lokit/lokit/password/CharacterClass" "LOWER_CASE" "Lcom/example/lokit/lokit/password/CharacterClass;" (.ref lo)) (O_di : Sta Z Z.heap "com/example/lokit/lokit/password/CharacterClass" "DIGIT" "Lcom/example/lokit/lokit/password/CharacterClass;" (.ref di)) (O_sy : Sta Z Z.heap "com/example/lokit/lokit/password/CharacterClass" "SYMBOL" "Lcom/example/lokit/lokit/password/CharacterClass;" (.ref sy)) (oa : Addr) (ma : Addr) (h0 : Heap) (hO : Old Z n0 h0)  :
    Con l Z consts_1 n0 (⟨"java/util/Objects", "requireNonNull", "(Ljava/lang/Object;Ljava/lang/String;)Ljava/lang/Object;"⟩ : MethodName) jdk_31_method_11_code 2 (some (.object "java/lang/Object")) ({ frames := 0, cells := 0, slots := 0, locals := 0 } : Room) #[(.ref oa), (.ref ma)] h0 [] (fun v h V' => v = some (.ref oa) ∧ h0 = h) [] := by
  refine Con.of (a0 := a0) pf6 (fun m => ef_rnn2 m oa ma) all0 hO hEL ?_
  intro p e s m below meth c S0 hnm hsf W
  replace W := W.aloadN (pc' := 1) djdk_31_11_0 rfl rfl rfl
  replace W := W.ifnonnullT (pc' := 13) djdk_31_11_1 (by decide) (by decide)
  replace W := W.aloadN (pc' := 14) djdk_31_11_13 rfl rfl rfl
  exact W.aret (t := (.object "java/lang/Object")) djdk_31_11_14 rfl rfl rfl rfl (by decide) (by decide) (fun V' cv => ⟨rfl, rfl⟩)
theorem ef_rnn1 (m : MethodId) (oa : Addr) : entryFrame m #[(.ref oa)] 1 = mkF m 0 #[.val (.ref oa)] [] := by first | (simp [entryFrame, mkF, argsToLocals, Value.category]; done) | rfl
set_option maxRecDepth 65536 in
set_option maxHeartbeats 40000000 in
theorem rnn1 (l : Launch) (Z : State) (a0 : Array Value) (n0 : Nat) (hw : ∀ d ∈ tables_1, d.before a0 Z = true) (hEL : EW Z a0 consts_1) (G1 : Int32) (O1 : Sta Z Z.heap "java/lang/String" "COMPACT_STRINGS" "Z" (.int G1)) (P1 : ¬ (G1 = (0 : Int32))) (G3 : Value) (O3 : Sta Z Z.heap "jdk/internal/util/Preconditions" "SIOOBE_FORMATTER" "Ljava/util/function/BiFunction;" G3) (rG3 : G3.isRef = true) (oe up lo di sy : Addr) (O5 : Sta Z Z.heap "java/util/Optional" "EMPTY" "Ljava/util/Optional;" (.ref oe)) (E5 : Exa Z Z.heap oe "java/util/Optional") (F5 : Fld Z Z.heap oe "java/util/Optional" "value" "Ljava/lang/Object;" .null) (O_up : Sta Z Z.heap "com/example/lokit/lokit/password/CharacterClass" "UPPER_CASE" "Lcom/example/lokit/lokit/password/CharacterClass;" (.ref up)) (O_lo : Sta Z Z.heap "com/example/lokit/lokit/password/CharacterClass" "LOWER_CASE" "Lcom/example/lokit/lokit/password/CharacterClass;" (.ref lo)) (O_di : Sta Z Z.heap "com/example/lokit/lokit/password/CharacterClass" "DIGIT" "Lcom/example/lokit/lokit/password/CharacterClass;" (.ref di)) (O_sy : Sta Z Z.heap "com/example/lokit/lokit/password/CharacterClass" "SYMBOL" "Lcom/example/lokit/lokit/password/CharacterClass;" (.ref sy)) (oa : Addr) (h0 : Heap) (hO : Old Z n0 h0)  :
    Con l Z consts_1 n0 (⟨"java/util/Objects", "requireNonNull", "(Ljava/lang/Object;)Ljava/lang/Object;"⟩ : MethodName) jdk_31_method_10_code 1 (some (.object "java/lang/Object")) ({ frames := 0, cells := 0, slots := 0, locals := 0 } : Room) #[(.ref oa)] h0 [] (fun v h V' => v = some (.ref oa) ∧ h0 = h) [] := by
  refine Con.of (a0 := a0) pf7 (fun m => ef_rnn1 m oa) all0 hO hEL ?_
  intro p e s m below meth c S0 hnm hsf W
  replace W := W.aloadN (pc' := 1) djdk_31_10_0 rfl rfl rfl
  replace W := W.ifnonnullT (pc' := 12) djdk_31_10_1 (by decide) (by decide)
  replace W := W.aloadN (pc' := 13) djdk_31_10_12 rfl rfl rfl
  exact W.aret (t := (.object "java/lang/Object")) djdk_31_10_13 rfl rfl rfl rfl (by decide) (by decide) (fun V' cv => ⟨rfl, rfl⟩)
theorem ef_islat (m : MethodId) (xa : Addr) : entryFrame m #[(.ref xa)] 1 = mkF m 0 #[.val (.ref xa)] [] := by first | (simp [entryFrame, mkF, argsToLocals, Value.category]; done) | rfl
set_option maxRecDepth 65536 in
set_option maxHeartbeats 40000000 in
theorem islat (l : Launch) (Z : State) (a0 : Array Value) (n0 : Nat) (hw : ∀ d ∈ tables_1, d.before a0 Z = true) (hEL : EW Z a0 consts_1) (G1 : Int32) (O1 : Sta Z Z.heap "java/lang/String" "COMPACT_STRINGS" "Z" (.int G1)) (P1 : ¬ (G1 = (0 : Int32))) (G3 : Value) (O3 : Sta Z Z.heap "jdk/internal/util/Preconditions" "SIOOBE_FORMATTER" "Ljava/util/function/BiFunction;" G3) (rG3 : G3.isRef = true) (oe up lo di sy : Addr) (O5 : Sta Z Z.heap "java/util/Optional" "EMPTY" "Ljava/util/Optional;" (.ref oe)) (E5 : Exa Z Z.heap oe "java/util/Optional") (F5 : Fld Z Z.heap oe "java/util/Optional" "value" "Ljava/lang/Object;" .null) (O_up : Sta Z Z.heap "com/example/lokit/lokit/password/CharacterClass" "UPPER_CASE" "Lcom/example/lokit/lokit/password/CharacterClass;" (.ref up)) (O_lo : Sta Z Z.heap "com/example/lokit/lokit/password/CharacterClass" "LOWER_CASE" "Lcom/example/lokit/lokit/password/CharacterClass;" (.ref lo)) (O_di : Sta Z Z.heap "com/example/lokit/lokit/password/CharacterClass" "DIGIT" "Lcom/example/lokit/lokit/password/CharacterClass;" (.ref di)) (O_sy : Sta Z Z.heap "com/example/lokit/lokit/password/CharacterClass" "SYMBOL" "Lcom/example/lokit/lokit/password/CharacterClass;" (.ref sy)) (xa : Addr) (h0 : Heap) (hO : Old Z n0 h0) (F_xa_coder : Fld Z h0 xa "java/lang/String" "coder" "B" (.int (0 : Int32))) :
    Con l Z consts_1 n0 (⟨"java/lang/String", "isLatin1", "()Z"⟩ : MethodName) jdk_42_method_154_code 1 (some .boolean) ({ frames := 0, cells := 0, slots := 0, locals := 0 } : Room) #[(.ref xa)] h0 [] (fun v h V' => v = some (.int (1 : Int32)) ∧ h0 = h) [] := by
  refine Con.of (a0 := a0) pf8 (fun m => ef_islat m xa) all0 hO hEL ?_
  intro p e s m below meth c S0 hnm hsf W
  replace W := W.gets (pc' := 3) djdk_42_154_0 (tw18 hw) O1 rfl
  replace W := W.ifF (pc' := 6) djdk_42_154_3 (feq P1).1 rfl
  replace W := W.aloadN (pc' := 7) djdk_42_154_6 rfl rfl rfl
  replace W := W.getf (pc' := 10) djdk_42_154_7 (tw30 hw) Via.refl F_xa_coder rfl
  replace W := W.ifF (pc' := 13) djdk_42_154_10 (teq (by decide : (0 : Int32) = (0 : Int32))).2 rfl
  replace W := W.iconst (pc' := 14) (v := (1 : Int32)) djdk_42_154_13 rfl rfl
  replace W := W.goto (pc' := 18) djdk_42_154_14 (by decide) (by decide)
  exact W.iret (t := .boolean) djdk_42_154_18 rfl (by simp) (by decide) (by decide) (by decide) (fun V' cv => ⟨rfl, rfl⟩)
theorem ef_coder_c (m : MethodId) (xa : Addr) : entryFrame m #[(.ref xa)] 1 = mkF m 0 #[.val (.ref xa)] [] := by first | (simp [entryFrame, mkF, argsToLocals, Value.category]; done) | rfl
set_option maxRecDepth 65536 in
set_option maxHeartbeats 40000000 in
theorem coder_c (l : Launch) (Z : State) (a0 : Array Value) (n0 : Nat) (hw : ∀ d ∈ tables_1, d.before a0 Z = true) (hEL : EW Z a0 consts_1) (G1 : Int32) (O1 : Sta Z Z.heap "java/lang/String" "COMPACT_STRINGS" "Z" (.int G1)) (P1 : ¬ (G1 = (0 : Int32))) (G3 : Value) (O3 : Sta Z Z.heap "jdk/internal/util/Preconditions" "SIOOBE_FORMATTER" "Ljava/util/function/BiFunction;" G3) (rG3 : G3.isRef = true) (oe up lo di sy : Addr) (O5 : Sta Z Z.heap "java/util/Optional" "EMPTY" "Ljava/util/Optional;" (.ref oe)) (E5 : Exa Z Z.heap oe "java/util/Optional") (F5 : Fld Z Z.heap oe "java/util/Optional" "value" "Ljava/lang/Object;" .null) (O_up : Sta Z Z.heap "com/example/lokit/lokit/password/CharacterClass" "UPPER_CASE" "Lcom/example/lokit/lokit/password/CharacterClass;" (.ref up)) (O_lo : Sta Z Z.heap "com/example/lokit/lokit/password/CharacterClass" "LOWER_CASE" "Lcom/example/lokit/lokit/password/CharacterClass;" (.ref lo)) (O_di : Sta Z Z.heap "com/example/lokit/lokit/password/CharacterClass" "DIGIT" "Lcom/example/lokit/lokit/password/CharacterClass;" (.ref di)) (O_sy : Sta Z Z.heap "com/example/lokit/lokit/password/CharacterClass" "SYMBOL" "Lcom/example/lokit/lokit/password/CharacterClass;" (.ref sy)) (xa : Addr) (h0 : Heap) (hO : Old Z n0 h0) (F_xa_coder : Fld Z h0 xa "java/lang/String" "coder" "B" (.int (0 : Int32))) :
    Con l Z consts_1 n0 (⟨"java/lang/String", "coder", "()B"⟩ : MethodName) jdk_42_method_152_code 1 (some .byte) ({ frames := 0, cells := 0, slots := 0, locals := 0 } : Room) #[(.ref xa)] h0 [] (fun v h V' => v = some (.int (0 : Int32)) ∧ h0 = h) [] := by
  refine Con.of (a0 := a0) pf9 (fun m => ef_coder_c m xa) all0 hO hEL ?_
  intro p e s m below meth c S0 hnm hsf W
  replace W := W.gets (pc' := 3) djdk_42_152_0 (tw18 hw) O1 rfl
  replace W := W.ifF (pc' := 6) djdk_42_152_3 (feq P1).1 rfl
  replace W := W.aloadN (pc' := 7) djdk_42_152_6 rfl rfl rfl
  replace W := W.getf (pc' := 10) djdk_42_152_7 (tw30 hw) Via.refl F_xa_coder rfl
  replace W := W.goto (pc' := 14) djdk_42_152_10 (by decide) (by decide)
  exact W.iret (t := .byte) djdk_42_152_14 rfl (by simp) (by decide) (by decide) (by decide) (fun V' cv => ⟨rfl, rfl⟩)
theorem ef_opt_empty (m : MethodId)  : entryFrame m #[] 1 = mkF m 0 #[.unset] [] := by first | (simp [entryFrame, mkF, argsToLocals, Value.category]; done) | rfl
set_option maxRecDepth 65536 in
set_option maxHeartbeats 40000000 in
theorem opt_empty (l : Launch) (Z : State) (a0 : Array Value) (n0 : Nat) (hw : ∀ d ∈ tables_1, d.before a0 Z = true) (hEL : EW Z a0 consts_1) (G1 : Int32) (O1 : Sta Z Z.heap "java/lang/String" "COMPACT_STRINGS" "Z" (.int G1)) (P1 : ¬ (G1 = (0 : Int32))) (G3 : Value) (O3 : Sta Z Z.heap "jdk/internal/util/Preconditions" "SIOOBE_FORMATTER" "Ljava/util/function/BiFunction;" G3) (rG3 : G3.isRef = true) (oe up lo di sy : Addr) (O5 : Sta Z Z.heap "java/util/Optional" "EMPTY" "Ljava/util/Optional;" (.ref oe)) (E5 : Exa Z Z.heap oe "java/util/Optional") (F5 : Fld Z Z.heap oe "java/util/Optional" "value" "Ljava/lang/Object;" .null) (O_up : Sta Z Z.heap "com/example/lokit/lokit/password/CharacterClass" "UPPER_CASE" "Lcom/example/lokit/lokit/password/CharacterClass;" (.ref up)) (O_lo : Sta Z Z.heap "com/example/lokit/lokit/password/CharacterClass" "LOWER_CASE" "Lcom/example/lokit/lokit/password/CharacterClass;" (.ref lo)) (O_di : Sta Z Z.heap "com/example/lokit/lokit/password/CharacterClass" "DIGIT" "Lcom/example/lokit/lokit/password/CharacterClass;" (.ref di)) (O_sy : Sta Z Z.heap "com/example/lokit/lokit/password/CharacterClass" "SYMBOL" "Lcom/example/lokit/lokit/password/CharacterClass;" (.ref sy))  (h0 : Heap) (hO : Old Z n0 h0)  :
    Con l Z consts_1 n0 (⟨"java/util/Optional", "empty", "()Ljava/util/Optional;"⟩ : MethodName) jdk_32_method_1_code 1 (some (.object "java/util/Optional")) ({ frames := 0, cells := 0, slots := 0, locals := 0 } : Room) #[] h0 [] (fun v h V' => v = some (.ref oe) ∧ h0 = h) [] := by
  refine Con.of (a0 := a0) pf10 (fun m => ef_opt_empty m ) all0 hO hEL ?_
  intro p e s m below meth c S0 hnm hsf W
  replace W := W.gets (pc' := 3) djdk_32_1_0 (tw87 hw) O5 rfl
  replace W := W.astoreN (pc' := 4) (L' := #[.val (.ref oe)]) djdk_32_1_3 rfl rfl rfl
  replace W := W.aloadN (pc' := 5) djdk_32_1_4 rfl rfl rfl
  exact W.aret (t := (.object "java/util/Optional")) djdk_32_1_5 rfl rfl rfl rfl (by decide) (by decide) (fun V' cv => ⟨rfl, rfl⟩)
theorem ef_opt_init (m : MethodId) (oa : Addr) (va : Addr) : entryFrame m #[(.ref oa), (.ref va)] 2 = mkF m 0 #[.val (.ref oa), .val (.ref va)] [] := by first | (simp [entryFrame, mkF, argsToLocals, Value.category]; done) | rfl
set_option maxRecDepth 65536 in
set_option maxHeartbeats 40000000 in
theorem opt_init (l : Launch) (Z : State) (a0 : Array Value) (n0 : Nat) (hw : ∀ d ∈ tables_1, d.before a0 Z = true) (hEL : EW Z a0 consts_1) (G1 : Int32) (O1 : Sta Z Z.heap "java/lang/String" "COMPACT_STRINGS" "Z" (.int G1)) (P1 : ¬ (G1 = (0 : Int32))) (G3 : Value) (O3 : Sta Z Z.heap "jdk/internal/util/Preconditions" "SIOOBE_FORMATTER" "Ljava/util/function/BiFunction;" G3) (rG3 : G3.isRef = true) (oe up lo di sy : Addr) (O5 : Sta Z Z.heap "java/util/Optional" "EMPTY" "Ljava/util/Optional;" (.ref oe)) (E5 : Exa Z Z.heap oe "java/util/Optional") (F5 : Fld Z Z.heap oe "java/util/Optional" "value" "Ljava/lang/Object;" .null) (O_up : Sta Z Z.heap "com/example/lokit/lokit/password/CharacterClass" "UPPER_CASE" "Lcom/example/lokit/lokit/password/CharacterClass;" (.ref up)) (O_lo : Sta Z Z.heap "com/example/lokit/lokit/password/CharacterClass" "LOWER_CASE" "Lcom/example/lokit/lokit/password/CharacterClass;" (.ref lo)) (O_di : Sta Z Z.heap "com/example/lokit/lokit/password/CharacterClass" "DIGIT" "Lcom/example/lokit/lokit/password/CharacterClass;" (.ref di)) (O_sy : Sta Z Z.heap "com/example/lokit/lokit/password/CharacterClass" "SYMBOL" "Lcom/example/lokit/lokit/password/CharacterClass;" (.ref sy)) (oa : Addr) (va : Addr) (h0 : Heap) (hO : Old Z n0 h0) (E_oa : Exa Z h0 oa "java/util/Optional") (F_oa_value : Fld Z h0 oa "java/util/Optional" "value" "Ljava/lang/Object;" .null) (g_oa : n0 ≤ oa) :
    Con l Z consts_1 n0 (⟨"java/util/Optional", "<init>", "(Ljava/lang/Object;)V"⟩ : MethodName) jdk_32_method_2_code 2 none ({ frames := 1, cells := 0, slots := 0, locals := 12 } : Room) #[(.ref oa), (.ref va)] h0 [oa] (fun v h V' => v = none ∧ Exa Z h oa "java/util/Optional" ∧ Fld Z h oa "java/util/Optional" "value" "Ljava/lang/Object;" (.ref va)) [] := by
  refine Con.of (a0 := a0) pf11 (fun m => ef_opt_init m oa va) (allS g_oa all0) hO hEL ?_
  intro p e s m below meth c S0 hnm hsf W
  replace W := W.aloadN (pc' := 1) djdk_32_2_0 rfl rfl rfl
  replace W := W.initO (pc' := 4) (Wd := 0) djdk_32_2_1 (tw147 hw) (tw16 hw) (tw17 hw) rfl rfl (by decide) (by decide) rfl
  replace W := W.aloadN (pc' := 5) djdk_32_2_4 rfl rfl rfl
  replace W := W.aloadN (pc' := 6) djdk_32_2_5 rfl rfl rfl
  obtain ⟨h1, W1, w1, SF1⟩ := W.putf (pc' := 9) (ty := (.object "java/lang/Object")) djdk_32_2_6 (tw93 hw) Via.refl F_oa_value E_oa (Or.inr ⟨(tw94 hw), rfl, hnm⟩) (tw139 hw) (by decide) rfl rfl (W.safeE E_oa (by decide) (by decide)) (Or.inl (List.mem_of_getElem? (i := 0) rfl)) rfl
  clear W
  have z1 : h0.size ≤ h1.size := Nat.le_of_eq w1.size.symm
  have f1 := F_oa_value.same w1
  have e2 := (E_oa.wr w1)
  exact W1.vret djdk_32_2_9 rfl (by decide) (by decide) (fun V' cv => ⟨rfl, e2, f1⟩)
theorem ef_opt_of (m : MethodId) (va : Addr) : entryFrame m #[(.ref va)] 1 = mkF m 0 #[.val (.ref va)] [] := by first | (simp [entryFrame, mkF, argsToLocals, Value.category]; done) | rfl
set_option maxRecDepth 65536 in
set_option maxHeartbeats 40000000 in
theorem opt_of (l : Launch) (Z : State) (a0 : Array Value) (n0 : Nat) (hw : ∀ d ∈ tables_1, d.before a0 Z = true) (hEL : EW Z a0 consts_1) (G1 : Int32) (O1 : Sta Z Z.heap "java/lang/String" "COMPACT_STRINGS" "Z" (.int G1)) (P1 : ¬ (G1 = (0 : Int32))) (G3 : Value) (O3 : Sta Z Z.heap "jdk/internal/util/Preconditions" "SIOOBE_FORMATTER" "Ljava/util/function/BiFunction;" G3) (rG3 : G3.isRef = true) (oe up lo di sy : Addr) (O5 : Sta Z Z.heap "java/util/Optional" "EMPTY" "Ljava/util/Optional;" (.ref oe)) (E5 : Exa Z Z.heap oe "java/util/Optional") (F5 : Fld Z Z.heap oe "java/util/Optional" "value" "Ljava/lang/Object;" .null) (O_up : Sta Z Z.heap "com/example/lokit/lokit/password/CharacterClass" "UPPER_CASE" "Lcom/example/lokit/lokit/password/CharacterClass;" (.ref up)) (O_lo : Sta Z Z.heap "com/example/lokit/lokit/password/CharacterClass" "LOWER_CASE" "Lcom/example/lokit/lokit/password/CharacterClass;" (.ref lo)) (O_di : Sta Z Z.heap "com/example/lokit/lokit/password/CharacterClass" "DIGIT" "Lcom/example/lokit/lokit/password/CharacterClass;" (.ref di)) (O_sy : Sta Z Z.heap "com/example/lokit/lokit/password/CharacterClass" "SYMBOL" "Lcom/example/lokit/lokit/password/CharacterClass;" (.ref sy)) (va : Addr) (h0 : Heap) (hO : Old Z n0 h0)  :
    Con l Z consts_1 n0 (⟨"java/util/Optional", "of", "(Ljava/lang/Object;)Ljava/util/Optional;"⟩ : MethodName) jdk_32_method_3_code 1 (some (.object "java/util/Optional")) ({ frames := 2, cells := 1, slots := 1, locals := 26 } : Room) #[(.ref va)] h0 [] (fun v h V' => ∃ (r : Addr), v = some (.ref r) ∧ Exa Z h r "java/util/Optional" ∧ Fld Z h r "java/util/Optional" "value" "Ljava/lang/Object;" (.ref va)) [] := by
  refine Con.of (a0 := a0) pf12 (fun m => ef_opt_of m va) all0 hO hEL ?_
  intro p e s m below meth c S0 hnm hsf W
  obtain ⟨h1, a1, W1, E1, g1, ⟨A1, D1, U1⟩, sf1, SF1⟩ := W.new (pc' := 3) (cells' := 1) (slots' := 1) djdk_32_3_0 (tw138 hw) (tw139 hw) (tw85 hw) rfl rfl rfl (by decide) (by decide)
  clear W
  rw [← g1] at A1 D1 U1
  have z1 : h0.size ≤ h1.size := E1.1
  replace W1 := W1.dup (pc' := 4) djdk_32_3_3 rfl rfl
  replace W1 := W1.aloadN (pc' := 5) djdk_32_3_4 rfl rfl rfl
  obtain ⟨V2, h2, r2, W2, K2, hQ2, SF2⟩ := W1.callS (pc' := 8) (argsL := [(.ref va)]) (rest := [(.ref a1), (.ref a1)]) (Wd := 2) (cells' := 1) (slots' := 1) (y := (⟨"java/util/Objects", "requireNonNull", "(Ljava/lang/Object;)Ljava/lang/Object;"⟩ : MethodName)) djdk_32_3_5 (rnn1 l Z a0 n0 hw hEL G1 O1 P1 G3 O3 rG3 oe up lo di sy O5 E5 F5 O_up O_lo O_di O_sy va h1 W1.old) (tw140 hw) (tw141 hw) (tw46 hw) (tw142 hw) (by decide) (lenOf pd4 rfl) rfl rfl (by decide) (by decide) rfl sf0 all0 rfl rfl rfl (by decide) (by decide)
  clear W1
  obtain ⟨rfl, hs2⟩ := hQ2
  subst hs2
  replace W2 := W2.cast (st' := [(.ref va), (.ref a1), (.ref a1)]) rfl
  obtain ⟨V3, h3, r3, W3, K3, hQ3, SF3⟩ := W2.callI (pc' := 11) (argsL := [(.ref va)]) (rest := [(.ref a1)]) (Wd := 1) (cells' := 1) (slots' := 1) (a := a1) (y := (⟨"java/util/Optional", "<init>", "(Ljava/lang/Object;)V"⟩ : MethodName)) djdk_32_3_8 (opt_init l Z a0 n0 hw hEL G1 O1 P1 G3 O3 rG3 oe up lo di sy O5 E5 F5 O_up O_lo O_di O_sy a1 va h1 W2.old A1 (D1 (Or.inr (tw94 hw)) (ty := (.object "java/lang/Object")) (by decide) : Fld Z h1 a1 "java/util/Optional" "value" "Ljava/lang/Object;" .null) (Nat.le_trans W2.1.2.2.2.2.2.2.2.1 (Nat.le_of_eq g1.symm))) rfl (tw143 hw) (tw144 hw) (tw85 hw) (tw146 hw) (by decide) (lenOf pd5 rfl) rfl rfl (by decide) (by decide) rfl (sfS (W2.safeE A1 (by decide) (by decide)) sf0) (allS (Or.inr (Nat.le_of_eq g1.symm)) all0) rfl rfl rfl (by decide) (by decide)
  clear W2
  obtain ⟨rfl, q3_1, q3_2⟩ := hQ3
  have z3 : h1.size ≤ h3.size := K3.1
  replace W3 := W3.cast (st' := [(.ref a1)]) rfl
  exact W3.aret (t := (.object "java/util/Optional")) djdk_32_3_11 rfl rfl rfl rfl (by decide) (by decide) (fun V' cv => ⟨a1, rfl, q3_1, q3_2⟩)
theorem ef_isp_1 (m : MethodId) (oa : Addr) (va : Addr) : entryFrame m #[(.ref oa)] 1 = mkF m 0 #[.val (.ref oa)] [] := by first | (simp [entryFrame, mkF, argsToLocals, Value.category]; done) | rfl
set_option maxRecDepth 65536 in
set_option maxHeartbeats 40000000 in
theorem isp_1 (l : Launch) (Z : State) (a0 : Array Value) (n0 : Nat) (hw : ∀ d ∈ tables_1, d.before a0 Z = true) (hEL : EW Z a0 consts_1) (G1 : Int32) (O1 : Sta Z Z.heap "java/lang/String" "COMPACT_STRINGS" "Z" (.int G1)) (P1 : ¬ (G1 = (0 : Int32))) (G3 : Value) (O3 : Sta Z Z.heap "jdk/internal/util/Preconditions" "SIOOBE_FORMATTER" "Ljava/util/function/BiFunction;" G3) (rG3 : G3.isRef = true) (oe up lo di sy : Addr) (O5 : Sta Z Z.heap "java/util/Optional" "EMPTY" "Ljava/util/Optional;" (.ref oe)) (E5 : Exa Z Z.heap oe "java/util/Optional") (F5 : Fld Z Z.heap oe "java/util/Optional" "value" "Ljava/lang/Object;" .null) (O_up : Sta Z Z.heap "com/example/lokit/lokit/password/CharacterClass" "UPPER_CASE" "Lcom/example/lokit/lokit/password/CharacterClass;" (.ref up)) (O_lo : Sta Z Z.heap "com/example/lokit/lokit/password/CharacterClass" "LOWER_CASE" "Lcom/example/lokit/lokit/password/CharacterClass;" (.ref lo)) (O_di : Sta Z Z.heap "com/example/lokit/lokit/password/CharacterClass" "DIGIT" "Lcom/example/lokit/lokit/password/CharacterClass;" (.ref di)) (O_sy : Sta Z Z.heap "com/example/lokit/lokit/password/CharacterClass" "SYMBOL" "Lcom/example/lokit/lokit/password/CharacterClass;" (.ref sy)) (oa : Addr) (va : Addr) (h0 : Heap) (hO : Old Z n0 h0) (F_oa_value : Fld Z h0 oa "java/util/Optional" "value" "Ljava/lang/Object;" (.ref va)) :
    Con l Z consts_1 n0 (⟨"java/util/Optional", "isPresent", "()Z"⟩ : MethodName) jdk_32_method_6_code 1 (some .boolean) ({ frames := 0, cells := 0, slots := 0, locals := 0 } : Room) #[(.ref oa)] h0 [] (fun v h V' => v = some (.int (1 : Int32)) ∧ h0 = h) [] := by
  refine Con.of (a0 := a0) pf13 (fun m => ef_isp_1 m oa va) all0 hO hEL ?_
  intro p e s m below meth c S0 hnm hsf W
  replace W := W.aloadN (pc' := 1) djdk_32_6_0 rfl rfl rfl
  replace W := W.getf (pc' := 4) djdk_32_6_1 (tw93 hw) Via.refl F_oa_value rfl
  replace W := W.ifnullF (pc' := 7) djdk_32_6_4 rfl
  replace W := W.iconst (pc' := 8) (v := (1 : Int32)) djdk_32_6_7 rfl rfl
  replace W := W.goto (pc' := 12) djdk_32_6_8 (by decide) (by decide)
  exact W.iret (t := .boolean) djdk_32_6_12 rfl (by simp) (by decide) (by decide) (by decide) (fun V' cv => ⟨rfl, rfl⟩)
theorem ef_isp_0 (m : MethodId) (oa : Addr) : entryFrame m #[(.ref oa)] 1 = mkF m 0 #[.val (.ref oa)] [] := by first | (simp [entryFrame, mkF, argsToLocals, Value.category]; done) | rfl
set_option maxRecDepth 65536 in
set_option maxHeartbeats 40000000 in
theorem isp_0 (l : Launch) (Z : State) (a0 : Array Value) (n0 : Nat) (hw : ∀ d ∈ tables_1, d.before a0 Z = true) (hEL : EW Z a0 consts_1) (G1 : Int32) (O1 : Sta Z Z.heap "java/lang/String" "COMPACT_STRINGS" "Z" (.int G1)) (P1 : ¬ (G1 = (0 : Int32))) (G3 : Value) (O3 : Sta Z Z.heap "jdk/internal/util/Preconditions" "SIOOBE_FORMATTER" "Ljava/util/function/BiFunction;" G3) (rG3 : G3.isRef = true) (oe up lo di sy : Addr) (O5 : Sta Z Z.heap "java/util/Optional" "EMPTY" "Ljava/util/Optional;" (.ref oe)) (E5 : Exa Z Z.heap oe "java/util/Optional") (F5 : Fld Z Z.heap oe "java/util/Optional" "value" "Ljava/lang/Object;" .null) (O_up : Sta Z Z.heap "com/example/lokit/lokit/password/CharacterClass" "UPPER_CASE" "Lcom/example/lokit/lokit/password/CharacterClass;" (.ref up)) (O_lo : Sta Z Z.heap "com/example/lokit/lokit/password/CharacterClass" "LOWER_CASE" "Lcom/example/lokit/lokit/password/CharacterClass;" (.ref lo)) (O_di : Sta Z Z.heap "com/example/lokit/lokit/password/CharacterClass" "DIGIT" "Lcom/example/lokit/lokit/password/CharacterClass;" (.ref di)) (O_sy : Sta Z Z.heap "com/example/lokit/lokit/password/CharacterClass" "SYMBOL" "Lcom/example/lokit/lokit/password/CharacterClass;" (.ref sy)) (oa : Addr) (h0 : Heap) (hO : Old Z n0 h0) (F_oa_value : Fld Z h0 oa "java/util/Optional" "value" "Ljava/lang/Object;" .null) :
    Con l Z consts_1 n0 (⟨"java/util/Optional", "isPresent", "()Z"⟩ : MethodName) jdk_32_method_6_code 1 (some .boolean) ({ frames := 0, cells := 0, slots := 0, locals := 0 } : Room) #[(.ref oa)] h0 [] (fun v h V' => v = some (.int (0 : Int32)) ∧ h0 = h) [] := by
  refine Con.of (a0 := a0) pf13 (fun m => ef_isp_0 m oa) all0 hO hEL ?_
  intro p e s m below meth c S0 hnm hsf W
  replace W := W.aloadN (pc' := 1) djdk_32_6_0 rfl rfl rfl
  replace W := W.getf (pc' := 4) djdk_32_6_1 (tw93 hw) Via.refl F_oa_value rfl
  replace W := W.ifnullT (pc' := 11) djdk_32_6_4 (by decide) (by decide)
  replace W := W.iconst (pc' := 12) (v := (0 : Int32)) djdk_32_6_11 rfl rfl
  exact W.iret (t := .boolean) djdk_32_6_12 rfl (by simp) (by decide) (by decide) (by decide) (fun V' cv => ⟨rfl, rfl⟩)
theorem ef_opt_get (m : MethodId) (oa : Addr) (va : Addr) : entryFrame m #[(.ref oa)] 1 = mkF m 0 #[.val (.ref oa)] [] := by first | (simp [entryFrame, mkF, argsToLocals, Value.category]; done) | rfl
set_option maxRecDepth 65536 in
set_option maxHeartbeats 40000000 in
theorem opt_get (l : Launch) (Z : State) (a0 : Array Value) (n0 : Nat) (hw : ∀ d ∈ tables_1, d.before a0 Z = true) (hEL : EW Z a0 consts_1) (G1 : Int32) (O1 : Sta Z Z.heap "java/lang/String" "COMPACT_STRINGS" "Z" (.int G1)) (P1 : ¬ (G1 = (0 : Int32))) (G3 : Value) (O3 : Sta Z Z.heap "jdk/internal/util/Preconditions" "SIOOBE_FORMATTER" "Ljava/util/function/BiFunction;" G3) (rG3 : G3.isRef = true) (oe up lo di sy : Addr) (O5 : Sta Z Z.heap "java/util/Optional" "EMPTY" "Ljava/util/Optional;" (.ref oe)) (E5 : Exa Z Z.heap oe "java/util/Optional") (F5 : Fld Z Z.heap oe "java/util/Optional" "value" "Ljava/lang/Object;" .null) (O_up : Sta Z Z.heap "com/example/lokit/lokit/password/CharacterClass" "UPPER_CASE" "Lcom/example/lokit/lokit/password/CharacterClass;" (.ref up)) (O_lo : Sta Z Z.heap "com/example/lokit/lokit/password/CharacterClass" "LOWER_CASE" "Lcom/example/lokit/lokit/password/CharacterClass;" (.ref lo)) (O_di : Sta Z Z.heap "com/example/lokit/lokit/password/CharacterClass" "DIGIT" "Lcom/example/lokit/lokit/password/CharacterClass;" (.ref di)) (O_sy : Sta Z Z.heap "com/example/lokit/lokit/password/CharacterClass" "SYMBOL" "Lcom/example/lokit/lokit/password/CharacterClass;" (.ref sy)) (oa : Addr) (va : Addr) (h0 : Heap) (hO : Old Z n0 h0) (F_oa_value : Fld Z h0 oa "java/util/Optional" "value" "Ljava/lang/Object;" (.ref va)) :
    Con l Z consts_1 n0 (⟨"java/util/Optional", "get", "()Ljava/lang/Object;"⟩ : MethodName) jdk_32_method_5_code 1 (some (.object "java/lang/Object")) ({ frames := 0, cells := 0, slots := 0, locals := 0 } : Room) #[(.ref oa)] h0 [] (fun v h V' => v = some (.ref va) ∧ h0 = h) [] := by
  refine Con.of (a0 := a0) pf14 (fun m => ef_opt_get m oa va) all0 hO hEL ?_
  intro p e s m below meth c S0 hnm hsf W
  replace W := W.aloadN (pc' := 1) djdk_32_5_0 rfl rfl rfl
  replace W := W.getf (pc' := 4) djdk_32_5_1 (tw93 hw) Via.refl F_oa_value rfl
  replace W := W.ifnonnullT (pc' := 17) djdk_32_5_4 (by decide) (by decide)
  replace W := W.aloadN (pc' := 18) djdk_32_5_17 rfl rfl rfl
  replace W := W.getf (pc' := 21) djdk_32_5_18 (tw93 hw) Via.refl F_oa_value rfl
  exact W.aret (t := (.object "java/lang/Object")) djdk_32_5_21 rfl rfl rfl rfl (by decide) (by decide) (fun V' cv => ⟨rfl, rfl⟩)
theorem ef_lod_U (m : MethodId) (cp : Int32) : entryFrame m #[(.int cp)] 1 = mkF m 0 #[.val (.int cp)] [] := by first | (simp [entryFrame, mkF, argsToLocals, Value.category]; done) | rfl
set_option maxRecDepth 65536 in
set_option maxHeartbeats 40000000 in
theorem lod_U (l : Launch) (Z : State) (a0 : Array Value) (n0 : Nat) (hw : ∀ d ∈ tables_1, d.before a0 Z = true) (hEL : EW Z a0 consts_1) (G1 : Int32) (O1 : Sta Z Z.heap "java/lang/String" "COMPACT_STRINGS" "Z" (.int G1)) (P1 : ¬ (G1 = (0 : Int32))) (G3 : Value) (O3 : Sta Z Z.heap "jdk/internal/util/Preconditions" "SIOOBE_FORMATTER" "Ljava/util/function/BiFunction;" G3) (rG3 : G3.isRef = true) (oe up lo di sy : Addr) (O5 : Sta Z Z.heap "java/util/Optional" "EMPTY" "Ljava/util/Optional;" (.ref oe)) (E5 : Exa Z Z.heap oe "java/util/Optional") (F5 : Fld Z Z.heap oe "java/util/Optional" "value" "Ljava/lang/Object;" .null) (O_up : Sta Z Z.heap "com/example/lokit/lokit/password/CharacterClass" "UPPER_CASE" "Lcom/example/lokit/lokit/password/CharacterClass;" (.ref up)) (O_lo : Sta Z Z.heap "com/example/lokit/lokit/password/CharacterClass" "LOWER_CASE" "Lcom/example/lokit/lokit/password/CharacterClass;" (.ref lo)) (O_di : Sta Z Z.heap "com/example/lokit/lokit/password/CharacterClass" "DIGIT" "Lcom/example/lokit/lokit/password/CharacterClass;" (.ref di)) (O_sy : Sta Z Z.heap "com/example/lokit/lokit/password/CharacterClass" "SYMBOL" "Lcom/example/lokit/lokit/password/CharacterClass;" (.ref sy)) (cp : Int32) (h0 : Heap) (hO : Old Z n0 h0) (u1 : ¬ cp < (65 : Int32)) (u2 : ¬ (90 : Int32) < cp) :
    Con l Z consts_1 n0 (⟨"com/example/lokit/lokit/password/PasswordAlphabet", "letterOrDigitClassOf", "(I)Ljava/util/Optional;"⟩ : MethodName) prog_12_method_3_code 1 (some (.object "java/util/Optional")) ({ frames := 3, cells := 1, slots := 1, locals := 38 } : Room) #[(.int cp)] h0 [] (fun v h V' => ∃ (r : Addr), v = some (.ref r) ∧ Exa Z h r "java/util/Optional" ∧ Fld Z h r "java/util/Optional" "value" "Ljava/lang/Object;" (.ref up)) [] := by
  refine Con.of (a0 := a0) pf15 (fun m => ef_lod_U m cp) all0 hO hEL ?_
  intro p e s m below meth c S0 hnm hsf W
  replace W := W.iloadN (pc' := 1) dprog_12_3_0 rfl rfl
  replace W := W.bipush (pc' := 3) (v := (65 : Int32)) dprog_12_3_1 rfl rfl
  replace W := W.icmpF (pc' := 6) dprog_12_3_3 (flt u1).1 rfl
  replace W := W.iloadN (pc' := 7) dprog_12_3_6 rfl rfl
  replace W := W.bipush (pc' := 9) (v := (90 : Int32)) dprog_12_3_7 rfl rfl
  replace W := W.icmpF (pc' := 12) dprog_12_3_9 (flt u2).2.2.1 rfl
  replace W := W.gets (pc' := 15) dprog_12_3_12 (tw161 hw) O_up rfl
  obtain ⟨V1, h1, r1, W1, K1, hQ1, SF1⟩ := W.callS (pc' := 18) (argsL := [(.ref up)]) (rest := []) (Wd := 0) (cells' := 1) (slots' := 1) (y := (⟨"java/util/Optional", "of", "(Ljava/lang/Object;)Ljava/util/Optional;"⟩ : MethodName)) dprog_12_3_15 (opt_of l Z a0 n0 hw hEL G1 O1 P1 G3 O3 rG3 oe up lo di sy O5 E5 F5 O_up O_lo O_di O_sy up h0 W.old) (tw135 hw) (tw136 hw) (tw85 hw) (tw137 hw) (by decide) (lenOf pd6 rfl) rfl rfl (by decide) (by decide) rfl sf0 all0 rfl rfl rfl (by decide) (by decide)
  clear W
  obtain ⟨r1, rfl, q1_1, q1_2⟩ := hQ1
  have z1 : h0.size ≤ h1.size := K1.1
  replace W1 := W1.cast (st' := [(.ref r1)]) rfl
  exact W1.aret (t := (.object "java/util/Optional")) dprog_12_3_18 rfl rfl rfl rfl (by decide) (by decide) (fun V' cv => ⟨r1, rfl, q1_1, q1_2⟩)
theorem ef_lod_L (m : MethodId) (cp : Int32) : entryFrame m #[(.int cp)] 1 = mkF m 0 #[.val (.int cp)] [] := by first | (simp [entryFrame, mkF, argsToLocals, Value.category]; done) | rfl
set_option maxRecDepth 65536 in
set_option maxHeartbeats 40000000 in
theorem lod_L (l : Launch) (Z : State) (a0 : Array Value) (n0 : Nat) (hw : ∀ d ∈ tables_1, d.before a0 Z = true) (hEL : EW Z a0 consts_1) (G1 : Int32) (O1 : Sta Z Z.heap "java/lang/String" "COMPACT_STRINGS" "Z" (.int G1)) (P1 : ¬ (G1 = (0 : Int32))) (G3 : Value) (O3 : Sta Z Z.heap "jdk/internal/util/Preconditions" "SIOOBE_FORMATTER" "Ljava/util/function/BiFunction;" G3) (rG3 : G3.isRef = true) (oe up lo di sy : Addr) (O5 : Sta Z Z.heap "java/util/Optional" "EMPTY" "Ljava/util/Optional;" (.ref oe)) (E5 : Exa Z Z.heap oe "java/util/Optional") (F5 : Fld Z Z.heap oe "java/util/Optional" "value" "Ljava/lang/Object;" .null) (O_up : Sta Z Z.heap "com/example/lokit/lokit/password/CharacterClass" "UPPER_CASE" "Lcom/example/lokit/lokit/password/CharacterClass;" (.ref up)) (O_lo : Sta Z Z.heap "com/example/lokit/lokit/password/CharacterClass" "LOWER_CASE" "Lcom/example/lokit/lokit/password/CharacterClass;" (.ref lo)) (O_di : Sta Z Z.heap "com/example/lokit/lokit/password/CharacterClass" "DIGIT" "Lcom/example/lokit/lokit/password/CharacterClass;" (.ref di)) (O_sy : Sta Z Z.heap "com/example/lokit/lokit/password/CharacterClass" "SYMBOL" "Lcom/example/lokit/lokit/password/CharacterClass;" (.ref sy)) (cp : Int32) (h0 : Heap) (hO : Old Z n0 h0) (k1 : ¬ cp < (97 : Int32)) (k2 : ¬ (122 : Int32) < cp) :
    Con l Z consts_1 n0 (⟨"com/example/lokit/lokit/password/PasswordAlphabet", "letterOrDigitClassOf", "(I)Ljava/util/Optional;"⟩ : MethodName) prog_12_method_3_code 1 (some (.object "java/util/Optional")) ({ frames := 3, cells := 1, slots := 1, locals := 38 } : Room) #[(.int cp)] h0 [] (fun v h V' => ∃ (r : Addr), v = some (.ref r) ∧ Exa Z h r "java/util/Optional" ∧ Fld Z h r "java/util/Optional" "value" "Ljava/lang/Object;" (.ref lo)) [] := by
  refine Con.of (a0 := a0) pf15 (fun m => ef_lod_L m cp) all0 hO hEL ?_
  intro p e s m below meth c S0 hnm hsf W
  replace W := W.iloadN (pc' := 1) dprog_12_3_0 rfl rfl
  replace W := W.bipush (pc' := 3) (v := (65 : Int32)) dprog_12_3_1 rfl rfl
  replace W := W.icmpF (pc' := 6) dprog_12_3_3 (flt (own_not_lt k1 (by decide))).1 rfl
  replace W := W.iloadN (pc' := 7) dprog_12_3_6 rfl rfl
  replace W := W.bipush (pc' := 9) (v := (90 : Int32)) dprog_12_3_7 rfl rfl
  replace W := W.icmpT (pc' := 19) dprog_12_3_9 (tlt (own_lt_trans (by decide) k1)).2.2.1 (by decide) (by decide)
  replace W := W.iloadN (pc' := 20) dprog_12_3_19 rfl rfl
  replace W := W.bipush (pc' := 22) (v := (97 : Int32)) dprog_12_3_20 rfl rfl
  replace W := W.icmpF (pc' := 25) dprog_12_3_22 (flt k1).1 rfl
  replace W := W.iloadN (pc' := 26) dprog_12_3_25 rfl rfl
  replace W := W.bipush (pc' := 28) (v := (122 : Int32)) dprog_12_3_26 rfl rfl
  replace W := W.icmpF (pc' := 31) dprog_12_3_28 (flt k2).2.2.1 rfl
  replace W := W.gets (pc' := 34) dprog_12_3_31 (tw155 hw) O_lo rfl
  obtain ⟨V1, h1, r1, W1, K1, hQ1, SF1⟩ := W.callS (pc' := 37) (argsL := [(.ref lo)]) (rest := []) (Wd := 0) (cells' := 1) (slots' := 1) (y := (⟨"java/util/Optional", "of", "(Ljava/lang/Object;)Ljava/util/Optional;"⟩ : MethodName)) dprog_12_3_34 (opt_of l Z a0 n0 hw hEL G1 O1 P1 G3 O3 rG3 oe up lo di sy O5 E5 F5 O_up O_lo O_di O_sy lo h0 W.old) (tw135 hw) (tw136 hw) (tw85 hw) (tw137 hw) (by decide) (lenOf pd6 rfl) rfl rfl (by decide) (by decide) rfl sf0 all0 rfl rfl rfl (by decide) (by decide)
  clear W
  obtain ⟨r1, rfl, q1_1, q1_2⟩ := hQ1
  have z1 : h0.size ≤ h1.size := K1.1
  replace W1 := W1.cast (st' := [(.ref r1)]) rfl
  exact W1.aret (t := (.object "java/util/Optional")) dprog_12_3_37 rfl rfl rfl rfl (by decide) (by decide) (fun V' cv => ⟨r1, rfl, q1_1, q1_2⟩)
theorem ef_lod_D (m : MethodId) (cp : Int32) : entryFrame m #[(.int cp)] 1 = mkF m 0 #[.val (.int cp)] [] := by first | (simp [entryFrame, mkF, argsToLocals, Value.category]; done) | rfl
set_option maxRecDepth 65536 in
set_option maxHeartbeats 40000000 in
theorem lod_D (l : Launch) (Z : State) (a0 : Array Value) (n0 : Nat) (hw : ∀ d ∈ tables_1, d.before a0 Z = true) (hEL : EW Z a0 consts_1) (G1 : Int32) (O1 : Sta Z Z.heap "java/lang/String" "COMPACT_STRINGS" "Z" (.int G1)) (P1 : ¬ (G1 = (0 : Int32))) (G3 : Value) (O3 : Sta Z Z.heap "jdk/internal/util/Preconditions" "SIOOBE_FORMATTER" "Ljava/util/function/BiFunction;" G3) (rG3 : G3.isRef = true) (oe up lo di sy : Addr) (O5 : Sta Z Z.heap "java/util/Optional" "EMPTY" "Ljava/util/Optional;" (.ref oe)) (E5 : Exa Z Z.heap oe "java/util/Optional") (F5 : Fld Z Z.heap oe "java/util/Optional" "value" "Ljava/lang/Object;" .null) (O_up : Sta Z Z.heap "com/example/lokit/lokit/password/CharacterClass" "UPPER_CASE" "Lcom/example/lokit/lokit/password/CharacterClass;" (.ref up)) (O_lo : Sta Z Z.heap "com/example/lokit/lokit/password/CharacterClass" "LOWER_CASE" "Lcom/example/lokit/lokit/password/CharacterClass;" (.ref lo)) (O_di : Sta Z Z.heap "com/example/lokit/lokit/password/CharacterClass" "DIGIT" "Lcom/example/lokit/lokit/password/CharacterClass;" (.ref di)) (O_sy : Sta Z Z.heap "com/example/lokit/lokit/password/CharacterClass" "SYMBOL" "Lcom/example/lokit/lokit/password/CharacterClass;" (.ref sy)) (cp : Int32) (h0 : Heap) (hO : Old Z n0 h0) (d1 : ¬ cp < (48 : Int32)) (d2 : ¬ (57 : Int32) < cp) :
    Con l Z consts_1 n0 (⟨"com/example/lokit/lokit/password/PasswordAlphabet", "letterOrDigitClassOf", "(I)Ljava/util/Optional;"⟩ : MethodName) prog_12_method_3_code 1 (some (.object "java/util/Optional")) ({ frames := 3, cells := 1, slots := 1, locals := 38 } : Room) #[(.int cp)] h0 [] (fun v h V' => ∃ (r : Addr), v = some (.ref r) ∧ Exa Z h r "java/util/Optional" ∧ Fld Z h r "java/util/Optional" "value" "Ljava/lang/Object;" (.ref di)) [] := by
  refine Con.of (a0 := a0) pf15 (fun m => ef_lod_D m cp) all0 hO hEL ?_
  intro p e s m below meth c S0 hnm hsf W
  replace W := W.iloadN (pc' := 1) dprog_12_3_0 rfl rfl
  replace W := W.bipush (pc' := 3) (v := (65 : Int32)) dprog_12_3_1 rfl rfl
  replace W := W.icmpT (pc' := 19) dprog_12_3_3 (tlt (own_lt_not d2 (by decide))).1 (by decide) (by decide)
  replace W := W.iloadN (pc' := 20) dprog_12_3_19 rfl rfl
  replace W := W.bipush (pc' := 22) (v := (97 : Int32)) dprog_12_3_20 rfl rfl
  replace W := W.icmpT (pc' := 38) dprog_12_3_22 (tlt (own_lt_not d2 (by decide))).1 (by decide) (by decide)
  replace W := W.iloadN (pc' := 39) dprog_12_3_38 rfl rfl
  replace W := W.bipush (pc' := 41) (v := (48 : Int32)) dprog_12_3_39 rfl rfl
  replace W := W.icmpF (pc' := 44) dprog_12_3_41 (flt d1).1 rfl
  replace W := W.iloadN (pc' := 45) dprog_12_3_44 rfl rfl
  replace W := W.bipush (pc' := 47) (v := (57 : Int32)) dprog_12_3_45 rfl rfl
  replace W := W.icmpF (pc' := 50) dprog_12_3_47 (flt d2).2.2.1 rfl
  replace W := W.gets (pc' := 53) dprog_12_3_50 (tw158 hw) O_di rfl
  obtain ⟨V1, h1, r1, W1, K1, hQ1, SF1⟩ := W.callS (pc' := 56) (argsL := [(.ref di)]) (rest := []) (Wd := 0) (cells' := 1) (slots' := 1) (y := (⟨"java/util/Optional", "of", "(Ljava/lang/Object;)Ljava/util/Optional;"⟩ : MethodName)) dprog_12_3_53 (opt_of l Z a0 n0 hw hEL G1 O1 P1 G3 O3 rG3 oe up lo di sy O5 E5 F5 O_up O_lo O_di O_sy di h0 W.old) (tw135 hw) (tw136 hw) (tw85 hw) (tw137 hw) (by decide) (lenOf pd6 rfl) rfl rfl (by decide) (by decide) rfl sf0 all0 rfl rfl rfl (by decide) (by decide)
  clear W
  obtain ⟨r1, rfl, q1_1, q1_2⟩ := hQ1
  have z1 : h0.size ≤ h1.size := K1.1
  replace W1 := W1.cast (st' := [(.ref r1)]) rfl
  exact W1.aret (t := (.object "java/util/Optional")) dprog_12_3_56 rfl rfl rfl rfl (by decide) (by decide) (fun V' cv => ⟨r1, rfl, q1_1, q1_2⟩)
theorem ef_lod_N (m : MethodId) (cp : Int32) : entryFrame m #[(.int cp)] 1 = mkF m 0 #[.val (.int cp)] [] := by first | (simp [entryFrame, mkF, argsToLocals, Value.category]; done) | rfl
set_option maxRecDepth 65536 in
set_option maxHeartbeats 40000000 in
theorem lod_N (l : Launch) (Z : State) (a0 : Array Value) (n0 : Nat) (hw : ∀ d ∈ tables_1, d.before a0 Z = true) (hEL : EW Z a0 consts_1) (G1 : Int32) (O1 : Sta Z Z.heap "java/lang/String" "COMPACT_STRINGS" "Z" (.int G1)) (P1 : ¬ (G1 = (0 : Int32))) (G3 : Value) (O3 : Sta Z Z.heap "jdk/internal/util/Preconditions" "SIOOBE_FORMATTER" "Ljava/util/function/BiFunction;" G3) (rG3 : G3.isRef = true) (oe up lo di sy : Addr) (O5 : Sta Z Z.heap "java/util/Optional" "EMPTY" "Ljava/util/Optional;" (.ref oe)) (E5 : Exa Z Z.heap oe "java/util/Optional") (F5 : Fld Z Z.heap oe "java/util/Optional" "value" "Ljava/lang/Object;" .null) (O_up : Sta Z Z.heap "com/example/lokit/lokit/password/CharacterClass" "UPPER_CASE" "Lcom/example/lokit/lokit/password/CharacterClass;" (.ref up)) (O_lo : Sta Z Z.heap "com/example/lokit/lokit/password/CharacterClass" "LOWER_CASE" "Lcom/example/lokit/lokit/password/CharacterClass;" (.ref lo)) (O_di : Sta Z Z.heap "com/example/lokit/lokit/password/CharacterClass" "DIGIT" "Lcom/example/lokit/lokit/password/CharacterClass;" (.ref di)) (O_sy : Sta Z Z.heap "com/example/lokit/lokit/password/CharacterClass" "SYMBOL" "Lcom/example/lokit/lokit/password/CharacterClass;" (.ref sy)) (cp : Int32) (h0 : Heap) (hO : Old Z n0 h0) (nd : ND cp) :
    Con l Z consts_1 n0 (⟨"com/example/lokit/lokit/password/PasswordAlphabet", "letterOrDigitClassOf", "(I)Ljava/util/Optional;"⟩ : MethodName) prog_12_method_3_code 1 (some (.object "java/util/Optional")) ({ frames := 1, cells := 0, slots := 0, locals := 12 } : Room) #[(.int cp)] h0 [] (fun v h V' => v = some (.ref oe) ∧ h0 = h) [] := by
  refine Con.of (a0 := a0) pf15 (fun m => ef_lod_N m cp) all0 hO hEL ?_
  intro p e s m below meth c S0 hnm hsf W
  replace W := W.iloadN (pc' := 1) dprog_12_3_0 rfl rfl
  replace W := W.bipush (pc' := 3) (v := (65 : Int32)) dprog_12_3_1 rfl rfl
  by_cases hc1 : cp < (65 : Int32)
  · replace W := W.icmpT (pc' := 19) dprog_12_3_3 (tlt hc1).1 (by decide) (by decide)
    replace W := W.iloadN (pc' := 20) dprog_12_3_19 rfl rfl
    replace W := W.bipush (pc' := 22) (v := (97 : Int32)) dprog_12_3_20 rfl rfl
    by_cases hc2 : cp < (97 : Int32)
    · replace W := W.icmpT (pc' := 38) dprog_12_3_22 (tlt hc2).1 (by decide) (by decide)
      replace W := W.iloadN (pc' := 39) dprog_12_3_38 rfl rfl
      replace W := W.bipush (pc' := 41) (v := (48 : Int32)) dprog_12_3_39 rfl rfl
      by_cases hc3 : cp < (48 : Int32)
      · replace W := W.icmpT (pc' := 57) dprog_12_3_41 (tlt hc3).1 (by decide) (by decide)
        obtain ⟨V4, h4, r4, W4, K4, hQ4, SF4⟩ := W.callS (pc' := 60) (argsL := []) (rest := []) (Wd := 0) (cells' := 0) (slots' := 0) (y := (⟨"java/util/Optional", "empty", "()Ljava/util/Optional;"⟩ : MethodName)) dprog_12_3_57 (opt_empty l Z a0 n0 hw hEL G1 O1 P1 G3 O3 rG3 oe up lo di sy O5 E5 F5 O_up O_lo O_di O_sy h0 W.old) (tw83 hw) (tw84 hw) (tw85 hw) (tw86 hw) (by decide) (lenOf pd7 rfl) rfl rfl (by decide) (by decide) rfl sf0 all0 rfl rfl rfl (by decide) (by decide)
        clear W
        obtain ⟨rfl, hs4⟩ := hQ4
        subst hs4
        replace W4 := W4.cast (st' := [(.ref oe)]) rfl
        exact W4.aret (t := (.object "java/util/Optional")) dprog_12_3_60 rfl rfl rfl rfl (by decide) (by decide) (fun V' cv => ⟨rfl, rfl⟩)
      · replace W := W.icmpF (pc' := 44) dprog_12_3_41 (flt hc3).1 rfl
        replace W := W.iloadN (pc' := 45) dprog_12_3_44 rfl rfl
        replace W := W.bipush (pc' := 47) (v := (57 : Int32)) dprog_12_3_45 rfl rfl
        replace W := W.icmpT (pc' := 57) dprog_12_3_47 (tlt (nd.2.2.resolve_left hc3)).2.2.1 (by decide) (by decide)
        obtain ⟨V5, h5, r5, W5, K5, hQ5, SF5⟩ := W.callS (pc' := 60) (argsL := []) (rest := []) (Wd := 0) (cells' := 0) (slots' := 0) (y := (⟨"java/util/Optional", "empty", "()Ljava/util/Optional;"⟩ : MethodName)) dprog_12_3_57 (opt_empty l Z a0 n0 hw hEL G1 O1 P1 G3 O3 rG3 oe up lo di sy O5 E5 F5 O_up O_lo O_di O_sy h0 W.old) (tw83 hw) (tw84 hw) (tw85 hw) (tw86 hw) (by decide) (lenOf pd7 rfl) rfl rfl (by decide) (by decide) rfl sf0 all0 rfl rfl rfl (by decide) (by decide)
        clear W
        obtain ⟨rfl, hs5⟩ := hQ5
        subst hs5
        replace W5 := W5.cast (st' := [(.ref oe)]) rfl
        exact W5.aret (t := (.object "java/util/Optional")) dprog_12_3_60 rfl rfl rfl rfl (by decide) (by decide) (fun V' cv => ⟨rfl, rfl⟩)
    · replace W := W.icmpF (pc' := 25) dprog_12_3_22 (flt hc2).1 rfl
      replace W := W.iloadN (pc' := 26) dprog_12_3_25 rfl rfl
      replace W := W.bipush (pc' := 28) (v := (122 : Int32)) dprog_12_3_26 rfl rfl
      replace W := W.icmpT (pc' := 38) dprog_12_3_28 (tlt (nd.2.1.resolve_left hc2)).2.2.1 (by decide) (by decide)
      replace W := W.iloadN (pc' := 39) dprog_12_3_38 rfl rfl
      replace W := W.bipush (pc' := 41) (v := (48 : Int32)) dprog_12_3_39 rfl rfl
      by_cases hc6 : cp < (48 : Int32)
      · replace W := W.icmpT (pc' := 57) dprog_12_3_41 (tlt hc6).1 (by decide) (by decide)
        obtain ⟨V7, h7, r7, W7, K7, hQ7, SF7⟩ := W.callS (pc' := 60) (argsL := []) (rest := []) (Wd := 0) (cells' := 0) (slots' := 0) (y := (⟨"java/util/Optional", "empty", "()Ljava/util/Optional;"⟩ : MethodName)) dprog_12_3_57 (opt_empty l Z a0 n0 hw hEL G1 O1 P1 G3 O3 rG3 oe up lo di sy O5 E5 F5 O_up O_lo O_di O_sy h0 W.old) (tw83 hw) (tw84 hw) (tw85 hw) (tw86 hw) (by decide) (lenOf pd7 rfl) rfl rfl (by decide) (by decide) rfl sf0 all0 rfl rfl rfl (by decide) (by decide)
        clear W
        obtain ⟨rfl, hs7⟩ := hQ7
        subst hs7
        replace W7 := W7.cast (st' := [(.ref oe)]) rfl
        exact W7.aret (t := (.object "java/util/Optional")) dprog_12_3_60 rfl rfl rfl rfl (by decide) (by decide) (fun V' cv => ⟨rfl, rfl⟩)
      · replace W := W.icmpF (pc' := 44) dprog_12_3_41 (flt hc6).1 rfl
        replace W := W.iloadN (pc' := 45) dprog_12_3_44 rfl rfl
        replace W := W.bipush (pc' := 47) (v := (57 : Int32)) dprog_12_3_45 rfl rfl
        replace W := W.icmpT (pc' := 57) dprog_12_3_47 (tlt (nd.2.2.resolve_left hc6)).2.2.1 (by decide) (by decide)
        obtain ⟨V8, h8, r8, W8, K8, hQ8, SF8⟩ := W.callS (pc' := 60) (argsL := []) (rest := []) (Wd := 0) (cells' := 0) (slots' := 0) (y := (⟨"java/util/Optional", "empty", "()Ljava/util/Optional;"⟩ : MethodName)) dprog_12_3_57 (opt_empty l Z a0 n0 hw hEL G1 O1 P1 G3 O3 rG3 oe up lo di sy O5 E5 F5 O_up O_lo O_di O_sy h0 W.old) (tw83 hw) (tw84 hw) (tw85 hw) (tw86 hw) (by decide) (lenOf pd7 rfl) rfl rfl (by decide) (by decide) rfl sf0 all0 rfl rfl rfl (by decide) (by decide)
        clear W
        obtain ⟨rfl, hs8⟩ := hQ8
        subst hs8
        replace W8 := W8.cast (st' := [(.ref oe)]) rfl
        exact W8.aret (t := (.object "java/util/Optional")) dprog_12_3_60 rfl rfl rfl rfl (by decide) (by decide) (fun V' cv => ⟨rfl, rfl⟩)
  · replace W := W.icmpF (pc' := 6) dprog_12_3_3 (flt hc1).1 rfl
    replace W := W.iloadN (pc' := 7) dprog_12_3_6 rfl rfl
    replace W := W.bipush (pc' := 9) (v := (90 : Int32)) dprog_12_3_7 rfl rfl
    replace W := W.icmpT (pc' := 19) dprog_12_3_9 (tlt (nd.1.resolve_left hc1)).2.2.1 (by decide) (by decide)
    replace W := W.iloadN (pc' := 20) dprog_12_3_19 rfl rfl
    replace W := W.bipush (pc' := 22) (v := (97 : Int32)) dprog_12_3_20 rfl rfl
    by_cases hc9 : cp < (97 : Int32)
    · replace W := W.icmpT (pc' := 38) dprog_12_3_22 (tlt hc9).1 (by decide) (by decide)
      replace W := W.iloadN (pc' := 39) dprog_12_3_38 rfl rfl
      replace W := W.bipush (pc' := 41) (v := (48 : Int32)) dprog_12_3_39 rfl rfl
      by_cases hc10 : cp < (48 : Int32)
      · replace W := W.icmpT (pc' := 57) dprog_12_3_41 (tlt hc10).1 (by decide) (by decide)
        obtain ⟨V11, h11, r11, W11, K11, hQ11, SF11⟩ := W.callS (pc' := 60) (argsL := []) (rest := []) (Wd := 0) (cells' := 0) (slots' := 0) (y := (⟨"java/util/Optional", "empty", "()Ljava/util/Optional;"⟩ : MethodName)) dprog_12_3_57 (opt_empty l Z a0 n0 hw hEL G1 O1 P1 G3 O3 rG3 oe up lo di sy O5 E5 F5 O_up O_lo O_di O_sy h0 W.old) (tw83 hw) (tw84 hw) (tw85 hw) (tw86 hw) (by decide) (lenOf pd7 rfl) rfl rfl (by decide) (by decide) rfl sf0 all0 rfl rfl rfl (by decide) (by decide)
        clear W
        obtain ⟨rfl, hs11⟩ := hQ11
        subst hs11
        replace W11 := W11.cast (st' := [(.ref oe)]) rfl
        exact W11.aret (t := (.object "java/util/Optional")) dprog_12_3_60 rfl rfl rfl rfl (by decide) (by decide) (fun V' cv => ⟨rfl, rfl⟩)
      · replace W := W.icmpF (pc' := 44) dprog_12_3_41 (flt hc10).1 rfl
        replace W := W.iloadN (pc' := 45) dprog_12_3_44 rfl rfl
        replace W := W.bipush (pc' := 47) (v := (57 : Int32)) dprog_12_3_45 rfl rfl
        replace W := W.icmpT (pc' := 57) dprog_12_3_47 (tlt (nd.2.2.resolve_left hc10)).2.2.1 (by decide) (by decide)
        obtain ⟨V12, h12, r12, W12, K12, hQ12, SF12⟩ := W.callS (pc' := 60) (argsL := []) (rest := []) (Wd := 0) (cells' := 0) (slots' := 0) (y := (⟨"java/util/Optional", "empty", "()Ljava/util/Optional;"⟩ : MethodName)) dprog_12_3_57 (opt_empty l Z a0 n0 hw hEL G1 O1 P1 G3 O3 rG3 oe up lo di sy O5 E5 F5 O_up O_lo O_di O_sy h0 W.old) (tw83 hw) (tw84 hw) (tw85 hw) (tw86 hw) (by decide) (lenOf pd7 rfl) rfl rfl (by decide) (by decide) rfl sf0 all0 rfl rfl rfl (by decide) (by decide)
        clear W
        obtain ⟨rfl, hs12⟩ := hQ12
        subst hs12
        replace W12 := W12.cast (st' := [(.ref oe)]) rfl
        exact W12.aret (t := (.object "java/util/Optional")) dprog_12_3_60 rfl rfl rfl rfl (by decide) (by decide) (fun V' cv => ⟨rfl, rfl⟩)
    · replace W := W.icmpF (pc' := 25) dprog_12_3_22 (flt hc9).1 rfl
      replace W := W.iloadN (pc' := 26) dprog_12_3_25 rfl rfl
      replace W := W.bipush (pc' := 28) (v := (122 : Int32)) dprog_12_3_26 rfl rfl
      replace W := W.icmpT (pc' := 38) dprog_12_3_28 (tlt (nd.2.1.resolve_left hc9)).2.2.1 (by decide) (by decide)
      replace W := W.iloadN (pc' := 39) dprog_12_3_38 rfl rfl
      replace W := W.bipush (pc' := 41) (v := (48 : Int32)) dprog_12_3_39 rfl rfl
      by_cases hc13 : cp < (48 : Int32)
      · replace W := W.icmpT (pc' := 57) dprog_12_3_41 (tlt hc13).1 (by decide) (by decide)
        obtain ⟨V14, h14, r14, W14, K14, hQ14, SF14⟩ := W.callS (pc' := 60) (argsL := []) (rest := []) (Wd := 0) (cells' := 0) (slots' := 0) (y := (⟨"java/util/Optional", "empty", "()Ljava/util/Optional;"⟩ : MethodName)) dprog_12_3_57 (opt_empty l Z a0 n0 hw hEL G1 O1 P1 G3 O3 rG3 oe up lo di sy O5 E5 F5 O_up O_lo O_di O_sy h0 W.old) (tw83 hw) (tw84 hw) (tw85 hw) (tw86 hw) (by decide) (lenOf pd7 rfl) rfl rfl (by decide) (by decide) rfl sf0 all0 rfl rfl rfl (by decide) (by decide)
        clear W
        obtain ⟨rfl, hs14⟩ := hQ14
        subst hs14
        replace W14 := W14.cast (st' := [(.ref oe)]) rfl
        exact W14.aret (t := (.object "java/util/Optional")) dprog_12_3_60 rfl rfl rfl rfl (by decide) (by decide) (fun V' cv => ⟨rfl, rfl⟩)
      · replace W := W.icmpF (pc' := 44) dprog_12_3_41 (flt hc13).1 rfl
        replace W := W.iloadN (pc' := 45) dprog_12_3_44 rfl rfl
        replace W := W.bipush (pc' := 47) (v := (57 : Int32)) dprog_12_3_45 rfl rfl
        replace W := W.icmpT (pc' := 57) dprog_12_3_47 (tlt (nd.2.2.resolve_left hc13)).2.2.1 (by decide) (by decide)
        obtain ⟨V15, h15, r15, W15, K15, hQ15, SF15⟩ := W.callS (pc' := 60) (argsL := []) (rest := []) (Wd := 0) (cells' := 0) (slots' := 0) (y := (⟨"java/util/Optional", "empty", "()Ljava/util/Optional;"⟩ : MethodName)) dprog_12_3_57 (opt_empty l Z a0 n0 hw hEL G1 O1 P1 G3 O3 rG3 oe up lo di sy O5 E5 F5 O_up O_lo O_di O_sy h0 W.old) (tw83 hw) (tw84 hw) (tw85 hw) (tw86 hw) (by decide) (lenOf pd7 rfl) rfl rfl (by decide) (by decide) rfl sf0 all0 rfl rfl rfl (by decide) (by decide)
        clear W
        obtain ⟨rfl, hs15⟩ := hQ15
        subst hs15
        replace W15 := W15.cast (st' := [(.ref oe)]) rfl
        exact W15.aret (t := (.object "java/util/Optional")) dprog_12_3_60 rfl rfl rfl rfl (by decide) (by decide) (fun V' cv => ⟨rfl, rfl⟩)
theorem ef_canenc_1 (m : MethodId) (cp : Int32) : entryFrame m #[(.int cp)] 1 = mkF m 0 #[.val (.int cp)] [] := by first | (simp [entryFrame, mkF, argsToLocals, Value.category]; done) | rfl
set_option maxRecDepth 65536 in
set_option maxHeartbeats 40000000 in
theorem canenc_1 (l : Launch) (Z : State) (a0 : Array Value) (n0 : Nat) (hw : ∀ d ∈ tables_1, d.before a0 Z = true) (hEL : EW Z a0 consts_1) (G1 : Int32) (O1 : Sta Z Z.heap "java/lang/String" "COMPACT_STRINGS" "Z" (.int G1)) (P1 : ¬ (G1 = (0 : Int32))) (G3 : Value) (O3 : Sta Z Z.heap "jdk/internal/util/Preconditions" "SIOOBE_FORMATTER" "Ljava/util/function/BiFunction;" G3) (rG3 : G3.isRef = true) (oe up lo di sy : Addr) (O5 : Sta Z Z.heap "java/util/Optional" "EMPTY" "Ljava/util/Optional;" (.ref oe)) (E5 : Exa Z Z.heap oe "java/util/Optional") (F5 : Fld Z Z.heap oe "java/util/Optional" "value" "Ljava/lang/Object;" .null) (O_up : Sta Z Z.heap "com/example/lokit/lokit/password/CharacterClass" "UPPER_CASE" "Lcom/example/lokit/lokit/password/CharacterClass;" (.ref up)) (O_lo : Sta Z Z.heap "com/example/lokit/lokit/password/CharacterClass" "LOWER_CASE" "Lcom/example/lokit/lokit/password/CharacterClass;" (.ref lo)) (O_di : Sta Z Z.heap "com/example/lokit/lokit/password/CharacterClass" "DIGIT" "Lcom/example/lokit/lokit/password/CharacterClass;" (.ref di)) (O_sy : Sta Z Z.heap "com/example/lokit/lokit/password/CharacterClass" "SYMBOL" "Lcom/example/lokit/lokit/password/CharacterClass;" (.ref sy)) (cp : Int32) (h0 : Heap) (hO : Old Z n0 h0) (e0 : ¬ cp < (0 : Int32)) (e1 : ¬ (255 : Int32) < cp) :
    Con l Z consts_1 n0 (⟨"java/lang/StringLatin1", "canEncode", "(I)Z"⟩ : MethodName) jdk_43_method_4_code 1 (some .boolean) ({ frames := 0, cells := 0, slots := 0, locals := 0 } : Room) #[(.int cp)] h0 [] (fun v h V' => v = some (.int (1 : Int32)) ∧ h0 = h) [] := by
  refine Con.of (a0 := a0) pf16 (fun m => ef_canenc_1 m cp) all0 hO hEL ?_
  intro p e s m below meth c S0 hnm hsf W
  replace W := W.iloadN (pc' := 1) djdk_43_4_0 rfl rfl
  replace W := W.ifF (pc' := 4) djdk_43_4_1 (flt e0).1 rfl
  replace W := W.iloadN (pc' := 5) djdk_43_4_4 rfl rfl
  replace W := W.sipush (pc' := 8) (v := (255 : Int32)) djdk_43_4_5 rfl rfl
  replace W := W.icmpF (pc' := 11) djdk_43_4_8 (flt e1).2.2.1 rfl
  replace W := W.iconst (pc' := 12) (v := (1 : Int32)) djdk_43_4_11 rfl rfl
  replace W := W.goto (pc' := 16) djdk_43_4_12 (by decide) (by decide)
  exact W.iret (t := .boolean) djdk_43_4_16 rfl (by simp) (by decide) (by decide) (by decide) (fun V' cv => ⟨rfl, rfl⟩)
theorem ef_canenc_2 (m : MethodId) (cp : Int32) : entryFrame m #[(.int cp)] 1 = mkF m 0 #[.val (.int cp)] [] := by first | (simp [entryFrame, mkF, argsToLocals, Value.category]; done) | rfl
set_option maxRecDepth 65536 in
set_option maxHeartbeats 40000000 in
theorem canenc_2 (l : Launch) (Z : State) (a0 : Array Value) (n0 : Nat) (hw : ∀ d ∈ tables_1, d.before a0 Z = true) (hEL : EW Z a0 consts_1) (G1 : Int32) (O1 : Sta Z Z.heap "java/lang/String" "COMPACT_STRINGS" "Z" (.int G1)) (P1 : ¬ (G1 = (0 : Int32))) (G3 : Value) (O3 : Sta Z Z.heap "jdk/internal/util/Preconditions" "SIOOBE_FORMATTER" "Ljava/util/function/BiFunction;" G3) (rG3 : G3.isRef = true) (oe up lo di sy : Addr) (O5 : Sta Z Z.heap "java/util/Optional" "EMPTY" "Ljava/util/Optional;" (.ref oe)) (E5 : Exa Z Z.heap oe "java/util/Optional") (F5 : Fld Z Z.heap oe "java/util/Optional" "value" "Ljava/lang/Object;" .null) (O_up : Sta Z Z.heap "com/example/lokit/lokit/password/CharacterClass" "UPPER_CASE" "Lcom/example/lokit/lokit/password/CharacterClass;" (.ref up)) (O_lo : Sta Z Z.heap "com/example/lokit/lokit/password/CharacterClass" "LOWER_CASE" "Lcom/example/lokit/lokit/password/CharacterClass;" (.ref lo)) (O_di : Sta Z Z.heap "com/example/lokit/lokit/password/CharacterClass" "DIGIT" "Lcom/example/lokit/lokit/password/CharacterClass;" (.ref di)) (O_sy : Sta Z Z.heap "com/example/lokit/lokit/password/CharacterClass" "SYMBOL" "Lcom/example/lokit/lokit/password/CharacterClass;" (.ref sy)) (cp : Int32) (h0 : Heap) (hO : Old Z n0 h0) (m0 : cp < (0 : Int32)) :
    Con l Z consts_1 n0 (⟨"java/lang/StringLatin1", "canEncode", "(I)Z"⟩ : MethodName) jdk_43_method_4_code 1 (some .boolean) ({ frames := 0, cells := 0, slots := 0, locals := 0 } : Room) #[(.int cp)] h0 [] (fun v h V' => v = some (.int (0 : Int32)) ∧ h0 = h) [] := by
  refine Con.of (a0 := a0) pf16 (fun m => ef_canenc_2 m cp) all0 hO hEL ?_
  intro p e s m below meth c S0 hnm hsf W
  replace W := W.iloadN (pc' := 1) djdk_43_4_0 rfl rfl
  replace W := W.ifT (pc' := 15) djdk_43_4_1 (tlt m0).1 (by decide) (by decide)
  replace W := W.iconst (pc' := 16) (v := (0 : Int32)) djdk_43_4_15 rfl rfl
  exact W.iret (t := .boolean) djdk_43_4_16 rfl (by simp) (by decide) (by decide) (by decide) (fun V' cv => ⟨rfl, rfl⟩)
theorem ef_canenc_3 (m : MethodId) (cp : Int32) : entryFrame m #[(.int cp)] 1 = mkF m 0 #[.val (.int cp)] [] := by first | (simp [entryFrame, mkF, argsToLocals, Value.category]; done) | rfl
set_option maxRecDepth 65536 in
set_option maxHeartbeats 40000000 in
theorem canenc_3 (l : Launch) (Z : State) (a0 : Array Value) (n0 : Nat) (hw : ∀ d ∈ tables_1, d.before a0 Z = true) (hEL : EW Z a0 consts_1) (G1 : Int32) (O1 : Sta Z Z.heap "java/lang/String" "COMPACT_STRINGS" "Z" (.int G1)) (P1 : ¬ (G1 = (0 : Int32))) (G3 : Value) (O3 : Sta Z Z.heap "jdk/internal/util/Preconditions" "SIOOBE_FORMATTER" "Ljava/util/function/BiFunction;" G3) (rG3 : G3.isRef = true) (oe up lo di sy : Addr) (O5 : Sta Z Z.heap "java/util/Optional" "EMPTY" "Ljava/util/Optional;" (.ref oe)) (E5 : Exa Z Z.heap oe "java/util/Optional") (F5 : Fld Z Z.heap oe "java/util/Optional" "value" "Ljava/lang/Object;" .null) (O_up : Sta Z Z.heap "com/example/lokit/lokit/password/CharacterClass" "UPPER_CASE" "Lcom/example/lokit/lokit/password/CharacterClass;" (.ref up)) (O_lo : Sta Z Z.heap "com/example/lokit/lokit/password/CharacterClass" "LOWER_CASE" "Lcom/example/lokit/lokit/password/CharacterClass;" (.ref lo)) (O_di : Sta Z Z.heap "com/example/lokit/lokit/password/CharacterClass" "DIGIT" "Lcom/example/lokit/lokit/password/CharacterClass;" (.ref di)) (O_sy : Sta Z Z.heap "com/example/lokit/lokit/password/CharacterClass" "SYMBOL" "Lcom/example/lokit/lokit/password/CharacterClass;" (.ref sy)) (cp : Int32) (h0 : Heap) (hO : Old Z n0 h0) (m1 : (255 : Int32) < cp) (m2 : ¬ cp < (0 : Int32)) :
    Con l Z consts_1 n0 (⟨"java/lang/StringLatin1", "canEncode", "(I)Z"⟩ : MethodName) jdk_43_method_4_code 1 (some .boolean) ({ frames := 0, cells := 0, slots := 0, locals := 0 } : Room) #[(.int cp)] h0 [] (fun v h V' => v = some (.int (0 : Int32)) ∧ h0 = h) [] := by
  refine Con.of (a0 := a0) pf16 (fun m => ef_canenc_3 m cp) all0 hO hEL ?_
  intro p e s m below meth c S0 hnm hsf W
  replace W := W.iloadN (pc' := 1) djdk_43_4_0 rfl rfl
  replace W := W.ifF (pc' := 4) djdk_43_4_1 (flt m2).1 rfl
  replace W := W.iloadN (pc' := 5) djdk_43_4_4 rfl rfl
  replace W := W.sipush (pc' := 8) (v := (255 : Int32)) djdk_43_4_5 rfl rfl
  replace W := W.icmpT (pc' := 15) djdk_43_4_8 (tlt m1).2.2.1 (by decide) (by decide)
  replace W := W.iconst (pc' := 16) (v := (0 : Int32)) djdk_43_4_15 rfl rfl
  exact W.iret (t := .boolean) djdk_43_4_16 rfl (by simp) (by decide) (by decide) (by decide) (fun V' cv => ⟨rfl, rfl⟩)
theorem ef_len_s0 (m : MethodId) (xa : Addr) (ta : Addr) (kt : ClassId) (c0 : Int32) (c1 : Int32) : entryFrame m #[(.ref xa)] 1 = mkF m 0 #[.val (.ref xa)] [] := by first | (simp [entryFrame, mkF, argsToLocals, Value.category]; done) | rfl
set_option maxRecDepth 65536 in
set_option maxHeartbeats 40000000 in
theorem len_s0 (l : Launch) (Z : State) (a0 : Array Value) (n0 : Nat) (hw : ∀ d ∈ tables_1, d.before a0 Z = true) (hEL : EW Z a0 consts_1) (G1 : Int32) (O1 : Sta Z Z.heap "java/lang/String" "COMPACT_STRINGS" "Z" (.int G1)) (P1 : ¬ (G1 = (0 : Int32))) (G3 : Value) (O3 : Sta Z Z.heap "jdk/internal/util/Preconditions" "SIOOBE_FORMATTER" "Ljava/util/function/BiFunction;" G3) (rG3 : G3.isRef = true) (oe up lo di sy : Addr) (O5 : Sta Z Z.heap "java/util/Optional" "EMPTY" "Ljava/util/Optional;" (.ref oe)) (E5 : Exa Z Z.heap oe "java/util/Optional") (F5 : Fld Z Z.heap oe "java/util/Optional" "value" "Ljava/lang/Object;" .null) (O_up : Sta Z Z.heap "com/example/lokit/lokit/password/CharacterClass" "UPPER_CASE" "Lcom/example/lokit/lokit/password/CharacterClass;" (.ref up)) (O_lo : Sta Z Z.heap "com/example/lokit/lokit/password/CharacterClass" "LOWER_CASE" "Lcom/example/lokit/lokit/password/CharacterClass;" (.ref lo)) (O_di : Sta Z Z.heap "com/example/lokit/lokit/password/CharacterClass" "DIGIT" "Lcom/example/lokit/lokit/password/CharacterClass;" (.ref di)) (O_sy : Sta Z Z.heap "com/example/lokit/lokit/password/CharacterClass" "SYMBOL" "Lcom/example/lokit/lokit/password/CharacterClass;" (.ref sy)) (xa : Addr) (ta : Addr) (kt : ClassId) (c0 : Int32) (c1 : Int32) (h0 : Heap) (hO : Old Z n0 h0) (E_xa : Exa Z h0 xa "java/lang/String") (F_xa_coder : Fld Z h0 xa "java/lang/String" "coder" "B" (.int (0 : Int32))) (F_xa_value : Fld Z h0 xa "java/lang/String" "value" "[B" (.ref ta)) (V_ta : Arv Z h0 ta kt .byte (2 : Int32) [(.int (c0.toInt8.toInt32)), (.int (c1.toInt8.toInt32))] (.int (0 : Int32))) (hp_c0 : ¬ c0 < 0 ∧ ¬ (255 : Int32) < c0) (hp_c1 : ¬ c1 < 0 ∧ ¬ (255 : Int32) < c1) :
    Con l Z consts_1 n0 (⟨"java/lang/String", "length", "()I"⟩ : MethodName) jdk_42_method_54_code 1 (some .int) ({ frames := 1, cells := 0, slots := 0, locals := 13 } : Room) #[(.ref xa)] h0 [] (fun v h V' => v = some (.int (2 : Int32)) ∧ h0 = h) [] := by
  refine Con.of (a0 := a0) pf17 (fun m => ef_len_s0 m xa ta kt c0 c1) all0 hO hEL ?_
  intro p e s m below meth c S0 hnm hsf W
  replace W := W.aloadN (pc' := 1) djdk_42_54_0 rfl rfl rfl
  replace W := W.getf (pc' := 4) djdk_42_54_1 (tw32 hw) Via.refl F_xa_value rfl
  replace W := W.alen (pc' := 5) djdk_42_54_4 V_ta rfl
  replace W := W.aloadN (pc' := 6) djdk_42_54_5 rfl rfl rfl
  obtain ⟨V1, h1, r1, W1, K1, hQ1, SF1⟩ := W.callV (pc' := 9) (argsL := []) (rest := [(.int (2 : Int32))]) (Wd := 1) (cells' := 0) (slots' := 0) (a := xa) (C := "java/lang/String") (y := (⟨"java/lang/String", "coder", "()B"⟩ : MethodName)) (z := (⟨"java/lang/String", "coder", "()B"⟩ : MethodName)) djdk_42_54_6 (coder_c l Z a0 n0 hw hEL G1 O1 P1 G3 O3 rG3 oe up lo di sy O5 E5 F5 O_up O_lo O_di O_sy xa h0 W.old F_xa_coder) E_xa (tw53 hw) (tw54 hw) (Or.inl (tw56 hw)) (tw56 hw) (tw55 hw) (tw7 hw) (tw57 hw) (by decide) (lenOf pd8 rfl) rfl rfl (by decide) (by decide) rfl sf0 all0 rfl rfl rfl (by decide) (by decide)
  clear W
  obtain ⟨rfl, hs1⟩ := hQ1
  subst hs1
  replace W1 := W1.cast (st' := [(.int (0 : Int32)), (.int (2 : Int32))]) rfl
  replace W1 := W1.ishr (pc' := 10) (v := (2 : Int32)) djdk_42_54_9 (by decide) rfl
  exact W1.iret (t := .int) djdk_42_54_10 rfl (by simp) rfl (by decide) (by decide) (fun V' cv => ⟨rfl, rfl⟩)
theorem ef_max_s0 (m : MethodId)  : entryFrame m #[(.int (0 : Int32)), (.int (0 : Int32))] 2 = mkF m 0 #[.val (.int (0 : Int32)), .val (.int (0 : Int32))] [] := by first | (simp [entryFrame, mkF, argsToLocals, Value.category]; done) | rfl
set_option maxRecDepth 65536 in
set_option maxHeartbeats 40000000 in
theorem max_s0 (l : Launch) (Z : State) (a0 : Array Value) (n0 : Nat) (hw : ∀ d ∈ tables_1, d.before a0 Z = true) (hEL : EW Z a0 consts_1) (G1 : Int32) (O1 : Sta Z Z.heap "java/lang/String" "COMPACT_STRINGS" "Z" (.int G1)) (P1 : ¬ (G1 = (0 : Int32))) (G3 : Value) (O3 : Sta Z Z.heap "jdk/internal/util/Preconditions" "SIOOBE_FORMATTER" "Ljava/util/function/BiFunction;" G3) (rG3 : G3.isRef = true) (oe up lo di sy : Addr) (O5 : Sta Z Z.heap "java/util/Optional" "EMPTY" "Ljava/util/Optional;" (.ref oe)) (E5 : Exa Z Z.heap oe "java/util/Optional") (F5 : Fld Z Z.heap oe "java/util/Optional" "value" "Ljava/lang/Object;" .null) (O_up : Sta Z Z.heap "com/example/lokit/lokit/password/CharacterClass" "UPPER_CASE" "Lcom/example/lokit/lokit/password/CharacterClass;" (.ref up)) (O_lo : Sta Z Z.heap "com/example/lokit/lokit/password/CharacterClass" "LOWER_CASE" "Lcom/example/lokit/lokit/password/CharacterClass;" (.ref lo)) (O_di : Sta Z Z.heap "com/example/lokit/lokit/password/CharacterClass" "DIGIT" "Lcom/example/lokit/lokit/password/CharacterClass;" (.ref di)) (O_sy : Sta Z Z.heap "com/example/lokit/lokit/password/CharacterClass" "SYMBOL" "Lcom/example/lokit/lokit/password/CharacterClass;" (.ref sy))  (h0 : Heap) (hO : Old Z n0 h0)  :
    Con l Z consts_1 n0 (⟨"java/lang/Math", "max", "(II)I"⟩ : MethodName) jdk_29_method_65_code 2 (some .int) ({ frames := 0, cells := 0, slots := 0, locals := 0 } : Room) #[(.int (0 : Int32)), (.int (0 : Int32))] h0 [] (fun v h V' => v = some (.int (0 : Int32)) ∧ h0 = h) [] := by
  refine Con.of (a0 := a0) pf18 (fun m => ef_max_s0 m ) all0 hO hEL ?_
  intro p e s m below meth c S0 hnm hsf W
  replace W := W.iloadN (pc' := 1) djdk_29_65_0 rfl rfl
  replace W := W.iloadN (pc' := 2) djdk_29_65_1 rfl rfl
  replace W := W.icmpF (pc' := 5) djdk_29_65_2 (flt (by decide : ¬ ((0 : Int32) < (0 : Int32)))).1 rfl
  replace W := W.iloadN (pc' := 6) djdk_29_65_5 rfl rfl
  replace W := W.goto (pc' := 10) djdk_29_65_6 (by decide) (by decide)
  exact W.iret (t := .int) djdk_29_65_10 rfl (by simp) rfl (by decide) (by decide) (fun V' cv => ⟨rfl, rfl⟩)
theorem ef_min_s0 (m : MethodId)  : entryFrame m #[(.int (2 : Int32)), (.int (2 : Int32))] 2 = mkF m 0 #[.val (.int (2 : Int32)), .val (.int (2 : Int32))] [] := by first | (simp [entryFrame, mkF, argsToLocals, Value.category]; done) | rfl
set_option maxRecDepth 65536 in
set_option maxHeartbeats 40000000 in
theorem min_s0 (l : Launch) (Z : State) (a0 : Array Value) (n0 : Nat) (hw : ∀ d ∈ tables_1, d.before a0 Z = true) (hEL : EW Z a0 consts_1) (G1 : Int32) (O1 : Sta Z Z.heap "java/lang/String" "COMPACT_STRINGS" "Z" (.int G1)) (P1 : ¬ (G1 = (0 : Int32))) (G3 : Value) (O3 : Sta Z Z.heap "jdk/internal/util/Preconditions" "SIOOBE_FORMATTER" "Ljava/util/function/BiFunction;" G3) (rG3 : G3.isRef = true) (oe up lo di sy : Addr) (O5 : Sta Z Z.heap "java/util/Optional" "EMPTY" "Ljava/util/Optional;" (.ref oe)) (E5 : Exa Z Z.heap oe "java/util/Optional") (F5 : Fld Z Z.heap oe "java/util/Optional" "value" "Ljava/lang/Object;" .null) (O_up : Sta Z Z.heap "com/example/lokit/lokit/password/CharacterClass" "UPPER_CASE" "Lcom/example/lokit/lokit/password/CharacterClass;" (.ref up)) (O_lo : Sta Z Z.heap "com/example/lokit/lokit/password/CharacterClass" "LOWER_CASE" "Lcom/example/lokit/lokit/password/CharacterClass;" (.ref lo)) (O_di : Sta Z Z.heap "com/example/lokit/lokit/password/CharacterClass" "DIGIT" "Lcom/example/lokit/lokit/password/CharacterClass;" (.ref di)) (O_sy : Sta Z Z.heap "com/example/lokit/lokit/password/CharacterClass" "SYMBOL" "Lcom/example/lokit/lokit/password/CharacterClass;" (.ref sy))  (h0 : Heap) (hO : Old Z n0 h0)  :
    Con l Z consts_1 n0 (⟨"java/lang/Math", "min", "(II)I"⟩ : MethodName) jdk_29_method_69_code 2 (some .int) ({ frames := 0, cells := 0, slots := 0, locals := 0 } : Room) #[(.int (2 : Int32)), (.int (2 : Int32))] h0 [] (fun v h V' => v = some (.int (2 : Int32)) ∧ h0 = h) [] := by
  refine Con.of (a0 := a0) pf19 (fun m => ef_min_s0 m ) all0 hO hEL ?_
  intro p e s m below meth c S0 hnm hsf W
  replace W := W.iloadN (pc' := 1) djdk_29_69_0 rfl rfl
  replace W := W.iloadN (pc' := 2) djdk_29_69_1 rfl rfl
  replace W := W.icmpF (pc' := 5) djdk_29_69_2 (flt (by decide : ¬ ((2 : Int32) < (2 : Int32)))).2.2.1 rfl
  replace W := W.iloadN (pc' := 6) djdk_29_69_5 rfl rfl
  replace W := W.goto (pc' := 10) djdk_29_69_6 (by decide) (by decide)
  exact W.iret (t := .int) djdk_29_69_10 rfl (by simp) rfl (by decide) (by decide) (fun V' cv => ⟨rfl, rfl⟩)
theorem ef_ioc_s0 (m : MethodId) (ta : Addr) (kt : ClassId) (c0 : Int32) (c1 : Int32) (cp : Int32) : entryFrame m #[(.ref ta), (.int cp), (.int (0 : Int32)), (.int (2 : Int32))] 6 = mkF m 0 #[.val (.ref ta), .val (.int cp), .val (.int (0 : Int32)), .val (.int (2 : Int32)), .unset, .unset] [] := by first | (simp [entryFrame, mkF, argsToLocals, Value.category]; done) | rfl
set_option maxRecDepth 65536 in
set_option maxHeartbeats 40000000 in
theorem ioc_s0 (l : Launch) (Z : State) (a0 : Array Value) (n0 : Nat) (hw : ∀ d ∈ tables_1, d.before a0 Z = true) (hEL : EW Z a0 consts_1) (G1 : Int32) (O1 : Sta Z Z.heap "java/lang/String" "COMPACT_STRINGS" "Z" (.int G1)) (P1 : ¬ (G1 = (0 : Int32))) (G3 : Value) (O3 : Sta Z Z.heap "jdk/internal/util/Preconditions" "SIOOBE_FORMATTER" "Ljava/util/function/BiFunction;" G3) (rG3 : G3.isRef = true) (oe up lo di sy : Addr) (O5 : Sta Z Z.heap "java/util/Optional" "EMPTY" "Ljava/util/Optional;" (.ref oe)) (E5 : Exa Z Z.heap oe "java/util/Optional") (F5 : Fld Z Z.heap oe "java/util/Optional" "value" "Ljava/lang/Object;" .null) (O_up : Sta Z Z.heap "com/example/lokit/lokit/password/CharacterClass" "UPPER_CASE" "Lcom/example/lokit/lokit/password/CharacterClass;" (.ref up)) (O_lo : Sta Z Z.heap "com/example/lokit/lokit/password/CharacterClass" "LOWER_CASE" "Lcom/example/lokit/lokit/password/CharacterClass;" (.ref lo)) (O_di : Sta Z Z.heap "com/example/lokit/lokit/password/CharacterClass" "DIGIT" "Lcom/example/lokit/lokit/password/CharacterClass;" (.ref di)) (O_sy : Sta Z Z.heap "com/example/lokit/lokit/password/CharacterClass" "SYMBOL" "Lcom/example/lokit/lokit/password/CharacterClass;" (.ref sy)) (ta : Addr) (kt : ClassId) (c0 : Int32) (c1 : Int32) (cp : Int32) (h0 : Heap) (hO : Old Z n0 h0) (V_ta : Arv Z h0 ta kt .byte (2 : Int32) [(.int (c0.toInt8.toInt32)), (.int (c1.toInt8.toInt32))] (.int (0 : Int32))) (hp_c0 : ¬ c0 < 0 ∧ ¬ (255 : Int32) < c0) (hp_c1 : ¬ c1 < 0 ∧ ¬ (255 : Int32) < c1) (e0 : ¬ cp < (0 : Int32)) (e1 : ¬ (255 : Int32) < cp) (eq_c0 : cp = c0) :
    Con l Z consts_1 n0 (⟨"java/lang/StringLatin1", "indexOfChar", "([BIII)I"⟩ : MethodName) jdk_43_method_23_code 6 (some .int) ({ frames := 0, cells := 0, slots := 0, locals := 0 } : Room) #[(.ref ta), (.int cp), (.int (0 : Int32)), (.int (2 : Int32))] h0 [] (fun v h V' => v = some (.int (0 : Int32)) ∧ h0 = h) [] := by
  refine Con.of (a0 := a0) pf20 (fun m => ef_ioc_s0 m ta kt c0 c1 cp) all0 hO hEL ?_
  intro p e s m below meth c S0 hnm hsf W
  replace W := W.iloadN (pc' := 1) djdk_43_23_0 rfl rfl
  replace W := W.i2b (pc' := 2) (v := (cp.toInt8.toInt32)) djdk_43_23_1 rfl rfl
  replace W := W.istore (pc' := 4) (L' := #[.val (.ref ta), .val (.int cp), .val (.int (0 : Int32)), .val (.int (2 : Int32)), .val (.int (cp.toInt8.toInt32)), .unset]) djdk_43_23_2 rfl rfl
  replace W := W.iloadN (pc' := 5) djdk_43_23_4 rfl rfl
  replace W := W.istore (pc' := 7) (L' := #[.val (.ref ta), .val (.int cp), .val (.int (0 : Int32)), .val (.int (2 : Int32)), .val (.int (cp.toInt8.toInt32)), .val (.int (0 : Int32))]) djdk_43_23_5 rfl rfl
  replace W := W.iload (pc' := 9) djdk_43_23_7 rfl rfl
  replace W := W.iloadN (pc' := 10) djdk_43_23_9 rfl rfl
  replace W := W.icmpF (pc' := 13) djdk_43_23_10 (tlt (by decide : (0 : Int32) < (2 : Int32))).2.1 rfl
  replace W := W.aloadN (pc' := 14) djdk_43_23_13 rfl rfl rfl
  replace W := W.iload (pc' := 16) djdk_43_23_14 rfl rfl
  replace W := W.baload (pc' := 17) (w := (.int (c0.toInt8.toInt32))) djdk_43_23_16 V_ta ⟨by decide, by decide⟩ rfl rfl
  replace W := W.iload (pc' := 19) djdk_43_23_17 rfl rfl
  replace W := W.icmpF (pc' := 22) djdk_43_23_19 (teq (by rw [eq_c0])).2 rfl
  replace W := W.iload (pc' := 24) djdk_43_23_22 rfl rfl
  exact W.iret (t := .int) djdk_43_23_24 rfl (by simp) rfl (by decide) (by decide) (fun V' cv => ⟨rfl, rfl⟩)
theorem ef_lio_s0 (m : MethodId) (ta : Addr) (kt : ClassId) (c0 : Int32) (c1 : Int32) (cp : Int32) : entryFrame m #[(.ref ta), (.int cp), (.int (0 : Int32)), (.int (2 : Int32))] 4 = mkF m 0 #[.val (.ref ta), .val (.int cp), .val (.int (0 : Int32)), .val (.int (2 : Int32))] [] := by first | (simp [entryFrame, mkF, argsToLocals, Value.category]; done) | rfl
set_option maxRecDepth 65536 in
set_option maxHeartbeats 40000000 in
theorem lio_s0 (l : Launch) (Z : State) (a0 : Array Value) (n0 : Nat) (hw : ∀ d ∈ tables_1, d.before a0 Z = true) (hEL : EW Z a0 consts_1) (G1 : Int32) (O1 : Sta Z Z.heap "java/lang/String" "COMPACT_STRINGS" "Z" (.int G1)) (P1 : ¬ (G1 = (0 : Int32))) (G3 : Value) (O3 : Sta Z Z.heap "jdk/internal/util/Preconditions" "SIOOBE_FORMATTER" "Ljava/util/function/BiFunction;" G3) (rG3 : G3.isRef = true) (oe up lo di sy : Addr) (O5 : Sta Z Z.heap "java/util/Optional" "EMPTY" "Ljava/util/Optional;" (.ref oe)) (E5 : Exa Z Z.heap oe "java/util/Optional") (F5 : Fld Z Z.heap oe "java/util/Optional" "value" "Ljava/lang/Object;" .null) (O_up : Sta Z Z.heap "com/example/lokit/lokit/password/CharacterClass" "UPPER_CASE" "Lcom/example/lokit/lokit/password/CharacterClass;" (.ref up)) (O_lo : Sta Z Z.heap "com/example/lokit/lokit/password/CharacterClass" "LOWER_CASE" "Lcom/example/lokit/lokit/password/CharacterClass;" (.ref lo)) (O_di : Sta Z Z.heap "com/example/lokit/lokit/password/CharacterClass" "DIGIT" "Lcom/example/lokit/lokit/password/CharacterClass;" (.ref di)) (O_sy : Sta Z Z.heap "com/example/lokit/lokit/password/CharacterClass" "SYMBOL" "Lcom/example/lokit/lokit/password/CharacterClass;" (.ref sy)) (ta : Addr) (kt : ClassId) (c0 : Int32) (c1 : Int32) (cp : Int32) (h0 : Heap) (hO : Old Z n0 h0) (V_ta : Arv Z h0 ta kt .byte (2 : Int32) [(.int (c0.toInt8.toInt32)), (.int (c1.toInt8.toInt32))] (.int (0 : Int32))) (hp_c0 : ¬ c0 < 0 ∧ ¬ (255 : Int32) < c0) (hp_c1 : ¬ c1 < 0 ∧ ¬ (255 : Int32) < c1) (e0 : ¬ cp < (0 : Int32)) (e1 : ¬ (255 : Int32) < cp) (eq_c0 : cp = c0) :
    Con l Z consts_1 n0 (⟨"java/lang/StringLatin1", "indexOf", "([BIII)I"⟩ : MethodName) jdk_43_method_22_code 4 (some .int) ({ frames := 1, cells := 0, slots := 0, locals := 17 } : Room) #[(.ref ta), (.int cp), (.int (0 : Int32)), (.int (2 : Int32))] h0 [] (fun v h V' => v = some (.int (0 : Int32)) ∧ h0 = h) [] := by
  refine Con.of (a0 := a0) pf21 (fun m => ef_lio_s0 m ta kt c0 c1 cp) all0 hO hEL ?_
  intro p e s m below meth c S0 hnm hsf W
  replace W := W.iloadN (pc' := 1) djdk_43_22_0 rfl rfl
  obtain ⟨V1, h1, r1, W1, K1, hQ1, SF1⟩ := W.callS (pc' := 4) (argsL := [(.int cp)]) (rest := []) (Wd := 0) (cells' := 0) (slots' := 0) (y := (⟨"java/lang/StringLatin1", "canEncode", "(I)Z"⟩ : MethodName)) djdk_43_22_1 (canenc_1 l Z a0 n0 hw hEL G1 O1 P1 G3 O3 rG3 oe up lo di sy O5 E5 F5 O_up O_lo O_di O_sy cp h0 W.old e0 e1) (tw116 hw) (tw117 hw) (tw70 hw) (tw118 hw) (by decide) (lenOf pd9 rfl) rfl rfl (by decide) (by decide) rfl sf0 all0 rfl rfl rfl (by decide) (by decide)
  clear W
  obtain ⟨rfl, hs1⟩ := hQ1
  subst hs1
  replace W1 := W1.cast (st' := [(.int (1 : Int32))]) rfl
  replace W1 := W1.ifT (pc' := 9) djdk_43_22_4 (feq (by decide : ¬ ((1 : Int32) = (0 : Int32)))).2 (by decide) (by decide)
  replace W1 := W1.iloadN (pc' := 10) djdk_43_22_9 rfl rfl
  replace W1 := W1.iconst (pc' := 11) (v := (0 : Int32)) djdk_43_22_10 rfl rfl
  obtain ⟨V2, h2, r2, W2, K2, hQ2, SF2⟩ := W1.callS (pc' := 14) (argsL := [(.int (0 : Int32)), (.int (0 : Int32))]) (rest := []) (Wd := 0) (cells' := 0) (slots' := 0) (y := (⟨"java/lang/Math", "max", "(II)I"⟩ : MethodName)) djdk_43_22_11 (max_s0 l Z a0 n0 hw hEL G1 O1 P1 G3 O3 rG3 oe up lo di sy O5 E5 F5 O_up O_lo O_di O_sy h0 W1.old) (tw119 hw) (tw120 hw) (tw121 hw) (tw122 hw) (by decide) (lenOf pd10 rfl) rfl rfl (by decide) (by decide) rfl sf0 all0 rfl rfl rfl (by decide) (by decide)
  clear W1
  obtain ⟨rfl, hs2⟩ := hQ2
  subst hs2
  replace W2 := W2.cast (st' := [(.int (0 : Int32))]) rfl
  replace W2 := W2.istoreN (pc' := 15) (L' := #[.val (.ref ta), .val (.int cp), .val (.int (0 : Int32)), .val (.int (2 : Int32))]) djdk_43_22_14 rfl rfl
  replace W2 := W2.iloadN (pc' := 16) djdk_43_22_15 rfl rfl
  replace W2 := W2.aloadN (pc' := 17) djdk_43_22_16 rfl rfl rfl
  replace W2 := W2.alen (pc' := 18) djdk_43_22_17 V_ta rfl
  obtain ⟨V3, h3, r3, W3, K3, hQ3, SF3⟩ := W2.callS (pc' := 21) (argsL := [(.int (2 : Int32)), (.int (2 : Int32))]) (rest := []) (Wd := 0) (cells' := 0) (slots' := 0) (y := (⟨"java/lang/Math", "min", "(II)I"⟩ : MethodName)) djdk_43_22_18 (min_s0 l Z a0 n0 hw hEL G1 O1 P1 G3 O3 rG3 oe up lo di sy O5 E5 F5 O_up O_lo O_di O_sy h0 W2.old) (tw123 hw) (tw124 hw) (tw121 hw) (tw125 hw) (by decide) (lenOf pd10 rfl) rfl rfl (by decide) (by decide) rfl sf0 all0 rfl rfl rfl (by decide) (by decide)
  clear W2
  obtain ⟨rfl, hs3⟩ := hQ3
  subst hs3
  replace W3 := W3.cast (st' := [(.int (2 : Int32))]) rfl
  replace W3 := W3.istoreN (pc' := 22) (L' := #[.val (.ref ta), .val (.int cp), .val (.int (0 : Int32)), .val (.int (2 : Int32))]) djdk_43_22_21 rfl rfl
  replace W3 := W3.iloadN (pc' := 23) djdk_43_22_22 rfl rfl
  replace W3 := W3.iloadN (pc' := 24) djdk_43_22_23 rfl rfl
  replace W3 := W3.icmpT (pc' := 29) djdk_43_22_24 (tlt (by decide : (0 : Int32) < (2 : Int32))).1 (by decide) (by decide)
  replace W3 := W3.aloadN (pc' := 30) djdk_43_22_29 rfl rfl rfl
  replace W3 := W3.iloadN (pc' := 31) djdk_43_22_30 rfl rfl
  replace W3 := W3.iloadN (pc' := 32) djdk_43_22_31 rfl rfl
  replace W3 := W3.iloadN (pc' := 33) djdk_43_22_32 rfl rfl
  obtain ⟨V4, h4, r4, W4, K4, hQ4, SF4⟩ := W3.callS (pc' := 36) (argsL := [(.ref ta), (.int cp), (.int (0 : Int32)), (.int (2 : Int32))]) (rest := []) (Wd := 0) (cells' := 0) (slots' := 0) (y := (⟨"java/lang/StringLatin1", "indexOfChar", "([BIII)I"⟩ : MethodName)) djdk_43_22_33 (ioc_s0 l Z a0 n0 hw hEL G1 O1 P1 G3 O3 rG3 oe up lo di sy O5 E5 F5 O_up O_lo O_di O_sy ta kt c0 c1 cp h0 W3.old V_ta hp_c0 hp_c1 e0 e1 eq_c0) (tw126 hw) (tw127 hw) (tw70 hw) (tw128 hw) (by decide) (lenOf pd11 rfl) rfl rfl (by decide) (by decide) rfl sf0 all0 rfl rfl rfl (by decide) (by decide)
  clear W3
  obtain ⟨rfl, hs4⟩ := hQ4
  subst hs4
  replace W4 := W4.cast (st' := [(.int (0 : Int32))]) rfl
  exact W4.iret (t := .int) djdk_43_22_36 rfl (by simp) rfl (by decide) (by decide) (fun V' cv => ⟨rfl, rfl⟩)
theorem ef_io2_s0 (m : MethodId) (xa : Addr) (ta : Addr) (kt : ClassId) (c0 : Int32) (c1 : Int32) (cp : Int32) : entryFrame m #[(.ref xa), (.int cp), (.int (0 : Int32))] 3 = mkF m 0 #[.val (.ref xa), .val (.int cp), .val (.int (0 : Int32))] [] := by first | (simp [entryFrame, mkF, argsToLocals, Value.category]; done) | rfl
set_option maxRecDepth 65536 in
set_option maxHeartbeats 40000000 in
theorem io2_s0 (l : Launch) (Z : State) (a0 : Array Value) (n0 : Nat) (hw : ∀ d ∈ tables_1, d.before a0 Z = true) (hEL : EW Z a0 consts_1) (G1 : Int32) (O1 : Sta Z Z.heap "java/lang/String" "COMPACT_STRINGS" "Z" (.int G1)) (P1 : ¬ (G1 = (0 : Int32))) (G3 : Value) (O3 : Sta Z Z.heap "jdk/internal/util/Preconditions" "SIOOBE_FORMATTER" "Ljava/util/function/BiFunction;" G3) (rG3 : G3.isRef = true) (oe up lo di sy : Addr) (O5 : Sta Z Z.heap "java/util/Optional" "EMPTY" "Ljava/util/Optional;" (.ref oe)) (E5 : Exa Z Z.heap oe "java/util/Optional") (F5 : Fld Z Z.heap oe "java/util/Optional" "value" "Ljava/lang/Object;" .null) (O_up : Sta Z Z.heap "com/example/lokit/lokit/password/CharacterClass" "UPPER_CASE" "Lcom/example/lokit/lokit/password/CharacterClass;" (.ref up)) (O_lo : Sta Z Z.heap "com/example/lokit/lokit/password/CharacterClass" "LOWER_CASE" "Lcom/example/lokit/lokit/password/CharacterClass;" (.ref lo)) (O_di : Sta Z Z.heap "com/example/lokit/lokit/password/CharacterClass" "DIGIT" "Lcom/example/lokit/lokit/password/CharacterClass;" (.ref di)) (O_sy : Sta Z Z.heap "com/example/lokit/lokit/password/CharacterClass" "SYMBOL" "Lcom/example/lokit/lokit/password/CharacterClass;" (.ref sy)) (xa : Addr) (ta : Addr) (kt : ClassId) (c0 : Int32) (c1 : Int32) (cp : Int32) (h0 : Heap) (hO : Old Z n0 h0) (E_xa : Exa Z h0 xa "java/lang/String") (F_xa_coder : Fld Z h0 xa "java/lang/String" "coder" "B" (.int (0 : Int32))) (F_xa_value : Fld Z h0 xa "java/lang/String" "value" "[B" (.ref ta)) (V_ta : Arv Z h0 ta kt .byte (2 : Int32) [(.int (c0.toInt8.toInt32)), (.int (c1.toInt8.toInt32))] (.int (0 : Int32))) (hp_c0 : ¬ c0 < 0 ∧ ¬ (255 : Int32) < c0) (hp_c1 : ¬ c1 < 0 ∧ ¬ (255 : Int32) < c1) (e0 : ¬ cp < (0 : Int32)) (e1 : ¬ (255 : Int32) < cp) (eq_c0 : cp = c0) :
    Con l Z consts_1 n0 (⟨"java/lang/String", "indexOf", "(II)I"⟩ : MethodName) jdk_42_method_80_code 3 (some .int) ({ frames := 2, cells := 0, slots := 0, locals := 32 } : Room) #[(.ref xa), (.int cp), (.int (0 : Int32))] h0 [] (fun v h V' => v = some (.int (0 : Int32)) ∧ h0 = h) [] := by
  refine Con.of (a0 := a0) pf22 (fun m => ef_io2_s0 m xa ta kt c0 c1 cp) all0 hO hEL ?_
  intro p e s m below meth c S0 hnm hsf W
  replace W := W.aloadN (pc' := 1) djdk_42_80_0 rfl rfl rfl
  obtain ⟨V1, h1, r1, W1, K1, hQ1, SF1⟩ := W.callV (pc' := 4) (argsL := []) (rest := []) (Wd := 0) (cells' := 0) (slots' := 0) (a := xa) (C := "java/lang/String") (y := (⟨"java/lang/String", "isLatin1", "()Z"⟩ : MethodName)) (z := (⟨"java/lang/String", "isLatin1", "()Z"⟩ : MethodName)) djdk_42_80_1 (islat l Z a0 n0 hw hEL G1 O1 P1 G3 O3 rG3 oe up lo di sy O5 E5 F5 O_up O_lo O_di O_sy xa h0 W.old F_xa_coder) E_xa (tw63 hw) (tw64 hw) (Or.inl (tw66 hw)) (tw66 hw) (tw65 hw) (tw7 hw) (tw67 hw) (by decide) (lenOf pd12 rfl) rfl rfl (by decide) (by decide) rfl sf0 all0 rfl rfl rfl (by decide) (by decide)
  clear W
  obtain ⟨rfl, hs1⟩ := hQ1
  subst hs1
  replace W1 := W1.cast (st' := [(.int (1 : Int32))]) rfl
  replace W1 := W1.ifF (pc' := 7) djdk_42_80_4 (feq (by decide : ¬ ((1 : Int32) = (0 : Int32)))).1 rfl
  replace W1 := W1.aloadN (pc' := 8) djdk_42_80_7 rfl rfl rfl
  replace W1 := W1.getf (pc' := 11) djdk_42_80_8 (tw32 hw) Via.refl F_xa_value rfl
  replace W1 := W1.iloadN (pc' := 12) djdk_42_80_11 rfl rfl
  replace W1 := W1.iloadN (pc' := 13) djdk_42_80_12 rfl rfl
  replace W1 := W1.aloadN (pc' := 14) djdk_42_80_13 rfl rfl rfl
  obtain ⟨V2, h2, r2, W2, K2, hQ2, SF2⟩ := W1.callV (pc' := 17) (argsL := []) (rest := [(.int (0 : Int32)), (.int cp), (.ref ta)]) (Wd := 3) (cells' := 0) (slots' := 0) (a := xa) (C := "java/lang/String") (y := (⟨"java/lang/String", "length", "()I"⟩ : MethodName)) (z := (⟨"java/lang/String", "length", "()I"⟩ : MethodName)) djdk_42_80_14 (len_s0 l Z a0 n0 hw hEL G1 O1 P1 G3 O3 rG3 oe up lo di sy O5 E5 F5 O_up O_lo O_di O_sy xa ta kt c0 c1 h0 W1.old E_xa F_xa_coder F_xa_value V_ta hp_c0 hp_c1) E_xa (tw112 hw) (tw49 hw) (Or.inl (tw51 hw)) (tw51 hw) (tw50 hw) (tw7 hw) (tw52 hw) (by decide) (lenOf pd13 rfl) rfl rfl (by decide) (by decide) rfl sf0 all0 rfl rfl rfl (by decide) (by decide)
  clear W1
  obtain ⟨rfl, hs2⟩ := hQ2
  subst hs2
  replace W2 := W2.cast (st' := [(.int (2 : Int32)), (.int (0 : Int32)), (.int cp), (.ref ta)]) rfl
  obtain ⟨V3, h3, r3, W3, K3, hQ3, SF3⟩ := W2.callS (pc' := 20) (argsL := [(.ref ta), (.int cp), (.int (0 : Int32)), (.int (2 : Int32))]) (rest := []) (Wd := 0) (cells' := 0) (slots' := 0) (y := (⟨"java/lang/StringLatin1", "indexOf", "([BIII)I"⟩ : MethodName)) djdk_42_80_17 (lio_s0 l Z a0 n0 hw hEL G1 O1 P1 G3 O3 rG3 oe up lo di sy O5 E5 F5 O_up O_lo O_di O_sy ta kt c0 c1 cp h0 W2.old V_ta hp_c0 hp_c1 e0 e1 eq_c0) (tw113 hw) (tw114 hw) (tw70 hw) (tw115 hw) (by decide) (lenOf pd11 rfl) rfl rfl (by decide) (by decide) rfl sf0 all0 rfl rfl rfl (by decide) (by decide)
  clear W2
  obtain ⟨rfl, hs3⟩ := hQ3
  subst hs3
  replace W3 := W3.cast (st' := [(.int (0 : Int32))]) rfl
  replace W3 := W3.goto (pc' := 36) djdk_42_80_20 (by decide) (by decide)
  exact W3.iret (t := .int) djdk_42_80_36 rfl (by simp) rfl (by decide) (by decide) (fun V' cv => ⟨rfl, rfl⟩)
theorem ef_io1_s0 (m : MethodId) (xa : Addr) (ta : Addr) (kt : ClassId) (c0 : Int32) (c1 : Int32) (cp : Int32) : entryFrame m #[(.ref xa), (.int cp)] 2 = mkF m 0 #[.val (.ref xa), .val (.int cp)] [] := by first | (simp [entryFrame, mkF, argsToLocals, Value.category]; done) | rfl
set_option maxRecDepth 65536 in
set_option maxHeartbeats 40000000 in
theorem io1_s0 (l : Launch) (Z : State) (a0 : Array Value) (n0 : Nat) (hw : ∀ d ∈ tables_1, d.before a0 Z = true) (hEL : EW Z a0 consts_1) (G1 : Int32) (O1 : Sta Z Z.heap "java/lang/String" "COMPACT_STRINGS" "Z" (.int G1)) (P1 : ¬ (G1 = (0 : Int32))) (G3 : Value) (O3 : Sta Z Z.heap "jdk/internal/util/Preconditions" "SIOOBE_FORMATTER" "Ljava/util/function/BiFunction;" G3) (rG3 : G3.isRef = true) (oe up lo di sy : Addr) (O5 : Sta Z Z.heap "java/util/Optional" "EMPTY" "Ljava/util/Optional;" (.ref oe)) (E5 : Exa Z Z.heap oe "java/util/Optional") (F5 : Fld Z Z.heap oe "java/util/Optional" "value" "Ljava/lang/Object;" .null) (O_up : Sta Z Z.heap "com/example/lokit/lokit/password/CharacterClass" "UPPER_CASE" "Lcom/example/lokit/lokit/password/CharacterClass;" (.ref up)) (O_lo : Sta Z Z.heap "com/example/lokit/lokit/password/CharacterClass" "LOWER_CASE" "Lcom/example/lokit/lokit/password/CharacterClass;" (.ref lo)) (O_di : Sta Z Z.heap "com/example/lokit/lokit/password/CharacterClass" "DIGIT" "Lcom/example/lokit/lokit/password/CharacterClass;" (.ref di)) (O_sy : Sta Z Z.heap "com/example/lokit/lokit/password/CharacterClass" "SYMBOL" "Lcom/example/lokit/lokit/password/CharacterClass;" (.ref sy)) (xa : Addr) (ta : Addr) (kt : ClassId) (c0 : Int32) (c1 : Int32) (cp : Int32) (h0 : Heap) (hO : Old Z n0 h0) (E_xa : Exa Z h0 xa "java/lang/String") (F_xa_coder : Fld Z h0 xa "java/lang/String" "coder" "B" (.int (0 : Int32))) (F_xa_value : Fld Z h0 xa "java/lang/String" "value" "[B" (.ref ta)) (V_ta : Arv Z h0 ta kt .byte (2 : Int32) [(.int (c0.toInt8.toInt32)), (.int (c1.toInt8.toInt32))] (.int (0 : Int32))) (hp_c0 : ¬ c0 < 0 ∧ ¬ (255 : Int32) < c0) (hp_c1 : ¬ c1 < 0 ∧ ¬ (255 : Int32) < c1) (e0 : ¬ cp < (0 : Int32)) (e1 : ¬ (255 : Int32) < cp) (eq_c0 : cp = c0) :
    Con l Z consts_1 n0 (⟨"java/lang/String", "indexOf", "(I)I"⟩ : MethodName) jdk_42_method_79_code 2 (some .int) ({ frames := 3, cells := 0, slots := 0, locals := 46 } : Room) #[(.ref xa), (.int cp)] h0 [] (fun v h V' => v = some (.int (0 : Int32)) ∧ h0 = h) [] := by
  refine Con.of (a0 := a0) pf23 (fun m => ef_io1_s0 m xa ta kt c0 c1 cp) all0 hO hEL ?_
  intro p e s m below meth c S0 hnm hsf W
  replace W := W.aloadN (pc' := 1) djdk_42_79_0 rfl rfl rfl
  replace W := W.iloadN (pc' := 2) djdk_42_79_1 rfl rfl
  replace W := W.iconst (pc' := 3) (v := (0 : Int32)) djdk_42_79_2 rfl rfl
  obtain ⟨V1, h1, r1, W1, K1, hQ1, SF1⟩ := W.callV (pc' := 6) (argsL := [(.int cp), (.int (0 : Int32))]) (rest := []) (Wd := 0) (cells' := 0) (slots' := 0) (a := xa) (C := "java/lang/String") (y := (⟨"java/lang/String", "indexOf", "(II)I"⟩ : MethodName)) (z := (⟨"java/lang/String", "indexOf", "(II)I"⟩ : MethodName)) djdk_42_79_3 (io2_s0 l Z a0 n0 hw hEL G1 O1 P1 G3 O3 rG3 oe up lo di sy O5 E5 F5 O_up O_lo O_di O_sy xa ta kt c0 c1 cp h0 W.old E_xa F_xa_coder F_xa_value V_ta hp_c0 hp_c1 e0 e1 eq_c0) E_xa (tw107 hw) (tw108 hw) (Or.inl (tw110 hw)) (tw110 hw) (tw109 hw) (tw7 hw) (tw111 hw) (by decide) (lenOf pd10 rfl) rfl rfl (by decide) (by decide) rfl sf0 all0 rfl rfl rfl (by decide) (by decide)
  clear W
  obtain ⟨rfl, hs1⟩ := hQ1
  subst hs1
  replace W1 := W1.cast (st' := [(.int (0 : Int32))]) rfl
  exact W1.iret (t := .int) djdk_42_79_6 rfl (by simp) rfl (by decide) (by decide) (fun V' cv => ⟨rfl, rfl⟩)
theorem ef_len_s1 (m : MethodId) (xa : Addr) (ta : Addr) (kt : ClassId) (c0 : Int32) (c1 : Int32) : entryFrame m #[(.ref xa)] 1 = mkF m 0 #[.val (.ref xa)] [] := by first | (simp [entryFrame, mkF, argsToLocals, Value.category]; done) | rfl
set_option maxRecDepth 65536 in
set_option maxHeartbeats 40000000 in
theorem len_s1 (l : Launch) (Z : State) (a0 : Array Value) (n0 : Nat) (hw : ∀ d ∈ tables_1, d.before a0 Z = true) (hEL : EW Z a0 consts_1) (G1 : Int32) (O1 : Sta Z Z.heap "java/lang/String" "COMPACT_STRINGS" "Z" (.int G1)) (P1 : ¬ (G1 = (0 : Int32))) (G3 : Value) (O3 : Sta Z Z.heap "jdk/internal/util/Preconditions" "SIOOBE_FORMATTER" "Ljava/util/function/BiFunction;" G3) (rG3 : G3.isRef = true) (oe up lo di sy : Addr) (O5 : Sta Z Z.heap "java/util/Optional" "EMPTY" "Ljava/util/Optional;" (.ref oe)) (E5 : Exa Z Z.heap oe "java/util/Optional") (F5 : Fld Z Z.heap oe "java/util/Optional" "value" "Ljava/lang/Object;" .null) (O_up : Sta Z Z.heap "com/example/lokit/lokit/password/CharacterClass" "UPPER_CASE" "Lcom/example/lokit/lokit/password/CharacterClass;" (.ref up)) (O_lo : Sta Z Z.heap "com/example/lokit/lokit/password/CharacterClass" "LOWER_CASE" "Lcom/example/lokit/lokit/password/CharacterClass;" (.ref lo)) (O_di : Sta Z Z.heap "com/example/lokit/lokit/password/CharacterClass" "DIGIT" "Lcom/example/lokit/lokit/password/CharacterClass;" (.ref di)) (O_sy : Sta Z Z.heap "com/example/lokit/lokit/password/CharacterClass" "SYMBOL" "Lcom/example/lokit/lokit/password/CharacterClass;" (.ref sy)) (xa : Addr) (ta : Addr) (kt : ClassId) (c0 : Int32) (c1 : Int32) (h0 : Heap) (hO : Old Z n0 h0) (E_xa : Exa Z h0 xa "java/lang/String") (F_xa_coder : Fld Z h0 xa "java/lang/String" "coder" "B" (.int (0 : Int32))) (F_xa_value : Fld Z h0 xa "java/lang/String" "value" "[B" (.ref ta)) (V_ta : Arv Z h0 ta kt .byte (2 : Int32) [(.int (c0.toInt8.toInt32)), (.int (c1.toInt8.toInt32))] (.int (0 : Int32))) (hp_c0 : ¬ c0 < 0 ∧ ¬ (255 : Int32) < c0) (hp_c1 : ¬ c1 < 0 ∧ ¬ (255 : Int32) < c1) :
    Con l Z consts_1 n0 (⟨"java/lang/String", "length", "()I"⟩ : MethodName) jdk_42_method_54_code 1 (some .int) ({ frames := 1, cells := 0, slots := 0, locals := 13 } : Room) #[(.ref xa)] h0 [] (fun v h V' => v = some (.int (2 : Int32)) ∧ h0 = h) [] := by
  refine Con.of (a0 := a0) pf17 (fun m => ef_len_s1 m xa ta kt c0 c1) all0 hO hEL ?_
  intro p e s m below meth c S0 hnm hsf W
  replace W := W.aloadN (pc' := 1) djdk_42_54_0 rfl rfl rfl
  replace W := W.getf (pc' := 4) djdk_42_54_1 (tw32 hw) Via.refl F_xa_value rfl
  replace W := W.alen (pc' := 5) djdk_42_54_4 V_ta rfl
  replace W := W.aloadN (pc' := 6) djdk_42_54_5 rfl rfl rfl
  obtain ⟨V1, h1, r1, W1, K1, hQ1, SF1⟩ := W.callV (pc' := 9) (argsL := []) (rest := [(.int (2 : Int32))]) (Wd := 1) (cells' := 0) (slots' := 0) (a := xa) (C := "java/lang/String") (y := (⟨"java/lang/String", "coder", "()B"⟩ : MethodName)) (z := (⟨"java/lang/String", "coder", "()B"⟩ : MethodName)) djdk_42_54_6 (coder_c l Z a0 n0 hw hEL G1 O1 P1 G3 O3 rG3 oe up lo di sy O5 E5 F5 O_up O_lo O_di O_sy xa h0 W.old F_xa_coder) E_xa (tw53 hw) (tw54 hw) (Or.inl (tw56 hw)) (tw56 hw) (tw55 hw) (tw7 hw) (tw57 hw) (by decide) (lenOf pd8 rfl) rfl rfl (by decide) (by decide) rfl sf0 all0 rfl rfl rfl (by decide) (by decide)
  clear W
  obtain ⟨rfl, hs1⟩ := hQ1
  subst hs1
  replace W1 := W1.cast (st' := [(.int (0 : Int32)), (.int (2 : Int32))]) rfl
  replace W1 := W1.ishr (pc' := 10) (v := (2 : Int32)) djdk_42_54_9 (by decide) rfl
  exact W1.iret (t := .int) djdk_42_54_10 rfl (by simp) rfl (by decide) (by decide) (fun V' cv => ⟨rfl, rfl⟩)
theorem ef_max_s1 (m : MethodId)  : entryFrame m #[(.int (0 : Int32)), (.int (0 : Int32))] 2 = mkF m 0 #[.val (.int (0 : Int32)), .val (.int (0 : Int32))] [] := by first | (simp [entryFrame, mkF, argsToLocals, Value.category]; done) | rfl
set_option maxRecDepth 65536 in
set_option maxHeartbeats 40000000 in
theorem max_s1 (l : Launch) (Z : State) (a0 : Array Value) (n0 : Nat) (hw : ∀ d ∈ tables_1, d.before a0 Z = true) (hEL : EW Z a0 consts_1) (G1 : Int32) (O1 : Sta Z Z.heap "java/lang/String" "COMPACT_STRINGS" "Z" (.int G1)) (P1 : ¬ (G1 = (0 : Int32))) (G3 : Value) (O3 : Sta Z Z.heap "jdk/internal/util/Preconditions" "SIOOBE_FORMATTER" "Ljava/util/function/BiFunction;" G3) (rG3 : G3.isRef = true) (oe up lo di sy : Addr) (O5 : Sta Z Z.heap "java/util/Optional" "EMPTY" "Ljava/util/Optional;" (.ref oe)) (E5 : Exa Z Z.heap oe "java/util/Optional") (F5 : Fld Z Z.heap oe "java/util/Optional" "value" "Ljava/lang/Object;" .null) (O_up : Sta Z Z.heap "com/example/lokit/lokit/password/CharacterClass" "UPPER_CASE" "Lcom/example/lokit/lokit/password/CharacterClass;" (.ref up)) (O_lo : Sta Z Z.heap "com/example/lokit/lokit/password/CharacterClass" "LOWER_CASE" "Lcom/example/lokit/lokit/password/CharacterClass;" (.ref lo)) (O_di : Sta Z Z.heap "com/example/lokit/lokit/password/CharacterClass" "DIGIT" "Lcom/example/lokit/lokit/password/CharacterClass;" (.ref di)) (O_sy : Sta Z Z.heap "com/example/lokit/lokit/password/CharacterClass" "SYMBOL" "Lcom/example/lokit/lokit/password/CharacterClass;" (.ref sy))  (h0 : Heap) (hO : Old Z n0 h0)  :
    Con l Z consts_1 n0 (⟨"java/lang/Math", "max", "(II)I"⟩ : MethodName) jdk_29_method_65_code 2 (some .int) ({ frames := 0, cells := 0, slots := 0, locals := 0 } : Room) #[(.int (0 : Int32)), (.int (0 : Int32))] h0 [] (fun v h V' => v = some (.int (0 : Int32)) ∧ h0 = h) [] := by
  refine Con.of (a0 := a0) pf18 (fun m => ef_max_s1 m ) all0 hO hEL ?_
  intro p e s m below meth c S0 hnm hsf W
  replace W := W.iloadN (pc' := 1) djdk_29_65_0 rfl rfl
  replace W := W.iloadN (pc' := 2) djdk_29_65_1 rfl rfl
  replace W := W.icmpF (pc' := 5) djdk_29_65_2 (flt (by decide : ¬ ((0 : Int32) < (0 : Int32)))).1 rfl
  replace W := W.iloadN (pc' := 6) djdk_29_65_5 rfl rfl
  replace W := W.goto (pc' := 10) djdk_29_65_6 (by decide) (by decide)
  exact W.iret (t := .int) djdk_29_65_10 rfl (by simp) rfl (by decide) (by decide) (fun V' cv => ⟨rfl, rfl⟩)
theorem ef_min_s1 (m : MethodId)  : entryFrame m #[(.int (2 : Int32)), (.int (2 : Int32))] 2 = mkF m 0 #[.val (.int (2 : Int32)), .val (.int (2 : Int32))] [] := by first | (simp [entryFrame, mkF, argsToLocals, Value.category]; done) | rfl
set_option maxRecDepth 65536 in
set_option maxHeartbeats 40000000 in
theorem min_s1 (l : Launch) (Z : State) (a0 : Array Value) (n0 : Nat) (hw : ∀ d ∈ tables_1, d.before a0 Z = true) (hEL : EW Z a0 consts_1) (G1 : Int32) (O1 : Sta Z Z.heap "java/lang/String" "COMPACT_STRINGS" "Z" (.int G1)) (P1 : ¬ (G1 = (0 : Int32))) (G3 : Value) (O3 : Sta Z Z.heap "jdk/internal/util/Preconditions" "SIOOBE_FORMATTER" "Ljava/util/function/BiFunction;" G3) (rG3 : G3.isRef = true) (oe up lo di sy : Addr) (O5 : Sta Z Z.heap "java/util/Optional" "EMPTY" "Ljava/util/Optional;" (.ref oe)) (E5 : Exa Z Z.heap oe "java/util/Optional") (F5 : Fld Z Z.heap oe "java/util/Optional" "value" "Ljava/lang/Object;" .null) (O_up : Sta Z Z.heap "com/example/lokit/lokit/password/CharacterClass" "UPPER_CASE" "Lcom/example/lokit/lokit/password/CharacterClass;" (.ref up)) (O_lo : Sta Z Z.heap "com/example/lokit/lokit/password/CharacterClass" "LOWER_CASE" "Lcom/example/lokit/lokit/password/CharacterClass;" (.ref lo)) (O_di : Sta Z Z.heap "com/example/lokit/lokit/password/CharacterClass" "DIGIT" "Lcom/example/lokit/lokit/password/CharacterClass;" (.ref di)) (O_sy : Sta Z Z.heap "com/example/lokit/lokit/password/CharacterClass" "SYMBOL" "Lcom/example/lokit/lokit/password/CharacterClass;" (.ref sy))  (h0 : Heap) (hO : Old Z n0 h0)  :
    Con l Z consts_1 n0 (⟨"java/lang/Math", "min", "(II)I"⟩ : MethodName) jdk_29_method_69_code 2 (some .int) ({ frames := 0, cells := 0, slots := 0, locals := 0 } : Room) #[(.int (2 : Int32)), (.int (2 : Int32))] h0 [] (fun v h V' => v = some (.int (2 : Int32)) ∧ h0 = h) [] := by
  refine Con.of (a0 := a0) pf19 (fun m => ef_min_s1 m ) all0 hO hEL ?_
  intro p e s m below meth c S0 hnm hsf W
  replace W := W.iloadN (pc' := 1) djdk_29_69_0 rfl rfl
  replace W := W.iloadN (pc' := 2) djdk_29_69_1 rfl rfl
  replace W := W.icmpF (pc' := 5) djdk_29_69_2 (flt (by decide : ¬ ((2 : Int32) < (2 : Int32)))).2.2.1 rfl
  replace W := W.iloadN (pc' := 6) djdk_29_69_5 rfl rfl
  replace W := W.goto (pc' := 10) djdk_29_69_6 (by decide) (by decide)
  exact W.iret (t := .int) djdk_29_69_10 rfl (by simp) rfl (by decide) (by decide) (fun V' cv => ⟨rfl, rfl⟩)
theorem ef_ioc_s1 (m : MethodId) (ta : Addr) (kt : ClassId) (c0 : Int32) (c1 : Int32) (cp : Int32) : entryFrame m #[(.ref ta), (.int cp), (.int (0 : Int32)), (.int (2 : Int32))] 6 = mkF m 0 #[.val (.ref ta), .val (.int cp), .val (.int (0 : Int32)), .val (.int (2 : Int32)), .unset, .unset] [] := by first | (simp [entryFrame, mkF, argsToLocals, Value.category]; done) | rfl
set_option maxRecDepth 65536 in
set_option maxHeartbeats 40000000 in
theorem ioc_s1 (l : Launch) (Z : State) (a0 : Array Value) (n0 : Nat) (hw : ∀ d ∈ tables_1, d.before a0 Z = true) (hEL : EW Z a0 consts_1) (G1 : Int32) (O1 : Sta Z Z.heap "java/lang/String" "COMPACT_STRINGS" "Z" (.int G1)) (P1 : ¬ (G1 = (0 : Int32))) (G3 : Value) (O3 : Sta Z Z.heap "jdk/internal/util/Preconditions" "SIOOBE_FORMATTER" "Ljava/util/function/BiFunction;" G3) (rG3 : G3.isRef = true) (oe up lo di sy : Addr) (O5 : Sta Z Z.heap "java/util/Optional" "EMPTY" "Ljava/util/Optional;" (.ref oe)) (E5 : Exa Z Z.heap oe "java/util/Optional") (F5 : Fld Z Z.heap oe "java/util/Optional" "value" "Ljava/lang/Object;" .null) (O_up : Sta Z Z.heap "com/example/lokit/lokit/password/CharacterClass" "UPPER_CASE" "Lcom/example/lokit/lokit/password/CharacterClass;" (.ref up)) (O_lo : Sta Z Z.heap "com/example/lokit/lokit/password/CharacterClass" "LOWER_CASE" "Lcom/example/lokit/lokit/password/CharacterClass;" (.ref lo)) (O_di : Sta Z Z.heap "com/example/lokit/lokit/password/CharacterClass" "DIGIT" "Lcom/example/lokit/lokit/password/CharacterClass;" (.ref di)) (O_sy : Sta Z Z.heap "com/example/lokit/lokit/password/CharacterClass" "SYMBOL" "Lcom/example/lokit/lokit/password/CharacterClass;" (.ref sy)) (ta : Addr) (kt : ClassId) (c0 : Int32) (c1 : Int32) (cp : Int32) (h0 : Heap) (hO : Old Z n0 h0) (V_ta : Arv Z h0 ta kt .byte (2 : Int32) [(.int (c0.toInt8.toInt32)), (.int (c1.toInt8.toInt32))] (.int (0 : Int32))) (hp_c0 : ¬ c0 < 0 ∧ ¬ (255 : Int32) < c0) (hp_c1 : ¬ c1 < 0 ∧ ¬ (255 : Int32) < c1) (e0 : ¬ cp < (0 : Int32)) (e1 : ¬ (255 : Int32) < cp) (ne_c0 : ¬ cp = c0) (eq_c1 : cp = c1) :
    Con l Z consts_1 n0 (⟨"java/lang/StringLatin1", "indexOfChar", "([BIII)I"⟩ : MethodName) jdk_43_method_23_code 6 (some .int) ({ frames := 0, cells := 0, slots := 0, locals := 0 } : Room) #[(.ref ta), (.int cp), (.int (0 : Int32)), (.int (2 : Int32))] h0 [] (fun v h V' => v = some (.int (1 : Int32)) ∧ h0 = h) [] := by
  refine Con.of (a0 := a0) pf20 (fun m => ef_ioc_s1 m ta kt c0 c1 cp) all0 hO hEL ?_
  intro p e s m below meth c S0 hnm hsf W
  replace W := W.iloadN (pc' := 1) djdk_43_23_0 rfl rfl
  replace W := W.i2b (pc' := 2) (v := (cp.toInt8.toInt32)) djdk_43_23_1 rfl rfl
  replace W := W.istore (pc' := 4) (L' := #[.val (.ref ta), .val (.int cp), .val (.int (0 : Int32)), .val (.int (2 : Int32)), .val (.int (cp.toInt8.toInt32)), .unset]) djdk_43_23_2 rfl rfl
  replace W := W.iloadN (pc' := 5) djdk_43_23_4 rfl rfl
  replace W := W.istore (pc' := 7) (L' := #[.val (.ref ta), .val (.int cp), .val (.int (0 : Int32)), .val (.int (2 : Int32)), .val (.int (cp.toInt8.toInt32)), .val (.int (0 : Int32))]) djdk_43_23_5 rfl rfl
  replace W := W.iload (pc' := 9) djdk_43_23_7 rfl rfl
  replace W := W.iloadN (pc' := 10) djdk_43_23_9 rfl rfl
  replace W := W.icmpF (pc' := 13) djdk_43_23_10 (tlt (by decide : (0 : Int32) < (2 : Int32))).2.1 rfl
  replace W := W.aloadN (pc' := 14) djdk_43_23_13 rfl rfl rfl
  replace W := W.iload (pc' := 16) djdk_43_23_14 rfl rfl
  replace W := W.baload (pc' := 17) (w := (.int (c0.toInt8.toInt32))) djdk_43_23_16 V_ta ⟨by decide, by decide⟩ rfl rfl
  replace W := W.iload (pc' := 19) djdk_43_23_17 rfl rfl
  replace W := W.icmpT (pc' := 25) djdk_43_23_19 (feq (own_lo8inj hp_c0 ⟨e0, e1⟩ ne_c0)).2 (by decide) (by decide)
  replace W := W.iinc (pc' := 28) (v := (1 : Int32)) (L' := #[.val (.ref ta), .val (.int cp), .val (.int (0 : Int32)), .val (.int (2 : Int32)), .val (.int (cp.toInt8.toInt32)), .val (.int (1 : Int32))]) djdk_43_23_25 rfl (by decide) rfl rfl
  replace W := W.goto (pc' := 7) djdk_43_23_28 (by decide) (by decide)
  replace W := W.iload (pc' := 9) djdk_43_23_7 rfl rfl
  replace W := W.iloadN (pc' := 10) djdk_43_23_9 rfl rfl
  replace W := W.icmpF (pc' := 13) djdk_43_23_10 (tlt (by decide : (1 : Int32) < (2 : Int32))).2.1 rfl
  replace W := W.aloadN (pc' := 14) djdk_43_23_13 rfl rfl rfl
  replace W := W.iload (pc' := 16) djdk_43_23_14 rfl rfl
  replace W := W.baload (pc' := 17) (w := (.int (c1.toInt8.toInt32))) djdk_43_23_16 V_ta ⟨by decide, by decide⟩ rfl rfl
  replace W := W.iload (pc' := 19) djdk_43_23_17 rfl rfl
  replace W := W.icmpF (pc' := 22) djdk_43_23_19 (teq (by rw [eq_c1])).2 rfl
  replace W := W.iload (pc' := 24) djdk_43_23_22 rfl rfl
  exact W.iret (t := .int) djdk_43_23_24 rfl (by simp) rfl (by decide) (by decide) (fun V' cv => ⟨rfl, rfl⟩)
theorem ef_lio_s1 (m : MethodId) (ta : Addr) (kt : ClassId) (c0 : Int32) (c1 : Int32) (cp : Int32) : entryFrame m #[(.ref ta), (.int cp), (.int (0 : Int32)), (.int (2 : Int32))] 4 = mkF m 0 #[.val (.ref ta), .val (.int cp), .val (.int (0 : Int32)), .val (.int (2 : Int32))] [] := by first | (simp [entryFrame, mkF, argsToLocals, Value.category]; done) | rfl
set_option maxRecDepth 65536 in
set_option maxHeartbeats 40000000 in
theorem lio_s1 (l : Launch) (Z : State) (a0 : Array Value) (n0 : Nat) (hw : ∀ d ∈ tables_1, d.before a0 Z = true) (hEL : EW Z a0 consts_1) (G1 : Int32) (O1 : Sta Z Z.heap "java/lang/String" "COMPACT_STRINGS" "Z" (.int G1)) (P1 : ¬ (G1 = (0 : Int32))) (G3 : Value) (O3 : Sta Z Z.heap "jdk/internal/util/Preconditions" "SIOOBE_FORMATTER" "Ljava/util/function/BiFunction;" G3) (rG3 : G3.isRef = true) (oe up lo di sy : Addr) (O5 : Sta Z Z.heap "java/util/Optional" "EMPTY" "Ljava/util/Optional;" (.ref oe)) (E5 : Exa Z Z.heap oe "java/util/Optional") (F5 : Fld Z Z.heap oe "java/util/Optional" "value" "Ljava/lang/Object;" .null) (O_up : Sta Z Z.heap "com/example/lokit/lokit/password/CharacterClass" "UPPER_CASE" "Lcom/example/lokit/lokit/password/CharacterClass;" (.ref up)) (O_lo : Sta Z Z.heap "com/example/lokit/lokit/password/CharacterClass" "LOWER_CASE" "Lcom/example/lokit/lokit/password/CharacterClass;" (.ref lo)) (O_di : Sta Z Z.heap "com/example/lokit/lokit/password/CharacterClass" "DIGIT" "Lcom/example/lokit/lokit/password/CharacterClass;" (.ref di)) (O_sy : Sta Z Z.heap "com/example/lokit/lokit/password/CharacterClass" "SYMBOL" "Lcom/example/lokit/lokit/password/CharacterClass;" (.ref sy)) (ta : Addr) (kt : ClassId) (c0 : Int32) (c1 : Int32) (cp : Int32) (h0 : Heap) (hO : Old Z n0 h0) (V_ta : Arv Z h0 ta kt .byte (2 : Int32) [(.int (c0.toInt8.toInt32)), (.int (c1.toInt8.toInt32))] (.int (0 : Int32))) (hp_c0 : ¬ c0 < 0 ∧ ¬ (255 : Int32) < c0) (hp_c1 : ¬ c1 < 0 ∧ ¬ (255 : Int32) < c1) (e0 : ¬ cp < (0 : Int32)) (e1 : ¬ (255 : Int32) < cp) (ne_c0 : ¬ cp = c0) (eq_c1 : cp = c1) :
    Con l Z consts_1 n0 (⟨"java/lang/StringLatin1", "indexOf", "([BIII)I"⟩ : MethodName) jdk_43_method_22_code 4 (some .int) ({ frames := 1, cells := 0, slots := 0, locals := 17 } : Room) #[(.ref ta), (.int cp), (.int (0 : Int32)), (.int (2 : Int32))] h0 [] (fun v h V' => v = some (.int (1 : Int32)) ∧ h0 = h) [] := by
  refine Con.of (a0 := a0) pf21 (fun m => ef_lio_s1 m ta kt c0 c1 cp) all0 hO hEL ?_
  intro p e s m below meth c S0 hnm hsf W
  replace W := W.iloadN (pc' := 1) djdk_43_22_0 rfl rfl
  obtain ⟨V1, h1, r1, W1, K1, hQ1, SF1⟩ := W.callS (pc' := 4) (argsL := [(.int cp)]) (rest := []) (Wd := 0) (cells' := 0) (slots' := 0) (y := (⟨"java/lang/StringLatin1", "canEncode", "(I)Z"⟩ : MethodName)) djdk_43_22_1 (canenc_1 l Z a0 n0 hw hEL G1 O1 P1 G3 O3 rG3 oe up lo di sy O5 E5 F5 O_up O_lo O_di O_sy cp h0 W.old e0 e1) (tw116 hw) (tw117 hw) (tw70 hw) (tw118 hw) (by decide) (lenOf pd9 rfl) rfl rfl (by decide) (by decide) rfl sf0 all0 rfl rfl rfl (by decide) (by decide)
  clear W
  obtain ⟨rfl, hs1⟩ := hQ1
  subst hs1
  replace W1 := W1.cast (st' := [(.int (1 : Int32))]) rfl
  replace W1 := W1.ifT (pc' := 9) djdk_43_22_4 (feq (by decide : ¬ ((1 : Int32) = (0 : Int32)))).2 (by decide) (by decide)
  replace W1 := W1.iloadN (pc' := 10) djdk_43_22_9 rfl rfl
  replace W1 := W1.iconst (pc' := 11) (v := (0 : Int32)) djdk_43_22_10 rfl rfl
  obtain ⟨V2, h2, r2, W2, K2, hQ2, SF2⟩ := W1.callS (pc' := 14) (argsL := [(.int (0 : Int32)), (.int (0 : Int32))]) (rest := []) (Wd := 0) (cells' := 0) (slots' := 0) (y := (⟨"java/lang/Math", "max", "(II)I"⟩ : MethodName)) djdk_43_22_11 (max_s1 l Z a0 n0 hw hEL G1 O1 P1 G3 O3 rG3 oe up lo di sy O5 E5 F5 O_up O_lo O_di O_sy h0 W1.old) (tw119 hw) (tw120 hw) (tw121 hw) (tw122 hw) (by decide) (lenOf pd10 rfl) rfl rfl (by decide) (by decide) rfl sf0 all0 rfl rfl rfl (by decide) (by decide)
  clear W1
  obtain ⟨rfl, hs2⟩ := hQ2
  subst hs2
  replace W2 := W2.cast (st' := [(.int (0 : Int32))]) rfl
  replace W2 := W2.istoreN (pc' := 15) (L' := #[.val (.ref ta), .val (.int cp), .val (.int (0 : Int32)), .val (.int (2 : Int32))]) djdk_43_22_14 rfl rfl
  replace W2 := W2.iloadN (pc' := 16) djdk_43_22_15 rfl rfl
  replace W2 := W2.aloadN (pc' := 17) djdk_43_22_16 rfl rfl rfl
  replace W2 := W2.alen (pc' := 18) djdk_43_22_17 V_ta rfl
  obtain ⟨V3, h3, r3, W3, K3, hQ3, SF3⟩ := W2.callS (pc' := 21) (argsL := [(.int (2 : Int32)), (.int (2 : Int32))]) (rest := []) (Wd := 0) (cells' := 0) (slots' := 0) (y := (⟨"java/lang/Math", "min", "(II)I"⟩ : MethodName)) djdk_43_22_18 (min_s1 l Z a0 n0 hw hEL G1 O1 P1 G3 O3 rG3 oe up lo di sy O5 E5 F5 O_up O_lo O_di O_sy h0 W2.old) (tw123 hw) (tw124 hw) (tw121 hw) (tw125 hw) (by decide) (lenOf pd10 rfl) rfl rfl (by decide) (by decide) rfl sf0 all0 rfl rfl rfl (by decide) (by decide)
  clear W2
  obtain ⟨rfl, hs3⟩ := hQ3
  subst hs3
  replace W3 := W3.cast (st' := [(.int (2 : Int32))]) rfl
  replace W3 := W3.istoreN (pc' := 22) (L' := #[.val (.ref ta), .val (.int cp), .val (.int (0 : Int32)), .val (.int (2 : Int32))]) djdk_43_22_21 rfl rfl
  replace W3 := W3.iloadN (pc' := 23) djdk_43_22_22 rfl rfl
  replace W3 := W3.iloadN (pc' := 24) djdk_43_22_23 rfl rfl
  replace W3 := W3.icmpT (pc' := 29) djdk_43_22_24 (tlt (by decide : (0 : Int32) < (2 : Int32))).1 (by decide) (by decide)
  replace W3 := W3.aloadN (pc' := 30) djdk_43_22_29 rfl rfl rfl
  replace W3 := W3.iloadN (pc' := 31) djdk_43_22_30 rfl rfl
  replace W3 := W3.iloadN (pc' := 32) djdk_43_22_31 rfl rfl
  replace W3 := W3.iloadN (pc' := 33) djdk_43_22_32 rfl rfl
  obtain ⟨V4, h4, r4, W4, K4, hQ4, SF4⟩ := W3.callS (pc' := 36) (argsL := [(.ref ta), (.int cp), (.int (0 : Int32)), (.int (2 : Int32))]) (rest := []) (Wd := 0) (cells' := 0) (slots' := 0) (y := (⟨"java/lang/StringLatin1", "indexOfChar", "([BIII)I"⟩ : MethodName)) djdk_43_22_33 (ioc_s1 l Z a0 n0 hw hEL G1 O1 P1 G3 O3 rG3 oe up lo di sy O5 E5 F5 O_up O_lo O_di O_sy ta kt c0 c1 cp h0 W3.old V_ta hp_c0 hp_c1 e0 e1 ne_c0 eq_c1) (tw126 hw) (tw127 hw) (tw70 hw) (tw128 hw) (by decide) (lenOf pd11 rfl) rfl rfl (by decide) (by decide) rfl sf0 all0 rfl rfl rfl (by decide) (by decide)
  clear W3
  obtain ⟨rfl, hs4⟩ := hQ4
  subst hs4
  replace W4 := W4.cast (st' := [(.int (1 : Int32))]) rfl
  exact W4.iret (t := .int) djdk_43_22_36 rfl (by simp) rfl (by decide) (by decide) (fun V' cv => ⟨rfl, rfl⟩)
theorem ef_io2_s1 (m : MethodId) (xa : Addr) (ta : Addr) (kt : ClassId) (c0 : Int32) (c1 : Int32) (cp : Int32) : entryFrame m #[(.ref xa), (.int cp), (.int (0 : Int32))] 3 = mkF m 0 #[.val (.ref xa), .val (.int cp), .val (.int (0 : Int32))] [] := by first | (simp [entryFrame, mkF, argsToLocals, Value.category]; done) | rfl
set_option maxRecDepth 65536 in
set_option maxHeartbeats 40000000 in
theorem io2_s1 (l : Launch) (Z : State) (a0 : Array Value) (n0 : Nat) (hw : ∀ d ∈ tables_1, d.before a0 Z = true) (hEL : EW Z a0 consts_1) (G1 : Int32) (O1 : Sta Z Z.heap "java/lang/String" "COMPACT_STRINGS" "Z" (.int G1)) (P1 : ¬ (G1 = (0 : Int32))) (G3 : Value) (O3 : Sta Z Z.heap "jdk/internal/util/Preconditions" "SIOOBE_FORMATTER" "Ljava/util/function/BiFunction;" G3) (rG3 : G3.isRef = true) (oe up lo di sy : Addr) (O5 : Sta Z Z.heap "java/util/Optional" "EMPTY" "Ljava/util/Optional;" (.ref oe)) (E5 : Exa Z Z.heap oe "java/util/Optional") (F5 : Fld Z Z.heap oe "java/util/Optional" "value" "Ljava/lang/Object;" .null) (O_up : Sta Z Z.heap "com/example/lokit/lokit/password/CharacterClass" "UPPER_CASE" "Lcom/example/lokit/lokit/password/CharacterClass;" (.ref up)) (O_lo : Sta Z Z.heap "com/example/lokit/lokit/password/CharacterClass" "LOWER_CASE" "Lcom/example/lokit/lokit/password/CharacterClass;" (.ref lo)) (O_di : Sta Z Z.heap "com/example/lokit/lokit/password/CharacterClass" "DIGIT" "Lcom/example/lokit/lokit/password/CharacterClass;" (.ref di)) (O_sy : Sta Z Z.heap "com/example/lokit/lokit/password/CharacterClass" "SYMBOL" "Lcom/example/lokit/lokit/password/CharacterClass;" (.ref sy)) (xa : Addr) (ta : Addr) (kt : ClassId) (c0 : Int32) (c1 : Int32) (cp : Int32) (h0 : Heap) (hO : Old Z n0 h0) (E_xa : Exa Z h0 xa "java/lang/String") (F_xa_coder : Fld Z h0 xa "java/lang/String" "coder" "B" (.int (0 : Int32))) (F_xa_value : Fld Z h0 xa "java/lang/String" "value" "[B" (.ref ta)) (V_ta : Arv Z h0 ta kt .byte (2 : Int32) [(.int (c0.toInt8.toInt32)), (.int (c1.toInt8.toInt32))] (.int (0 : Int32))) (hp_c0 : ¬ c0 < 0 ∧ ¬ (255 : Int32) < c0) (hp_c1 : ¬ c1 < 0 ∧ ¬ (255 : Int32) < c1) (e0 : ¬ cp < (0 : Int32)) (e1 : ¬ (255 : Int32) < cp) (ne_c0 : ¬ cp = c0) (eq_c1 : cp = c1) :
    Con l Z consts_1 n0 (⟨"java/lang/String", "indexOf", "(II)I"⟩ : MethodName) jdk_42_method_80_code 3 (some .int) ({ frames := 2, cells := 0, slots := 0, locals := 32 } : Room) #[(.ref xa), (.int cp), (.int (0 : Int32))] h0 [] (fun v h V' => v = some (.int (1 : Int32)) ∧ h0 = h) [] := by
  refine Con.of (a0 := a0) pf22 (fun m => ef_io2_s1 m xa ta kt c0 c1 cp) all0 hO hEL ?_
  intro p e s m below meth c S0 hnm hsf W
  replace W := W.aloadN (pc' := 1) djdk_42_80_0 rfl rfl rfl
  obtain ⟨V1, h1, r1, W1, K1, hQ1, SF1⟩ := W.callV (pc' := 4) (argsL := []) (rest := []) (Wd := 0) (cells' := 0) (slots' := 0) (a := xa) (C := "java/lang/String") (y := (⟨"java/lang/String", "isLatin1", "()Z"⟩ : MethodName)) (z := (⟨"java/lang/String", "isLatin1", "()Z"⟩ : MethodName)) djdk_42_80_1 (islat l Z a0 n0 hw hEL G1 O1 P1 G3 O3 rG3 oe up lo di sy O5 E5 F5 O_up O_lo O_di O_sy xa h0 W.old F_xa_coder) E_xa (tw63 hw) (tw64 hw) (Or.inl (tw66 hw)) (tw66 hw) (tw65 hw) (tw7 hw) (tw67 hw) (by decide) (lenOf pd12 rfl) rfl rfl (by decide) (by decide) rfl sf0 all0 rfl rfl rfl (by decide) (by decide)
  clear W
  obtain ⟨rfl, hs1⟩ := hQ1
  subst hs1
  replace W1 := W1.cast (st' := [(.int (1 : Int32))]) rfl
  replace W1 := W1.ifF (pc' := 7) djdk_42_80_4 (feq (by decide : ¬ ((1 : Int32) = (0 : Int32)))).1 rfl
  replace W1 := W1.aloadN (pc' := 8) djdk_42_80_7 rfl rfl rfl
  replace W1 := W1.getf (pc' := 11) djdk_42_80_8 (tw32 hw) Via.refl F_xa_value rfl
  replace W1 := W1.iloadN (pc' := 12) djdk_42_80_11 rfl rfl
  replace W1 := W1.iloadN (pc' := 13) djdk_42_80_12 rfl rfl
  replace W1 := W1.aloadN (pc' := 14) djdk_42_80_13 rfl rfl rfl
  obtain ⟨V2, h2, r2, W2, K2, hQ2, SF2⟩ := W1.callV (pc' := 17) (argsL := []) (rest := [(.int (0 : Int32)), (.int cp), (.ref ta)]) (Wd := 3) (cells' := 0) (slots' := 0) (a := xa) (C := "java/lang/String") (y := (⟨"java/lang/String", "length", "()I"⟩ : MethodName)) (z := (⟨"java/lang/String", "length", "()I"⟩ : MethodName)) djdk_42_80_14 (len_s1 l Z a0 n0 hw hEL G1 O1 P1 G3 O3 rG3 oe up lo di sy O5 E5 F5 O_up O_lo O_di O_sy xa ta kt c0 c1 h0 W1.old E_xa F_xa_coder F_xa_value V_ta hp_c0 hp_c1) E_xa (tw112 hw) (tw49 hw) (Or.inl (tw51 hw)) (tw51 hw) (tw50 hw) (tw7 hw) (tw52 hw) (by decide) (lenOf pd13 rfl) rfl rfl (by decide) (by decide) rfl sf0 all0 rfl rfl rfl (by decide) (by decide)
  clear W1
  obtain ⟨rfl, hs2⟩ := hQ2
  subst hs2
  replace W2 := W2.cast (st' := [(.int (2 : Int32)), (.int (0 : Int32)), (.int cp), (.ref ta)]) rfl
  obtain ⟨V3, h3, r3, W3, K3, hQ3, SF3⟩ := W2.callS (pc' := 20) (argsL := [(.ref ta), (.int cp), (.int (0 : Int32)), (.int (2 : Int32))]) (rest := []) (Wd := 0) (cells' := 0) (slots' := 0) (y := (⟨"java/lang/StringLatin1", "indexOf", "([BIII)I"⟩ : MethodName)) djdk_42_80_17 (lio_s1 l Z a0 n0 hw hEL G1 O1 P1 G3 O3 rG3 oe up lo di sy O5 E5 F5 O_up O_lo O_di O_sy ta kt c0 c1 cp h0 W2.old V_ta hp_c0 hp_c1 e0 e1 ne_c0 eq_c1) (tw113 hw) (tw114 hw) (tw70 hw) (tw115 hw) (by decide) (lenOf pd11 rfl) rfl rfl (by decide) (by decide) rfl sf0 all0 rfl rfl rfl (by decide) (by decide)
  clear W2
  obtain ⟨rfl, hs3⟩ := hQ3
  subst hs3
  replace W3 := W3.cast (st' := [(.int (1 : Int32))]) rfl
  replace W3 := W3.goto (pc' := 36) djdk_42_80_20 (by decide) (by decide)
  exact W3.iret (t := .int) djdk_42_80_36 rfl (by simp) rfl (by decide) (by decide) (fun V' cv => ⟨rfl, rfl⟩)
theorem ef_io1_s1 (m : MethodId) (xa : Addr) (ta : Addr) (kt : ClassId) (c0 : Int32) (c1 : Int32) (cp : Int32) : entryFrame m #[(.ref xa), (.int cp)] 2 = mkF m 0 #[.val (.ref xa), .val (.int cp)] [] := by first | (simp [entryFrame, mkF, argsToLocals, Value.category]; done) | rfl
set_option maxRecDepth 65536 in
set_option maxHeartbeats 40000000 in
theorem io1_s1 (l : Launch) (Z : State) (a0 : Array Value) (n0 : Nat) (hw : ∀ d ∈ tables_1, d.before a0 Z = true) (hEL : EW Z a0 consts_1) (G1 : Int32) (O1 : Sta Z Z.heap "java/lang/String" "COMPACT_STRINGS" "Z" (.int G1)) (P1 : ¬ (G1 = (0 : Int32))) (G3 : Value) (O3 : Sta Z Z.heap "jdk/internal/util/Preconditions" "SIOOBE_FORMATTER" "Ljava/util/function/BiFunction;" G3) (rG3 : G3.isRef = true) (oe up lo di sy : Addr) (O5 : Sta Z Z.heap "java/util/Optional" "EMPTY" "Ljava/util/Optional;" (.ref oe)) (E5 : Exa Z Z.heap oe "java/util/Optional") (F5 : Fld Z Z.heap oe "java/util/Optional" "value" "Ljava/lang/Object;" .null) (O_up : Sta Z Z.heap "com/example/lokit/lokit/password/CharacterClass" "UPPER_CASE" "Lcom/example/lokit/lokit/password/CharacterClass;" (.ref up)) (O_lo : Sta Z Z.heap "com/example/lokit/lokit/password/CharacterClass" "LOWER_CASE" "Lcom/example/lokit/lokit/password/CharacterClass;" (.ref lo)) (O_di : Sta Z Z.heap "com/example/lokit/lokit/password/CharacterClass" "DIGIT" "Lcom/example/lokit/lokit/password/CharacterClass;" (.ref di)) (O_sy : Sta Z Z.heap "com/example/lokit/lokit/password/CharacterClass" "SYMBOL" "Lcom/example/lokit/lokit/password/CharacterClass;" (.ref sy)) (xa : Addr) (ta : Addr) (kt : ClassId) (c0 : Int32) (c1 : Int32) (cp : Int32) (h0 : Heap) (hO : Old Z n0 h0) (E_xa : Exa Z h0 xa "java/lang/String") (F_xa_coder : Fld Z h0 xa "java/lang/String" "coder" "B" (.int (0 : Int32))) (F_xa_value : Fld Z h0 xa "java/lang/String" "value" "[B" (.ref ta)) (V_ta : Arv Z h0 ta kt .byte (2 : Int32) [(.int (c0.toInt8.toInt32)), (.int (c1.toInt8.toInt32))] (.int (0 : Int32))) (hp_c0 : ¬ c0 < 0 ∧ ¬ (255 : Int32) < c0) (hp_c1 : ¬ c1 < 0 ∧ ¬ (255 : Int32) < c1) (e0 : ¬ cp < (0 : Int32)) (e1 : ¬ (255 : Int32) < cp) (ne_c0 : ¬ cp = c0) (eq_c1 : cp = c1) :
    Con l Z consts_1 n0 (⟨"java/lang/String", "indexOf", "(I)I"⟩ : MethodName) jdk_42_method_79_code 2 (some .int) ({ frames := 3, cells := 0, slots := 0, locals := 46 } : Room) #[(.ref xa), (.int cp)] h0 [] (fun v h V' => v = some (.int (1 : Int32)) ∧ h0 = h) [] := by
  refine Con.of (a0 := a0) pf23 (fun m => ef_io1_s1 m xa ta kt c0 c1 cp) all0 hO hEL ?_
  intro p e s m below meth c S0 hnm hsf W
  replace W := W.aloadN (pc' := 1) djdk_42_79_0 rfl rfl rfl
  replace W := W.iloadN (pc' := 2) djdk_42_79_1 rfl rfl
  replace W := W.iconst (pc' := 3) (v := (0 : Int32)) djdk_42_79_2 rfl rfl
  obtain ⟨V1, h1, r1, W1, K1, hQ1, SF1⟩ := W.callV (pc' := 6) (argsL := [(.int cp), (.int (0 : Int32))]) (rest := []) (Wd := 0) (cells' := 0) (slots' := 0) (a := xa) (C := "java/lang/String") (y := (⟨"java/lang/String", "indexOf", "(II)I"⟩ : MethodName)) (z := (⟨"java/lang/String", "indexOf", "(II)I"⟩ : MethodName)) djdk_42_79_3 (io2_s1 l Z a0 n0 hw hEL G1 O1 P1 G3 O3 rG3 oe up lo di sy O5 E5 F5 O_up O_lo O_di O_sy xa ta kt c0 c1 cp h0 W.old E_xa F_xa_coder F_xa_value V_ta hp_c0 hp_c1 e0 e1 ne_c0 eq_c1) E_xa (tw107 hw) (tw108 hw) (Or.inl (tw110 hw)) (tw110 hw) (tw109 hw) (tw7 hw) (tw111 hw) (by decide) (lenOf pd10 rfl) rfl rfl (by decide) (by decide) rfl sf0 all0 rfl rfl rfl (by decide) (by decide)
  clear W
  obtain ⟨rfl, hs1⟩ := hQ1
  subst hs1
  replace W1 := W1.cast (st' := [(.int (1 : Int32))]) rfl
  exact W1.iret (t := .int) djdk_42_79_6 rfl (by simp) rfl (by decide) (by decide) (fun V' cv => ⟨rfl, rfl⟩)
theorem ef_len_n2 (m : MethodId) (xa : Addr) (ta : Addr) (kt : ClassId) (c0 : Int32) (c1 : Int32) : entryFrame m #[(.ref xa)] 1 = mkF m 0 #[.val (.ref xa)] [] := by first | (simp [entryFrame, mkF, argsToLocals, Value.category]; done) | rfl
set_option maxRecDepth 65536 in
set_option maxHeartbeats 40000000 in
theorem len_n2 (l : Launch) (Z : State) (a0 : Array Value) (n0 : Nat) (hw : ∀ d ∈ tables_1, d.before a0 Z = true) (hEL : EW Z a0 consts_1) (G1 : Int32) (O1 : Sta Z Z.heap "java/lang/String" "COMPACT_STRINGS" "Z" (.int G1)) (P1 : ¬ (G1 = (0 : Int32))) (G3 : Value) (O3 : Sta Z Z.heap "jdk/internal/util/Preconditions" "SIOOBE_FORMATTER" "Ljava/util/function/BiFunction;" G3) (rG3 : G3.isRef = true) (oe up lo di sy : Addr) (O5 : Sta Z Z.heap "java/util/Optional" "EMPTY" "Ljava/util/Optional;" (.ref oe)) (E5 : Exa Z Z.heap oe "java/util/Optional") (F5 : Fld Z Z.heap oe "java/util/Optional" "value" "Ljava/lang/Object;" .null) (O_up : Sta Z Z.heap "com/example/lokit/lokit/password/CharacterClass" "UPPER_CASE" "Lcom/example/lokit/lokit/password/CharacterClass;" (.ref up)) (O_lo : Sta Z Z.heap "com/example/lokit/lokit/password/CharacterClass" "LOWER_CASE" "Lcom/example/lokit/lokit/password/CharacterClass;" (.ref lo)) (O_di : Sta Z Z.heap "com/example/lokit/lokit/password/CharacterClass" "DIGIT" "Lcom/example/lokit/lokit/password/CharacterClass;" (.ref di)) (O_sy : Sta Z Z.heap "com/example/lokit/lokit/password/CharacterClass" "SYMBOL" "Lcom/example/lokit/lokit/password/CharacterClass;" (.ref sy)) (xa : Addr) (ta : Addr) (kt : ClassId) (c0 : Int32) (c1 : Int32) (h0 : Heap) (hO : Old Z n0 h0) (E_xa : Exa Z h0 xa "java/lang/String") (F_xa_coder : Fld Z h0 xa "java/lang/String" "coder" "B" (.int (0 : Int32))) (F_xa_value : Fld Z h0 xa "java/lang/String" "value" "[B" (.ref ta)) (V_ta : Arv Z h0 ta kt .byte (2 : Int32) [(.int (c0.toInt8.toInt32)), (.int (c1.toInt8.toInt32))] (.int (0 : Int32))) (hp_c0 : ¬ c0 < 0 ∧ ¬ (255 : Int32) < c0) (hp_c1 : ¬ c1 < 0 ∧ ¬ (255 : Int32) < c1) :
    Con l Z consts_1 n0 (⟨"java/lang/String", "length", "()I"⟩ : MethodName) jdk_42_method_54_code 1 (some .int) ({ frames := 1, cells := 0, slots := 0, locals := 13 } : Room) #[(.ref xa)] h0 [] (fun v h V' => v = some (.int (2 : Int32)) ∧ h0 = h) [] := by
  refine Con.of (a0 := a0) pf17 (fun m => ef_len_n2 m xa ta kt c0 c1) all0 hO hEL ?_
  intro p e s m below meth c S0 hnm hsf W
  replace W := W.aloadN (pc' := 1) djdk_42_54_0 rfl rfl rfl
  replace W := W.getf (pc' := 4) djdk_42_54_1 (tw32 hw) Via.refl F_xa_value rfl
  replace W := W.alen (pc' := 5) djdk_42_54_4 V_ta rfl
  replace W := W.aloadN (pc' := 6) djdk_42_54_5 rfl rfl rfl
  obtain ⟨V1, h1, r1, W1, K1, hQ1, SF1⟩ := W.callV (pc' := 9) (argsL := []) (rest := [(.int (2 : Int32))]) (Wd := 1) (cells' := 0) (slots' := 0) (a := xa) (C := "java/lang/String") (y := (⟨"java/lang/String", "coder", "()B"⟩ : MethodName)) (z := (⟨"java/lang/String", "coder", "()B"⟩ : MethodName)) djdk_42_54_6 (coder_c l Z a0 n0 hw hEL G1 O1 P1 G3 O3 rG3 oe up lo di sy O5 E5 F5 O_up O_lo O_di O_sy xa h0 W.old F_xa_coder) E_xa (tw53 hw) (tw54 hw) (Or.inl (tw56 hw)) (tw56 hw) (tw55 hw) (tw7 hw) (tw57 hw) (by decide) (lenOf pd8 rfl) rfl rfl (by decide) (by decide) rfl sf0 all0 rfl rfl rfl (by decide) (by decide)
  clear W
  obtain ⟨rfl, hs1⟩ := hQ1
  subst hs1
  replace W1 := W1.cast (st' := [(.int (0 : Int32)), (.int (2 : Int32))]) rfl
  replace W1 := W1.ishr (pc' := 10) (v := (2 : Int32)) djdk_42_54_9 (by decide) rfl
  exact W1.iret (t := .int) djdk_42_54_10 rfl (by simp) rfl (by decide) (by decide) (fun V' cv => ⟨rfl, rfl⟩)
theorem ef_max_n2 (m : MethodId)  : entryFrame m #[(.int (0 : Int32)), (.int (0 : Int32))] 2 = mkF m 0 #[.val (.int (0 : Int32)), .val (.int (0 : Int32))] [] := by first | (simp [entryFrame, mkF, argsToLocals, Value.category]; done) | rfl
set_option maxRecDepth 65536 in
set_option maxHeartbeats 40000000 in
theorem max_n2 (l : Launch) (Z : State) (a0 : Array Value) (n0 : Nat) (hw : ∀ d ∈ tables_1, d.before a0 Z = true) (hEL : EW Z a0 consts_1) (G1 : Int32) (O1 : Sta Z Z.heap "java/lang/String" "COMPACT_STRINGS" "Z" (.int G1)) (P1 : ¬ (G1 = (0 : Int32))) (G3 : Value) (O3 : Sta Z Z.heap "jdk/internal/util/Preconditions" "SIOOBE_FORMATTER" "Ljava/util/function/BiFunction;" G3) (rG3 : G3.isRef = true) (oe up lo di sy : Addr) (O5 : Sta Z Z.heap "java/util/Optional" "EMPTY" "Ljava/util/Optional;" (.ref oe)) (E5 : Exa Z Z.heap oe "java/util/Optional") (F5 : Fld Z Z.heap oe "java/util/Optional" "value" "Ljava/lang/Object;" .null) (O_up : Sta Z Z.heap "com/example/lokit/lokit/password/CharacterClass" "UPPER_CASE" "Lcom/example/lokit/lokit/password/CharacterClass;" (.ref up)) (O_lo : Sta Z Z.heap "com/example/lokit/lokit/password/CharacterClass" "LOWER_CASE" "Lcom/example/lokit/lokit/password/CharacterClass;" (.ref lo)) (O_di : Sta Z Z.heap "com/example/lokit/lokit/password/CharacterClass" "DIGIT" "Lcom/example/lokit/lokit/password/CharacterClass;" (.ref di)) (O_sy : Sta Z Z.heap "com/example/lokit/lokit/password/CharacterClass" "SYMBOL" "Lcom/example/lokit/lokit/password/CharacterClass;" (.ref sy))  (h0 : Heap) (hO : Old Z n0 h0)  :
    Con l Z consts_1 n0 (⟨"java/lang/Math", "max", "(II)I"⟩ : MethodName) jdk_29_method_65_code 2 (some .int) ({ frames := 0, cells := 0, slots := 0, locals := 0 } : Room) #[(.int (0 : Int32)), (.int (0 : Int32))] h0 [] (fun v h V' => v = some (.int (0 : Int32)) ∧ h0 = h) [] := by
  refine Con.of (a0 := a0) pf18 (fun m => ef_max_n2 m ) all0 hO hEL ?_
  intro p e s m below meth c S0 hnm hsf W
  replace W := W.iloadN (pc' := 1) djdk_29_65_0 rfl rfl
  replace W := W.iloadN (pc' := 2) djdk_29_65_1 rfl rfl
  replace W := W.icmpF (pc' := 5) djdk_29_65_2 (flt (by decide : ¬ ((0 : Int32) < (0 : Int32)))).1 rfl
  replace W := W.iloadN (pc' := 6) djdk_29_65_5 rfl rfl
  replace W := W.goto (pc' := 10) djdk_29_65_6 (by decide) (by decide)
  exact W.iret (t := .int) djdk_29_65_10 rfl (by simp) rfl (by decide) (by decide) (fun V' cv => ⟨rfl, rfl⟩)
theorem ef_min_n2 (m : MethodId)  : entryFrame m #[(.int (2 : Int32)), (.int (2 : Int32))] 2 = mkF m 0 #[.val (.int (2 : Int32)), .val (.int (2 : Int32))] [] := by first | (simp [entryFrame, mkF, argsToLocals, Value.category]; done) | rfl
set_option maxRecDepth 65536 in
set_option maxHeartbeats 40000000 in
theorem min_n2 (l : Launch) (Z : State) (a0 : Array Value) (n0 : Nat) (hw : ∀ d ∈ tables_1, d.before a0 Z = true) (hEL : EW Z a0 consts_1) (G1 : Int32) (O1 : Sta Z Z.heap "java/lang/String" "COMPACT_STRINGS" "Z" (.int G1)) (P1 : ¬ (G1 = (0 : Int32))) (G3 : Value) (O3 : Sta Z Z.heap "jdk/internal/util/Preconditions" "SIOOBE_FORMATTER" "Ljava/util/function/BiFunction;" G3) (rG3 : G3.isRef = true) (oe up lo di sy : Addr) (O5 : Sta Z Z.heap "java/util/Optional" "EMPTY" "Ljava/util/Optional;" (.ref oe)) (E5 : Exa Z Z.heap oe "java/util/Optional") (F5 : Fld Z Z.heap oe "java/util/Optional" "value" "Ljava/lang/Object;" .null) (O_up : Sta Z Z.heap "com/example/lokit/lokit/password/CharacterClass" "UPPER_CASE" "Lcom/example/lokit/lokit/password/CharacterClass;" (.ref up)) (O_lo : Sta Z Z.heap "com/example/lokit/lokit/password/CharacterClass" "LOWER_CASE" "Lcom/example/lokit/lokit/password/CharacterClass;" (.ref lo)) (O_di : Sta Z Z.heap "com/example/lokit/lokit/password/CharacterClass" "DIGIT" "Lcom/example/lokit/lokit/password/CharacterClass;" (.ref di)) (O_sy : Sta Z Z.heap "com/example/lokit/lokit/password/CharacterClass" "SYMBOL" "Lcom/example/lokit/lokit/password/CharacterClass;" (.ref sy))  (h0 : Heap) (hO : Old Z n0 h0)  :
    Con l Z consts_1 n0 (⟨"java/lang/Math", "min", "(II)I"⟩ : MethodName) jdk_29_method_69_code 2 (some .int) ({ frames := 0, cells := 0, slots := 0, locals := 0 } : Room) #[(.int (2 : Int32)), (.int (2 : Int32))] h0 [] (fun v h V' => v = some (.int (2 : Int32)) ∧ h0 = h) [] := by
  refine Con.of (a0 := a0) pf19 (fun m => ef_min_n2 m ) all0 hO hEL ?_
  intro p e s m below meth c S0 hnm hsf W
  replace W := W.iloadN (pc' := 1) djdk_29_69_0 rfl rfl
  replace W := W.iloadN (pc' := 2) djdk_29_69_1 rfl rfl
  replace W := W.icmpF (pc' := 5) djdk_29_69_2 (flt (by decide : ¬ ((2 : Int32) < (2 : Int32)))).2.2.1 rfl
  replace W := W.iloadN (pc' := 6) djdk_29_69_5 rfl rfl
  replace W := W.goto (pc' := 10) djdk_29_69_6 (by decide) (by decide)
  exact W.iret (t := .int) djdk_29_69_10 rfl (by simp) rfl (by decide) (by decide) (fun V' cv => ⟨rfl, rfl⟩)
theorem ef_ioc_n2 (m : MethodId) (ta : Addr) (kt : ClassId) (c0 : Int32) (c1 : Int32) (cp : Int32) : entryFrame m #[(.ref ta), (.int cp), (.int (0 : Int32)), (.int (2 : Int32))] 6 = mkF m 0 #[.val (.ref ta), .val (.int cp), .val (.int (0 : Int32)), .val (.int (2 : Int32)), .unset, .unset] [] := by first | (simp [entryFrame, mkF, argsToLocals, Value.category]; done) | rfl
set_option maxRecDepth 65536 in
set_option maxHeartbeats 40000000 in
theorem ioc_n2 (l : Launch) (Z : State) (a0 : Array Value) (n0 : Nat) (hw : ∀ d ∈ tables_1, d.before a0 Z = true) (hEL : EW Z a0 consts_1) (G1 : Int32) (O1 : Sta Z Z.heap "java/lang/String" "COMPACT_STRINGS" "Z" (.int G1)) (P1 : ¬ (G1 = (0 : Int32))) (G3 : Value) (O3 : Sta Z Z.heap "jdk/internal/util/Preconditions" "SIOOBE_FORMATTER" "Ljava/util/function/BiFunction;" G3) (rG3 : G3.isRef = true) (oe up lo di sy : Addr) (O5 : Sta Z Z.heap "java/util/Optional" "EMPTY" "Ljava/util/Optional;" (.ref oe)) (E5 : Exa Z Z.heap oe "java/util/Optional") (F5 : Fld Z Z.heap oe "java/util/Optional" "value" "Ljava/lang/Object;" .null) (O_up : Sta Z Z.heap "com/example/lokit/lokit/password/CharacterClass" "UPPER_CASE" "Lcom/example/lokit/lokit/password/CharacterClass;" (.ref up)) (O_lo : Sta Z Z.heap "com/example/lokit/lokit/password/CharacterClass" "LOWER_CASE" "Lcom/example/lokit/lokit/password/CharacterClass;" (.ref lo)) (O_di : Sta Z Z.heap "com/example/lokit/lokit/password/CharacterClass" "DIGIT" "Lcom/example/lokit/lokit/password/CharacterClass;" (.ref di)) (O_sy : Sta Z Z.heap "com/example/lokit/lokit/password/CharacterClass" "SYMBOL" "Lcom/example/lokit/lokit/password/CharacterClass;" (.ref sy)) (ta : Addr) (kt : ClassId) (c0 : Int32) (c1 : Int32) (cp : Int32) (h0 : Heap) (hO : Old Z n0 h0) (V_ta : Arv Z h0 ta kt .byte (2 : Int32) [(.int (c0.toInt8.toInt32)), (.int (c1.toInt8.toInt32))] (.int (0 : Int32))) (hp_c0 : ¬ c0 < 0 ∧ ¬ (255 : Int32) < c0) (hp_c1 : ¬ c1 < 0 ∧ ¬ (255 : Int32) < c1) (e0 : ¬ cp < (0 : Int32)) (e1 : ¬ (255 : Int32) < cp) (ne_c0 : ¬ cp = c0) (ne_c1 : ¬ cp = c1) :
    Con l Z consts_1 n0 (⟨"java/lang/StringLatin1", "indexOfChar", "([BIII)I"⟩ : MethodName) jdk_43_method_23_code 6 (some .int) ({ frames := 0, cells := 0, slots := 0, locals := 0 } : Room) #[(.ref ta), (.int cp), (.int (0 : Int32)), (.int (2 : Int32))] h0 [] (fun v h V' => v = some (.int (-1 : Int32)) ∧ h0 = h) [] := by
  refine Con.of (a0 := a0) pf20 (fun m => ef_ioc_n2 m ta kt c0 c1 cp) all0 hO hEL ?_
  intro p e s m below meth c S0 hnm hsf W
  replace W := W.iloadN (pc' := 1) djdk_43_23_0 rfl rfl
  replace W := W.i2b (pc' := 2) (v := (cp.toInt8.toInt32)) djdk_43_23_1 rfl rfl
  replace W := W.istore (pc' := 4) (L' := #[.val (.ref ta), .val (.int cp), .val (.int (0 : Int32)), .val (.int (2 : Int32)), .val (.int (cp.toInt8.toInt32)), .unset]) djdk_43_23_2 rfl rfl
  replace W := W.iloadN (pc' := 5) djdk_43_23_4 rfl rfl
  replace W := W.istore (pc' := 7) (L' := #[.val (.ref ta), .val (.int cp), .val (.int (0 : Int32)), .val (.int (2 : Int32)), .val (.int (cp.toInt8.toInt32)), .val (.int (0 : Int32))]) djdk_43_23_5 rfl rfl
  replace W := W.iload (pc' := 9) djdk_43_23_7 rfl rfl
  replace W := W.iloadN (pc' := 10) djdk_43_23_9 rfl rfl
  replace W := W.icmpF (pc' := 13) djdk_43_23_10 (tlt (by decide : (0 : Int32) < (2 : Int32))).2.1 rfl
  replace W := W.aloadN (pc' := 14) djdk_43_23_13 rfl rfl rfl
  replace W := W.iload (pc' := 16) djdk_43_23_14 rfl rfl
  replace W := W.baload (pc' := 17) (w := (.int (c0.toInt8.toInt32))) djdk_43_23_16 V_ta ⟨by decide, by decide⟩ rfl rfl
  replace W := W.iload (pc' := 19) djdk_43_23_17 rfl rfl
  replace W := W.icmpT (pc' := 25) djdk_43_23_19 (feq (own_lo8inj hp_c0 ⟨e0, e1⟩ ne_c0)).2 (by decide) (by decide)
  replace W := W.iinc (pc' := 28) (v := (1 : Int32)) (L' := #[.val (.ref ta), .val (.int cp), .val (.int (0 : Int32)), .val (.int (2 : Int32)), .val (.int (cp.toInt8.toInt32)), .val (.int (1 : Int32))]) djdk_43_23_25 rfl (by decide) rfl rfl
  replace W := W.goto (pc' := 7) djdk_43_23_28 (by decide) (by decide)
  replace W := W.iload (pc' := 9) djdk_43_23_7 rfl rfl
  replace W := W.iloadN (pc' := 10) djdk_43_23_9 rfl rfl
  replace W := W.icmpF (pc' := 13) djdk_43_23_10 (tlt (by decide : (1 : Int32) < (2 : Int32))).2.1 rfl
  replace W := W.aloadN (pc' := 14) djdk_43_23_13 rfl rfl rfl
  replace W := W.iload (pc' := 16) djdk_43_23_14 rfl rfl
  replace W := W.baload (pc' := 17) (w := (.int (c1.toInt8.toInt32))) djdk_43_23_16 V_ta ⟨by decide, by decide⟩ rfl rfl
  replace W := W.iload (pc' := 19) djdk_43_23_17 rfl rfl
  replace W := W.icmpT (pc' := 25) djdk_43_23_19 (feq (own_lo8inj hp_c1 ⟨e0, e1⟩ ne_c1)).2 (by decide) (by decide)
  replace W := W.iinc (pc' := 28) (v := (2 : Int32)) (L' := #[.val (.ref ta), .val (.int cp), .val (.int (0 : Int32)), .val (.int (2 : Int32)), .val (.int (cp.toInt8.toInt32)), .val (.int (2 : Int32))]) djdk_43_23_25 rfl (by decide) rfl rfl
  replace W := W.goto (pc' := 7) djdk_43_23_28 (by decide) (by decide)
  replace W := W.iload (pc' := 9) djdk_43_23_7 rfl rfl
  replace W := W.iloadN (pc' := 10) djdk_43_23_9 rfl rfl
  replace W := W.icmpT (pc' := 31) djdk_43_23_10 (flt (by decide : ¬ ((2 : Int32) < (2 : Int32)))).2.1 (by decide) (by decide)
  replace W := W.iconst (pc' := 32) (v := (-1 : Int32)) djdk_43_23_31 rfl rfl
  exact W.iret (t := .int) djdk_43_23_32 rfl (by simp) rfl (by decide) (by decide) (fun V' cv => ⟨rfl, rfl⟩)
theorem ef_lio_n2 (m : MethodId) (ta : Addr) (kt : ClassId) (c0 : Int32) (c1 : Int32) (cp : Int32) : entryFrame m #[(.ref ta), (.int cp), (.int (0 : Int32)), (.int (2 : Int32))] 4 = mkF m 0 #[.val (.ref ta), .val (.int cp), .val (.int (0 : Int32)), .val (.int (2 : Int32))] [] := by first | (simp [entryFrame, mkF, argsToLocals, Value.category]; done) | rfl
set_option maxRecDepth 65536 in
set_option maxHeartbeats 40000000 in
theorem lio_n2 (l : Launch) (Z : State) (a0 : Array Value) (n0 : Nat) (hw : ∀ d ∈ tables_1, d.before a0 Z = true) (hEL : EW Z a0 consts_1) (G1 : Int32) (O1 : Sta Z Z.heap "java/lang/String" "COMPACT_STRINGS" "Z" (.int G1)) (P1 : ¬ (G1 = (0 : Int32))) (G3 : Value) (O3 : Sta Z Z.heap "jdk/internal/util/Preconditions" "SIOOBE_FORMATTER" "Ljava/util/function/BiFunction;" G3) (rG3 : G3.isRef = true) (oe up lo di sy : Addr) (O5 : Sta Z Z.heap "java/util/Optional" "EMPTY" "Ljava/util/Optional;" (.ref oe)) (E5 : Exa Z Z.heap oe "java/util/Optional") (F5 : Fld Z Z.heap oe "java/util/Optional" "value" "Ljava/lang/Object;" .null) (O_up : Sta Z Z.heap "com/example/lokit/lokit/password/CharacterClass" "UPPER_CASE" "Lcom/example/lokit/lokit/password/CharacterClass;" (.ref up)) (O_lo : Sta Z Z.heap "com/example/lokit/lokit/password/CharacterClass" "LOWER_CASE" "Lcom/example/lokit/lokit/password/CharacterClass;" (.ref lo)) (O_di : Sta Z Z.heap "com/example/lokit/lokit/password/CharacterClass" "DIGIT" "Lcom/example/lokit/lokit/password/CharacterClass;" (.ref di)) (O_sy : Sta Z Z.heap "com/example/lokit/lokit/password/CharacterClass" "SYMBOL" "Lcom/example/lokit/lokit/password/CharacterClass;" (.ref sy)) (ta : Addr) (kt : ClassId) (c0 : Int32) (c1 : Int32) (cp : Int32) (h0 : Heap) (hO : Old Z n0 h0) (V_ta : Arv Z h0 ta kt .byte (2 : Int32) [(.int (c0.toInt8.toInt32)), (.int (c1.toInt8.toInt32))] (.int (0 : Int32))) (hp_c0 : ¬ c0 < 0 ∧ ¬ (255 : Int32) < c0) (hp_c1 : ¬ c1 < 0 ∧ ¬ (255 : Int32) < c1) (ne_c0 : ¬ cp = c0) (ne_c1 : ¬ cp = c1) :
    Con l Z consts_1 n0 (⟨"java/lang/StringLatin1", "indexOf", "([BIII)I"⟩ : MethodName) jdk_43_method_22_code 4 (some .int) ({ frames := 1, cells := 0, slots := 0, locals := 17 } : Room) #[(.ref ta), (.int cp), (.int (0 : Int32)), (.int (2 : Int32))] h0 [] (fun v h V' => v = some (.int (-1 : Int32)) ∧ h0 = h) [] := by
  refine Con.of (a0 := a0) pf21 (fun m => ef_lio_n2 m ta kt c0 c1 cp) all0 hO hEL ?_
  intro p e s m below meth c S0 hnm hsf W
  by_cases hc1 : cp < (0 : Int32)
  · replace W := W.iloadN (pc' := 1) djdk_43_22_0 rfl rfl
    obtain ⟨V2, h2, r2, W2, K2, hQ2, SF2⟩ := W.callS (pc' := 4) (argsL := [(.int cp)]) (rest := []) (Wd := 0) (cells' := 0) (slots' := 0) (y := (⟨"java/lang/StringLatin1", "canEncode", "(I)Z"⟩ : MethodName)) djdk_43_22_1 (canenc_2 l Z a0 n0 hw hEL G1 O1 P1 G3 O3 rG3 oe up lo di sy O5 E5 F5 O_up O_lo O_di O_sy cp h0 W.old hc1) (tw116 hw) (tw117 hw) (tw70 hw) (tw118 hw) (by decide) (lenOf pd9 rfl) rfl rfl (by decide) (by decide) rfl sf0 all0 rfl rfl rfl (by decide) (by decide)
    clear W
    obtain ⟨rfl, hs2⟩ := hQ2
    subst hs2
    replace W2 := W2.cast (st' := [(.int (0 : Int32))]) rfl
    replace W2 := W2.ifF (pc' := 7) djdk_43_22_4 (teq (by decide : (0 : Int32) = (0 : Int32))).2 rfl
    replace W2 := W2.iconst (pc' := 8) (v := (-1 : Int32)) djdk_43_22_7 rfl rfl
    exact W2.iret (t := .int) djdk_43_22_8 rfl (by simp) rfl (by decide) (by decide) (fun V' cv => ⟨rfl, rfl⟩)
  · by_cases hc3 : (255 : Int32) < cp
    · replace W := W.iloadN (pc' := 1) djdk_43_22_0 rfl rfl
      obtain ⟨V4, h4, r4, W4, K4, hQ4, SF4⟩ := W.callS (pc' := 4) (argsL := [(.int cp)]) (rest := []) (Wd := 0) (cells' := 0) (slots' := 0) (y := (⟨"java/lang/StringLatin1", "canEncode", "(I)Z"⟩ : MethodName)) djdk_43_22_1 (canenc_3 l Z a0 n0 hw hEL G1 O1 P1 G3 O3 rG3 oe up lo di sy O5 E5 F5 O_up O_lo O_di O_sy cp h0 W.old hc3 hc1) (tw116 hw) (tw117 hw) (tw70 hw) (tw118 hw) (by decide) (lenOf pd9 rfl) rfl rfl (by decide) (by decide) rfl sf0 all0 rfl rfl rfl (by decide) (by decide)
      clear W
      obtain ⟨rfl, hs4⟩ := hQ4
      subst hs4
      replace W4 := W4.cast (st' := [(.int (0 : Int32))]) rfl
      replace W4 := W4.ifF (pc' := 7) djdk_43_22_4 (teq (by decide : (0 : Int32) = (0 : Int32))).2 rfl
      replace W4 := W4.iconst (pc' := 8) (v := (-1 : Int32)) djdk_43_22_7 rfl rfl
      exact W4.iret (t := .int) djdk_43_22_8 rfl (by simp) rfl (by decide) (by decide) (fun V' cv => ⟨rfl, rfl⟩)
    · replace W := W.iloadN (pc' := 1) djdk_43_22_0 rfl rfl
      obtain ⟨V5, h5, r5, W5, K5, hQ5, SF5⟩ := W.callS (pc' := 4) (argsL := [(.int cp)]) (rest := []) (Wd := 0) (cells' := 0) (slots' := 0) (y := (⟨"java/lang/StringLatin1", "canEncode", "(I)Z"⟩ : MethodName)) djdk_43_22_1 (canenc_1 l Z a0 n0 hw hEL G1 O1 P1 G3 O3 rG3 oe up lo di sy O5 E5 F5 O_up O_lo O_di O_sy cp h0 W.old hc1 hc3) (tw116 hw) (tw117 hw) (tw70 hw) (tw118 hw) (by decide) (lenOf pd9 rfl) rfl rfl (by decide) (by decide) rfl sf0 all0 rfl rfl rfl (by decide) (by decide)
      clear W
      obtain ⟨rfl, hs5⟩ := hQ5
      subst hs5
      replace W5 := W5.cast (st' := [(.int (1 : Int32))]) rfl
      replace W5 := W5.ifT (pc' := 9) djdk_43_22_4 (feq (by decide : ¬ ((1 : Int32) = (0 : Int32)))).2 (by decide) (by decide)
      replace W5 := W5.iloadN (pc' := 10) djdk_43_22_9 rfl rfl
      replace W5 := W5.iconst (pc' := 11) (v := (0 : Int32)) djdk_43_22_10 rfl rfl
      obtain ⟨V6, h6, r6, W6, K6, hQ6, SF6⟩ := W5.callS (pc' := 14) (argsL := [(.int (0 : Int32)), (.int (0 : Int32))]) (rest := []) (Wd := 0) (cells' := 0) (slots' := 0) (y := (⟨"java/lang/Math", "max", "(II)I"⟩ : MethodName)) djdk_43_22_11 (max_n2 l Z a0 n0 hw hEL G1 O1 P1 G3 O3 rG3 oe up lo di sy O5 E5 F5 O_up O_lo O_di O_sy h0 W5.old) (tw119 hw) (tw120 hw) (tw121 hw) (tw122 hw) (by decide) (lenOf pd10 rfl) rfl rfl (by decide) (by decide) rfl sf0 all0 rfl rfl rfl (by decide) (by decide)
      clear W5
      obtain ⟨rfl, hs6⟩ := hQ6
      subst hs6
      replace W6 := W6.cast (st' := [(.int (0 : Int32))]) rfl
      replace W6 := W6.istoreN (pc' := 15) (L' := #[.val (.ref ta), .val (.int cp), .val (.int (0 : Int32)), .val (.int (2 : Int32))]) djdk_43_22_14 rfl rfl
      replace W6 := W6.iloadN (pc' := 16) djdk_43_22_15 rfl rfl
      replace W6 := W6.aloadN (pc' := 17) djdk_43_22_16 rfl rfl rfl
      replace W6 := W6.alen (pc' := 18) djdk_43_22_17 V_ta rfl
      obtain ⟨V7, h7, r7, W7, K7, hQ7, SF7⟩ := W6.callS (pc' := 21) (argsL := [(.int (2 : Int32)), (.int (2 : Int32))]) (rest := []) (Wd := 0) (cells' := 0) (slots' := 0) (y := (⟨"java/lang/Math", "min", "(II)I"⟩ : MethodName)) djdk_43_22_18 (min_n2 l Z a0 n0 hw hEL G1 O1 P1 G3 O3 rG3 oe up lo di sy O5 E5 F5 O_up O_lo O_di O_sy h0 W6.old) (tw123 hw) (tw124 hw) (tw121 hw) (tw125 hw) (by decide) (lenOf pd10 rfl) rfl rfl (by decide) (by decide) rfl sf0 all0 rfl rfl rfl (by decide) (by decide)
      clear W6
      obtain ⟨rfl, hs7⟩ := hQ7
      subst hs7
      replace W7 := W7.cast (st' := [(.int (2 : Int32))]) rfl
      replace W7 := W7.istoreN (pc' := 22) (L' := #[.val (.ref ta), .val (.int cp), .val (.int (0 : Int32)), .val (.int (2 : Int32))]) djdk_43_22_21 rfl rfl
      replace W7 := W7.iloadN (pc' := 23) djdk_43_22_22 rfl rfl
      replace W7 := W7.iloadN (pc' := 24) djdk_43_22_23 rfl rfl
      replace W7 := W7.icmpT (pc' := 29) djdk_43_22_24 (tlt (by decide : (0 : Int32) < (2 : Int32))).1 (by decide) (by decide)
      replace W7 := W7.aloadN (pc' := 30) djdk_43_22_29 rfl rfl rfl
      replace W7 := W7.iloadN (pc' := 31) djdk_43_22_30 rfl rfl
      replace W7 := W7.iloadN (pc' := 32) djdk_43_22_31 rfl rfl
      replace W7 := W7.iloadN (pc' := 33) djdk_43_22_32 rfl rfl
      obtain ⟨V8, h8, r8, W8, K8, hQ8, SF8⟩ := W7.callS (pc' := 36) (argsL := [(.ref ta), (.int cp), (.int (0 : Int32)), (.int (2 : Int32))]) (rest := []) (Wd := 0) (cells' := 0) (slots' := 0) (y := (⟨"java/lang/StringLatin1", "indexOfChar", "([BIII)I"⟩ : MethodName)) djdk_43_22_33 (ioc_n2 l Z a0 n0 hw hEL G1 O1 P1 G3 O3 rG3 oe up lo di sy O5 E5 F5 O_up O_lo O_di O_sy ta kt c0 c1 cp h0 W7.old V_ta hp_c0 hp_c1 hc1 hc3 ne_c0 ne_c1) (tw126 hw) (tw127 hw) (tw70 hw) (tw128 hw) (by decide) (lenOf pd11 rfl) rfl rfl (by decide) (by decide) rfl sf0 all0 rfl rfl rfl (by decide) (by decide)
      clear W7
      obtain ⟨rfl, hs8⟩ := hQ8
      subst hs8
      replace W8 := W8.cast (st' := [(.int (-1 : Int32))]) rfl
      exact W8.iret (t := .int) djdk_43_22_36 rfl (by simp) rfl (by decide) (by decide) (fun V' cv => ⟨rfl, rfl⟩)
theorem ef_io2_n2 (m : MethodId) (xa : Addr) (ta : Addr) (kt : ClassId) (c0 : Int32) (c1 : Int32) (cp : Int32) : entryFrame m #[(.ref xa), (.int cp), (.int (0 : Int32))] 3 = mkF m 0 #[.val (.ref xa), .val (.int cp), .val (.int (0 : Int32))] [] := by first | (simp [entryFrame, mkF, argsToLocals, Value.category]; done) | rfl
set_option maxRecDepth 65536 in
set_option maxHeartbeats 40000000 in
theorem io2_n2 (l : Launch) (Z : State) (a0 : Array Value) (n0 : Nat) (hw : ∀ d ∈ tables_1, d.before a0 Z = true) (hEL : EW Z a0 consts_1) (G1 : Int32) (O1 : Sta Z Z.heap "java/lang/String" "COMPACT_STRINGS" "Z" (.int G1)) (P1 : ¬ (G1 = (0 : Int32))) (G3 : Value) (O3 : Sta Z Z.heap "jdk/internal/util/Preconditions" "SIOOBE_FORMATTER" "Ljava/util/function/BiFunction;" G3) (rG3 : G3.isRef = true) (oe up lo di sy : Addr) (O5 : Sta Z Z.heap "java/util/Optional" "EMPTY" "Ljava/util/Optional;" (.ref oe)) (E5 : Exa Z Z.heap oe "java/util/Optional") (F5 : Fld Z Z.heap oe "java/util/Optional" "value" "Ljava/lang/Object;" .null) (O_up : Sta Z Z.heap "com/example/lokit/lokit/password/CharacterClass" "UPPER_CASE" "Lcom/example/lokit/lokit/password/CharacterClass;" (.ref up)) (O_lo : Sta Z Z.heap "com/example/lokit/lokit/password/CharacterClass" "LOWER_CASE" "Lcom/example/lokit/lokit/password/CharacterClass;" (.ref lo)) (O_di : Sta Z Z.heap "com/example/lokit/lokit/password/CharacterClass" "DIGIT" "Lcom/example/lokit/lokit/password/CharacterClass;" (.ref di)) (O_sy : Sta Z Z.heap "com/example/lokit/lokit/password/CharacterClass" "SYMBOL" "Lcom/example/lokit/lokit/password/CharacterClass;" (.ref sy)) (xa : Addr) (ta : Addr) (kt : ClassId) (c0 : Int32) (c1 : Int32) (cp : Int32) (h0 : Heap) (hO : Old Z n0 h0) (E_xa : Exa Z h0 xa "java/lang/String") (F_xa_coder : Fld Z h0 xa "java/lang/String" "coder" "B" (.int (0 : Int32))) (F_xa_value : Fld Z h0 xa "java/lang/String" "value" "[B" (.ref ta)) (V_ta : Arv Z h0 ta kt .byte (2 : Int32) [(.int (c0.toInt8.toInt32)), (.int (c1.toInt8.toInt32))] (.int (0 : Int32))) (hp_c0 : ¬ c0 < 0 ∧ ¬ (255 : Int32) < c0) (hp_c1 : ¬ c1 < 0 ∧ ¬ (255 : Int32) < c1) (ne_c0 : ¬ cp = c0) (ne_c1 : ¬ cp = c1) :
    Con l Z consts_1 n0 (⟨"java/lang/String", "indexOf", "(II)I"⟩ : MethodName) jdk_42_method_80_code 3 (some .int) ({ frames := 2, cells := 0, slots := 0, locals := 32 } : Room) #[(.ref xa), (.int cp), (.int (0 : Int32))] h0 [] (fun v h V' => v = some (.int (-1 : Int32)) ∧ h0 = h) [] := by
  refine Con.of (a0 := a0) pf22 (fun m => ef_io2_n2 m xa ta kt c0 c1 cp) all0 hO hEL ?_
  intro p e s m below meth c S0 hnm hsf W
  replace W := W.aloadN (pc' := 1) djdk_42_80_0 rfl rfl rfl
  obtain ⟨V1, h1, r1, W1, K1, hQ1, SF1⟩ := W.callV (pc' := 4) (argsL := []) (rest := []) (Wd := 0) (cells' := 0) (slots' := 0) (a := xa) (C := "java/lang/String") (y := (⟨"java/lang/String", "isLatin1", "()Z"⟩ : MethodName)) (z := (⟨"java/lang/String", "isLatin1", "()Z"⟩ : MethodName)) djdk_42_80_1 (islat l Z a0 n0 hw hEL G1 O1 P1 G3 O3 rG3 oe up lo di sy O5 E5 F5 O_up O_lo O_di O_sy xa h0 W.old F_xa_coder) E_xa (tw63 hw) (tw64 hw) (Or.inl (tw66 hw)) (tw66 hw) (tw65 hw) (tw7 hw) (tw67 hw) (by decide) (lenOf pd12 rfl) rfl rfl (by decide) (by decide) rfl sf0 all0 rfl rfl rfl (by decide) (by decide)
  clear W
  obtain ⟨rfl, hs1⟩ := hQ1
  subst hs1
  replace W1 := W1.cast (st' := [(.int (1 : Int32))]) rfl
  replace W1 := W1.ifF (pc' := 7) djdk_42_80_4 (feq (by decide : ¬ ((1 : Int32) = (0 : Int32)))).1 rfl
  replace W1 := W1.aloadN (pc' := 8) djdk_42_80_7 rfl rfl rfl
  replace W1 := W1.getf (pc' := 11) djdk_42_80_8 (tw32 hw) Via.refl F_xa_value rfl
  replace W1 := W1.iloadN (pc' := 12) djdk_42_80_11 rfl rfl
  replace W1 := W1.iloadN (pc' := 13) djdk_42_80_12 rfl rfl
  replace W1 := W1.aloadN (pc' := 14) djdk_42_80_13 rfl rfl rfl
  obtain ⟨V2, h2, r2, W2, K2, hQ2, SF2⟩ := W1.callV (pc' := 17) (argsL := []) (rest := [(.int (0 : Int32)), (.int cp), (.ref ta)]) (Wd := 3) (cells' := 0) (slots' := 0) (a := xa) (C := "java/lang/String") (y := (⟨"java/lang/String", "length", "()I"⟩ : MethodName)) (z := (⟨"java/lang/String", "length", "()I"⟩ : MethodName)) djdk_42_80_14 (len_n2 l Z a0 n0 hw hEL G1 O1 P1 G3 O3 rG3 oe up lo di sy O5 E5 F5 O_up O_lo O_di O_sy xa ta kt c0 c1 h0 W1.old E_xa F_xa_coder F_xa_value V_ta hp_c0 hp_c1) E_xa (tw112 hw) (tw49 hw) (Or.inl (tw51 hw)) (tw51 hw) (tw50 hw) (tw7 hw) (tw52 hw) (by decide) (lenOf pd13 rfl) rfl rfl (by decide) (by decide) rfl sf0 all0 rfl rfl rfl (by decide) (by decide)
  clear W1
  obtain ⟨rfl, hs2⟩ := hQ2
  subst hs2
  replace W2 := W2.cast (st' := [(.int (2 : Int32)), (.int (0 : Int32)), (.int cp), (.ref ta)]) rfl
  obtain ⟨V3, h3, r3, W3, K3, hQ3, SF3⟩ := W2.callS (pc' := 20) (argsL := [(.ref ta), (.int cp), (.int (0 : Int32)), (.int (2 : Int32))]) (rest := []) (Wd := 0) (cells' := 0) (slots' := 0) (y := (⟨"java/lang/StringLatin1", "indexOf", "([BIII)I"⟩ : MethodName)) djdk_42_80_17 (lio_n2 l Z a0 n0 hw hEL G1 O1 P1 G3 O3 rG3 oe up lo di sy O5 E5 F5 O_up O_lo O_di O_sy ta kt c0 c1 cp h0 W2.old V_ta hp_c0 hp_c1 ne_c0 ne_c1) (tw113 hw) (tw114 hw) (tw70 hw) (tw115 hw) (by decide) (lenOf pd11 rfl) rfl rfl (by decide) (by decide) rfl sf0 all0 rfl rfl rfl (by decide) (by decide)
  clear W2
  obtain ⟨rfl, hs3⟩ := hQ3
  subst hs3
  replace W3 := W3.cast (st' := [(.int (-1 : Int32))]) rfl
  replace W3 := W3.goto (pc' := 36) djdk_42_80_20 (by decide) (by decide)
  exact W3.iret (t := .int) djdk_42_80_36 rfl (by simp) rfl (by decide) (by decide) (fun V' cv => ⟨rfl, rfl⟩)
theorem ef_io1_n2 (m : MethodId) (xa : Addr) (ta : Addr) (kt : ClassId) (c0 : Int32) (c1 : Int32) (cp : Int32) : entryFrame m #[(.ref xa), (.int cp)] 2 = mkF m 0 #[.val (.ref xa), .val (.int cp)] [] := by first | (simp [entryFrame, mkF, argsToLocals, Value.category]; done) | rfl
set_option maxRecDepth 65536 in
set_option maxHeartbeats 40000000 in
theorem io1_n2 (l : Launch) (Z : State) (a0 : Array Value) (n0 : Nat) (hw : ∀ d ∈ tables_1, d.before a0 Z = true) (hEL : EW Z a0 consts_1) (G1 : Int32) (O1 : Sta Z Z.heap "java/lang/String" "COMPACT_STRINGS" "Z" (.int G1)) (P1 : ¬ (G1 = (0 : Int32))) (G3 : Value) (O3 : Sta Z Z.heap "jdk/internal/util/Preconditions" "SIOOBE_FORMATTER" "Ljava/util/function/BiFunction;" G3) (rG3 : G3.isRef = true) (oe up lo di sy : Addr) (O5 : Sta Z Z.heap "java/util/Optional" "EMPTY" "Ljava/util/Optional;" (.ref oe)) (E5 : Exa Z Z.heap oe "java/util/Optional") (F5 : Fld Z Z.heap oe "java/util/Optional" "value" "Ljava/lang/Object;" .null) (O_up : Sta Z Z.heap "com/example/lokit/lokit/password/CharacterClass" "UPPER_CASE" "Lcom/example/lokit/lokit/password/CharacterClass;" (.ref up)) (O_lo : Sta Z Z.heap "com/example/lokit/lokit/password/CharacterClass" "LOWER_CASE" "Lcom/example/lokit/lokit/password/CharacterClass;" (.ref lo)) (O_di : Sta Z Z.heap "com/example/lokit/lokit/password/CharacterClass" "DIGIT" "Lcom/example/lokit/lokit/password/CharacterClass;" (.ref di)) (O_sy : Sta Z Z.heap "com/example/lokit/lokit/password/CharacterClass" "SYMBOL" "Lcom/example/lokit/lokit/password/CharacterClass;" (.ref sy)) (xa : Addr) (ta : Addr) (kt : ClassId) (c0 : Int32) (c1 : Int32) (cp : Int32) (h0 : Heap) (hO : Old Z n0 h0) (E_xa : Exa Z h0 xa "java/lang/String") (F_xa_coder : Fld Z h0 xa "java/lang/String" "coder" "B" (.int (0 : Int32))) (F_xa_value : Fld Z h0 xa "java/lang/String" "value" "[B" (.ref ta)) (V_ta : Arv Z h0 ta kt .byte (2 : Int32) [(.int (c0.toInt8.toInt32)), (.int (c1.toInt8.toInt32))] (.int (0 : Int32))) (hp_c0 : ¬ c0 < 0 ∧ ¬ (255 : Int32) < c0) (hp_c1 : ¬ c1 < 0 ∧ ¬ (255 : Int32) < c1) (ne_c0 : ¬ cp = c0) (ne_c1 : ¬ cp = c1) :
    Con l Z consts_1 n0 (⟨"java/lang/String", "indexOf", "(I)I"⟩ : MethodName) jdk_42_method_79_code 2 (some .int) ({ frames := 3, cells := 0, slots := 0, locals := 46 } : Room) #[(.ref xa), (.int cp)] h0 [] (fun v h V' => v = some (.int (-1 : Int32)) ∧ h0 = h) [] := by
  refine Con.of (a0 := a0) pf23 (fun m => ef_io1_n2 m xa ta kt c0 c1 cp) all0 hO hEL ?_
  intro p e s m below meth c S0 hnm hsf W
  replace W := W.aloadN (pc' := 1) djdk_42_79_0 rfl rfl rfl
  replace W := W.iloadN (pc' := 2) djdk_42_79_1 rfl rfl
  replace W := W.iconst (pc' := 3) (v := (0 : Int32)) djdk_42_79_2 rfl rfl
  obtain ⟨V1, h1, r1, W1, K1, hQ1, SF1⟩ := W.callV (pc' := 6) (argsL := [(.int cp), (.int (0 : Int32))]) (rest := []) (Wd := 0) (cells' := 0) (slots' := 0) (a := xa) (C := "java/lang/String") (y := (⟨"java/lang/String", "indexOf", "(II)I"⟩ : MethodName)) (z := (⟨"java/lang/String", "indexOf", "(II)I"⟩ : MethodName)) djdk_42_79_3 (io2_n2 l Z a0 n0 hw hEL G1 O1 P1 G3 O3 rG3 oe up lo di sy O5 E5 F5 O_up O_lo O_di O_sy xa ta kt c0 c1 cp h0 W.old E_xa F_xa_coder F_xa_value V_ta hp_c0 hp_c1 ne_c0 ne_c1) E_xa (tw107 hw) (tw108 hw) (Or.inl (tw110 hw)) (tw110 hw) (tw109 hw) (tw7 hw) (tw111 hw) (by decide) (lenOf pd10 rfl) rfl rfl (by decide) (by decide) rfl sf0 all0 rfl rfl rfl (by decide) (by decide)
  clear W
  obtain ⟨rfl, hs1⟩ := hQ1
  subst hs1
  replace W1 := W1.cast (st' := [(.int (-1 : Int32))]) rfl
  exact W1.iret (t := .int) djdk_42_79_6 rfl (by simp) rfl (by decide) (by decide) (fun V' cv => ⟨rfl, rfl⟩)
theorem ef_len_n0 (m : MethodId) (xa : Addr) (ta : Addr) (kt : ClassId) : entryFrame m #[(.ref xa)] 1 = mkF m 0 #[.val (.ref xa)] [] := by first | (simp [entryFrame, mkF, argsToLocals, Value.category]; done) | rfl
set_option maxRecDepth 65536 in
set_option maxHeartbeats 40000000 in
theorem len_n0 (l : Launch) (Z : State) (a0 : Array Value) (n0 : Nat) (hw : ∀ d ∈ tables_1, d.before a0 Z = true) (hEL : EW Z a0 consts_1) (G1 : Int32) (O1 : Sta Z Z.heap "java/lang/String" "COMPACT_STRINGS" "Z" (.int G1)) (P1 : ¬ (G1 = (0 : Int32))) (G3 : Value) (O3 : Sta Z Z.heap "jdk/internal/util/Preconditions" "SIOOBE_FORMATTER" "Ljava/util/function/BiFunction;" G3) (rG3 : G3.isRef = true) (oe up lo di sy : Addr) (O5 : Sta Z Z.heap "java/util/Optional" "EMPTY" "Ljava/util/Optional;" (.ref oe)) (E5 : Exa Z Z.heap oe "java/util/Optional") (F5 : Fld Z Z.heap oe "java/util/Optional" "value" "Ljava/lang/Object;" .null) (O_up : Sta Z Z.heap "com/example/lokit/lokit/password/CharacterClass" "UPPER_CASE" "Lcom/example/lokit/lokit/password/CharacterClass;" (.ref up)) (O_lo : Sta Z Z.heap "com/example/lokit/lokit/password/CharacterClass" "LOWER_CASE" "Lcom/example/lokit/lokit/password/CharacterClass;" (.ref lo)) (O_di : Sta Z Z.heap "com/example/lokit/lokit/password/CharacterClass" "DIGIT" "Lcom/example/lokit/lokit/password/CharacterClass;" (.ref di)) (O_sy : Sta Z Z.heap "com/example/lokit/lokit/password/CharacterClass" "SYMBOL" "Lcom/example/lokit/lokit/password/CharacterClass;" (.ref sy)) (xa : Addr) (ta : Addr) (kt : ClassId) (h0 : Heap) (hO : Old Z n0 h0) (E_xa : Exa Z h0 xa "java/lang/String") (F_xa_coder : Fld Z h0 xa "java/lang/String" "coder" "B" (.int (0 : Int32))) (F_xa_value : Fld Z h0 xa "java/lang/String" "value" "[B" (.ref ta)) (V_ta : Arv Z h0 ta kt .byte (0 : Int32) [] (.int (0 : Int32))) :
    Con l Z consts_1 n0 (⟨"java/lang/String", "length", "()I"⟩ : MethodName) jdk_42_method_54_code 1 (some .int) ({ frames := 1, cells := 0, slots := 0, locals := 13 } : Room) #[(.ref xa)] h0 [] (fun v h V' => v = some (.int (0 : Int32)) ∧ h0 = h) [] := by
  refine Con.of (a0 := a0) pf17 (fun m => ef_len_n0 m xa ta kt) all0 hO hEL ?_
  intro p e s m below meth c S0 hnm hsf W
  replace W := W.aloadN (pc' := 1) djdk_42_54_0 rfl rfl rfl
  replace W := W.getf (pc' := 4) djdk_42_54_1 (tw32 hw) Via.refl F_xa_value rfl
  replace W := W.alen (pc' := 5) djdk_42_54_4 V_ta rfl
  replace W := W.aloadN (pc' := 6) djdk_42_54_5 rfl rfl rfl
  obtain ⟨V1, h1, r1, W1, K1, hQ1, SF1⟩ := W.callV (pc' := 9) (argsL := []) (rest := [(.int (0 : Int32))]) (Wd := 1) (cells' := 0) (slots' := 0) (a := xa) (C := "java/lang/String") (y := (⟨"java/lang/String", "coder", "()B"⟩ : MethodName)) (z := (⟨"java/lang/String", "coder", "()B"⟩ : MethodName)) djdk_42_54_6 (coder_c l Z a0 n0 hw hEL G1 O1 P1 G3 O3 rG3 oe up lo di sy O5 E5 F5 O_up O_lo O_di O_sy xa h0 W.old F_xa_coder) E_xa (tw53 hw) (tw54 hw) (Or.inl (tw56 hw)) (tw56 hw) (tw55 hw) (tw7 hw) (tw57 hw) (by decide) (lenOf pd8 rfl) rfl rfl (by decide) (by decide) rfl sf0 all0 rfl rfl rfl (by decide) (by decide)
  clear W
  obtain ⟨rfl, hs1⟩ := hQ1
  subst hs1
  replace W1 := W1.cast (st' := [(.int (0 : Int32)), (.int (0 : Int32))]) rfl
  replace W1 := W1.ishr (pc' := 10) (v := (0 : Int32)) djdk_42_54_9 (by decide) rfl
  exact W1.iret (t := .int) djdk_42_54_10 rfl (by simp) rfl (by decide) (by decide) (fun V' cv => ⟨rfl, rfl⟩)
theorem ef_max_n0 (m : MethodId)  : entryFrame m #[(.int (0 : Int32)), (.int (0 : Int32))] 2 = mkF m 0 #[.val (.int (0 : Int32)), .val (.int (0 : Int32))] [] := by first | (simp [entryFrame, mkF, argsToLocals, Value.category]; done) | rfl
set_option maxRecDepth 65536 in
set_option maxHeartbeats 40000000 in
theorem max_n0 (l : Launch) (Z : State) (a0 : Array Value) (n0 : Nat) (hw : ∀ d ∈ tables_1, d.before a0 Z = true) (hEL : EW Z a0 consts_1) (G1 : Int32) (O1 : Sta Z Z.heap "java/lang/String" "COMPACT_STRINGS" "Z" (.int G1)) (P1 : ¬ (G1 = (0 : Int32))) (G3 : Value) (O3 : Sta Z Z.heap "jdk/internal/util/Preconditions" "SIOOBE_FORMATTER" "Ljava/util/function/BiFunction;" G3) (rG3 : G3.isRef = true) (oe up lo di sy : Addr) (O5 : Sta Z Z.heap "java/util/Optional" "EMPTY" "Ljava/util/Optional;" (.ref oe)) (E5 : Exa Z Z.heap oe "java/util/Optional") (F5 : Fld Z Z.heap oe "java/util/Optional" "value" "Ljava/lang/Object;" .null) (O_up : Sta Z Z.heap "com/example/lokit/lokit/password/CharacterClass" "UPPER_CASE" "Lcom/example/lokit/lokit/password/CharacterClass;" (.ref up)) (O_lo : Sta Z Z.heap "com/example/lokit/lokit/password/CharacterClass" "LOWER_CASE" "Lcom/example/lokit/lokit/password/CharacterClass;" (.ref lo)) (O_di : Sta Z Z.heap "com/example/lokit/lokit/password/CharacterClass" "DIGIT" "Lcom/example/lokit/lokit/password/CharacterClass;" (.ref di)) (O_sy : Sta Z Z.heap "com/example/lokit/lokit/password/CharacterClass" "SYMBOL" "Lcom/example/lokit/lokit/password/CharacterClass;" (.ref sy))  (h0 : Heap) (hO : Old Z n0 h0)  :
    Con l Z consts_1 n0 (⟨"java/lang/Math", "max", "(II)I"⟩ : MethodName) jdk_29_method_65_code 2 (some .int) ({ frames := 0, cells := 0, slots := 0, locals := 0 } : Room) #[(.int (0 : Int32)), (.int (0 : Int32))] h0 [] (fun v h V' => v = some (.int (0 : Int32)) ∧ h0 = h) [] := by
  refine Con.of (a0 := a0) pf18 (fun m => ef_max_n0 m ) all0 hO hEL ?_
  intro p e s m below meth c S0 hnm hsf W
  replace W := W.iloadN (pc' := 1) djdk_29_65_0 rfl rfl
  replace W := W.iloadN (pc' := 2) djdk_29_65_1 rfl rfl
  replace W := W.icmpF (pc' := 5) djdk_29_65_2 (flt (by decide : ¬ ((0 : Int32) < (0 : Int32)))).1 rfl
  replace W := W.iloadN (pc' := 6) djdk_29_65_5 rfl rfl
  replace W := W.goto (pc' := 10) djdk_29_65_6 (by decide) (by decide)
  exact W.iret (t := .int) djdk_29_65_10 rfl (by simp) rfl (by decide) (by decide) (fun V' cv => ⟨rfl, rfl⟩)
theorem ef_min_n0 (m : MethodId)  : entryFrame m #[(.int (0 : Int32)), (.int (0 : Int32))] 2 = mkF m 0 #[.val (.int (0 : Int32)), .val (.int (0 : Int32))] [] := by first | (simp [entryFrame, mkF, argsToLocals, Value.category]; done) | rfl
set_option maxRecDepth 65536 in
set_option maxHeartbeats 40000000 in
theorem min_n0 (l : Launch) (Z : State) (a0 : Array Value) (n0 : Nat) (hw : ∀ d ∈ tables_1, d.before a0 Z = true) (hEL : EW Z a0 consts_1) (G1 : Int32) (O1 : Sta Z Z.heap "java/lang/String" "COMPACT_STRINGS" "Z" (.int G1)) (P1 : ¬ (G1 = (0 : Int32))) (G3 : Value) (O3 : Sta Z Z.heap "jdk/internal/util/Preconditions" "SIOOBE_FORMATTER" "Ljava/util/function/BiFunction;" G3) (rG3 : G3.isRef = true) (oe up lo di sy : Addr) (O5 : Sta Z Z.heap "java/util/Optional" "EMPTY" "Ljava/util/Optional;" (.ref oe)) (E5 : Exa Z Z.heap oe "java/util/Optional") (F5 : Fld Z Z.heap oe "java/util/Optional" "value" "Ljava/lang/Object;" .null) (O_up : Sta Z Z.heap "com/example/lokit/lokit/password/CharacterClass" "UPPER_CASE" "Lcom/example/lokit/lokit/password/CharacterClass;" (.ref up)) (O_lo : Sta Z Z.heap "com/example/lokit/lokit/password/CharacterClass" "LOWER_CASE" "Lcom/example/lokit/lokit/password/CharacterClass;" (.ref lo)) (O_di : Sta Z Z.heap "com/example/lokit/lokit/password/CharacterClass" "DIGIT" "Lcom/example/lokit/lokit/password/CharacterClass;" (.ref di)) (O_sy : Sta Z Z.heap "com/example/lokit/lokit/password/CharacterClass" "SYMBOL" "Lcom/example/lokit/lokit/password/CharacterClass;" (.ref sy))  (h0 : Heap) (hO : Old Z n0 h0)  :
    Con l Z consts_1 n0 (⟨"java/lang/Math", "min", "(II)I"⟩ : MethodName) jdk_29_method_69_code 2 (some .int) ({ frames := 0, cells := 0, slots := 0, locals := 0 } : Room) #[(.int (0 : Int32)), (.int (0 : Int32))] h0 [] (fun v h V' => v = some (.int (0 : Int32)) ∧ h0 = h) [] := by
  refine Con.of (a0 := a0) pf19 (fun m => ef_min_n0 m ) all0 hO hEL ?_
  intro p e s m below meth c S0 hnm hsf W
  replace W := W.iloadN (pc' := 1) djdk_29_69_0 rfl rfl
  replace W := W.iloadN (pc' := 2) djdk_29_69_1 rfl rfl
  replace W := W.icmpF (pc' := 5) djdk_29_69_2 (flt (by decide : ¬ ((0 : Int32) < (0 : Int32)))).2.2.1 rfl
  replace W := W.iloadN (pc' := 6) djdk_29_69_5 rfl rfl
  replace W := W.goto (pc' := 10) djdk_29_69_6 (by decide) (by decide)
  exact W.iret (t := .int) djdk_29_69_10 rfl (by simp) rfl (by decide) (by decide) (fun V' cv => ⟨rfl, rfl⟩)
theorem ef_lio_n0 (m : MethodId) (ta : Addr) (kt : ClassId) (cp : Int32) : entryFrame m #[(.ref ta), (.int cp), (.int (0 : Int32)), (.int (0 : Int32))] 4 = mkF m 0 #[.val (.ref ta), .val (.int cp), .val (.int (0 : Int32)), .val (.int (0 : Int32))] [] := by first | (simp [entryFrame, mkF, argsToLocals, Value.category]; done) | rfl
set_option maxRecDepth 65536 in
set_option maxHeartbeats 40000000 in
theorem lio_n0 (l : Launch) (Z : State) (a0 : Array Value) (n0 : Nat) (hw : ∀ d ∈ tables_1, d.before a0 Z = true) (hEL : EW Z a0 consts_1) (G1 : Int32) (O1 : Sta Z Z.heap "java/lang/String" "COMPACT_STRINGS" "Z" (.int G1)) (P1 : ¬ (G1 = (0 : Int32))) (G3 : Value) (O3 : Sta Z Z.heap "jdk/internal/util/Preconditions" "SIOOBE_FORMATTER" "Ljava/util/function/BiFunction;" G3) (rG3 : G3.isRef = true) (oe up lo di sy : Addr) (O5 : Sta Z Z.heap "java/util/Optional" "EMPTY" "Ljava/util/Optional;" (.ref oe)) (E5 : Exa Z Z.heap oe "java/util/Optional") (F5 : Fld Z Z.heap oe "java/util/Optional" "value" "Ljava/lang/Object;" .null) (O_up : Sta Z Z.heap "com/example/lokit/lokit/password/CharacterClass" "UPPER_CASE" "Lcom/example/lokit/lokit/password/CharacterClass;" (.ref up)) (O_lo : Sta Z Z.heap "com/example/lokit/lokit/password/CharacterClass" "LOWER_CASE" "Lcom/example/lokit/lokit/password/CharacterClass;" (.ref lo)) (O_di : Sta Z Z.heap "com/example/lokit/lokit/password/CharacterClass" "DIGIT" "Lcom/example/lokit/lokit/password/CharacterClass;" (.ref di)) (O_sy : Sta Z Z.heap "com/example/lokit/lokit/password/CharacterClass" "SYMBOL" "Lcom/example/lokit/lokit/password/CharacterClass;" (.ref sy)) (ta : Addr) (kt : ClassId) (cp : Int32) (h0 : Heap) (hO : Old Z n0 h0) (V_ta : Arv Z h0 ta kt .byte (0 : Int32) [] (.int (0 : Int32))) :
    Con l Z consts_1 n0 (⟨"java/lang/StringLatin1", "indexOf", "([BIII)I"⟩ : MethodName) jdk_43_method_22_code 4 (some .int) ({ frames := 1, cells := 0, slots := 0, locals := 13 } : Room) #[(.ref ta), (.int cp), (.int (0 : Int32)), (.int (0 : Int32))] h0 [] (fun v h V' => v = some (.int (-1 : Int32)) ∧ h0 = h) [] := by
  refine Con.of (a0 := a0) pf21 (fun m => ef_lio_n0 m ta kt cp) all0 hO hEL ?_
  intro p e s m below meth c S0 hnm hsf W
  by_cases hc1 : cp < (0 : Int32)
  · replace W := W.iloadN (pc' := 1) djdk_43_22_0 rfl rfl
    obtain ⟨V2, h2, r2, W2, K2, hQ2, SF2⟩ := W.callS (pc' := 4) (argsL := [(.int cp)]) (rest := []) (Wd := 0) (cells' := 0) (slots' := 0) (y := (⟨"java/lang/StringLatin1", "canEncode", "(I)Z"⟩ : MethodName)) djdk_43_22_1 (canenc_2 l Z a0 n0 hw hEL G1 O1 P1 G3 O3 rG3 oe up lo di sy O5 E5 F5 O_up O_lo O_di O_sy cp h0 W.old hc1) (tw116 hw) (tw117 hw) (tw70 hw) (tw118 hw) (by decide) (lenOf pd9 rfl) rfl rfl (by decide) (by decide) rfl sf0 all0 rfl rfl rfl (by decide) (by decide)
    clear W
    obtain ⟨rfl, hs2⟩ := hQ2
    subst hs2
    replace W2 := W2.cast (st' := [(.int (0 : Int32))]) rfl
    replace W2 := W2.ifF (pc' := 7) djdk_43_22_4 (teq (by decide : (0 : Int32) = (0 : Int32))).2 rfl
    replace W2 := W2.iconst (pc' := 8) (v := (-1 : Int32)) djdk_43_22_7 rfl rfl
    exact W2.iret (t := .int) djdk_43_22_8 rfl (by simp) rfl (by decide) (by decide) (fun V' cv => ⟨rfl, rfl⟩)
  · by_cases hc3 : (255 : Int32) < cp
    · replace W := W.iloadN (pc' := 1) djdk_43_22_0 rfl rfl
      obtain ⟨V4, h4, r4, W4, K4, hQ4, SF4⟩ := W.callS (pc' := 4) (argsL := [(.int cp)]) (rest := []) (Wd := 0) (cells' := 0) (slots' := 0) (y := (⟨"java/lang/StringLatin1", "canEncode", "(I)Z"⟩ : MethodName)) djdk_43_22_1 (canenc_3 l Z a0 n0 hw hEL G1 O1 P1 G3 O3 rG3 oe up lo di sy O5 E5 F5 O_up O_lo O_di O_sy cp h0 W.old hc3 hc1) (tw116 hw) (tw117 hw) (tw70 hw) (tw118 hw) (by decide) (lenOf pd9 rfl) rfl rfl (by decide) (by decide) rfl sf0 all0 rfl rfl rfl (by decide) (by decide)
      clear W
      obtain ⟨rfl, hs4⟩ := hQ4
      subst hs4
      replace W4 := W4.cast (st' := [(.int (0 : Int32))]) rfl
      replace W4 := W4.ifF (pc' := 7) djdk_43_22_4 (teq (by decide : (0 : Int32) = (0 : Int32))).2 rfl
      replace W4 := W4.iconst (pc' := 8) (v := (-1 : Int32)) djdk_43_22_7 rfl rfl
      exact W4.iret (t := .int) djdk_43_22_8 rfl (by simp) rfl (by decide) (by decide) (fun V' cv => ⟨rfl, rfl⟩)
    · replace W := W.iloadN (pc' := 1) djdk_43_22_0 rfl rfl
      obtain ⟨V5, h5, r5, W5, K5, hQ5, SF5⟩ := W.callS (pc' := 4) (argsL := [(.int cp)]) (rest := []) (Wd := 0) (cells' := 0) (slots' := 0) (y := (⟨"java/lang/StringLatin1", "canEncode", "(I)Z"⟩ : MethodName)) djdk_43_22_1 (canenc_1 l Z a0 n0 hw hEL G1 O1 P1 G3 O3 rG3 oe up lo di sy O5 E5 F5 O_up O_lo O_di O_sy cp h0 W.old hc1 hc3) (tw116 hw) (tw117 hw) (tw70 hw) (tw118 hw) (by decide) (lenOf pd9 rfl) rfl rfl (by decide) (by decide) rfl sf0 all0 rfl rfl rfl (by decide) (by decide)
      clear W
      obtain ⟨rfl, hs5⟩ := hQ5
      subst hs5
      replace W5 := W5.cast (st' := [(.int (1 : Int32))]) rfl
      replace W5 := W5.ifT (pc' := 9) djdk_43_22_4 (feq (by decide : ¬ ((1 : Int32) = (0 : Int32)))).2 (by decide) (by decide)
      replace W5 := W5.iloadN (pc' := 10) djdk_43_22_9 rfl rfl
      replace W5 := W5.iconst (pc' := 11) (v := (0 : Int32)) djdk_43_22_10 rfl rfl
      obtain ⟨V6, h6, r6, W6, K6, hQ6, SF6⟩ := W5.callS (pc' := 14) (argsL := [(.int (0 : Int32)), (.int (0 : Int32))]) (rest := []) (Wd := 0) (cells' := 0) (slots' := 0) (y := (⟨"java/lang/Math", "max", "(II)I"⟩ : MethodName)) djdk_43_22_11 (max_n0 l Z a0 n0 hw hEL G1 O1 P1 G3 O3 rG3 oe up lo di sy O5 E5 F5 O_up O_lo O_di O_sy h0 W5.old) (tw119 hw) (tw120 hw) (tw121 hw) (tw122 hw) (by decide) (lenOf pd10 rfl) rfl rfl (by decide) (by decide) rfl sf0 all0 rfl rfl rfl (by decide) (by decide)
      clear W5
      obtain ⟨rfl, hs6⟩ := hQ6
      subst hs6
      replace W6 := W6.cast (st' := [(.int (0 : Int32))]) rfl
      replace W6 := W6.istoreN (pc' := 15) (L' := #[.val (.ref ta), .val (.int cp), .val (.int (0 : Int32)), .val (.int (0 : Int32))]) djdk_43_22_14 rfl rfl
      replace W6 := W6.iloadN (pc' := 16) djdk_43_22_15 rfl rfl
      replace W6 := W6.aloadN (pc' := 17) djdk_43_22_16 rfl rfl rfl
      replace W6 := W6.alen (pc' := 18) djdk_43_22_17 V_ta rfl
      obtain ⟨V7, h7, r7, W7, K7, hQ7, SF7⟩ := W6.callS (pc' := 21) (argsL := [(.int (0 : Int32)), (.int (0 : Int32))]) (rest := []) (Wd := 0) (cells' := 0) (slots' := 0) (y := (⟨"java/lang/Math", "min", "(II)I"⟩ : MethodName)) djdk_43_22_18 (min_n0 l Z a0 n0 hw hEL G1 O1 P1 G3 O3 rG3 oe up lo di sy O5 E5 F5 O_up O_lo O_di O_sy h0 W6.old) (tw123 hw) (tw124 hw) (tw121 hw) (tw125 hw) (by decide) (lenOf pd10 rfl) rfl rfl (by decide) (by decide) rfl sf0 all0 rfl rfl rfl (by decide) (by decide)
      clear W6
      obtain ⟨rfl, hs7⟩ := hQ7
      subst hs7
      replace W7 := W7.cast (st' := [(.int (0 : Int32))]) rfl
      replace W7 := W7.istoreN (pc' := 22) (L' := #[.val (.ref ta), .val (.int cp), .val (.int (0 : Int32)), .val (.int (0 : Int32))]) djdk_43_22_21 rfl rfl
      replace W7 := W7.iloadN (pc' := 23) djdk_43_22_22 rfl rfl
      replace W7 := W7.iloadN (pc' := 24) djdk_43_22_23 rfl rfl
      replace W7 := W7.icmpF (pc' := 27) djdk_43_22_24 (flt (by decide : ¬ ((0 : Int32) < (0 : Int32)))).1 rfl
      replace W7 := W7.iconst (pc' := 28) (v := (-1 : Int32)) djdk_43_22_27 rfl rfl
      exact W7.iret (t := .int) djdk_43_22_28 rfl (by simp) rfl (by decide) (by decide) (fun V' cv => ⟨rfl, rfl⟩)
theorem ef_io2_n0 (m : MethodId) (xa : Addr) (ta : Addr) (kt : ClassId) (cp : Int32) : entryFrame m #[(.ref xa), (.int cp), (.int (0 : Int32))] 3 = mkF m 0 #[.val (.ref xa), .val (.int cp), .val (.int (0 : Int32))] [] := by first | (simp [entryFrame, mkF, argsToLocals, Value.category]; done) | rfl
set_option maxRecDepth 65536 in
set_option maxHeartbeats 40000000 in
theorem io2_n0 (l : Launch) (Z : State) (a0 : Array Value) (n0 : Nat) (hw : ∀ d ∈ tables_1, d.before a0 Z = true) (hEL : EW Z a0 consts_1) (G1 : Int32) (O1 : Sta Z Z.heap "java/lang/String" "COMPACT_STRINGS" "Z" (.int G1)) (P1 : ¬ (G1 = (0 : Int32))) (G3 : Value) (O3 : Sta Z Z.heap "jdk/internal/util/Preconditions" "SIOOBE_FORMATTER" "Ljava/util/function/BiFunction;" G3) (rG3 : G3.isRef = true) (oe up lo di sy : Addr) (O5 : Sta Z Z.heap "java/util/Optional" "EMPTY" "Ljava/util/Optional;" (.ref oe)) (E5 : Exa Z Z.heap oe "java/util/Optional") (F5 : Fld Z Z.heap oe "java/util/Optional" "value" "Ljava/lang/Object;" .null) (O_up : Sta Z Z.heap "com/example/lokit/lokit/password/CharacterClass" "UPPER_CASE" "Lcom/example/lokit/lokit/password/CharacterClass;" (.ref up)) (O_lo : Sta Z Z.heap "com/example/lokit/lokit/password/CharacterClass" "LOWER_CASE" "Lcom/example/lokit/lokit/password/CharacterClass;" (.ref lo)) (O_di : Sta Z Z.heap "com/example/lokit/lokit/password/CharacterClass" "DIGIT" "Lcom/example/lokit/lokit/password/CharacterClass;" (.ref di)) (O_sy : Sta Z Z.heap "com/example/lokit/lokit/password/CharacterClass" "SYMBOL" "Lcom/example/lokit/lokit/password/CharacterClass;" (.ref sy)) (xa : Addr) (ta : Addr) (kt : ClassId) (cp : Int32) (h0 : Heap) (hO : Old Z n0 h0) (E_xa : Exa Z h0 xa "java/lang/String") (F_xa_coder : Fld Z h0 xa "java/lang/String" "coder" "B" (.int (0 : Int32))) (F_xa_value : Fld Z h0 xa "java/lang/String" "value" "[B" (.ref ta)) (V_ta : Arv Z h0 ta kt .byte (0 : Int32) [] (.int (0 : Int32))) :
    Con l Z consts_1 n0 (⟨"java/lang/String", "indexOf", "(II)I"⟩ : MethodName) jdk_42_method_80_code 3 (some .int) ({ frames := 2, cells := 0, slots := 0, locals := 28 } : Room) #[(.ref xa), (.int cp), (.int (0 : Int32))] h0 [] (fun v h V' => v = some (.int (-1 : Int32)) ∧ h0 = h) [] := by
  refine Con.of (a0 := a0) pf22 (fun m => ef_io2_n0 m xa ta kt cp) all0 hO hEL ?_
  intro p e s m below meth c S0 hnm hsf W
  replace W := W.aloadN (pc' := 1) djdk_42_80_0 rfl rfl rfl
  obtain ⟨V1, h1, r1, W1, K1, hQ1, SF1⟩ := W.callV (pc' := 4) (argsL := []) (rest := []) (Wd := 0) (cells' := 0) (slots' := 0) (a := xa) (C := "java/lang/String") (y := (⟨"java/lang/String", "isLatin1", "()Z"⟩ : MethodName)) (z := (⟨"java/lang/String", "isLatin1", "()Z"⟩ : MethodName)) djdk_42_80_1 (islat l Z a0 n0 hw hEL G1 O1 P1 G3 O3 rG3 oe up lo di sy O5 E5 F5 O_up O_lo O_di O_sy xa h0 W.old F_xa_coder) E_xa (tw63 hw) (tw64 hw) (Or.inl (tw66 hw)) (tw66 hw) (tw65 hw) (tw7 hw) (tw67 hw) (by decide) (lenOf pd12 rfl) rfl rfl (by decide) (by decide) rfl sf0 all0 rfl rfl rfl (by decide) (by decide)
  clear W
  obtain ⟨rfl, hs1⟩ := hQ1
  subst hs1
  replace W1 := W1.cast (st' := [(.int (1 : Int32))]) rfl
  replace W1 := W1.ifF (pc' := 7) djdk_42_80_4 (feq (by decide : ¬ ((1 : Int32) = (0 : Int32)))).1 rfl
  replace W1 := W1.aloadN (pc' := 8) djdk_42_80_7 rfl rfl rfl
  replace W1 := W1.getf (pc' := 11) djdk_42_80_8 (tw32 hw) Via.refl F_xa_value rfl
  replace W1 := W1.iloadN (pc' := 12) djdk_42_80_11 rfl rfl
  replace W1 := W1.iloadN (pc' := 13) djdk_42_80_12 rfl rfl
  replace W1 := W1.aloadN (pc' := 14) djdk_42_80_13 rfl rfl rfl
  obtain ⟨V2, h2, r2, W2, K2, hQ2, SF2⟩ := W1.callV (pc' := 17) (argsL := []) (rest := [(.int (0 : Int32)), (.int cp), (.ref ta)]) (Wd := 3) (cells' := 0) (slots' := 0) (a := xa) (C := "java/lang/String") (y := (⟨"java/lang/String", "length", "()I"⟩ : MethodName)) (z := (⟨"java/lang/String", "length", "()I"⟩ : MethodName)) djdk_42_80_14 (len_n0 l Z a0 n0 hw hEL G1 O1 P1 G3 O3 rG3 oe up lo di sy O5 E5 F5 O_up O_lo O_di O_sy xa ta kt h0 W1.old E_xa F_xa_coder F_xa_value V_ta) E_xa (tw112 hw) (tw49 hw) (Or.inl (tw51 hw)) (tw51 hw) (tw50 hw) (tw7 hw) (tw52 hw) (by decide) (lenOf pd13 rfl) rfl rfl (by decide) (by decide) rfl sf0 all0 rfl rfl rfl (by decide) (by decide)
  clear W1
  obtain ⟨rfl, hs2⟩ := hQ2
  subst hs2
  replace W2 := W2.cast (st' := [(.int (0 : Int32)), (.int (0 : Int32)), (.int cp), (.ref ta)]) rfl
  obtain ⟨V3, h3, r3, W3, K3, hQ3, SF3⟩ := W2.callS (pc' := 20) (argsL := [(.ref ta), (.int cp), (.int (0 : Int32)), (.int (0 : Int32))]) (rest := []) (Wd := 0) (cells' := 0) (slots' := 0) (y := (⟨"java/lang/StringLatin1", "indexOf", "([BIII)I"⟩ : MethodName)) djdk_42_80_17 (lio_n0 l Z a0 n0 hw hEL G1 O1 P1 G3 O3 rG3 oe up lo di sy O5 E5 F5 O_up O_lo O_di O_sy ta kt cp h0 W2.old V_ta) (tw113 hw) (tw114 hw) (tw70 hw) (tw115 hw) (by decide) (lenOf pd11 rfl) rfl rfl (by decide) (by decide) rfl sf0 all0 rfl rfl rfl (by decide) (by decide)
  clear W2
  obtain ⟨rfl, hs3⟩ := hQ3
  subst hs3
  replace W3 := W3.cast (st' := [(.int (-1 : Int32))]) rfl
  replace W3 := W3.goto (pc' := 36) djdk_42_80_20 (by decide) (by decide)
  exact W3.iret (t := .int) djdk_42_80_36 rfl (by simp) rfl (by decide) (by decide) (fun V' cv => ⟨rfl, rfl⟩)
theorem ef_io1_n0 (m : MethodId) (xa : Addr) (ta : Addr) (kt : ClassId) (cp : Int32) : entryFrame m #[(.ref xa), (.int cp)] 2 = mkF m 0 #[.val (.ref xa), .val (.int cp)] [] := by first | (simp [entryFrame, mkF, argsToLocals, Value.category]; done) | rfl
set_option maxRecDepth 65536 in
set_option maxHeartbeats 40000000 in
theorem io1_n0 (l : Launch) (Z : State) (a0 : Array Value) (n0 : Nat) (hw : ∀ d ∈ tables_1, d.before a0 Z = true) (hEL : EW Z a0 consts_1) (G1 : Int32) (O1 : Sta Z Z.heap "java/lang/String" "COMPACT_STRINGS" "Z" (.int G1)) (P1 : ¬ (G1 = (0 : Int32))) (G3 : Value) (O3 : Sta Z Z.heap "jdk/internal/util/Preconditions" "SIOOBE_FORMATTER" "Ljava/util/function/BiFunction;" G3) (rG3 : G3.isRef = true) (oe up lo di sy : Addr) (O5 : Sta Z Z.heap "java/util/Optional" "EMPTY" "Ljava/util/Optional;" (.ref oe)) (E5 : Exa Z Z.heap oe "java/util/Optional") (F5 : Fld Z Z.heap oe "java/util/Optional" "value" "Ljava/lang/Object;" .null) (O_up : Sta Z Z.heap "com/example/lokit/lokit/password/CharacterClass" "UPPER_CASE" "Lcom/example/lokit/lokit/password/CharacterClass;" (.ref up)) (O_lo : Sta Z Z.heap "com/example/lokit/lokit/password/CharacterClass" "LOWER_CASE" "Lcom/example/lokit/lokit/password/CharacterClass;" (.ref lo)) (O_di : Sta Z Z.heap "com/example/lokit/lokit/password/CharacterClass" "DIGIT" "Lcom/example/lokit/lokit/password/CharacterClass;" (.ref di)) (O_sy : Sta Z Z.heap "com/example/lokit/lokit/password/CharacterClass" "SYMBOL" "Lcom/example/lokit/lokit/password/CharacterClass;" (.ref sy)) (xa : Addr) (ta : Addr) (kt : ClassId) (cp : Int32) (h0 : Heap) (hO : Old Z n0 h0) (E_xa : Exa Z h0 xa "java/lang/String") (F_xa_coder : Fld Z h0 xa "java/lang/String" "coder" "B" (.int (0 : Int32))) (F_xa_value : Fld Z h0 xa "java/lang/String" "value" "[B" (.ref ta)) (V_ta : Arv Z h0 ta kt .byte (0 : Int32) [] (.int (0 : Int32))) :
    Con l Z consts_1 n0 (⟨"java/lang/String", "indexOf", "(I)I"⟩ : MethodName) jdk_42_method_79_code 2 (some .int) ({ frames := 3, cells := 0, slots := 0, locals := 42 } : Room) #[(.ref xa), (.int cp)] h0 [] (fun v h V' => v = some (.int (-1 : Int32)) ∧ h0 = h) [] := by
  refine Con.of (a0 := a0) pf23 (fun m => ef_io1_n0 m xa ta kt cp) all0 hO hEL ?_
  intro p e s m below meth c S0 hnm hsf W
  replace W := W.aloadN (pc' := 1) djdk_42_79_0 rfl rfl rfl
  replace W := W.iloadN (pc' := 2) djdk_42_79_1 rfl rfl
  replace W := W.iconst (pc' := 3) (v := (0 : Int32)) djdk_42_79_2 rfl rfl
  obtain ⟨V1, h1, r1, W1, K1, hQ1, SF1⟩ := W.callV (pc' := 6) (argsL := [(.int cp), (.int (0 : Int32))]) (rest := []) (Wd := 0) (cells' := 0) (slots' := 0) (a := xa) (C := "java/lang/String") (y := (⟨"java/lang/String", "indexOf", "(II)I"⟩ : MethodName)) (z := (⟨"java/lang/String", "indexOf", "(II)I"⟩ : MethodName)) djdk_42_79_3 (io2_n0 l Z a0 n0 hw hEL G1 O1 P1 G3 O3 rG3 oe up lo di sy O5 E5 F5 O_up O_lo O_di O_sy xa ta kt cp h0 W.old E_xa F_xa_coder F_xa_value V_ta) E_xa (tw107 hw) (tw108 hw) (Or.inl (tw110 hw)) (tw110 hw) (tw109 hw) (tw7 hw) (tw111 hw) (by decide) (lenOf pd10 rfl) rfl rfl (by decide) (by decide) rfl sf0 all0 rfl rfl rfl (by decide) (by decide)
  clear W
  obtain ⟨rfl, hs1⟩ := hQ1
  subst hs1
  replace W1 := W1.cast (st' := [(.int (-1 : Int32))]) rfl
  exact W1.iret (t := .int) djdk_42_79_6 rfl (by simp) rfl (by decide) (by decide) (fun V' cv => ⟨rfl, rfl⟩)
theorem ef_clo_U (m : MethodId) (pa : Addr) (cp : Int32) : entryFrame m #[(.ref pa), (.int cp)] 3 = mkF m 0 #[.val (.ref pa), .val (.int cp), .unset] [] := by first | (simp [entryFrame, mkF, argsToLocals, Value.category]; done) | rfl
set_option maxRecDepth 65536 in
set_option maxHeartbeats 40000000 in
theorem clo_U (l : Launch) (Z : State) (a0 : Array Value) (n0 : Nat) (hw : ∀ d ∈ tables_1, d.before a0 Z = true) (hEL : EW Z a0 consts_1) (G1 : Int32) (O1 : Sta Z Z.heap "java/lang/String" "COMPACT_STRINGS" "Z" (.int G1)) (P1 : ¬ (G1 = (0 : Int32))) (G3 : Value) (O3 : Sta Z Z.heap "jdk/internal/util/Preconditions" "SIOOBE_FORMATTER" "Ljava/util/function/BiFunction;" G3) (rG3 : G3.isRef = true) (oe up lo di sy : Addr) (O5 : Sta Z Z.heap "java/util/Optional" "EMPTY" "Ljava/util/Optional;" (.ref oe)) (E5 : Exa Z Z.heap oe "java/util/Optional") (F5 : Fld Z Z.heap oe "java/util/Optional" "value" "Ljava/lang/Object;" .null) (O_up : Sta Z Z.heap "com/example/lokit/lokit/password/CharacterClass" "UPPER_CASE" "Lcom/example/lokit/lokit/password/CharacterClass;" (.ref up)) (O_lo : Sta Z Z.heap "com/example/lokit/lokit/password/CharacterClass" "LOWER_CASE" "Lcom/example/lokit/lokit/password/CharacterClass;" (.ref lo)) (O_di : Sta Z Z.heap "com/example/lokit/lokit/password/CharacterClass" "DIGIT" "Lcom/example/lokit/lokit/password/CharacterClass;" (.ref di)) (O_sy : Sta Z Z.heap "com/example/lokit/lokit/password/CharacterClass" "SYMBOL" "Lcom/example/lokit/lokit/password/CharacterClass;" (.ref sy)) (pa : Addr) (cp : Int32) (h0 : Heap) (hO : Old Z n0 h0) (u1 : ¬ cp < (65 : Int32)) (u2 : ¬ (90 : Int32) < cp) :
    Con l Z consts_1 n0 (⟨"com/example/lokit/lokit/password/PasswordAlphabet", "classOf", "(I)Ljava/util/Optional;"⟩ : MethodName) prog_12_method_2_code 3 (some (.object "java/util/Optional")) ({ frames := 4, cells := 1, slots := 1, locals := 50 } : Room) #[(.ref pa), (.int cp)] h0 [] (fun v h V' => ∃ (r : Addr), v = some (.ref r) ∧ Exa Z h r "java/util/Optional" ∧ Fld Z h r "java/util/Optional" "value" "Ljava/lang/Object;" (.ref up)) [] := by
  refine Con.of (a0 := a0) pf24 (fun m => ef_clo_U m pa cp) all0 hO hEL ?_
  intro p e s m below meth c S0 hnm hsf W
  replace W := W.iloadN (pc' := 1) dprog_12_2_0 rfl rfl
  obtain ⟨V1, h1, r1, W1, K1, hQ1, SF1⟩ := W.callS (pc' := 4) (argsL := [(.int cp)]) (rest := []) (Wd := 0) (cells' := 1) (slots' := 1) (y := (⟨"com/example/lokit/lokit/password/PasswordAlphabet", "letterOrDigitClassOf", "(I)Ljava/util/Optional;"⟩ : MethodName)) dprog_12_2_1 (lod_U l Z a0 n0 hw hEL G1 O1 P1 G3 O3 rG3 oe up lo di sy O5 E5 F5 O_up O_lo O_di O_sy cp h0 W.old u1 u2) (tw80 hw) (tw81 hw) (tw36 hw) (tw82 hw) (by decide) (lenOf pd14 rfl) rfl rfl (by decide) (by decide) rfl sf0 all0 rfl rfl rfl (by decide) (by decide)
  clear W
  obtain ⟨r1, rfl, q1_1, q1_2⟩ := hQ1
  have z1 : h0.size ≤ h1.size := K1.1
  replace W1 := W1.cast (st' := [(.ref r1)]) rfl
  replace W1 := W1.astoreN (pc' := 5) (L' := #[.val (.ref pa), .val (.int cp), .val (.ref r1)]) dprog_12_2_4 rfl rfl rfl
  replace W1 := W1.aloadN (pc' := 6) dprog_12_2_5 rfl rfl rfl
  obtain ⟨V2, h2, r2, W2, K2, hQ2, SF2⟩ := W1.callV (pc' := 9) (argsL := []) (rest := []) (Wd := 0) (cells' := 1) (slots' := 1) (a := r1) (C := "java/util/Optional") (y := (⟨"java/util/Optional", "isPresent", "()Z"⟩ : MethodName)) (z := (⟨"java/util/Optional", "isPresent", "()Z"⟩ : MethodName)) dprog_12_2_6 (isp_1 l Z a0 n0 hw hEL G1 O1 P1 G3 O3 rG3 oe up lo di sy O5 E5 F5 O_up O_lo O_di O_sy r1 up h1 W1.old q1_2) q1_1 (tw88 hw) (tw89 hw) (Or.inl (tw91 hw)) (tw91 hw) (tw90 hw) (tw85 hw) (tw92 hw) (by decide) (lenOf pd12 rfl) rfl rfl (by decide) (by decide) rfl sf0 all0 rfl rfl rfl (by decide) (by decide)
  clear W1
  obtain ⟨rfl, hs2⟩ := hQ2
  subst hs2
  replace W2 := W2.cast (st' := [(.int (1 : Int32))]) rfl
  replace W2 := W2.ifF (pc' := 12) dprog_12_2_9 (feq (by decide : ¬ ((1 : Int32) = (0 : Int32)))).1 rfl
  replace W2 := W2.aloadN (pc' := 13) dprog_12_2_12 rfl rfl rfl
  exact W2.aret (t := (.object "java/util/Optional")) dprog_12_2_13 rfl rfl rfl rfl (by decide) (by decide) (fun V' cv => ⟨r1, rfl, q1_1, q1_2⟩)
theorem ef_clo_L (m : MethodId) (pa : Addr) (cp : Int32) : entryFrame m #[(.ref pa), (.int cp)] 3 = mkF m 0 #[.val (.ref pa), .val (.int cp), .unset] [] := by first | (simp [entryFrame, mkF, argsToLocals, Value.category]; done) | rfl
set_option maxRecDepth 65536 in
set_option maxHeartbeats 40000000 in
theorem clo_L (l : Launch) (Z : State) (a0 : Array Value) (n0 : Nat) (hw : ∀ d ∈ tables_1, d.before a0 Z = true) (hEL : EW Z a0 consts_1) (G1 : Int32) (O1 : Sta Z Z.heap "java/lang/String" "COMPACT_STRINGS" "Z" (.int G1)) (P1 : ¬ (G1 = (0 : Int32))) (G3 : Value) (O3 : Sta Z Z.heap "jdk/internal/util/Preconditions" "SIOOBE_FORMATTER" "Ljava/util/function/BiFunction;" G3) (rG3 : G3.isRef = true) (oe up lo di sy : Addr) (O5 : Sta Z Z.heap "java/util/Optional" "EMPTY" "Ljava/util/Optional;" (.ref oe)) (E5 : Exa Z Z.heap oe "java/util/Optional") (F5 : Fld Z Z.heap oe "java/util/Optional" "value" "Ljava/lang/Object;" .null) (O_up : Sta Z Z.heap "com/example/lokit/lokit/password/CharacterClass" "UPPER_CASE" "Lcom/example/lokit/lokit/password/CharacterClass;" (.ref up)) (O_lo : Sta Z Z.heap "com/example/lokit/lokit/password/CharacterClass" "LOWER_CASE" "Lcom/example/lokit/lokit/password/CharacterClass;" (.ref lo)) (O_di : Sta Z Z.heap "com/example/lokit/lokit/password/CharacterClass" "DIGIT" "Lcom/example/lokit/lokit/password/CharacterClass;" (.ref di)) (O_sy : Sta Z Z.heap "com/example/lokit/lokit/password/CharacterClass" "SYMBOL" "Lcom/example/lokit/lokit/password/CharacterClass;" (.ref sy)) (pa : Addr) (cp : Int32) (h0 : Heap) (hO : Old Z n0 h0) (k1 : ¬ cp < (97 : Int32)) (k2 : ¬ (122 : Int32) < cp) :
    Con l Z consts_1 n0 (⟨"com/example/lokit/lokit/password/PasswordAlphabet", "classOf", "(I)Ljava/util/Optional;"⟩ : MethodName) prog_12_method_2_code 3 (some (.object "java/util/Optional")) ({ frames := 4, cells := 1, slots := 1, locals := 50 } : Room) #[(.ref pa), (.int cp)] h0 [] (fun v h V' => ∃ (r : Addr), v = some (.ref r) ∧ Exa Z h r "java/util/Optional" ∧ Fld Z h r "java/util/Optional" "value" "Ljava/lang/Object;" (.ref lo)) [] := by
  refine Con.of (a0 := a0) pf24 (fun m => ef_clo_L m pa cp) all0 hO hEL ?_
  intro p e s m below meth c S0 hnm hsf W
  replace W := W.iloadN (pc' := 1) dprog_12_2_0 rfl rfl
  obtain ⟨V1, h1, r1, W1, K1, hQ1, SF1⟩ := W.callS (pc' := 4) (argsL := [(.int cp)]) (rest := []) (Wd := 0) (cells' := 1) (slots' := 1) (y := (⟨"com/example/lokit/lokit/password/PasswordAlphabet", "letterOrDigitClassOf", "(I)Ljava/util/Optional;"⟩ : MethodName)) dprog_12_2_1 (lod_L l Z a0 n0 hw hEL G1 O1 P1 G3 O3 rG3 oe up lo di sy O5 E5 F5 O_up O_lo O_di O_sy cp h0 W.old k1 k2) (tw80 hw) (tw81 hw) (tw36 hw) (tw82 hw) (by decide) (lenOf pd14 rfl) rfl rfl (by decide) (by decide) rfl sf0 all0 rfl rfl rfl (by decide) (by decide)
  clear W
  obtain ⟨r1, rfl, q1_1, q1_2⟩ := hQ1
  have z1 : h0.size ≤ h1.size := K1.1
  replace W1 := W1.cast (st' := [(.ref r1)]) rfl
  replace W1 := W1.astoreN (pc' := 5) (L' := #[.val (.ref pa), .val (.int cp), .val (.ref r1)]) dprog_12_2_4 rfl rfl rfl
  replace W1 := W1.aloadN (pc' := 6) dprog_12_2_5 rfl rfl rfl
  obtain ⟨V2, h2, r2, W2, K2, hQ2, SF2⟩ := W1.callV (pc' := 9) (argsL := []) (rest := []) (Wd := 0) (cells' := 1) (slots' := 1) (a := r1) (C := "java/util/Optional") (y := (⟨"java/util/Optional", "isPresent", "()Z"⟩ : MethodName)) (z := (⟨"java/util/Optional", "isPresent", "()Z"⟩ : MethodName)) dprog_12_2_6 (isp_1 l Z a0 n0 hw hEL G1 O1 P1 G3 O3 rG3 oe up lo di sy O5 E5 F5 O_up O_lo O_di O_sy r1 lo h1 W1.old q1_2) q1_1 (tw88 hw) (tw89 hw) (Or.inl (tw91 hw)) (tw91 hw) (tw90 hw) (tw85 hw) (tw92 hw) (by decide) (lenOf pd12 rfl) rfl rfl (by decide) (by decide) rfl sf0 all0 rfl rfl rfl (by decide) (by decide)
  clear W1
  obtain ⟨rfl, hs2⟩ := hQ2
  subst hs2
  replace W2 := W2.cast (st' := [(.int (1 : Int32))]) rfl
  replace W2 := W2.ifF (pc' := 12) dprog_12_2_9 (feq (by decide : ¬ ((1 : Int32) = (0 : Int32)))).1 rfl
  replace W2 := W2.aloadN (pc' := 13) dprog_12_2_12 rfl rfl rfl
  exact W2.aret (t := (.object "java/util/Optional")) dprog_12_2_13 rfl rfl rfl rfl (by decide) (by decide) (fun V' cv => ⟨r1, rfl, q1_1, q1_2⟩)
theorem ef_clo_D (m : MethodId) (pa : Addr) (cp : Int32) : entryFrame m #[(.ref pa), (.int cp)] 3 = mkF m 0 #[.val (.ref pa), .val (.int cp), .unset] [] := by first | (simp [entryFrame, mkF, argsToLocals, Value.category]; done) | rfl
set_option maxRecDepth 65536 in
set_option maxHeartbeats 40000000 in
theorem clo_D (l : Launch) (Z : State) (a0 : Array Value) (n0 : Nat) (hw : ∀ d ∈ tables_1, d.before a0 Z = true) (hEL : EW Z a0 consts_1) (G1 : Int32) (O1 : Sta Z Z.heap "java/lang/String" "COMPACT_STRINGS" "Z" (.int G1)) (P1 : ¬ (G1 = (0 : Int32))) (G3 : Value) (O3 : Sta Z Z.heap "jdk/internal/util/Preconditions" "SIOOBE_FORMATTER" "Ljava/util/function/BiFunction;" G3) (rG3 : G3.isRef = true) (oe up lo di sy : Addr) (O5 : Sta Z Z.heap "java/util/Optional" "EMPTY" "Ljava/util/Optional;" (.ref oe)) (E5 : Exa Z Z.heap oe "java/util/Optional") (F5 : Fld Z Z.heap oe "java/util/Optional" "value" "Ljava/lang/Object;" .null) (O_up : Sta Z Z.heap "com/example/lokit/lokit/password/CharacterClass" "UPPER_CASE" "Lcom/example/lokit/lokit/password/CharacterClass;" (.ref up)) (O_lo : Sta Z Z.heap "com/example/lokit/lokit/password/CharacterClass" "LOWER_CASE" "Lcom/example/lokit/lokit/password/CharacterClass;" (.ref lo)) (O_di : Sta Z Z.heap "com/example/lokit/lokit/password/CharacterClass" "DIGIT" "Lcom/example/lokit/lokit/password/CharacterClass;" (.ref di)) (O_sy : Sta Z Z.heap "com/example/lokit/lokit/password/CharacterClass" "SYMBOL" "Lcom/example/lokit/lokit/password/CharacterClass;" (.ref sy)) (pa : Addr) (cp : Int32) (h0 : Heap) (hO : Old Z n0 h0) (d1 : ¬ cp < (48 : Int32)) (d2 : ¬ (57 : Int32) < cp) :
    Con l Z consts_1 n0 (⟨"com/example/lokit/lokit/password/PasswordAlphabet", "classOf", "(I)Ljava/util/Optional;"⟩ : MethodName) prog_12_method_2_code 3 (some (.object "java/util/Optional")) ({ frames := 4, cells := 1, slots := 1, locals := 50 } : Room) #[(.ref pa), (.int cp)] h0 [] (fun v h V' => ∃ (r : Addr), v = some (.ref r) ∧ Exa Z h r "java/util/Optional" ∧ Fld Z h r "java/util/Optional" "value" "Ljava/lang/Object;" (.ref di)) [] := by
  refine Con.of (a0 := a0) pf24 (fun m => ef_clo_D m pa cp) all0 hO hEL ?_
  intro p e s m below meth c S0 hnm hsf W
  replace W := W.iloadN (pc' := 1) dprog_12_2_0 rfl rfl
  obtain ⟨V1, h1, r1, W1, K1, hQ1, SF1⟩ := W.callS (pc' := 4) (argsL := [(.int cp)]) (rest := []) (Wd := 0) (cells' := 1) (slots' := 1) (y := (⟨"com/example/lokit/lokit/password/PasswordAlphabet", "letterOrDigitClassOf", "(I)Ljava/util/Optional;"⟩ : MethodName)) dprog_12_2_1 (lod_D l Z a0 n0 hw hEL G1 O1 P1 G3 O3 rG3 oe up lo di sy O5 E5 F5 O_up O_lo O_di O_sy cp h0 W.old d1 d2) (tw80 hw) (tw81 hw) (tw36 hw) (tw82 hw) (by decide) (lenOf pd14 rfl) rfl rfl (by decide) (by decide) rfl sf0 all0 rfl rfl rfl (by decide) (by decide)
  clear W
  obtain ⟨r1, rfl, q1_1, q1_2⟩ := hQ1
  have z1 : h0.size ≤ h1.size := K1.1
  replace W1 := W1.cast (st' := [(.ref r1)]) rfl
  replace W1 := W1.astoreN (pc' := 5) (L' := #[.val (.ref pa), .val (.int cp), .val (.ref r1)]) dprog_12_2_4 rfl rfl rfl
  replace W1 := W1.aloadN (pc' := 6) dprog_12_2_5 rfl rfl rfl
  obtain ⟨V2, h2, r2, W2, K2, hQ2, SF2⟩ := W1.callV (pc' := 9) (argsL := []) (rest := []) (Wd := 0) (cells' := 1) (slots' := 1) (a := r1) (C := "java/util/Optional") (y := (⟨"java/util/Optional", "isPresent", "()Z"⟩ : MethodName)) (z := (⟨"java/util/Optional", "isPresent", "()Z"⟩ : MethodName)) dprog_12_2_6 (isp_1 l Z a0 n0 hw hEL G1 O1 P1 G3 O3 rG3 oe up lo di sy O5 E5 F5 O_up O_lo O_di O_sy r1 di h1 W1.old q1_2) q1_1 (tw88 hw) (tw89 hw) (Or.inl (tw91 hw)) (tw91 hw) (tw90 hw) (tw85 hw) (tw92 hw) (by decide) (lenOf pd12 rfl) rfl rfl (by decide) (by decide) rfl sf0 all0 rfl rfl rfl (by decide) (by decide)
  clear W1
  obtain ⟨rfl, hs2⟩ := hQ2
  subst hs2
  replace W2 := W2.cast (st' := [(.int (1 : Int32))]) rfl
  replace W2 := W2.ifF (pc' := 12) dprog_12_2_9 (feq (by decide : ¬ ((1 : Int32) = (0 : Int32)))).1 rfl
  replace W2 := W2.aloadN (pc' := 13) dprog_12_2_12 rfl rfl rfl
  exact W2.aret (t := (.object "java/util/Optional")) dprog_12_2_13 rfl rfl rfl rfl (by decide) (by decide) (fun V' cv => ⟨r1, rfl, q1_1, q1_2⟩)
theorem ef_clo_S0 (m : MethodId) (pa : Addr) (cp : Int32) (xa : Addr) (ta : Addr) (kt : ClassId) (c0 : Int32) (c1 : Int32) : entryFrame m #[(.ref pa), (.int cp)] 3 = mkF m 0 #[.val (.ref pa), .val (.int cp), .unset] [] := by first | (simp [entryFrame, mkF, argsToLocals, Value.category]; done) | rfl
set_option maxRecDepth 65536 in
set_option maxHeartbeats 40000000 in
theorem clo_S0 (l : Launch) (Z : State) (a0 : Array Value) (n0 : Nat) (hw : ∀ d ∈ tables_1, d.before a0 Z = true) (hEL : EW Z a0 consts_1) (G1 : Int32) (O1 : Sta Z Z.heap "java/lang/String" "COMPACT_STRINGS" "Z" (.int G1)) (P1 : ¬ (G1 = (0 : Int32))) (G3 : Value) (O3 : Sta Z Z.heap "jdk/internal/util/Preconditions" "SIOOBE_FORMATTER" "Ljava/util/function/BiFunction;" G3) (rG3 : G3.isRef = true) (oe up lo di sy : Addr) (O5 : Sta Z Z.heap "java/util/Optional" "EMPTY" "Ljava/util/Optional;" (.ref oe)) (E5 : Exa Z Z.heap oe "java/util/Optional") (F5 : Fld Z Z.heap oe "java/util/Optional" "value" "Ljava/lang/Object;" .null) (O_up : Sta Z Z.heap "com/example/lokit/lokit/password/CharacterClass" "UPPER_CASE" "Lcom/example/lokit/lokit/password/CharacterClass;" (.ref up)) (O_lo : Sta Z Z.heap "com/example/lokit/lokit/password/CharacterClass" "LOWER_CASE" "Lcom/example/lokit/lokit/password/CharacterClass;" (.ref lo)) (O_di : Sta Z Z.heap "com/example/lokit/lokit/password/CharacterClass" "DIGIT" "Lcom/example/lokit/lokit/password/CharacterClass;" (.ref di)) (O_sy : Sta Z Z.heap "com/example/lokit/lokit/password/CharacterClass" "SYMBOL" "Lcom/example/lokit/lokit/password/CharacterClass;" (.ref sy)) (pa : Addr) (cp : Int32) (xa : Addr) (ta : Addr) (kt : ClassId) (c0 : Int32) (c1 : Int32) (h0 : Heap) (hO : Old Z n0 h0) (F_pa_symbols : Fld Z h0 pa "com/example/lokit/lokit/password/PasswordAlphabet" "symbols" "Ljava/lang/String;" (.ref xa)) (E_xa : Exa Z h0 xa "java/lang/String") (F_xa_coder : Fld Z h0 xa "java/lang/String" "coder" "B" (.int (0 : Int32))) (F_xa_value : Fld Z h0 xa "java/lang/String" "value" "[B" (.ref ta)) (V_ta : Arv Z h0 ta kt .byte (2 : Int32) [(.int (c0.toInt8.toInt32)), (.int (c1.toInt8.toInt32))] (.int (0 : Int32))) (hp_c0 : ¬ c0 < 0 ∧ ¬ (255 : Int32) < c0) (hp_c1 : ¬ c1 < 0 ∧ ¬ (255 : Int32) < c1) (nd : ND cp) (e0 : ¬ cp < (0 : Int32)) (e1 : ¬ (255 : Int32) < cp) (eq_c0 : cp = c0) :
    Con l Z consts_1 n0 (⟨"com/example/lokit/lokit/password/PasswordAlphabet", "classOf", "(I)Ljava/util/Optional;"⟩ : MethodName) prog_12_method_2_code 3 (some (.object "java/util/Optional")) ({ frames := 4, cells := 1, slots := 1, locals := 59 } : Room) #[(.ref pa), (.int cp)] h0 [] (fun v h V' => ∃ (r : Addr), v = some (.ref r) ∧ Exa Z h r "java/util/Optional" ∧ Fld Z h r "java/util/Optional" "value" "Ljava/lang/Object;" (.ref sy)) [] := by
  refine Con.of (a0 := a0) pf24 (fun m => ef_clo_S0 m pa cp xa ta kt c0 c1) all0 hO hEL ?_
  intro p e s m below meth c S0 hnm hsf W
  replace W := W.iloadN (pc' := 1) dprog_12_2_0 rfl rfl
  obtain ⟨V1, h1, r1, W1, K1, hQ1, SF1⟩ := W.callS (pc' := 4) (argsL := [(.int cp)]) (rest := []) (Wd := 0) (cells' := 0) (slots' := 0) (y := (⟨"com/example/lokit/lokit/password/PasswordAlphabet", "letterOrDigitClassOf", "(I)Ljava/util/Optional;"⟩ : MethodName)) dprog_12_2_1 (lod_N l Z a0 n0 hw hEL G1 O1 P1 G3 O3 rG3 oe up lo di sy O5 E5 F5 O_up O_lo O_di O_sy cp h0 W.old nd) (tw80 hw) (tw81 hw) (tw36 hw) (tw82 hw) (by decide) (lenOf pd14 rfl) rfl rfl (by decide) (by decide) rfl sf0 all0 rfl rfl rfl (by decide) (by decide)
  clear W
  obtain ⟨rfl, hs1⟩ := hQ1
  subst hs1
  replace W1 := W1.cast (st' := [(.ref oe)]) rfl
  replace W1 := W1.astoreN (pc' := 5) (L' := #[.val (.ref pa), .val (.int cp), .val (.ref oe)]) dprog_12_2_4 rfl rfl rfl
  replace W1 := W1.aloadN (pc' := 6) dprog_12_2_5 rfl rfl rfl
  have e2 := E5.ext W1.old.2
  have f3 := F5.ext W1.old.2
  obtain ⟨V4, h4, r4, W4, K4, hQ4, SF4⟩ := W1.callV (pc' := 9) (argsL := []) (rest := []) (Wd := 0) (cells' := 0) (slots' := 0) (a := oe) (C := "java/util/Optional") (y := (⟨"java/util/Optional", "isPresent", "()Z"⟩ : MethodName)) (z := (⟨"java/util/Optional", "isPresent", "()Z"⟩ : MethodName)) dprog_12_2_6 (isp_0 l Z a0 n0 hw hEL G1 O1 P1 G3 O3 rG3 oe up lo di sy O5 E5 F5 O_up O_lo O_di O_sy oe h0 W1.old f3) e2 (tw88 hw) (tw89 hw) (Or.inl (tw91 hw)) (tw91 hw) (tw90 hw) (tw85 hw) (tw92 hw) (by decide) (lenOf pd12 rfl) rfl rfl (by decide) (by decide) rfl sf0 all0 rfl rfl rfl (by decide) (by decide)
  clear W1
  obtain ⟨rfl, hs4⟩ := hQ4
  subst hs4
  replace W4 := W4.cast (st' := [(.int (0 : Int32))]) rfl
  replace W4 := W4.ifT (pc' := 14) dprog_12_2_9 (teq (by decide : (0 : Int32) = (0 : Int32))).1 (by decide) (by decide)
  replace W4 := W4.aloadN (pc' := 15) dprog_12_2_14 rfl rfl rfl
  replace W4 := W4.getf (pc' := 18) dprog_12_2_15 (tw95 hw) Via.refl F_pa_symbols rfl
  replace W4 := W4.iloadN (pc' := 19) dprog_12_2_18 rfl rfl
  obtain ⟨V5, h5, r5, W5, K5, hQ5, SF5⟩ := W4.callV (pc' := 22) (argsL := [(.int cp)]) (rest := []) (Wd := 0) (cells' := 0) (slots' := 0) (a := xa) (C := "java/lang/String") (y := (⟨"java/lang/String", "indexOf", "(I)I"⟩ : MethodName)) (z := (⟨"java/lang/String", "indexOf", "(I)I"⟩ : MethodName)) dprog_12_2_19 (io1_s0 l Z a0 n0 hw hEL G1 O1 P1 G3 O3 rG3 oe up lo di sy O5 E5 F5 O_up O_lo O_di O_sy xa ta kt c0 c1 cp h0 W4.old E_xa F_xa_coder F_xa_value V_ta hp_c0 hp_c1 e0 e1 eq_c0) E_xa (tw102 hw) (tw103 hw) (Or.inl (tw105 hw)) (tw105 hw) (tw104 hw) (tw7 hw) (tw106 hw) (by decide) (lenOf pd15 rfl) rfl rfl (by decide) (by decide) rfl sf0 all0 rfl rfl rfl (by decide) (by decide)
  clear W4
  obtain ⟨rfl, hs5⟩ := hQ5
  subst hs5
  replace W5 := W5.cast (st' := [(.int (0 : Int32))]) rfl
  replace W5 := W5.ifF (pc' := 25) dprog_12_2_22 (flt (by decide : ¬ ((0 : Int32) < (0 : Int32)))).1 rfl
  replace W5 := W5.gets (pc' := 28) dprog_12_2_25 (tw134 hw) O_sy rfl
  obtain ⟨V6, h6, r6, W6, K6, hQ6, SF6⟩ := W5.callS (pc' := 31) (argsL := [(.ref sy)]) (rest := []) (Wd := 0) (cells' := 1) (slots' := 1) (y := (⟨"java/util/Optional", "of", "(Ljava/lang/Object;)Ljava/util/Optional;"⟩ : MethodName)) dprog_12_2_28 (opt_of l Z a0 n0 hw hEL G1 O1 P1 G3 O3 rG3 oe up lo di sy O5 E5 F5 O_up O_lo O_di O_sy sy h0 W5.old) (tw135 hw) (tw136 hw) (tw85 hw) (tw137 hw) (by decide) (lenOf pd6 rfl) rfl rfl (by decide) (by decide) rfl sf0 all0 rfl rfl rfl (by decide) (by decide)
  clear W5
  obtain ⟨r6, rfl, q6_1, q6_2⟩ := hQ6
  have z6 : h0.size ≤ h6.size := K6.1
  replace W6 := W6.cast (st' := [(.ref r6)]) rfl
  exact W6.aret (t := (.object "java/util/Optional")) dprog_12_2_31 rfl rfl rfl rfl (by decide) (by decide) (fun V' cv => ⟨r6, rfl, q6_1, q6_2⟩)
theorem ef_clo_S1 (m : MethodId) (pa : Addr) (cp : Int32) (xa : Addr) (ta : Addr) (kt : ClassId) (c0 : Int32) (c1 : Int32) : entryFrame m #[(.ref pa), (.int cp)] 3 = mkF m 0 #[.val (.ref pa), .val (.int cp), .unset] [] := by first | (simp [entryFrame, mkF, argsToLocals, Value.category]; done) | rfl
set_option maxRecDepth 65536 in
set_option maxHeartbeats 40000000 in
theorem clo_S1 (l : Launch) (Z : State) (a0 : Array Value) (n0 : Nat) (hw : ∀ d ∈ tables_1, d.before a0 Z = true) (hEL : EW Z a0 consts_1) (G1 : Int32) (O1 : Sta Z Z.heap "java/lang/String" "COMPACT_STRINGS" "Z" (.int G1)) (P1 : ¬ (G1 = (0 : Int32))) (G3 : Value) (O3 : Sta Z Z.heap "jdk/internal/util/Preconditions" "SIOOBE_FORMATTER" "Ljava/util/function/BiFunction;" G3) (rG3 : G3.isRef = true) (oe up lo di sy : Addr) (O5 : Sta Z Z.heap "java/util/Optional" "EMPTY" "Ljava/util/Optional;" (.ref oe)) (E5 : Exa Z Z.heap oe "java/util/Optional") (F5 : Fld Z Z.heap oe "java/util/Optional" "value" "Ljava/lang/Object;" .null) (O_up : Sta Z Z.heap "com/example/lokit/lokit/password/CharacterClass" "UPPER_CASE" "Lcom/example/lokit/lokit/password/CharacterClass;" (.ref up)) (O_lo : Sta Z Z.heap "com/example/lokit/lokit/password/CharacterClass" "LOWER_CASE" "Lcom/example/lokit/lokit/password/CharacterClass;" (.ref lo)) (O_di : Sta Z Z.heap "com/example/lokit/lokit/password/CharacterClass" "DIGIT" "Lcom/example/lokit/lokit/password/CharacterClass;" (.ref di)) (O_sy : Sta Z Z.heap "com/example/lokit/lokit/password/CharacterClass" "SYMBOL" "Lcom/example/lokit/lokit/password/CharacterClass;" (.ref sy)) (pa : Addr) (cp : Int32) (xa : Addr) (ta : Addr) (kt : ClassId) (c0 : Int32) (c1 : Int32) (h0 : Heap) (hO : Old Z n0 h0) (F_pa_symbols : Fld Z h0 pa "com/example/lokit/lokit/password/PasswordAlphabet" "symbols" "Ljava/lang/String;" (.ref xa)) (E_xa : Exa Z h0 xa "java/lang/String") (F_xa_coder : Fld Z h0 xa "java/lang/String" "coder" "B" (.int (0 : Int32))) (F_xa_value : Fld Z h0 xa "java/lang/String" "value" "[B" (.ref ta)) (V_ta : Arv Z h0 ta kt .byte (2 : Int32) [(.int (c0.toInt8.toInt32)), (.int (c1.toInt8.toInt32))] (.int (0 : Int32))) (hp_c0 : ¬ c0 < 0 ∧ ¬ (255 : Int32) < c0) (hp_c1 : ¬ c1 < 0 ∧ ¬ (255 : Int32) < c1) (nd : ND cp) (e0 : ¬ cp < (0 : Int32)) (e1 : ¬ (255 : Int32) < cp) (ne_c0 : ¬ cp = c0) (eq_c1 : cp = c1) :
    Con l Z consts_1 n0 (⟨"com/example/lokit/lokit/password/PasswordAlphabet", "classOf", "(I)Ljava/util/Optional;"⟩ : MethodName) prog_12_method_2_code 3 (some (.object "java/util/Optional")) ({ frames := 4, cells := 1, slots := 1, locals := 59 } : Room) #[(.ref pa), (.int cp)] h0 [] (fun v h V' => ∃ (r : Addr), v = some (.ref r) ∧ Exa Z h r "java/util/Optional" ∧ Fld Z h r "java/util/Optional" "value" "Ljava/lang/Object;" (.ref sy)) [] := by
  refine Con.of (a0 := a0) pf24 (fun m => ef_clo_S1 m pa cp xa ta kt c0 c1) all0 hO hEL ?_
  intro p e s m below meth c S0 hnm hsf W
  replace W := W.iloadN (pc' := 1) dprog_12_2_0 rfl rfl
  obtain ⟨V1, h1, r1, W1, K1, hQ1, SF1⟩ := W.callS (pc' := 4) (argsL := [(.int cp)]) (rest := []) (Wd := 0) (cells' := 0) (slots' := 0) (y := (⟨"com/example/lokit/lokit/password/PasswordAlphabet", "letterOrDigitClassOf", "(I)Ljava/util/Optional;"⟩ : MethodName)) dprog_12_2_1 (lod_N l Z a0 n0 hw hEL G1 O1 P1 G3 O3 rG3 oe up lo di sy O5 E5 F5 O_up O_lo O_di O_sy cp h0 W.old nd) (tw80 hw) (tw81 hw) (tw36 hw) (tw82 hw) (by decide) (lenOf pd14 rfl) rfl rfl (by decide) (by decide) rfl sf0 all0 rfl rfl rfl (by decide) (by decide)
  clear W
  obtain ⟨rfl, hs1⟩ := hQ1
  subst hs1
  replace W1 := W1.cast (st' := [(.ref oe)]) rfl
  replace W1 := W1.astoreN (pc' := 5) (L' := #[.val (.ref pa), .val (.int cp), .val (.ref oe)]) dprog_12_2_4 rfl rfl rfl
  replace W1 := W1.aloadN (pc' := 6) dprog_12_2_5 rfl rfl rfl
  have e2 := E5.ext W1.old.2
  have f3 := F5.ext W1.old.2
  obtain ⟨V4, h4, r4, W4, K4, hQ4, SF4⟩ := W1.callV (pc' := 9) (argsL := []) (rest := []) (Wd := 0) (cells' := 0) (slots' := 0) (a := oe) (C := "java/util/Optional") (y := (⟨"java/util/Optional", "isPresent", "()Z"⟩ : MethodName)) (z := (⟨"java/util/Optional", "isPresent", "()Z"⟩ : MethodName)) dprog_12_2_6 (isp_0 l Z a0 n0 hw hEL G1 O1 P1 G3 O3 rG3 oe up lo di sy O5 E5 F5 O_up O_lo O_di O_sy oe h0 W1.old f3) e2 (tw88 hw) (tw89 hw) (Or.inl (tw91 hw)) (tw91 hw) (tw90 hw) (tw85 hw) (tw92 hw) (by decide) (lenOf pd12 rfl) rfl rfl (by decide) (by decide) rfl sf0 all0 rfl rfl rfl (by decide) (by decide)
  clear W1
  obtain ⟨rfl, hs4⟩ := hQ4
  subst hs4
  replace W4 := W4.cast (st' := [(.int (0 : Int32))]) rfl
  replace W4 := W4.ifT (pc' := 14) dprog_12_2_9 (teq (by decide : (0 : Int32) = (0 : Int32))).1 (by decide) (by decide)
  replace W4 := W4.aloadN (pc' := 15) dprog_12_2_14 rfl rfl rfl
  replace W4 := W4.getf (pc' := 18) dprog_12_2_15 (tw95 hw) Via.refl F_pa_symbols rfl
  replace W4 := W4.iloadN (pc' := 19) dprog_12_2_18 rfl rfl
  obtain ⟨V5, h5, r5, W5, K5, hQ5, SF5⟩ := W4.callV (pc' := 22) (argsL := [(.int cp)]) (rest := []) (Wd := 0) (cells' := 0) (slots' := 0) (a := xa) (C := "java/lang/String") (y := (⟨"java/lang/String", "indexOf", "(I)I"⟩ : MethodName)) (z := (⟨"java/lang/String", "indexOf", "(I)I"⟩ : MethodName)) dprog_12_2_19 (io1_s1 l Z a0 n0 hw hEL G1 O1 P1 G3 O3 rG3 oe up lo di sy O5 E5 F5 O_up O_lo O_di O_sy xa ta kt c0 c1 cp h0 W4.old E_xa F_xa_coder F_xa_value V_ta hp_c0 hp_c1 e0 e1 ne_c0 eq_c1) E_xa (tw102 hw) (tw103 hw) (Or.inl (tw105 hw)) (tw105 hw) (tw104 hw) (tw7 hw) (tw106 hw) (by decide) (lenOf pd15 rfl) rfl rfl (by decide) (by decide) rfl sf0 all0 rfl rfl rfl (by decide) (by decide)
  clear W4
  obtain ⟨rfl, hs5⟩ := hQ5
  subst hs5
  replace W5 := W5.cast (st' := [(.int (1 : Int32))]) rfl
  replace W5 := W5.ifF (pc' := 25) dprog_12_2_22 (flt (by decide : ¬ ((1 : Int32) < (0 : Int32)))).1 rfl
  replace W5 := W5.gets (pc' := 28) dprog_12_2_25 (tw134 hw) O_sy rfl
  obtain ⟨V6, h6, r6, W6, K6, hQ6, SF6⟩ := W5.callS (pc' := 31) (argsL := [(.ref sy)]) (rest := []) (Wd := 0) (cells' := 1) (slots' := 1) (y := (⟨"java/util/Optional", "of", "(Ljava/lang/Object;)Ljava/util/Optional;"⟩ : MethodName)) dprog_12_2_28 (opt_of l Z a0 n0 hw hEL G1 O1 P1 G3 O3 rG3 oe up lo di sy O5 E5 F5 O_up O_lo O_di O_sy sy h0 W5.old) (tw135 hw) (tw136 hw) (tw85 hw) (tw137 hw) (by decide) (lenOf pd6 rfl) rfl rfl (by decide) (by decide) rfl sf0 all0 rfl rfl rfl (by decide) (by decide)
  clear W5
  obtain ⟨r6, rfl, q6_1, q6_2⟩ := hQ6
  have z6 : h0.size ≤ h6.size := K6.1
  replace W6 := W6.cast (st' := [(.ref r6)]) rfl
  exact W6.aret (t := (.object "java/util/Optional")) dprog_12_2_31 rfl rfl rfl rfl (by decide) (by decide) (fun V' cv => ⟨r6, rfl, q6_1, q6_2⟩)
theorem ef_clo_N2 (m : MethodId) (pa : Addr) (cp : Int32) (xa : Addr) (ta : Addr) (kt : ClassId) (c0 : Int32) (c1 : Int32) : entryFrame m #[(.ref pa), (.int cp)] 3 = mkF m 0 #[.val (.ref pa), .val (.int cp), .unset] [] := by first | (simp [entryFrame, mkF, argsToLocals, Value.category]; done) | rfl
set_option maxRecDepth 65536 in
set_option maxHeartbeats 40000000 in
theorem clo_N2 (l : Launch) (Z : State) (a0 : Array Value) (n0 : Nat) (hw : ∀ d ∈ tables_1, d.before a0 Z = true) (hEL : EW Z a0 consts_1) (G1 : Int32) (O1 : Sta Z Z.heap "java/lang/String" "COMPACT_STRINGS" "Z" (.int G1)) (P1 : ¬ (G1 = (0 : Int32))) (G3 : Value) (O3 : Sta Z Z.heap "jdk/internal/util/Preconditions" "SIOOBE_FORMATTER" "Ljava/util/function/BiFunction;" G3) (rG3 : G3.isRef = true) (oe up lo di sy : Addr) (O5 : Sta Z Z.heap "java/util/Optional" "EMPTY" "Ljava/util/Optional;" (.ref oe)) (E5 : Exa Z Z.heap oe "java/util/Optional") (F5 : Fld Z Z.heap oe "java/util/Optional" "value" "Ljava/lang/Object;" .null) (O_up : Sta Z Z.heap "com/example/lokit/lokit/password/CharacterClass" "UPPER_CASE" "Lcom/example/lokit/lokit/password/CharacterClass;" (.ref up)) (O_lo : Sta Z Z.heap "com/example/lokit/lokit/password/CharacterClass" "LOWER_CASE" "Lcom/example/lokit/lokit/password/CharacterClass;" (.ref lo)) (O_di : Sta Z Z.heap "com/example/lokit/lokit/password/CharacterClass" "DIGIT" "Lcom/example/lokit/lokit/password/CharacterClass;" (.ref di)) (O_sy : Sta Z Z.heap "com/example/lokit/lokit/password/CharacterClass" "SYMBOL" "Lcom/example/lokit/lokit/password/CharacterClass;" (.ref sy)) (pa : Addr) (cp : Int32) (xa : Addr) (ta : Addr) (kt : ClassId) (c0 : Int32) (c1 : Int32) (h0 : Heap) (hO : Old Z n0 h0) (F_pa_symbols : Fld Z h0 pa "com/example/lokit/lokit/password/PasswordAlphabet" "symbols" "Ljava/lang/String;" (.ref xa)) (E_xa : Exa Z h0 xa "java/lang/String") (F_xa_coder : Fld Z h0 xa "java/lang/String" "coder" "B" (.int (0 : Int32))) (F_xa_value : Fld Z h0 xa "java/lang/String" "value" "[B" (.ref ta)) (V_ta : Arv Z h0 ta kt .byte (2 : Int32) [(.int (c0.toInt8.toInt32)), (.int (c1.toInt8.toInt32))] (.int (0 : Int32))) (hp_c0 : ¬ c0 < 0 ∧ ¬ (255 : Int32) < c0) (hp_c1 : ¬ c1 < 0 ∧ ¬ (255 : Int32) < c1) (nd : ND cp) (ne_c0 : ¬ cp = c0) (ne_c1 : ¬ cp = c1) :
    Con l Z consts_1 n0 (⟨"com/example/lokit/lokit/password/PasswordAlphabet", "classOf", "(I)Ljava/util/Optional;"⟩ : MethodName) prog_12_method_2_code 3 (some (.object "java/util/Optional")) ({ frames := 4, cells := 0, slots := 0, locals := 59 } : Room) #[(.ref pa), (.int cp)] h0 [] (fun v h V' => v = some (.ref oe) ∧ h0 = h) [] := by
  refine Con.of (a0 := a0) pf24 (fun m => ef_clo_N2 m pa cp xa ta kt c0 c1) all0 hO hEL ?_
  intro p e s m below meth c S0 hnm hsf W
  replace W := W.iloadN (pc' := 1) dprog_12_2_0 rfl rfl
  obtain ⟨V1, h1, r1, W1, K1, hQ1, SF1⟩ := W.callS (pc' := 4) (argsL := [(.int cp)]) (rest := []) (Wd := 0) (cells' := 0) (slots' := 0) (y := (⟨"com/example/lokit/lokit/password/PasswordAlphabet", "letterOrDigitClassOf", "(I)Ljava/util/Optional;"⟩ : MethodName)) dprog_12_2_1 (lod_N l Z a0 n0 hw hEL G1 O1 P1 G3 O3 rG3 oe up lo di sy O5 E5 F5 O_up O_lo O_di O_sy cp h0 W.old nd) (tw80 hw) (tw81 hw) (tw36 hw) (tw82 hw) (by decide) (lenOf pd14 rfl) rfl rfl (by decide) (by decide) rfl sf0 all0 rfl rfl rfl (by decide) (by decide)
  clear W
  obtain ⟨rfl, hs1⟩ := hQ1
  subst hs1
  replace W1 := W1.cast (st' := [(.ref oe)]) rfl
  replace W1 := W1.astoreN (pc' := 5) (L' := #[.val (.ref pa), .val (.int cp), .val (.ref oe)]) dprog_12_2_4 rfl rfl rfl
  replace W1 := W1.aloadN (pc' := 6) dprog_12_2_5 rfl rfl rfl
  have e2 := E5.ext W1.old.2
  have f3 := F5.ext W1.old.2
  obtain ⟨V4, h4, r4, W4, K4, hQ4, SF4⟩ := W1.callV (pc' := 9) (argsL := []) (rest := []) (Wd := 0) (cells' := 0) (slots' := 0) (a := oe) (C := "java/util/Optional") (y := (⟨"java/util/Optional", "isPresent", "()Z"⟩ : MethodName)) (z := (⟨"java/util/Optional", "isPresent", "()Z"⟩ : MethodName)) dprog_12_2_6 (isp_0 l Z a0 n0 hw hEL G1 O1 P1 G3 O3 rG3 oe up lo di sy O5 E5 F5 O_up O_lo O_di O_sy oe h0 W1.old f3) e2 (tw88 hw) (tw89 hw) (Or.inl (tw91 hw)) (tw91 hw) (tw90 hw) (tw85 hw) (tw92 hw) (by decide) (lenOf pd12 rfl) rfl rfl (by decide) (by decide) rfl sf0 all0 rfl rfl rfl (by decide) (by decide)
  clear W1
  obtain ⟨rfl, hs4⟩ := hQ4
  subst hs4
  replace W4 := W4.cast (st' := [(.int (0 : Int32))]) rfl
  replace W4 := W4.ifT (pc' := 14) dprog_12_2_9 (teq (by decide : (0 : Int32) = (0 : Int32))).1 (by decide) (by decide)
  replace W4 := W4.aloadN (pc' := 15) dprog_12_2_14 rfl rfl rfl
  replace W4 := W4.getf (pc' := 18) dprog_12_2_15 (tw95 hw) Via.refl F_pa_symbols rfl
  replace W4 := W4.iloadN (pc' := 19) dprog_12_2_18 rfl rfl
  obtain ⟨V5, h5, r5, W5, K5, hQ5, SF5⟩ := W4.callV (pc' := 22) (argsL := [(.int cp)]) (rest := []) (Wd := 0) (cells' := 0) (slots' := 0) (a := xa) (C := "java/lang/String") (y := (⟨"java/lang/String", "indexOf", "(I)I"⟩ : MethodName)) (z := (⟨"java/lang/String", "indexOf", "(I)I"⟩ : MethodName)) dprog_12_2_19 (io1_n2 l Z a0 n0 hw hEL G1 O1 P1 G3 O3 rG3 oe up lo di sy O5 E5 F5 O_up O_lo O_di O_sy xa ta kt c0 c1 cp h0 W4.old E_xa F_xa_coder F_xa_value V_ta hp_c0 hp_c1 ne_c0 ne_c1) E_xa (tw102 hw) (tw103 hw) (Or.inl (tw105 hw)) (tw105 hw) (tw104 hw) (tw7 hw) (tw106 hw) (by decide) (lenOf pd15 rfl) rfl rfl (by decide) (by decide) rfl sf0 all0 rfl rfl rfl (by decide) (by decide)
  clear W4
  obtain ⟨rfl, hs5⟩ := hQ5
  subst hs5
  replace W5 := W5.cast (st' := [(.int (-1 : Int32))]) rfl
  replace W5 := W5.ifT (pc' := 32) dprog_12_2_22 (tlt (by decide : (-1 : Int32) < (0 : Int32))).1 (by decide) (by decide)
  obtain ⟨V6, h6, r6, W6, K6, hQ6, SF6⟩ := W5.callS (pc' := 35) (argsL := []) (rest := []) (Wd := 0) (cells' := 0) (slots' := 0) (y := (⟨"java/util/Optional", "empty", "()Ljava/util/Optional;"⟩ : MethodName)) dprog_12_2_32 (opt_empty l Z a0 n0 hw hEL G1 O1 P1 G3 O3 rG3 oe up lo di sy O5 E5 F5 O_up O_lo O_di O_sy h0 W5.old) (tw83 hw) (tw84 hw) (tw85 hw) (tw86 hw) (by decide) (lenOf pd7 rfl) rfl rfl (by decide) (by decide) rfl sf0 all0 rfl rfl rfl (by decide) (by decide)
  clear W5
  obtain ⟨rfl, hs6⟩ := hQ6
  subst hs6
  replace W6 := W6.cast (st' := [(.ref oe)]) rfl
  exact W6.aret (t := (.object "java/util/Optional")) dprog_12_2_35 rfl rfl rfl rfl (by decide) (by decide) (fun V' cv => ⟨rfl, rfl⟩)
theorem ef_clo_N0 (m : MethodId) (pa : Addr) (cp : Int32) (xa : Addr) (ta : Addr) (kt : ClassId) : entryFrame m #[(.ref pa), (.int cp)] 3 = mkF m 0 #[.val (.ref pa), .val (.int cp), .unset] [] := by first | (simp [entryFrame, mkF, argsToLocals, Value.category]; done) | rfl
set_option maxRecDepth 65536 in
set_option maxHeartbeats 40000000 in
theorem clo_N0 (l : Launch) (Z : State) (a0 : Array Value) (n0 : Nat) (hw : ∀ d ∈ tables_1, d.before a0 Z = true) (hEL : EW Z a0 consts_1) (G1 : Int32) (O1 : Sta Z Z.heap "java/lang/String" "COMPACT_STRINGS" "Z" (.int G1)) (P1 : ¬ (G1 = (0 : Int32))) (G3 : Value) (O3 : Sta Z Z.heap "jdk/internal/util/Preconditions" "SIOOBE_FORMATTER" "Ljava/util/function/BiFunction;" G3) (rG3 : G3.isRef = true) (oe up lo di sy : Addr) (O5 : Sta Z Z.heap "java/util/Optional" "EMPTY" "Ljava/util/Optional;" (.ref oe)) (E5 : Exa Z Z.heap oe "java/util/Optional") (F5 : Fld Z Z.heap oe "java/util/Optional" "value" "Ljava/lang/Object;" .null) (O_up : Sta Z Z.heap "com/example/lokit/lokit/password/CharacterClass" "UPPER_CASE" "Lcom/example/lokit/lokit/password/CharacterClass;" (.ref up)) (O_lo : Sta Z Z.heap "com/example/lokit/lokit/password/CharacterClass" "LOWER_CASE" "Lcom/example/lokit/lokit/password/CharacterClass;" (.ref lo)) (O_di : Sta Z Z.heap "com/example/lokit/lokit/password/CharacterClass" "DIGIT" "Lcom/example/lokit/lokit/password/CharacterClass;" (.ref di)) (O_sy : Sta Z Z.heap "com/example/lokit/lokit/password/CharacterClass" "SYMBOL" "Lcom/example/lokit/lokit/password/CharacterClass;" (.ref sy)) (pa : Addr) (cp : Int32) (xa : Addr) (ta : Addr) (kt : ClassId) (h0 : Heap) (hO : Old Z n0 h0) (F_pa_symbols : Fld Z h0 pa "com/example/lokit/lokit/password/PasswordAlphabet" "symbols" "Ljava/lang/String;" (.ref xa)) (E_xa : Exa Z h0 xa "java/lang/String") (F_xa_coder : Fld Z h0 xa "java/lang/String" "coder" "B" (.int (0 : Int32))) (F_xa_value : Fld Z h0 xa "java/lang/String" "value" "[B" (.ref ta)) (V_ta : Arv Z h0 ta kt .byte (0 : Int32) [] (.int (0 : Int32))) (nd : ND cp) :
    Con l Z consts_1 n0 (⟨"com/example/lokit/lokit/password/PasswordAlphabet", "classOf", "(I)Ljava/util/Optional;"⟩ : MethodName) prog_12_method_2_code 3 (some (.object "java/util/Optional")) ({ frames := 4, cells := 0, slots := 0, locals := 55 } : Room) #[(.ref pa), (.int cp)] h0 [] (fun v h V' => v = some (.ref oe) ∧ h0 = h) [] := by
  refine Con.of (a0 := a0) pf24 (fun m => ef_clo_N0 m pa cp xa ta kt) all0 hO hEL ?_
  intro p e s m below meth c S0 hnm hsf W
  replace W := W.iloadN (pc' := 1) dprog_12_2_0 rfl rfl
  obtain ⟨V1, h1, r1, W1, K1, hQ1, SF1⟩ := W.callS (pc' := 4) (argsL := [(.int cp)]) (rest := []) (Wd := 0) (cells' := 0) (slots' := 0) (y := (⟨"com/example/lokit/lokit/password/PasswordAlphabet", "letterOrDigitClassOf", "(I)Ljava/util/Optional;"⟩ : MethodName)) dprog_12_2_1 (lod_N l Z a0 n0 hw hEL G1 O1 P1 G3 O3 rG3 oe up lo di sy O5 E5 F5 O_up O_lo O_di O_sy cp h0 W.old nd) (tw80 hw) (tw81 hw) (tw36 hw) (tw82 hw) (by decide) (lenOf pd14 rfl) rfl rfl (by decide) (by decide) rfl sf0 all0 rfl rfl rfl (by decide) (by decide)
  clear W
  obtain ⟨rfl, hs1⟩ := hQ1
  subst hs1
  replace W1 := W1.cast (st' := [(.ref oe)]) rfl
  replace W1 := W1.astoreN (pc' := 5) (L' := #[.val (.ref pa), .val (.int cp), .val (.ref oe)]) dprog_12_2_4 rfl rfl rfl
  replace W1 := W1.aloadN (pc' := 6) dprog_12_2_5 rfl rfl rfl
  have e2 := E5.ext W1.old.2
  have f3 := F5.ext W1.old.2
  obtain ⟨V4, h4, r4, W4, K4, hQ4, SF4⟩ := W1.callV (pc' := 9) (argsL := []) (rest := []) (Wd := 0) (cells' := 0) (slots' := 0) (a := oe) (C := "java/util/Optional") (y := (⟨"java/util/Optional", "isPresent", "()Z"⟩ : MethodName)) (z := (⟨"java/util/Optional", "isPresent", "()Z"⟩ : MethodName)) dprog_12_2_6 (isp_0 l Z a0 n0 hw hEL G1 O1 P1 G3 O3 rG3 oe up lo di sy O5 E5 F5 O_up O_lo O_di O_sy oe h0 W1.old f3) e2 (tw88 hw) (tw89 hw) (Or.inl (tw91 hw)) (tw91 hw) (tw90 hw) (tw85 hw) (tw92 hw) (by decide) (lenOf pd12 rfl) rfl rfl (by decide) (by decide) rfl sf0 all0 rfl rfl rfl (by decide) (by decide)
  clear W1
  obtain ⟨rfl, hs4⟩ := hQ4
  subst hs4
  replace W4 := W4.cast (st' := [(.int (0 : Int32))]) rfl
  replace W4 := W4.ifT (pc' := 14) dprog_12_2_9 (teq (by decide : (0 : Int32) = (0 : Int32))).1 (by decide) (by decide)
  replace W4 := W4.aloadN (pc' := 15) dprog_12_2_14 rfl rfl rfl
  replace W4 := W4.getf (pc' := 18) dprog_12_2_15 (tw95 hw) Via.refl F_pa_symbols rfl
  replace W4 := W4.iloadN (pc' := 19) dprog_12_2_18 rfl rfl
  obtain ⟨V5, h5, r5, W5, K5, hQ5, SF5⟩ := W4.callV (pc' := 22) (argsL := [(.int cp)]) (rest := []) (Wd := 0) (cells' := 0) (slots' := 0) (a := xa) (C := "java/lang/String") (y := (⟨"java/lang/String", "indexOf", "(I)I"⟩ : MethodName)) (z := (⟨"java/lang/String", "indexOf", "(I)I"⟩ : MethodName)) dprog_12_2_19 (io1_n0 l Z a0 n0 hw hEL G1 O1 P1 G3 O3 rG3 oe up lo di sy O5 E5 F5 O_up O_lo O_di O_sy xa ta kt cp h0 W4.old E_xa F_xa_coder F_xa_value V_ta) E_xa (tw102 hw) (tw103 hw) (Or.inl (tw105 hw)) (tw105 hw) (tw104 hw) (tw7 hw) (tw106 hw) (by decide) (lenOf pd15 rfl) rfl rfl (by decide) (by decide) rfl sf0 all0 rfl rfl rfl (by decide) (by decide)
  clear W4
  obtain ⟨rfl, hs5⟩ := hQ5
  subst hs5
  replace W5 := W5.cast (st' := [(.int (-1 : Int32))]) rfl
  replace W5 := W5.ifT (pc' := 32) dprog_12_2_22 (tlt (by decide : (-1 : Int32) < (0 : Int32))).1 (by decide) (by decide)
  obtain ⟨V6, h6, r6, W6, K6, hQ6, SF6⟩ := W5.callS (pc' := 35) (argsL := []) (rest := []) (Wd := 0) (cells' := 0) (slots' := 0) (y := (⟨"java/util/Optional", "empty", "()Ljava/util/Optional;"⟩ : MethodName)) dprog_12_2_32 (opt_empty l Z a0 n0 hw hEL G1 O1 P1 G3 O3 rG3 oe up lo di sy O5 E5 F5 O_up O_lo O_di O_sy h0 W5.old) (tw83 hw) (tw84 hw) (tw85 hw) (tw86 hw) (by decide) (lenOf pd7 rfl) rfl rfl (by decide) (by decide) rfl sf0 all0 rfl rfl rfl (by decide) (by decide)
  clear W5
  obtain ⟨rfl, hs6⟩ := hQ6
  subst hs6
  replace W6 := W6.cast (st' := [(.ref oe)]) rfl
  exact W6.aret (t := (.object "java/util/Optional")) dprog_12_2_35 rfl rfl rfl rfl (by decide) (by decide) (fun V' cv => ⟨rfl, rfl⟩)
theorem ef_pci_0 (m : MethodId) (fm : Value) (rf : fm.isRef = true) : entryFrame m #[(.int (0 : Int32)), (.int (2 : Int32)), fm] 3 = mkF m 0 #[.val (.int (0 : Int32)), .val (.int (2 : Int32)), .val fm] [] := by rcases ref_cases rf with rfl | ⟨q, rfl⟩ <;> first | (simp [entryFrame, mkF, argsToLocals, Value.category]; done) | rfl
set_option maxRecDepth 65536 in
set_option maxHeartbeats 40000000 in
theorem pci_0 (l : Launch) (Z : State) (a0 : Array Value) (n0 : Nat) (hw : ∀ d ∈ tables_1, d.before a0 Z = true) (hEL : EW Z a0 consts_1) (G1 : Int32) (O1 : Sta Z Z.heap "java/lang/String" "COMPACT_STRINGS" "Z" (.int G1)) (P1 : ¬ (G1 = (0 : Int32))) (G3 : Value) (O3 : Sta Z Z.heap "jdk/internal/util/Preconditions" "SIOOBE_FORMATTER" "Ljava/util/function/BiFunction;" G3) (rG3 : G3.isRef = true) (oe up lo di sy : Addr) (O5 : Sta Z Z.heap "java/util/Optional" "EMPTY" "Ljava/util/Optional;" (.ref oe)) (E5 : Exa Z Z.heap oe "java/util/Optional") (F5 : Fld Z Z.heap oe "java/util/Optional" "value" "Ljava/lang/Object;" .null) (O_up : Sta Z Z.heap "com/example/lokit/lokit/password/CharacterClass" "UPPER_CASE" "Lcom/example/lokit/lokit/password/CharacterClass;" (.ref up)) (O_lo : Sta Z Z.heap "com/example/lokit/lokit/password/CharacterClass" "LOWER_CASE" "Lcom/example/lokit/lokit/password/CharacterClass;" (.ref lo)) (O_di : Sta Z Z.heap "com/example/lokit/lokit/password/CharacterClass" "DIGIT" "Lcom/example/lokit/lokit/password/CharacterClass;" (.ref di)) (O_sy : Sta Z Z.heap "com/example/lokit/lokit/password/CharacterClass" "SYMBOL" "Lcom/example/lokit/lokit/password/CharacterClass;" (.ref sy)) (fm : Value) (rf : fm.isRef = true) (h0 : Heap) (hO : Old Z n0 h0)  :
    Con l Z consts_1 n0 (⟨"jdk/internal/util/Preconditions", "checkIndex", "(IILjava/util/function/BiFunction;)I"⟩ : MethodName) jdk_41_method_11_code 3 (some .int) ({ frames := 0, cells := 0, slots := 0, locals := 0 } : Room) #[(.int (0 : Int32)), (.int (2 : Int32)), fm] h0 [] (fun v h V' => v = some (.int (0 : Int32)) ∧ h0 = h) [] := by
  refine Con.of (a0 := a0) pf25 (fun m => ef_pci_0 m fm rf) all0 hO hEL ?_
  intro p e s m below meth c S0 hnm hsf W
  replace W := W.iloadN (pc' := 1) djdk_41_11_0 rfl rfl
  replace W := W.ifF (pc' := 4) djdk_41_11_1 (flt (by decide : ¬ ((0 : Int32) < (0 : Int32)))).1 rfl
  replace W := W.iloadN (pc' := 5) djdk_41_11_4 rfl rfl
  replace W := W.iloadN (pc' := 6) djdk_41_11_5 rfl rfl
  replace W := W.icmpT (pc' := 16) djdk_41_11_6 (tlt (by decide : (0 : Int32) < (2 : Int32))).1 (by decide) (by decide)
  replace W := W.iloadN (pc' := 17) djdk_41_11_16 rfl rfl
  exact W.iret (t := .int) djdk_41_11_17 rfl (by simp) rfl (by decide) (by decide) (fun V' cv => ⟨rfl, rfl⟩)
theorem ef_sci_0 (m : MethodId)  : entryFrame m #[(.int (0 : Int32)), (.int (2 : Int32))] 2 = mkF m 0 #[.val (.int (0 : Int32)), .val (.int (2 : Int32))] [] := by first | (simp [entryFrame, mkF, argsToLocals, Value.category]; done) | rfl
set_option maxRecDepth 65536 in
set_option maxHeartbeats 40000000 in
theorem sci_0 (l : Launch) (Z : State) (a0 : Array Value) (n0 : Nat) (hw : ∀ d ∈ tables_1, d.before a0 Z = true) (hEL : EW Z a0 consts_1) (G1 : Int32) (O1 : Sta Z Z.heap "java/lang/String" "COMPACT_STRINGS" "Z" (.int G1)) (P1 : ¬ (G1 = (0 : Int32))) (G3 : Value) (O3 : Sta Z Z.heap "jdk/internal/util/Preconditions" "SIOOBE_FORMATTER" "Ljava/util/function/BiFunction;" G3) (rG3 : G3.isRef = true) (oe up lo di sy : Addr) (O5 : Sta Z Z.heap "java/util/Optional" "EMPTY" "Ljava/util/Optional;" (.ref oe)) (E5 : Exa Z Z.heap oe "java/util/Optional") (F5 : Fld Z Z.heap oe "java/util/Optional" "value" "Ljava/lang/Object;" .null) (O_up : Sta Z Z.heap "com/example/lokit/lokit/password/CharacterClass" "UPPER_CASE" "Lcom/example/lokit/lokit/password/CharacterClass;" (.ref up)) (O_lo : Sta Z Z.heap "com/example/lokit/lokit/password/CharacterClass" "LOWER_CASE" "Lcom/example/lokit/lokit/password/CharacterClass;" (.ref lo)) (O_di : Sta Z Z.heap "com/example/lokit/lokit/password/CharacterClass" "DIGIT" "Lcom/example/lokit/lokit/password/CharacterClass;" (.ref di)) (O_sy : Sta Z Z.heap "com/example/lokit/lokit/password/CharacterClass" "SYMBOL" "Lcom/example/lokit/lokit/password/CharacterClass;" (.ref sy))  (h0 : Heap) (hO : Old Z n0 h0)  :
    Con l Z consts_1 n0 (⟨"java/lang/String", "checkIndex", "(II)V"⟩ : MethodName) jdk_42_method_155_code 2 none ({ frames := 1, cells := 0, slots := 0, locals := 14 } : Room) #[(.int (0 : Int32)), (.int (2 : Int32))] h0 [] (fun v h V' => v = none ∧ h0 = h) [] := by
  refine Con.of (a0 := a0) pf26 (fun m => ef_sci_0 m ) all0 hO hEL ?_
  intro p e s m below meth c S0 hnm hsf W
  replace W := W.iloadN (pc' := 1) djdk_42_155_0 rfl rfl
  replace W := W.iloadN (pc' := 2) djdk_42_155_1 rfl rfl
  replace W := W.gets (pc' := 5) djdk_42_155_2 (tw75 hw) O3 rfl
  obtain ⟨V1, h1, r1, W1, K1, hQ1, SF1⟩ := W.callS (pc' := 8) (argsL := [(.int (0 : Int32)), (.int (2 : Int32)), G3]) (rest := []) (Wd := 0) (cells' := 0) (slots' := 0) (y := (⟨"jdk/internal/util/Preconditions", "checkIndex", "(IILjava/util/function/BiFunction;)I"⟩ : MethodName)) djdk_42_155_5 (pci_0 l Z a0 n0 hw hEL G1 O1 P1 G3 O3 rG3 oe up lo di sy O5 E5 F5 O_up O_lo O_di O_sy G3 rG3 h0 W.old) (tw77 hw) (tw78 hw) (tw76 hw) (tw79 hw) (by decide) (lenOf pd16 rfl) rfl rfl (by decide) (by decide) rfl sf0 all0 rfl rfl rfl (by decide) (by decide)
  clear W
  obtain ⟨rfl, hs1⟩ := hQ1
  subst hs1
  replace W1 := W1.cast (st' := [(.int (0 : Int32))]) rfl
  replace W1 := W1.pop (pc' := 9) djdk_42_155_8 rfl rfl
  exact W1.vret djdk_42_155_9 rfl (by decide) (by decide) (fun V' cv => ⟨rfl, rfl⟩)
theorem ef_lch_0 (m : MethodId) (ta : Addr) (kt : ClassId) (c0 : Int32) (c1 : Int32) : entryFrame m #[(.ref ta), (.int (0 : Int32))] 2 = mkF m 0 #[.val (.ref ta), .val (.int (0 : Int32))] [] := by first | (simp [entryFrame, mkF, argsToLocals, Value.category]; done) | rfl
set_option maxRecDepth 65536 in
set_option maxHeartbeats 40000000 in
theorem lch_0 (l : Launch) (Z : State) (a0 : Array Value) (n0 : Nat) (hw : ∀ d ∈ tables_1, d.before a0 Z = true) (hEL : EW Z a0 consts_1) (G1 : Int32) (O1 : Sta Z Z.heap "java/lang/String" "COMPACT_STRINGS" "Z" (.int G1)) (P1 : ¬ (G1 = (0 : Int32))) (G3 : Value) (O3 : Sta Z Z.heap "jdk/internal/util/Preconditions" "SIOOBE_FORMATTER" "Ljava/util/function/BiFunction;" G3) (rG3 : G3.isRef = true) (oe up lo di sy : Addr) (O5 : Sta Z Z.heap "java/util/Optional" "EMPTY" "Ljava/util/Optional;" (.ref oe)) (E5 : Exa Z Z.heap oe "java/util/Optional") (F5 : Fld Z Z.heap oe "java/util/Optional" "value" "Ljava/lang/Object;" .null) (O_up : Sta Z Z.heap "com/example/lokit/lokit/password/CharacterClass" "UPPER_CASE" "Lcom/example/lokit/lokit/password/CharacterClass;" (.ref up)) (O_lo : Sta Z Z.heap "com/example/lokit/lokit/password/CharacterClass" "LOWER_CASE" "Lcom/example/lokit/lokit/password/CharacterClass;" (.ref lo)) (O_di : Sta Z Z.heap "com/example/lokit/lokit/password/CharacterClass" "DIGIT" "Lcom/example/lokit/lokit/password/CharacterClass;" (.ref di)) (O_sy : Sta Z Z.heap "com/example/lokit/lokit/password/CharacterClass" "SYMBOL" "Lcom/example/lokit/lokit/password/CharacterClass;" (.ref sy)) (ta : Addr) (kt : ClassId) (c0 : Int32) (c1 : Int32) (h0 : Heap) (hO : Old Z n0 h0) (V_ta : Arv Z h0 ta kt .byte (2 : Int32) [(.int (c0.toInt8.toInt32)), (.int (c1.toInt8.toInt32))] (.int (0 : Int32))) (hp_c0 : ¬ c0 < 0 ∧ ¬ (255 : Int32) < c0) (hp_c1 : ¬ c1 < 0 ∧ ¬ (255 : Int32) < c1) :
    Con l Z consts_1 n0 (⟨"java/lang/StringLatin1", "charAt", "([BI)C"⟩ : MethodName) jdk_43_method_2_code 2 (some .char) ({ frames := 2, cells := 0, slots := 0, locals := 27 } : Room) #[(.ref ta), (.int (0 : Int32))] h0 [] (fun v h V' => v = some (.int c0) ∧ h0 = h) [] := by
  refine Con.of (a0 := a0) pf27 (fun m => ef_lch_0 m ta kt c0 c1) all0 hO hEL ?_
  intro p e s m below meth c S0 hnm hsf W
  replace W := W.iloadN (pc' := 1) djdk_43_2_0 rfl rfl
  replace W := W.aloadN (pc' := 2) djdk_43_2_1 rfl rfl rfl
  replace W := W.alen (pc' := 3) djdk_43_2_2 V_ta rfl
  obtain ⟨V1, h1, r1, W1, K1, hQ1, SF1⟩ := W.callS (pc' := 6) (argsL := [(.int (0 : Int32)), (.int (2 : Int32))]) (rest := []) (Wd := 0) (cells' := 0) (slots' := 0) (y := (⟨"java/lang/String", "checkIndex", "(II)V"⟩ : MethodName)) djdk_43_2_3 (sci_0 l Z a0 n0 hw hEL G1 O1 P1 G3 O3 rG3 oe up lo di sy O5 E5 F5 O_up O_lo O_di O_sy h0 W.old) (tw72 hw) (tw73 hw) (tw7 hw) (tw74 hw) (by decide) (lenOf pd17 rfl) rfl rfl (by decide) (by decide) rfl sf0 all0 rfl rfl rfl (by decide) (by decide)
  clear W
  obtain ⟨rfl, hs1⟩ := hQ1
  subst hs1
  replace W1 := W1.cast (st' := []) rfl
  replace W1 := W1.aloadN (pc' := 7) djdk_43_2_6 rfl rfl rfl
  replace W1 := W1.iloadN (pc' := 8) djdk_43_2_7 rfl rfl
  replace W1 := W1.baload (pc' := 9) (w := (.int (c0.toInt8.toInt32))) djdk_43_2_8 V_ta ⟨by decide, by decide⟩ rfl rfl
  replace W1 := W1.sipush (pc' := 12) (v := (255 : Int32)) djdk_43_2_9 rfl rfl
  replace W1 := W1.iand (pc' := 13) (v := c0) djdk_43_2_12 (own_lo8mask hp_c0) rfl
  replace W1 := W1.i2c (pc' := 14) (v := c0) djdk_43_2_13 (own_i2c (own_up hp_c0)) rfl
  exact W1.iret (t := .char) djdk_43_2_14 rfl (by simp) (own_narrow_char (own_up hp_c0)) (by decide) (by decide) (fun V' cv => ⟨rfl, rfl⟩)
theorem ef_sch_0 (m : MethodId) (xa : Addr) (ta : Addr) (kt : ClassId) (c0 : Int32) (c1 : Int32) : entryFrame m #[(.ref xa), (.int (0 : Int32))] 2 = mkF m 0 #[.val (.ref xa), .val (.int (0 : Int32))] [] := by first | (simp [entryFrame, mkF, argsToLocals, Value.category]; done) | rfl
set_option maxRecDepth 65536 in
set_option maxHeartbeats 40000000 in
theorem sch_0 (l : Launch) (Z : State) (a0 : Array Value) (n0 : Nat) (hw : ∀ d ∈ tables_1, d.before a0 Z = true) (hEL : EW Z a0 consts_1) (G1 : Int32) (O1 : Sta Z Z.heap "java/lang/String" "COMPACT_STRINGS" "Z" (.int G1)) (P1 : ¬ (G1 = (0 : Int32))) (G3 : Value) (O3 : Sta Z Z.heap "jdk/internal/util/Preconditions" "SIOOBE_FORMATTER" "Ljava/util/function/BiFunction;" G3) (rG3 : G3.isRef = true) (oe up lo di sy : Addr) (O5 : Sta Z Z.heap "java/util/Optional" "EMPTY" "Ljava/util/Optional;" (.ref oe)) (E5 : Exa Z Z.heap oe "java/util/Optional") (F5 : Fld Z Z.heap oe "java/util/Optional" "value" "Ljava/lang/Object;" .null) (O_up : Sta Z Z.heap "com/example/lokit/lokit/password/CharacterClass" "UPPER_CASE" "Lcom/example/lokit/lokit/password/CharacterClass;" (.ref up)) (O_lo : Sta Z Z.heap "com/example/lokit/lokit/password/CharacterClass" "LOWER_CASE" "Lcom/example/lokit/lokit/password/CharacterClass;" (.ref lo)) (O_di : Sta Z Z.heap "com/example/lokit/lokit/password/CharacterClass" "DIGIT" "Lcom/example/lokit/lokit/password/CharacterClass;" (.ref di)) (O_sy : Sta Z Z.heap "com/example/lokit/lokit/password/CharacterClass" "SYMBOL" "Lcom/example/lokit/lokit/password/CharacterClass;" (.ref sy)) (xa : Addr) (ta : Addr) (kt : ClassId) (c0 : Int32) (c1 : Int32) (h0 : Heap) (hO : Old Z n0 h0) (E_xa : Exa Z h0 xa "java/lang/String") (F_xa_coder : Fld Z h0 xa "java/lang/String" "coder" "B" (.int (0 : Int32))) (F_xa_value : Fld Z h0 xa "java/lang/String" "value" "[B" (.ref ta)) (V_ta : Arv Z h0 ta kt .byte (2 : Int32) [(.int (c0.toInt8.toInt32)), (.int (c1.toInt8.toInt32))] (.int (0 : Int32))) (hp_c0 : ¬ c0 < 0 ∧ ¬ (255 : Int32) < c0) (hp_c1 : ¬ c1 < 0 ∧ ¬ (255 : Int32) < c1) :
    Con l Z consts_1 n0 (⟨"java/lang/String", "charAt", "(I)C"⟩ : MethodName) jdk_42_method_56_code 2 (some .char) ({ frames := 3, cells := 0, slots := 0, locals := 40 } : Room) #[(.ref xa), (.int (0 : Int32))] h0 [] (fun v h V' => v = some (.int c0) ∧ h0 = h) [] := by
  refine Con.of (a0 := a0) pf28 (fun m => ef_sch_0 m xa ta kt c0 c1) all0 hO hEL ?_
  intro p e s m below meth c S0 hnm hsf W
  replace W := W.aloadN (pc' := 1) djdk_42_56_0 rfl rfl rfl
  obtain ⟨V1, h1, r1, W1, K1, hQ1, SF1⟩ := W.callV (pc' := 4) (argsL := []) (rest := []) (Wd := 0) (cells' := 0) (slots' := 0) (a := xa) (C := "java/lang/String") (y := (⟨"java/lang/String", "isLatin1", "()Z"⟩ : MethodName)) (z := (⟨"java/lang/String", "isLatin1", "()Z"⟩ : MethodName)) djdk_42_56_1 (islat l Z a0 n0 hw hEL G1 O1 P1 G3 O3 rG3 oe up lo di sy O5 E5 F5 O_up O_lo O_di O_sy xa h0 W.old F_xa_coder) E_xa (tw63 hw) (tw64 hw) (Or.inl (tw66 hw)) (tw66 hw) (tw65 hw) (tw7 hw) (tw67 hw) (by decide) (lenOf pd12 rfl) rfl rfl (by decide) (by decide) rfl sf0 all0 rfl rfl rfl (by decide) (by decide)
  clear W
  obtain ⟨rfl, hs1⟩ := hQ1
  subst hs1
  replace W1 := W1.cast (st' := [(.int (1 : Int32))]) rfl
  replace W1 := W1.ifF (pc' := 7) djdk_42_56_4 (feq (by decide : ¬ ((1 : Int32) = (0 : Int32)))).1 rfl
  replace W1 := W1.aloadN (pc' := 8) djdk_42_56_7 rfl rfl rfl
  replace W1 := W1.getf (pc' := 11) djdk_42_56_8 (tw32 hw) Via.refl F_xa_value rfl
  replace W1 := W1.iloadN (pc' := 12) djdk_42_56_11 rfl rfl
  obtain ⟨V2, h2, r2, W2, K2, hQ2, SF2⟩ := W1.callS (pc' := 15) (argsL := [(.ref ta), (.int (0 : Int32))]) (rest := []) (Wd := 0) (cells' := 0) (slots' := 0) (y := (⟨"java/lang/StringLatin1", "charAt", "([BI)C"⟩ : MethodName)) djdk_42_56_12 (lch_0 l Z a0 n0 hw hEL G1 O1 P1 G3 O3 rG3 oe up lo di sy O5 E5 F5 O_up O_lo O_di O_sy ta kt c0 c1 h0 W1.old V_ta hp_c0 hp_c1) (tw68 hw) (tw69 hw) (tw70 hw) (tw71 hw) (by decide) (lenOf pd18 rfl) rfl rfl (by decide) (by decide) rfl sf0 all0 rfl rfl rfl (by decide) (by decide)
  clear W1
  obtain ⟨rfl, hs2⟩ := hQ2
  subst hs2
  replace W2 := W2.cast (st' := [(.int c0)]) rfl
  exact W2.iret (t := .char) djdk_42_56_15 rfl (by simp) (own_narrow_char (own_up hp_c0)) (by decide) (by decide) (fun V' cv => ⟨rfl, rfl⟩)
theorem ef_pci_1 (m : MethodId) (fm : Value) (rf : fm.isRef = true) : entryFrame m #[(.int (1 : Int32)), (.int (2 : Int32)), fm] 3 = mkF m 0 #[.val (.int (1 : Int32)), .val (.int (2 : Int32)), .val fm] [] := by rcases ref_cases rf with rfl | ⟨q, rfl⟩ <;> first | (simp [entryFrame, mkF, argsToLocals, Value.category]; done) | rfl
set_option maxRecDepth 65536 in
set_option maxHeartbeats 40000000 in
theorem pci_1 (l : Launch) (Z : State) (a0 : Array Value) (n0 : Nat) (hw : ∀ d ∈ tables_1, d.before a0 Z = true) (hEL : EW Z a0 consts_1) (G1 : Int32) (O1 : Sta Z Z.heap "java/lang/String" "COMPACT_STRINGS" "Z" (.int G1)) (P1 : ¬ (G1 = (0 : Int32))) (G3 : Value) (O3 : Sta Z Z.heap "jdk/internal/util/Preconditions" "SIOOBE_FORMATTER" "Ljava/util/function/BiFunction;" G3) (rG3 : G3.isRef = true) (oe up lo di sy : Addr) (O5 : Sta Z Z.heap "java/util/Optional" "EMPTY" "Ljava/util/Optional;" (.ref oe)) (E5 : Exa Z Z.heap oe "java/util/Optional") (F5 : Fld Z Z.heap oe "java/util/Optional" "value" "Ljava/lang/Object;" .null) (O_up : Sta Z Z.heap "com/example/lokit/lokit/password/CharacterClass" "UPPER_CASE" "Lcom/example/lokit/lokit/password/CharacterClass;" (.ref up)) (O_lo : Sta Z Z.heap "com/example/lokit/lokit/password/CharacterClass" "LOWER_CASE" "Lcom/example/lokit/lokit/password/CharacterClass;" (.ref lo)) (O_di : Sta Z Z.heap "com/example/lokit/lokit/password/CharacterClass" "DIGIT" "Lcom/example/lokit/lokit/password/CharacterClass;" (.ref di)) (O_sy : Sta Z Z.heap "com/example/lokit/lokit/password/CharacterClass" "SYMBOL" "Lcom/example/lokit/lokit/password/CharacterClass;" (.ref sy)) (fm : Value) (rf : fm.isRef = true) (h0 : Heap) (hO : Old Z n0 h0)  :
    Con l Z consts_1 n0 (⟨"jdk/internal/util/Preconditions", "checkIndex", "(IILjava/util/function/BiFunction;)I"⟩ : MethodName) jdk_41_method_11_code 3 (some .int) ({ frames := 0, cells := 0, slots := 0, locals := 0 } : Room) #[(.int (1 : Int32)), (.int (2 : Int32)), fm] h0 [] (fun v h V' => v = some (.int (1 : Int32)) ∧ h0 = h) [] := by
  refine Con.of (a0 := a0) pf25 (fun m => ef_pci_1 m fm rf) all0 hO hEL ?_
  intro p e s m below meth c S0 hnm hsf W
  replace W := W.iloadN (pc' := 1) djdk_41_11_0 rfl rfl
  replace W := W.ifF (pc' := 4) djdk_41_11_1 (flt (by decide : ¬ ((1 : Int32) < (0 : Int32)))).1 rfl
  replace W := W.iloadN (pc' := 5) djdk_41_11_4 rfl rfl
  replace W := W.iloadN (pc' := 6) djdk_41_11_5 rfl rfl
  replace W := W.icmpT (pc' := 16) djdk_41_11_6 (tlt (by decide : (1 : Int32) < (2 : Int32))).1 (by decide) (by decide)
  replace W := W.iloadN (pc' := 17) djdk_41_11_16 rfl rfl
  exact W.iret (t := .int) djdk_41_11_17 rfl (by simp) rfl (by decide) (by decide) (fun V' cv => ⟨rfl, rfl⟩)
theorem ef_sci_1 (m : MethodId)  : entryFrame m #[(.int (1 : Int32)), (.int (2 : Int32))] 2 = mkF m 0 #[.val (.int (1 : Int32)), .val (.int (2 : Int32))] [] := by first | (simp [entryFrame, mkF, argsToLocals, Value.category]; done) | rfl
set_option maxRecDepth 65536 in
set_option maxHeartbeats 40000000 in
theorem sci_1 (l : Launch) (Z : State) (a0 : Array Value) (n0 : Nat) (hw : ∀ d ∈ tables_1, d.before a0 Z = true) (hEL : EW Z a0 consts_1) (G1 : Int32) (O1 : Sta Z Z.heap "java/lang/String" "COMPACT_STRINGS" "Z" (.int G1)) (P1 : ¬ (G1 = (0 : Int32))) (G3 : Value) (O3 : Sta Z Z.heap "jdk/internal/util/Preconditions" "SIOOBE_FORMATTER" "Ljava/util/function/BiFunction;" G3) (rG3 : G3.isRef = true) (oe up lo di sy : Addr) (O5 : Sta Z Z.heap "java/util/Optional" "EMPTY" "Ljava/util/Optional;" (.ref oe)) (E5 : Exa Z Z.heap oe "java/util/Optional") (F5 : Fld Z Z.heap oe "java/util/Optional" "value" "Ljava/lang/Object;" .null) (O_up : Sta Z Z.heap "com/example/lokit/lokit/password/CharacterClass" "UPPER_CASE" "Lcom/example/lokit/lokit/password/CharacterClass;" (.ref up)) (O_lo : Sta Z Z.heap "com/example/lokit/lokit/password/CharacterClass" "LOWER_CASE" "Lcom/example/lokit/lokit/password/CharacterClass;" (.ref lo)) (O_di : Sta Z Z.heap "com/example/lokit/lokit/password/CharacterClass" "DIGIT" "Lcom/example/lokit/lokit/password/CharacterClass;" (.ref di)) (O_sy : Sta Z Z.heap "com/example/lokit/lokit/password/CharacterClass" "SYMBOL" "Lcom/example/lokit/lokit/password/CharacterClass;" (.ref sy))  (h0 : Heap) (hO : Old Z n0 h0)  :
    Con l Z consts_1 n0 (⟨"java/lang/String", "checkIndex", "(II)V"⟩ : MethodName) jdk_42_method_155_code 2 none ({ frames := 1, cells := 0, slots := 0, locals := 14 } : Room) #[(.int (1 : Int32)), (.int (2 : Int32))] h0 [] (fun v h V' => v = none ∧ h0 = h) [] := by
  refine Con.of (a0 := a0) pf26 (fun m => ef_sci_1 m ) all0 hO hEL ?_
  intro p e s m below meth c S0 hnm hsf W
  replace W := W.iloadN (pc' := 1) djdk_42_155_0 rfl rfl
  replace W := W.iloadN (pc' := 2) djdk_42_155_1 rfl rfl
  replace W := W.gets (pc' := 5) djdk_42_155_2 (tw75 hw) O3 rfl
  obtain ⟨V1, h1, r1, W1, K1, hQ1, SF1⟩ := W.callS (pc' := 8) (argsL := [(.int (1 : Int32)), (.int (2 : Int32)), G3]) (rest := []) (Wd := 0) (cells' := 0) (slots' := 0) (y := (⟨"jdk/internal/util/Preconditions", "checkIndex", "(IILjava/util/function/BiFunction;)I"⟩ : MethodName)) djdk_42_155_5 (pci_1 l Z a0 n0 hw hEL G1 O1 P1 G3 O3 rG3 oe up lo di sy O5 E5 F5 O_up O_lo O_di O_sy G3 rG3 h0 W.old) (tw77 hw) (tw78 hw) (tw76 hw) (tw79 hw) (by decide) (lenOf pd16 rfl) rfl rfl (by decide) (by decide) rfl sf0 all0 rfl rfl rfl (by decide) (by decide)
  clear W
  obtain ⟨rfl, hs1⟩ := hQ1
  subst hs1
  replace W1 := W1.cast (st' := [(.int (1 : Int32))]) rfl
  replace W1 := W1.pop (pc' := 9) djdk_42_155_8 rfl rfl
  exact W1.vret djdk_42_155_9 rfl (by decide) (by decide) (fun V' cv => ⟨rfl, rfl⟩)
theorem ef_lch_1 (m : MethodId) (ta : Addr) (kt : ClassId) (c0 : Int32) (c1 : Int32) : entryFrame m #[(.ref ta), (.int (1 : Int32))] 2 = mkF m 0 #[.val (.ref ta), .val (.int (1 : Int32))] [] := by first | (simp [entryFrame, mkF, argsToLocals, Value.category]; done) | rfl
set_option maxRecDepth 65536 in
set_option maxHeartbeats 40000000 in
theorem lch_1 (l : Launch) (Z : State) (a0 : Array Value) (n0 : Nat) (hw : ∀ d ∈ tables_1, d.before a0 Z = true) (hEL : EW Z a0 consts_1) (G1 : Int32) (O1 : Sta Z Z.heap "java/lang/String" "COMPACT_STRINGS" "Z" (.int G1)) (P1 : ¬ (G1 = (0 : Int32))) (G3 : Value) (O3 : Sta Z Z.heap "jdk/internal/util/Preconditions" "SIOOBE_FORMATTER" "Ljava/util/function/BiFunction;" G3) (rG3 : G3.isRef = true) (oe up lo di sy : Addr) (O5 : Sta Z Z.heap "java/util/Optional" "EMPTY" "Ljava/util/Optional;" (.ref oe)) (E5 : Exa Z Z.heap oe "java/util/Optional") (F5 : Fld Z Z.heap oe "java/util/Optional" "value" "Ljava/lang/Object;" .null) (O_up : Sta Z Z.heap "com/example/lokit/lokit/password/CharacterClass" "UPPER_CASE" "Lcom/example/lokit/lokit/password/CharacterClass;" (.ref up)) (O_lo : Sta Z Z.heap "com/example/lokit/lokit/password/CharacterClass" "LOWER_CASE" "Lcom/example/lokit/lokit/password/CharacterClass;" (.ref lo)) (O_di : Sta Z Z.heap "com/example/lokit/lokit/password/CharacterClass" "DIGIT" "Lcom/example/lokit/lokit/password/CharacterClass;" (.ref di)) (O_sy : Sta Z Z.heap "com/example/lokit/lokit/password/CharacterClass" "SYMBOL" "Lcom/example/lokit/lokit/password/CharacterClass;" (.ref sy)) (ta : Addr) (kt : ClassId) (c0 : Int32) (c1 : Int32) (h0 : Heap) (hO : Old Z n0 h0) (V_ta : Arv Z h0 ta kt .byte (2 : Int32) [(.int (c0.toInt8.toInt32)), (.int (c1.toInt8.toInt32))] (.int (0 : Int32))) (hp_c0 : ¬ c0 < 0 ∧ ¬ (255 : Int32) < c0) (hp_c1 : ¬ c1 < 0 ∧ ¬ (255 : Int32) < c1) :
    Con l Z consts_1 n0 (⟨"java/lang/StringLatin1", "charAt", "([BI)C"⟩ : MethodName) jdk_43_method_2_code 2 (some .char) ({ frames := 2, cells := 0, slots := 0, locals := 27 } : Room) #[(.ref ta), (.int (1 : Int32))] h0 [] (fun v h V' => v = some (.int c1) ∧ h0 = h) [] := by
  refine Con.of (a0 := a0) pf27 (fun m => ef_lch_1 m ta kt c0 c1) all0 hO hEL ?_
  intro p e s m below meth c S0 hnm hsf W
  replace W := W.iloadN (pc' := 1) djdk_43_2_0 rfl rfl
  replace W := W.aloadN (pc' := 2) djdk_43_2_1 rfl rfl rfl
  replace W := W.alen (pc' := 3) djdk_43_2_2 V_ta rfl
  obtain ⟨V1, h1, r1, W1, K1, hQ1, SF1⟩ := W.callS (pc' := 6) (argsL := [(.int (1 : Int32)), (.int (2 : Int32))]) (rest := []) (Wd := 0) (cells' := 0) (slots' := 0) (y := (⟨"java/lang/String", "checkIndex", "(II)V"⟩ : MethodName)) djdk_43_2_3 (sci_1 l Z a0 n0 hw hEL G1 O1 P1 G3 O3 rG3 oe up lo di sy O5 E5 F5 O_up O_lo O_di O_sy h0 W.old) (tw72 hw) (tw73 hw) (tw7 hw) (tw74 hw) (by decide) (lenOf pd17 rfl) rfl rfl (by decide) (by decide) rfl sf0 all0 rfl rfl rfl (by decide) (by decide)
  clear W
  obtain ⟨rfl, hs1⟩ := hQ1
  subst hs1
  replace W1 := W1.cast (st' := []) rfl
  replace W1 := W1.aloadN (pc' := 7) djdk_43_2_6 rfl rfl rfl
  replace W1 := W1.iloadN (pc' := 8) djdk_43_2_7 rfl rfl
  replace W1 := W1.baload (pc' := 9) (w := (.int (c1.toInt8.toInt32))) djdk_43_2_8 V_ta ⟨by decide, by decide⟩ rfl rfl
  replace W1 := W1.sipush (pc' := 12) (v := (255 : Int32)) djdk_43_2_9 rfl rfl
  replace W1 := W1.iand (pc' := 13) (v := c1) djdk_43_2_12 (own_lo8mask hp_c1) rfl
  replace W1 := W1.i2c (pc' := 14) (v := c1) djdk_43_2_13 (own_i2c (own_up hp_c1)) rfl
  exact W1.iret (t := .char) djdk_43_2_14 rfl (by simp) (own_narrow_char (own_up hp_c1)) (by decide) (by decide) (fun V' cv => ⟨rfl, rfl⟩)
theorem ef_sch_1 (m : MethodId) (xa : Addr) (ta : Addr) (kt : ClassId) (c0 : Int32) (c1 : Int32) : entryFrame m #[(.ref xa), (.int (1 : Int32))] 2 = mkF m 0 #[.val (.ref xa), .val (.int (1 : Int32))] [] := by first | (simp [entryFrame, mkF, argsToLocals, Value.category]; done) | rfl
set_option maxRecDepth 65536 in
set_option maxHeartbeats 40000000 in
theorem sch_1 (l : Launch) (Z : State) (a0 : Array Value) (n0 : Nat) (hw : ∀ d ∈ tables_1, d.before a0 Z = true) (hEL : EW Z a0 consts_1) (G1 : Int32) (O1 : Sta Z Z.heap "java/lang/String" "COMPACT_STRINGS" "Z" (.int G1)) (P1 : ¬ (G1 = (0 : Int32))) (G3 : Value) (O3 : Sta Z Z.heap "jdk/internal/util/Preconditions" "SIOOBE_FORMATTER" "Ljava/util/function/BiFunction;" G3) (rG3 : G3.isRef = true) (oe up lo di sy : Addr) (O5 : Sta Z Z.heap "java/util/Optional" "EMPTY" "Ljava/util/Optional;" (.ref oe)) (E5 : Exa Z Z.heap oe "java/util/Optional") (F5 : Fld Z Z.heap oe "java/util/Optional" "value" "Ljava/lang/Object;" .null) (O_up : Sta Z Z.heap "com/example/lokit/lokit/password/CharacterClass" "UPPER_CASE" "Lcom/example/lokit/lokit/password/CharacterClass;" (.ref up)) (O_lo : Sta Z Z.heap "com/example/lokit/lokit/password/CharacterClass" "LOWER_CASE" "Lcom/example/lokit/lokit/password/CharacterClass;" (.ref lo)) (O_di : Sta Z Z.heap "com/example/lokit/lokit/password/CharacterClass" "DIGIT" "Lcom/example/lokit/lokit/password/CharacterClass;" (.ref di)) (O_sy : Sta Z Z.heap "com/example/lokit/lokit/password/CharacterClass" "SYMBOL" "Lcom/example/lokit/lokit/password/CharacterClass;" (.ref sy)) (xa : Addr) (ta : Addr) (kt : ClassId) (c0 : Int32) (c1 : Int32) (h0 : Heap) (hO : Old Z n0 h0) (E_xa : Exa Z h0 xa "java/lang/String") (F_xa_coder : Fld Z h0 xa "java/lang/String" "coder" "B" (.int (0 : Int32))) (F_xa_value : Fld Z h0 xa "java/lang/String" "value" "[B" (.ref ta)) (V_ta : Arv Z h0 ta kt .byte (2 : Int32) [(.int (c0.toInt8.toInt32)), (.int (c1.toInt8.toInt32))] (.int (0 : Int32))) (hp_c0 : ¬ c0 < 0 ∧ ¬ (255 : Int32) < c0) (hp_c1 : ¬ c1 < 0 ∧ ¬ (255 : Int32) < c1) :
    Con l Z consts_1 n0 (⟨"java/lang/String", "charAt", "(I)C"⟩ : MethodName) jdk_42_method_56_code 2 (some .char) ({ frames := 3, cells := 0, slots := 0, locals := 40 } : Room) #[(.ref xa), (.int (1 : Int32))] h0 [] (fun v h V' => v = some (.int c1) ∧ h0 = h) [] := by
  refine Con.of (a0 := a0) pf28 (fun m => ef_sch_1 m xa ta kt c0 c1) all0 hO hEL ?_
  intro p e s m below meth c S0 hnm hsf W
  replace W := W.aloadN (pc' := 1) djdk_42_56_0 rfl rfl rfl
  obtain ⟨V1, h1, r1, W1, K1, hQ1, SF1⟩ := W.callV (pc' := 4) (argsL := []) (rest := []) (Wd := 0) (cells' := 0) (slots' := 0) (a := xa) (C := "java/lang/String") (y := (⟨"java/lang/String", "isLatin1", "()Z"⟩ : MethodName)) (z := (⟨"java/lang/String", "isLatin1", "()Z"⟩ : MethodName)) djdk_42_56_1 (islat l Z a0 n0 hw hEL G1 O1 P1 G3 O3 rG3 oe up lo di sy O5 E5 F5 O_up O_lo O_di O_sy xa h0 W.old F_xa_coder) E_xa (tw63 hw) (tw64 hw) (Or.inl (tw66 hw)) (tw66 hw) (tw65 hw) (tw7 hw) (tw67 hw) (by decide) (lenOf pd12 rfl) rfl rfl (by decide) (by decide) rfl sf0 all0 rfl rfl rfl (by decide) (by decide)
  clear W
  obtain ⟨rfl, hs1⟩ := hQ1
  subst hs1
  replace W1 := W1.cast (st' := [(.int (1 : Int32))]) rfl
  replace W1 := W1.ifF (pc' := 7) djdk_42_56_4 (feq (by decide : ¬ ((1 : Int32) = (0 : Int32)))).1 rfl
  replace W1 := W1.aloadN (pc' := 8) djdk_42_56_7 rfl rfl rfl
  replace W1 := W1.getf (pc' := 11) djdk_42_56_8 (tw32 hw) Via.refl F_xa_value rfl
  replace W1 := W1.iloadN (pc' := 12) djdk_42_56_11 rfl rfl
  obtain ⟨V2, h2, r2, W2, K2, hQ2, SF2⟩ := W1.callS (pc' := 15) (argsL := [(.ref ta), (.int (1 : Int32))]) (rest := []) (Wd := 0) (cells' := 0) (slots' := 0) (y := (⟨"java/lang/StringLatin1", "charAt", "([BI)C"⟩ : MethodName)) djdk_42_56_12 (lch_1 l Z a0 n0 hw hEL G1 O1 P1 G3 O3 rG3 oe up lo di sy O5 E5 F5 O_up O_lo O_di O_sy ta kt c0 c1 h0 W1.old V_ta hp_c0 hp_c1) (tw68 hw) (tw69 hw) (tw70 hw) (tw71 hw) (by decide) (lenOf pd18 rfl) rfl rfl (by decide) (by decide) rfl sf0 all0 rfl rfl rfl (by decide) (by decide)
  clear W1
  obtain ⟨rfl, hs2⟩ := hQ2
  subst hs2
  replace W2 := W2.cast (st' := [(.int c1)]) rfl
  exact W2.iret (t := .char) djdk_42_56_15 rfl (by simp) (own_narrow_char (own_up hp_c1)) (by decide) (by decide) (fun V' cv => ⟨rfl, rfl⟩)
theorem ef_lenp_0 (m : MethodId) (xa : Addr) (ta : Addr) (kt : ClassId) : entryFrame m #[(.ref xa)] 1 = mkF m 0 #[.val (.ref xa)] [] := by first | (simp [entryFrame, mkF, argsToLocals, Value.category]; done) | rfl
set_option maxRecDepth 65536 in
set_option maxHeartbeats 40000000 in
theorem lenp_0 (l : Launch) (Z : State) (a0 : Array Value) (n0 : Nat) (hw : ∀ d ∈ tables_1, d.before a0 Z = true) (hEL : EW Z a0 consts_1) (G1 : Int32) (O1 : Sta Z Z.heap "java/lang/String" "COMPACT_STRINGS" "Z" (.int G1)) (P1 : ¬ (G1 = (0 : Int32))) (G3 : Value) (O3 : Sta Z Z.heap "jdk/internal/util/Preconditions" "SIOOBE_FORMATTER" "Ljava/util/function/BiFunction;" G3) (rG3 : G3.isRef = true) (oe up lo di sy : Addr) (O5 : Sta Z Z.heap "java/util/Optional" "EMPTY" "Ljava/util/Optional;" (.ref oe)) (E5 : Exa Z Z.heap oe "java/util/Optional") (F5 : Fld Z Z.heap oe "java/util/Optional" "value" "Ljava/lang/Object;" .null) (O_up : Sta Z Z.heap "com/example/lokit/lokit/password/CharacterClass" "UPPER_CASE" "Lcom/example/lokit/lokit/password/CharacterClass;" (.ref up)) (O_lo : Sta Z Z.heap "com/example/lokit/lokit/password/CharacterClass" "LOWER_CASE" "Lcom/example/lokit/lokit/password/CharacterClass;" (.ref lo)) (O_di : Sta Z Z.heap "com/example/lokit/lokit/password/CharacterClass" "DIGIT" "Lcom/example/lokit/lokit/password/CharacterClass;" (.ref di)) (O_sy : Sta Z Z.heap "com/example/lokit/lokit/password/CharacterClass" "SYMBOL" "Lcom/example/lokit/lokit/password/CharacterClass;" (.ref sy)) (xa : Addr) (ta : Addr) (kt : ClassId) (h0 : Heap) (hO : Old Z n0 h0) (E_xa : Exa Z h0 xa "java/lang/String") (F_xa_coder : Fld Z h0 xa "java/lang/String" "coder" "B" (.int (0 : Int32))) (F_xa_value : Fld Z h0 xa "java/lang/String" "value" "[B" (.ref ta)) (V_ta : Arv Z h0 ta kt .byte (0 : Int32) [] (.int (0 : Int32))) :
    Con l Z consts_1 n0 (⟨"java/lang/String", "length", "()I"⟩ : MethodName) jdk_42_method_54_code 1 (some .int) ({ frames := 1, cells := 0, slots := 0, locals := 13 } : Room) #[(.ref xa)] h0 [] (fun v h V' => v = some (.int (0 : Int32)) ∧ h0 = h) [] := by
  refine Con.of (a0 := a0) pf17 (fun m => ef_lenp_0 m xa ta kt) all0 hO hEL ?_
  intro p e s m below meth c S0 hnm hsf W
  replace W := W.aloadN (pc' := 1) djdk_42_54_0 rfl rfl rfl
  replace W := W.getf (pc' := 4) djdk_42_54_1 (tw32 hw) Via.refl F_xa_value rfl
  replace W := W.alen (pc' := 5) djdk_42_54_4 V_ta rfl
  replace W := W.aloadN (pc' := 6) djdk_42_54_5 rfl rfl rfl
  obtain ⟨V1, h1, r1, W1, K1, hQ1, SF1⟩ := W.callV (pc' := 9) (argsL := []) (rest := [(.int (0 : Int32))]) (Wd := 1) (cells' := 0) (slots' := 0) (a := xa) (C := "java/lang/String") (y := (⟨"java/lang/String", "coder", "()B"⟩ : MethodName)) (z := (⟨"java/lang/String", "coder", "()B"⟩ : MethodName)) djdk_42_54_6 (coder_c l Z a0 n0 hw hEL G1 O1 P1 G3 O3 rG3 oe up lo di sy O5 E5 F5 O_up O_lo O_di O_sy xa h0 W.old F_xa_coder) E_xa (tw53 hw) (tw54 hw) (Or.inl (tw56 hw)) (tw56 hw) (tw55 hw) (tw7 hw) (tw57 hw) (by decide) (lenOf pd8 rfl) rfl rfl (by decide) (by decide) rfl sf0 all0 rfl rfl rfl (by decide) (by decide)
  clear W
  obtain ⟨rfl, hs1⟩ := hQ1
  subst hs1
  replace W1 := W1.cast (st' := [(.int (0 : Int32)), (.int (0 : Int32))]) rfl
  replace W1 := W1.ishr (pc' := 10) (v := (0 : Int32)) djdk_42_54_9 (by decide) rfl
  exact W1.iret (t := .int) djdk_42_54_10 rfl (by simp) rfl (by decide) (by decide) (fun V' cv => ⟨rfl, rfl⟩)
theorem ef_lenp_2 (m : MethodId) (xa : Addr) (ta : Addr) (kt : ClassId) (c0 : Int32) (c1 : Int32) : entryFrame m #[(.ref xa)] 1 = mkF m 0 #[.val (.ref xa)] [] := by first | (simp [entryFrame, mkF, argsToLocals, Value.category]; done) | rfl
set_option maxRecDepth 65536 in
set_option maxHeartbeats 40000000 in
theorem lenp_2 (l : Launch) (Z : State) (a0 : Array Value) (n0 : Nat) (hw : ∀ d ∈ tables_1, d.before a0 Z = true) (hEL : EW Z a0 consts_1) (G1 : Int32) (O1 : Sta Z Z.heap "java/lang/String" "COMPACT_STRINGS" "Z" (.int G1)) (P1 : ¬ (G1 = (0 : Int32))) (G3 : Value) (O3 : Sta Z Z.heap "jdk/internal/util/Preconditions" "SIOOBE_FORMATTER" "Ljava/util/function/BiFunction;" G3) (rG3 : G3.isRef = true) (oe up lo di sy : Addr) (O5 : Sta Z Z.heap "java/util/Optional" "EMPTY" "Ljava/util/Optional;" (.ref oe)) (E5 : Exa Z Z.heap oe "java/util/Optional") (F5 : Fld Z Z.heap oe "java/util/Optional" "value" "Ljava/lang/Object;" .null) (O_up : Sta Z Z.heap "com/example/lokit/lokit/password/CharacterClass" "UPPER_CASE" "Lcom/example/lokit/lokit/password/CharacterClass;" (.ref up)) (O_lo : Sta Z Z.heap "com/example/lokit/lokit/password/CharacterClass" "LOWER_CASE" "Lcom/example/lokit/lokit/password/CharacterClass;" (.ref lo)) (O_di : Sta Z Z.heap "com/example/lokit/lokit/password/CharacterClass" "DIGIT" "Lcom/example/lokit/lokit/password/CharacterClass;" (.ref di)) (O_sy : Sta Z Z.heap "com/example/lokit/lokit/password/CharacterClass" "SYMBOL" "Lcom/example/lokit/lokit/password/CharacterClass;" (.ref sy)) (xa : Addr) (ta : Addr) (kt : ClassId) (c0 : Int32) (c1 : Int32) (h0 : Heap) (hO : Old Z n0 h0) (E_xa : Exa Z h0 xa "java/lang/String") (F_xa_coder : Fld Z h0 xa "java/lang/String" "coder" "B" (.int (0 : Int32))) (F_xa_value : Fld Z h0 xa "java/lang/String" "value" "[B" (.ref ta)) (V_ta : Arv Z h0 ta kt .byte (2 : Int32) [(.int (c0.toInt8.toInt32)), (.int (c1.toInt8.toInt32))] (.int (0 : Int32))) (hp_c0 : ¬ c0 < 0 ∧ ¬ (255 : Int32) < c0) (hp_c1 : ¬ c1 < 0 ∧ ¬ (255 : Int32) < c1) :
    Con l Z consts_1 n0 (⟨"java/lang/String", "length", "()I"⟩ : MethodName) jdk_42_method_54_code 1 (some .int) ({ frames := 1, cells := 0, slots := 0, locals := 13 } : Room) #[(.ref xa)] h0 [] (fun v h V' => v = some (.int (2 : Int32)) ∧ h0 = h) [] := by
  refine Con.of (a0 := a0) pf17 (fun m => ef_lenp_2 m xa ta kt c0 c1) all0 hO hEL ?_
  intro p e s m below meth c S0 hnm hsf W
  replace W := W.aloadN (pc' := 1) djdk_42_54_0 rfl rfl rfl
  replace W := W.getf (pc' := 4) djdk_42_54_1 (tw32 hw) Via.refl F_xa_value rfl
  replace W := W.alen (pc' := 5) djdk_42_54_4 V_ta rfl
  replace W := W.aloadN (pc' := 6) djdk_42_54_5 rfl rfl rfl
  obtain ⟨V1, h1, r1, W1, K1, hQ1, SF1⟩ := W.callV (pc' := 9) (argsL := []) (rest := [(.int (2 : Int32))]) (Wd := 1) (cells' := 0) (slots' := 0) (a := xa) (C := "java/lang/String") (y := (⟨"java/lang/String", "coder", "()B"⟩ : MethodName)) (z := (⟨"java/lang/String", "coder", "()B"⟩ : MethodName)) djdk_42_54_6 (coder_c l Z a0 n0 hw hEL G1 O1 P1 G3 O3 rG3 oe up lo di sy O5 E5 F5 O_up O_lo O_di O_sy xa h0 W.old F_xa_coder) E_xa (tw53 hw) (tw54 hw) (Or.inl (tw56 hw)) (tw56 hw) (tw55 hw) (tw7 hw) (tw57 hw) (by decide) (lenOf pd8 rfl) rfl rfl (by decide) (by decide) rfl sf0 all0 rfl rfl rfl (by decide) (by decide)
  clear W
  obtain ⟨rfl, hs1⟩ := hQ1
  subst hs1
  replace W1 := W1.cast (st' := [(.int (0 : Int32)), (.int (2 : Int32))]) rfl
  replace W1 := W1.ishr (pc' := 10) (v := (2 : Int32)) djdk_42_54_9 (by decide) rfl
  exact W1.iret (t := .int) djdk_42_54_10 rfl (by simp) rfl (by decide) (by decide) (fun V' cv => ⟨rfl, rfl⟩)
theorem ef_pai_0 (m : MethodId) (pa : Addr) (xa : Addr) (ta : Addr) (kt : ClassId) : entryFrame m #[(.ref pa), (.ref xa)] 4 = mkF m 0 #[.val (.ref pa), .val (.ref xa), .unset, .unset] [] := by first | (simp [entryFrame, mkF, argsToLocals, Value.category]; done) | rfl
set_option maxRecDepth 65536 in
set_option maxHeartbeats 40000000 in
theorem pai_0 (l : Launch) (Z : State) (a0 : Array Value) (n0 : Nat) (hw : ∀ d ∈ tables_1, d.before a0 Z = true) (hEL : EW Z a0 consts_1) (G1 : Int32) (O1 : Sta Z Z.heap "java/lang/String" "COMPACT_STRINGS" "Z" (.int G1)) (P1 : ¬ (G1 = (0 : Int32))) (G3 : Value) (O3 : Sta Z Z.heap "jdk/internal/util/Preconditions" "SIOOBE_FORMATTER" "Ljava/util/function/BiFunction;" G3) (rG3 : G3.isRef = true) (oe up lo di sy : Addr) (O5 : Sta Z Z.heap "java/util/Optional" "EMPTY" "Ljava/util/Optional;" (.ref oe)) (E5 : Exa Z Z.heap oe "java/util/Optional") (F5 : Fld Z Z.heap oe "java/util/Optional" "value" "Ljava/lang/Object;" .null) (O_up : Sta Z Z.heap "com/example/lokit/lokit/password/CharacterClass" "UPPER_CASE" "Lcom/example/lokit/lokit/password/CharacterClass;" (.ref up)) (O_lo : Sta Z Z.heap "com/example/lokit/lokit/password/CharacterClass" "LOWER_CASE" "Lcom/example/lokit/lokit/password/CharacterClass;" (.ref lo)) (O_di : Sta Z Z.heap "com/example/lokit/lokit/password/CharacterClass" "DIGIT" "Lcom/example/lokit/lokit/password/CharacterClass;" (.ref di)) (O_sy : Sta Z Z.heap "com/example/lokit/lokit/password/CharacterClass" "SYMBOL" "Lcom/example/lokit/lokit/password/CharacterClass;" (.ref sy)) (pa : Addr) (xa : Addr) (ta : Addr) (kt : ClassId) (h0 : Heap) (hO : Old Z n0 h0) (E_pa : Exa Z h0 pa "com/example/lokit/lokit/password/PasswordAlphabet") (F_pa_symbols : Fld Z h0 pa "com/example/lokit/lokit/password/PasswordAlphabet" "symbols" "Ljava/lang/String;" .null) (E_xa : Exa Z h0 xa "java/lang/String") (F_xa_coder : Fld Z h0 xa "java/lang/String" "coder" "B" (.int (0 : Int32))) (F_xa_value : Fld Z h0 xa "java/lang/String" "value" "[B" (.ref ta)) (V_ta : Arv Z h0 ta kt .byte (0 : Int32) [] (.int (0 : Int32))) (g_pa : n0 ≤ pa) :
    Con l Z consts_1 n0 (⟨"com/example/lokit/lokit/password/PasswordAlphabet", "<init>", "(Ljava/lang/String;)V"⟩ : MethodName) prog_12_method_1_code 4 none ({ frames := 2, cells := 2, slots := 32, locals := 26 } : Room) #[(.ref pa), (.ref xa)] h0 [pa] (fun v h V' => v = none ∧ Fld Z h pa "com/example/lokit/lokit/password/PasswordAlphabet" "symbols" "Ljava/lang/String;" (.ref xa)) [] := by
  refine Con.of (a0 := a0) pf29 (fun m => ef_pai_0 m pa xa ta kt) (allS g_pa all0) hO hEL ?_
  intro p e s m below meth c S0 hnm hsf W
  replace W := W.aloadN (pc' := 1) dprog_12_1_0 rfl rfl rfl
  replace W := W.initO (pc' := 4) (Wd := 0) dprog_12_1_1 (tw40 hw) (tw16 hw) (tw17 hw) rfl rfl (by decide) (by decide) rfl
  replace W := W.aloadN (pc' := 5) dprog_12_1_4 rfl rfl rfl
  obtain ⟨V1, h1, a1, W1, E1, t1, SF1⟩ := W.ldcO (pc' := 7) (n := 28) (cells' := 2) (slots' := 32) dprog_12_1_5 (tw41 hw) (hSA hw) (by decide) (by decide) rfl rfl rfl (by decide) (by decide)
  clear W
  have z1 : h0.size ≤ h1.size := E1.1
  obtain ⟨V2, h2, r2, W2, K2, hQ2, SF2⟩ := W1.callS (pc' := 10) (argsL := [(.ref xa), (.ref a1)]) (rest := []) (Wd := 0) (cells' := 2) (slots' := 32) (y := (⟨"java/util/Objects", "requireNonNull", "(Ljava/lang/Object;Ljava/lang/String;)Ljava/lang/Object;"⟩ : MethodName)) dprog_12_1_7 (rnn2 l Z a0 n0 hw hEL G1 O1 P1 G3 O3 rG3 oe up lo di sy O5 E5 F5 O_up O_lo O_di O_sy xa a1 h1 W1.old) (tw44 hw) (tw45 hw) (tw46 hw) (tw47 hw) (by decide) (lenOf pd19 rfl) rfl rfl (by decide) (by decide) rfl sf0 all0 rfl rfl rfl (by decide) (by decide)
  clear W1
  obtain ⟨rfl, hs2⟩ := hQ2
  subst hs2
  replace W2 := W2.cast (st' := [(.ref xa)]) rfl
  replace W2 := W2.pop (pc' := 11) dprog_12_1_10 rfl rfl
  replace W2 := W2.iconst (pc' := 12) (v := (0 : Int32)) dprog_12_1_11 rfl rfl
  replace W2 := W2.istoreN (pc' := 13) (L' := #[.val (.ref pa), .val (.ref xa), .val (.int (0 : Int32)), .unset]) dprog_12_1_12 rfl rfl
  replace W2 := W2.iloadN (pc' := 14) dprog_12_1_13 rfl rfl
  replace W2 := W2.aloadN (pc' := 15) dprog_12_1_14 rfl rfl rfl
  have e3 := (E_xa.ext E1)
  have f4 := (F_xa_coder.ext E1)
  have f5 := (F_xa_value.ext E1)
  have v6 := (V_ta.ext E1)
  obtain ⟨V7, h7, r7, W7, K7, hQ7, SF7⟩ := W2.callV (pc' := 18) (argsL := []) (rest := [(.int (0 : Int32))]) (Wd := 1) (cells' := 2) (slots' := 32) (a := xa) (C := "java/lang/String") (y := (⟨"java/lang/String", "length", "()I"⟩ : MethodName)) (z := (⟨"java/lang/String", "length", "()I"⟩ : MethodName)) dprog_12_1_15 (lenp_0 l Z a0 n0 hw hEL G1 O1 P1 G3 O3 rG3 oe up lo di sy O5 E5 F5 O_up O_lo O_di O_sy xa ta kt h1 W2.old e3 f4 f5 v6) e3 (tw48 hw) (tw49 hw) (Or.inl (tw51 hw)) (tw51 hw) (tw50 hw) (tw7 hw) (tw52 hw) (by decide) (lenOf pd13 rfl) rfl rfl (by decide) (by decide) rfl sf0 all0 rfl rfl rfl (by decide) (by decide)
  clear W2
  obtain ⟨rfl, hs7⟩ := hQ7
  subst hs7
  replace W7 := W7.cast (st' := [(.int (0 : Int32)), (.int (0 : Int32))]) rfl
  replace W7 := W7.icmpT (pc' := 86) dprog_12_1_18 (flt (by decide : ¬ ((0 : Int32) < (0 : Int32)))).2.1 (by decide) (by decide)
  replace W7 := W7.aloadN (pc' := 87) dprog_12_1_86 rfl rfl rfl
  replace W7 := W7.aloadN (pc' := 88) dprog_12_1_87 rfl rfl rfl
  have f8 := (F_pa_symbols.ext E1)
  have e9 := (E_pa.ext E1)
  obtain ⟨h10, W10, w10, SF10⟩ := W7.putf (pc' := 91) (ty := (.object "java/lang/String")) dprog_12_1_88 (tw95 hw) Via.refl f8 e9 (Or.inr ⟨(tw96 hw), rfl, hnm⟩) (tw35 hw) (by decide) rfl rfl (W7.safeE e9 (by decide) (by decide)) (Or.inl (List.mem_of_getElem? (i := 0) rfl)) rfl
  clear W7
  have z10 : h1.size ≤ h10.size := Nat.le_of_eq w10.size.symm
  have f10 := f8.same w10
  exact W10.vret dprog_12_1_91 rfl (by decide) (by decide) (fun V' cv => ⟨rfl, f10⟩)
theorem ef_pai_2 (m : MethodId) (pa : Addr) (xa : Addr) (ta : Addr) (kt : ClassId) (c0 : Int32) (c1 : Int32) : entryFrame m #[(.ref pa), (.ref xa)] 4 = mkF m 0 #[.val (.ref pa), .val (.ref xa), .unset, .unset] [] := by first | (simp [entryFrame, mkF, argsToLocals, Value.category]; done) | rfl
set_option maxRecDepth 65536 in
set_option maxHeartbeats 40000000 in
theorem pai_2 (l : Launch) (Z : State) (a0 : Array Value) (n0 : Nat) (hw : ∀ d ∈ tables_1, d.before a0 Z = true) (hEL : EW Z a0 consts_1) (G1 : Int32) (O1 : Sta Z Z.heap "java/lang/String" "COMPACT_STRINGS" "Z" (.int G1)) (P1 : ¬ (G1 = (0 : Int32))) (G3 : Value) (O3 : Sta Z Z.heap "jdk/internal/util/Preconditions" "SIOOBE_FORMATTER" "Ljava/util/function/BiFunction;" G3) (rG3 : G3.isRef = true) (oe up lo di sy : Addr) (O5 : Sta Z Z.heap "java/util/Optional" "EMPTY" "Ljava/util/Optional;" (.ref oe)) (E5 : Exa Z Z.heap oe "java/util/Optional") (F5 : Fld Z Z.heap oe "java/util/Optional" "value" "Ljava/lang/Object;" .null) (O_up : Sta Z Z.heap "com/example/lokit/lokit/password/CharacterClass" "UPPER_CASE" "Lcom/example/lokit/lokit/password/CharacterClass;" (.ref up)) (O_lo : Sta Z Z.heap "com/example/lokit/lokit/password/CharacterClass" "LOWER_CASE" "Lcom/example/lokit/lokit/password/CharacterClass;" (.ref lo)) (O_di : Sta Z Z.heap "com/example/lokit/lokit/password/CharacterClass" "DIGIT" "Lcom/example/lokit/lokit/password/CharacterClass;" (.ref di)) (O_sy : Sta Z Z.heap "com/example/lokit/lokit/password/CharacterClass" "SYMBOL" "Lcom/example/lokit/lokit/password/CharacterClass;" (.ref sy)) (pa : Addr) (xa : Addr) (ta : Addr) (kt : ClassId) (c0 : Int32) (c1 : Int32) (h0 : Heap) (hO : Old Z n0 h0) (E_pa : Exa Z h0 pa "com/example/lokit/lokit/password/PasswordAlphabet") (F_pa_symbols : Fld Z h0 pa "com/example/lokit/lokit/password/PasswordAlphabet" "symbols" "Ljava/lang/String;" .null) (E_xa : Exa Z h0 xa "java/lang/String") (F_xa_coder : Fld Z h0 xa "java/lang/String" "coder" "B" (.int (0 : Int32))) (F_xa_value : Fld Z h0 xa "java/lang/String" "value" "[B" (.ref ta)) (V_ta : Arv Z h0 ta kt .byte (2 : Int32) [(.int (c0.toInt8.toInt32)), (.int (c1.toInt8.toInt32))] (.int (0 : Int32))) (hp_c0 : ¬ c0 < 0 ∧ ¬ (255 : Int32) < c0) (hp_c1 : ¬ c1 < 0 ∧ ¬ (255 : Int32) < c1) (pu_c0 : PU c0) (pu_c1 : PU c1) (g_pa : n0 ≤ pa) :
    Con l Z consts_1 n0 (⟨"com/example/lokit/lokit/password/PasswordAlphabet", "<init>", "(Ljava/lang/String;)V"⟩ : MethodName) prog_12_method_1_code 4 none ({ frames := 4, cells := 2, slots := 32, locals := 53 } : Room) #[(.ref pa), (.ref xa)] h0 [pa] (fun v h V' => v = none ∧ Fld Z h pa "com/example/lokit/lokit/password/PasswordAlphabet" "symbols" "Ljava/lang/String;" (.ref xa)) [] := by
  refine Con.of (a0 := a0) pf29 (fun m => ef_pai_2 m pa xa ta kt c0 c1) (allS g_pa all0) hO hEL ?_
  intro p e s m below meth c S0 hnm hsf W
  replace W := W.aloadN (pc' := 1) dprog_12_1_0 rfl rfl rfl
  replace W := W.initO (pc' := 4) (Wd := 0) dprog_12_1_1 (tw40 hw) (tw16 hw) (tw17 hw) rfl rfl (by decide) (by decide) rfl
  replace W := W.aloadN (pc' := 5) dprog_12_1_4 rfl rfl rfl
  obtain ⟨V1, h1, a1, W1, E1, t1, SF1⟩ := W.ldcO (pc' := 7) (n := 28) (cells' := 2) (slots' := 32) dprog_12_1_5 (tw41 hw) (hSA hw) (by decide) (by decide) rfl rfl rfl (by decide) (by decide)
  clear W
  have z1 : h0.size ≤ h1.size := E1.1
  obtain ⟨V2, h2, r2, W2, K2, hQ2, SF2⟩ := W1.callS (pc' := 10) (argsL := [(.ref xa), (.ref a1)]) (rest := []) (Wd := 0) (cells' := 2) (slots' := 32) (y := (⟨"java/util/Objects", "requireNonNull", "(Ljava/lang/Object;Ljava/lang/String;)Ljava/lang/Object;"⟩ : MethodName)) dprog_12_1_7 (rnn2 l Z a0 n0 hw hEL G1 O1 P1 G3 O3 rG3 oe up lo di sy O5 E5 F5 O_up O_lo O_di O_sy xa a1 h1 W1.old) (tw44 hw) (tw45 hw) (tw46 hw) (tw47 hw) (by decide) (lenOf pd19 rfl) rfl rfl (by decide) (by decide) rfl sf0 all0 rfl rfl rfl (by decide) (by decide)
  clear W1
  obtain ⟨rfl, hs2⟩ := hQ2
  subst hs2
  replace W2 := W2.cast (st' := [(.ref xa)]) rfl
  replace W2 := W2.pop (pc' := 11) dprog_12_1_10 rfl rfl
  replace W2 := W2.iconst (pc' := 12) (v := (0 : Int32)) dprog_12_1_11 rfl rfl
  replace W2 := W2.istoreN (pc' := 13) (L' := #[.val (.ref pa), .val (.ref xa), .val (.int (0 : Int32)), .unset]) dprog_12_1_12 rfl rfl
  replace W2 := W2.iloadN (pc' := 14) dprog_12_1_13 rfl rfl
  replace W2 := W2.aloadN (pc' := 15) dprog_12_1_14 rfl rfl rfl
  have e3 := (E_xa.ext E1)
  have f4 := (F_xa_coder.ext E1)
  have f5 := (F_xa_value.ext E1)
  have v6 := (V_ta.ext E1)
  obtain ⟨V7, h7, r7, W7, K7, hQ7, SF7⟩ := W2.callV (pc' := 18) (argsL := []) (rest := [(.int (0 : Int32))]) (Wd := 1) (cells' := 2) (slots' := 32) (a := xa) (C := "java/lang/String") (y := (⟨"java/lang/String", "length", "()I"⟩ : MethodName)) (z := (⟨"java/lang/String", "length", "()I"⟩ : MethodName)) dprog_12_1_15 (lenp_2 l Z a0 n0 hw hEL G1 O1 P1 G3 O3 rG3 oe up lo di sy O5 E5 F5 O_up O_lo O_di O_sy xa ta kt c0 c1 h1 W2.old e3 f4 f5 v6 hp_c0 hp_c1) e3 (tw48 hw) (tw49 hw) (Or.inl (tw51 hw)) (tw51 hw) (tw50 hw) (tw7 hw) (tw52 hw) (by decide) (lenOf pd13 rfl) rfl rfl (by decide) (by decide) rfl sf0 all0 rfl rfl rfl (by decide) (by decide)
  clear W2
  obtain ⟨rfl, hs7⟩ := hQ7
  subst hs7
  replace W7 := W7.cast (st' := [(.int (2 : Int32)), (.int (0 : Int32))]) rfl
  replace W7 := W7.icmpF (pc' := 21) dprog_12_1_18 (tlt (by decide : (0 : Int32) < (2 : Int32))).2.1 rfl
  replace W7 := W7.aloadN (pc' := 22) dprog_12_1_21 rfl rfl rfl
  replace W7 := W7.iloadN (pc' := 23) dprog_12_1_22 rfl rfl
  obtain ⟨V8, h8, r8, W8, K8, hQ8, SF8⟩ := W7.callV (pc' := 26) (argsL := [(.int (0 : Int32))]) (rest := []) (Wd := 0) (cells' := 2) (slots' := 32) (a := xa) (C := "java/lang/String") (y := (⟨"java/lang/String", "charAt", "(I)C"⟩ : MethodName)) (z := (⟨"java/lang/String", "charAt", "(I)C"⟩ : MethodName)) dprog_12_1_23 (sch_0 l Z a0 n0 hw hEL G1 O1 P1 G3 O3 rG3 oe up lo di sy O5 E5 F5 O_up O_lo O_di O_sy xa ta kt c0 c1 h1 W7.old e3 f4 f5 v6 hp_c0 hp_c1) e3 (tw58 hw) (tw59 hw) (Or.inl (tw61 hw)) (tw61 hw) (tw60 hw) (tw7 hw) (tw62 hw) (by decide) (lenOf pd20 rfl) rfl rfl (by decide) (by decide) rfl sf0 all0 rfl rfl rfl (by decide) (by decide)
  clear W7
  obtain ⟨rfl, hs8⟩ := hQ8
  subst hs8
  replace W8 := W8.cast (st' := [(.int c0)]) rfl
  replace W8 := W8.istoreN (pc' := 27) (L' := #[.val (.ref pa), .val (.ref xa), .val (.int (0 : Int32)), .val (.int c0)]) dprog_12_1_26 rfl rfl
  replace W8 := W8.iloadN (pc' := 28) dprog_12_1_27 rfl rfl
  replace W8 := W8.bipush (pc' := 30) (v := (33 : Int32)) dprog_12_1_28 rfl rfl
  replace W8 := W8.icmpF (pc' := 33) dprog_12_1_30 (flt pu_c0.1.1).1 rfl
  replace W8 := W8.iloadN (pc' := 34) dprog_12_1_33 rfl rfl
  replace W8 := W8.bipush (pc' := 36) (v := (126 : Int32)) dprog_12_1_34 rfl rfl
  replace W8 := W8.icmpF (pc' := 39) dprog_12_1_36 (flt pu_c0.1.2).2.2.1 rfl
  replace W8 := W8.iloadN (pc' := 40) dprog_12_1_39 rfl rfl
  obtain ⟨V9, h9, r9, W9, K9, hQ9, SF9⟩ := W8.callS (pc' := 43) (argsL := [(.int c0)]) (rest := []) (Wd := 0) (cells' := 2) (slots' := 32) (y := (⟨"com/example/lokit/lokit/password/PasswordAlphabet", "letterOrDigitClassOf", "(I)Ljava/util/Optional;"⟩ : MethodName)) dprog_12_1_40 (lod_N l Z a0 n0 hw hEL G1 O1 P1 G3 O3 rG3 oe up lo di sy O5 E5 F5 O_up O_lo O_di O_sy c0 h1 W8.old pu_c0.2) (tw80 hw) (tw81 hw) (tw36 hw) (tw82 hw) (by decide) (lenOf pd14 rfl) rfl rfl (by decide) (by decide) rfl sf0 all0 rfl rfl rfl (by decide) (by decide)
  clear W8
  obtain ⟨rfl, hs9⟩ := hQ9
  subst hs9
  replace W9 := W9.cast (st' := [(.ref oe)]) rfl
  have e10 := E5.ext W9.old.2
  have f11 := F5.ext W9.old.2
  obtain ⟨V12, h12, r12, W12, K12, hQ12, SF12⟩ := W9.callV (pc' := 46) (argsL := []) (rest := []) (Wd := 0) (cells' := 2) (slots' := 32) (a := oe) (C := "java/util/Optional") (y := (⟨"java/util/Optional", "isPresent", "()Z"⟩ : MethodName)) (z := (⟨"java/util/Optional", "isPresent", "()Z"⟩ : MethodName)) dprog_12_1_43 (isp_0 l Z a0 n0 hw hEL G1 O1 P1 G3 O3 rG3 oe up lo di sy O5 E5 F5 O_up O_lo O_di O_sy oe h1 W9.old f11) e10 (tw88 hw) (tw89 hw) (Or.inl (tw91 hw)) (tw91 hw) (tw90 hw) (tw85 hw) (tw92 hw) (by decide) (lenOf pd12 rfl) rfl rfl (by decide) (by decide) rfl sf0 all0 rfl rfl rfl (by decide) (by decide)
  clear W9
  obtain ⟨rfl, hs12⟩ := hQ12
  subst hs12
  replace W12 := W12.cast (st' := [(.int (0 : Int32))]) rfl
  replace W12 := W12.ifT (pc' := 80) dprog_12_1_46 (teq (by decide : (0 : Int32) = (0 : Int32))).1 (by decide) (by decide)
  replace W12 := W12.iinc (pc' := 83) (v := (1 : Int32)) (L' := #[.val (.ref pa), .val (.ref xa), .val (.int (1 : Int32)), .val (.int c0)]) dprog_12_1_80 rfl (by decide) rfl rfl
  replace W12 := W12.goto (pc' := 13) dprog_12_1_83 (by decide) (by decide)
  replace W12 := W12.iloadN (pc' := 14) dprog_12_1_13 rfl rfl
  replace W12 := W12.aloadN (pc' := 15) dprog_12_1_14 rfl rfl rfl
  obtain ⟨V13, h13, r13, W13, K13, hQ13, SF13⟩ := W12.callV (pc' := 18) (argsL := []) (rest := [(.int (1 : Int32))]) (Wd := 1) (cells' := 2) (slots' := 32) (a := xa) (C := "java/lang/String") (y := (⟨"java/lang/String", "length", "()I"⟩ : MethodName)) (z := (⟨"java/lang/String", "length", "()I"⟩ : MethodName)) dprog_12_1_15 (lenp_2 l Z a0 n0 hw hEL G1 O1 P1 G3 O3 rG3 oe up lo di sy O5 E5 F5 O_up O_lo O_di O_sy xa ta kt c0 c1 h1 W12.old e3 f4 f5 v6 hp_c0 hp_c1) e3 (tw48 hw) (tw49 hw) (Or.inl (tw51 hw)) (tw51 hw) (tw50 hw) (tw7 hw) (tw52 hw) (by decide) (lenOf pd13 rfl) rfl rfl (by decide) (by decide) rfl sf0 all0 rfl rfl rfl (by decide) (by decide)
  clear W12
  obtain ⟨rfl, hs13⟩ := hQ13
  subst hs13
  replace W13 := W13.cast (st' := [(.int (2 : Int32)), (.int (1 : Int32))]) rfl
  replace W13 := W13.icmpF (pc' := 21) dprog_12_1_18 (tlt (by decide : (1 : Int32) < (2 : Int32))).2.1 rfl
  replace W13 := W13.aloadN (pc' := 22) dprog_12_1_21 rfl rfl rfl
  replace W13 := W13.iloadN (pc' := 23) dprog_12_1_22 rfl rfl
  obtain ⟨V14, h14, r14, W14, K14, hQ14, SF14⟩ := W13.callV (pc' := 26) (argsL := [(.int (1 : Int32))]) (rest := []) (Wd := 0) (cells' := 2) (slots' := 32) (a := xa) (C := "java/lang/String") (y := (⟨"java/lang/String", "charAt", "(I)C"⟩ : MethodName)) (z := (⟨"java/lang/String", "charAt", "(I)C"⟩ : MethodName)) dprog_12_1_23 (sch_1 l Z a0 n0 hw hEL G1 O1 P1 G3 O3 rG3 oe up lo di sy O5 E5 F5 O_up O_lo O_di O_sy xa ta kt c0 c1 h1 W13.old e3 f4 f5 v6 hp_c0 hp_c1) e3 (tw58 hw) (tw59 hw) (Or.inl (tw61 hw)) (tw61 hw) (tw60 hw) (tw7 hw) (tw62 hw) (by decide) (lenOf pd20 rfl) rfl rfl (by decide) (by decide) rfl sf0 all0 rfl rfl rfl (by decide) (by decide)
  clear W13
  obtain ⟨rfl, hs14⟩ := hQ14
  subst hs14
  replace W14 := W14.cast (st' := [(.int c1)]) rfl
  replace W14 := W14.istoreN (pc' := 27) (L' := #[.val (.ref pa), .val (.ref xa), .val (.int (1 : Int32)), .val (.int c1)]) dprog_12_1_26 rfl rfl
  replace W14 := W14.iloadN (pc' := 28) dprog_12_1_27 rfl rfl
  replace W14 := W14.bipush (pc' := 30) (v := (33 : Int32)) dprog_12_1_28 rfl rfl
  replace W14 := W14.icmpF (pc' := 33) dprog_12_1_30 (flt pu_c1.1.1).1 rfl
  replace W14 := W14.iloadN (pc' := 34) dprog_12_1_33 rfl rfl
  replace W14 := W14.bipush (pc' := 36) (v := (126 : Int32)) dprog_12_1_34 rfl rfl
  replace W14 := W14.icmpF (pc' := 39) dprog_12_1_36 (flt pu_c1.1.2).2.2.1 rfl
  replace W14 := W14.iloadN (pc' := 40) dprog_12_1_39 rfl rfl
  obtain ⟨V15, h15, r15, W15, K15, hQ15, SF15⟩ := W14.callS (pc' := 43) (argsL := [(.int c1)]) (rest := []) (Wd := 0) (cells' := 2) (slots' := 32) (y := (⟨"com/example/lokit/lokit/password/PasswordAlphabet", "letterOrDigitClassOf", "(I)Ljava/util/Optional;"⟩ : MethodName)) dprog_12_1_40 (lod_N l Z a0 n0 hw hEL G1 O1 P1 G3 O3 rG3 oe up lo di sy O5 E5 F5 O_up O_lo O_di O_sy c1 h1 W14.old pu_c1.2) (tw80 hw) (tw81 hw) (tw36 hw) (tw82 hw) (by decide) (lenOf pd14 rfl) rfl rfl (by decide) (by decide) rfl sf0 all0 rfl rfl rfl (by decide) (by decide)
  clear W14
  obtain ⟨rfl, hs15⟩ := hQ15
  subst hs15
  replace W15 := W15.cast (st' := [(.ref oe)]) rfl
  obtain ⟨V16, h16, r16, W16, K16, hQ16, SF16⟩ := W15.callV (pc' := 46) (argsL := []) (rest := []) (Wd := 0) (cells' := 2) (slots' := 32) (a := oe) (C := "java/util/Optional") (y := (⟨"java/util/Optional", "isPresent", "()Z"⟩ : MethodName)) (z := (⟨"java/util/Optional", "isPresent", "()Z"⟩ : MethodName)) dprog_12_1_43 (isp_0 l Z a0 n0 hw hEL G1 O1 P1 G3 O3 rG3 oe up lo di sy O5 E5 F5 O_up O_lo O_di O_sy oe h1 W15.old f11) e10 (tw88 hw) (tw89 hw) (Or.inl (tw91 hw)) (tw91 hw) (tw90 hw) (tw85 hw) (tw92 hw) (by decide) (lenOf pd12 rfl) rfl rfl (by decide) (by decide) rfl sf0 all0 rfl rfl rfl (by decide) (by decide)
  clear W15
  obtain ⟨rfl, hs16⟩ := hQ16
  subst hs16
  replace W16 := W16.cast (st' := [(.int (0 : Int32))]) rfl
  replace W16 := W16.ifT (pc' := 80) dprog_12_1_46 (teq (by decide : (0 : Int32) = (0 : Int32))).1 (by decide) (by decide)
  replace W16 := W16.iinc (pc' := 83) (v := (2 : Int32)) (L' := #[.val (.ref pa), .val (.ref xa), .val (.int (2 : Int32)), .val (.int c1)]) dprog_12_1_80 rfl (by decide) rfl rfl
  replace W16 := W16.goto (pc' := 13) dprog_12_1_83 (by decide) (by decide)
  replace W16 := W16.iloadN (pc' := 14) dprog_12_1_13 rfl rfl
  replace W16 := W16.aloadN (pc' := 15) dprog_12_1_14 rfl rfl rfl
  obtain ⟨V17, h17, r17, W17, K17, hQ17, SF17⟩ := W16.callV (pc' := 18) (argsL := []) (rest := [(.int (2 : Int32))]) (Wd := 1) (cells' := 2) (slots' := 32) (a := xa) (C := "java/lang/String") (y := (⟨"java/lang/String", "length", "()I"⟩ : MethodName)) (z := (⟨"java/lang/String", "length", "()I"⟩ : MethodName)) dprog_12_1_15 (lenp_2 l Z a0 n0 hw hEL G1 O1 P1 G3 O3 rG3 oe up lo di sy O5 E5 F5 O_up O_lo O_di O_sy xa ta kt c0 c1 h1 W16.old e3 f4 f5 v6 hp_c0 hp_c1) e3 (tw48 hw) (tw49 hw) (Or.inl (tw51 hw)) (tw51 hw) (tw50 hw) (tw7 hw) (tw52 hw) (by decide) (lenOf pd13 rfl) rfl rfl (by decide) (by decide) rfl sf0 all0 rfl rfl rfl (by decide) (by decide)
  clear W16
  obtain ⟨rfl, hs17⟩ := hQ17
  subst hs17
  replace W17 := W17.cast (st' := [(.int (2 : Int32)), (.int (2 : Int32))]) rfl
  replace W17 := W17.icmpT (pc' := 86) dprog_12_1_18 (flt (by decide : ¬ ((2 : Int32) < (2 : Int32)))).2.1 (by decide) (by decide)
  replace W17 := W17.aloadN (pc' := 87) dprog_12_1_86 rfl rfl rfl
  replace W17 := W17.aloadN (pc' := 88) dprog_12_1_87 rfl rfl rfl
  have f18 := (F_pa_symbols.ext E1)
  have e19 := (E_pa.ext E1)
  obtain ⟨h20, W20, w20, SF20⟩ := W17.putf (pc' := 91) (ty := (.object "java/lang/String")) dprog_12_1_88 (tw95 hw) Via.refl f18 e19 (Or.inr ⟨(tw96 hw), rfl, hnm⟩) (tw35 hw) (by decide) rfl rfl (W17.safeE e19 (by decide) (by decide)) (Or.inl (List.mem_of_getElem? (i := 0) rfl)) rfl
  clear W17
  have z20 : h1.size ≤ h20.size := Nat.le_of_eq w20.size.symm
  have f20 := f18.same w20
  exact W20.vret dprog_12_1_91 rfl (by decide) (by decide) (fun V' cv => ⟨rfl, f20⟩)
set_option maxRecDepth 65536 in
set_option maxHeartbeats 40000000 in
theorem tail_2 (l : Launch) (Z : State) (a0 : Array Value) (n0 : Nat) (hw : ∀ d ∈ tables_1, d.before a0 Z = true) (hEL : EW Z a0 consts_1) (G1 : Int32) (O1 : Sta Z Z.heap "java/lang/String" "COMPACT_STRINGS" "Z" (.int G1)) (P1 : ¬ (G1 = (0 : Int32))) (G3 : Value) (O3 : Sta Z Z.heap "jdk/internal/util/Preconditions" "SIOOBE_FORMATTER" "Ljava/util/function/BiFunction;" G3) (rG3 : G3.isRef = true) (oe up lo di sy : Addr) (O5 : Sta Z Z.heap "java/util/Optional" "EMPTY" "Ljava/util/Optional;" (.ref oe)) (E5 : Exa Z Z.heap oe "java/util/Optional") (F5 : Fld Z Z.heap oe "java/util/Optional" "value" "Ljava/lang/Object;" .null) (O_up : Sta Z Z.heap "com/example/lokit/lokit/password/CharacterClass" "UPPER_CASE" "Lcom/example/lokit/lokit/password/CharacterClass;" (.ref up)) (O_lo : Sta Z Z.heap "com/example/lokit/lokit/password/CharacterClass" "LOWER_CASE" "Lcom/example/lokit/lokit/password/CharacterClass;" (.ref lo)) (O_di : Sta Z Z.heap "com/example/lokit/lokit/password/CharacterClass" "DIGIT" "Lcom/example/lokit/lokit/password/CharacterClass;" (.ref di)) (O_sy : Sta Z Z.heap "com/example/lokit/lokit/password/CharacterClass" "SYMBOL" "Lcom/example/lokit/lokit/password/CharacterClass;" (.ref sy)) (p0 : Int32) (p1 : Int32) (p2 : Int32) (p3 : Int32) (s0 : Int32) (s1 : Int32) (ca : Addr) (pa : Addr) (mm : Int32) (cp : Int32) (xa : Addr) (ta : Addr) (kt : ClassId) (p : Program) (e : Env) (s : State) (m : MethodId) (below : List Frame) (meth : Method) (c : Code) (S0 : State) (V : Vm) (h0 h : Heap) (hO0 : Old Z n0 h0) (E_pa : Exa Z h pa "com/example/lokit/lokit/password/PasswordAlphabet") (F_pa_symbols : Fld Z h pa "com/example/lokit/lokit/password/PasswordAlphabet" "symbols" "Ljava/lang/String;" (.ref xa)) (E_xa : Exa Z h xa "java/lang/String") (F_xa_coder : Fld Z h xa "java/lang/String" "coder" "B" (.int (0 : Int32))) (F_xa_value : Fld Z h xa "java/lang/String" "value" "[B" (.ref ta)) (V_ta : Arv Z h ta kt .byte (2 : Int32) [(.int (s0.toInt8.toInt32)), (.int (s1.toInt8.toInt32))] (.int (0 : Int32))) (pu0 : PU s0) (pu1 : PU s1) (hnm : meth.name = "law") (W : Wk p l e room_1 s m #[(.int p0), (.int p1), (.int p2), (.int p3)] below meth c code maxLocals ret Z a0 consts_1 "com/example/lokit/lokit/password/PasswordAlphabetClassOfPinLaw" n0 h0 [] S0 V h 6 41 (mkF m 137 #[.val (.int p0), .val (.int p1), .val (.int p2), .val (.int p3), .val (.int s0), .val (.int s1), .val (.ref ca), .val (.int (0 : Int32)), .val (.ref xa), .val (.ref pa), .val (.int mm), .val (.int cp), .unset, .unset] [])) : Done p e below S0 s Z consts_1 n0 h0 [] room_1 (fun v h V' => v = some (.int (1 : Int32))) := by
  have z0 : h0.size ≤ h.size := W.kept.1
  replace W := W.aconstNull (pc' := 138) at_137 rfl
  replace W := W.astore (pc' := 140) (L' := #[.val (.int p0), .val (.int p1), .val (.int p2), .val (.int p3), .val (.int s0), .val (.int s1), .val (.ref ca), .val (.int (0 : Int32)), .val (.ref xa), .val (.ref pa), .val (.int mm), .val (.int cp), .val .null, .unset]) at_138 rfl rfl rfl
  replace W := W.iload (pc' := 142) at_140 rfl rfl
  replace W := W.bipush (pc' := 144) (v := (65 : Int32)) at_142 rfl rfl
  by_cases hc1 : cp < (65 : Int32)
  · replace W := W.icmpT (pc' := 162) at_144 (tlt hc1).1 (by decide) (by decide)
    replace W := W.iload (pc' := 164) at_162 rfl rfl
    replace W := W.bipush (pc' := 166) (v := (97 : Int32)) at_164 rfl rfl
    by_cases hc2 : cp < (97 : Int32)
    · replace W := W.icmpT (pc' := 184) at_166 (tlt hc2).1 (by decide) (by decide)
      replace W := W.iload (pc' := 186) at_184 rfl rfl
      replace W := W.bipush (pc' := 188) (v := (48 : Int32)) at_186 rfl rfl
      by_cases hc3 : cp < (48 : Int32)
      · replace W := W.icmpT (pc' := 206) at_188 (tlt hc3).1 (by decide) (by decide)
        replace W := W.iload (pc' := 208) at_206 rfl rfl
        replace W := W.ifF (pc' := 211) at_208 (teq (by decide : (0 : Int32) = (0 : Int32))).2 rfl
        replace W := W.iload (pc' := 213) at_211 rfl rfl
        replace W := W.iload (pc' := 215) at_213 rfl rfl
        by_cases hc4 : cp = s0
        · replace W := W.icmpT (pc' := 225) at_215 (teq hc4).1 (by decide) (by decide)
          replace W := W.gets (pc' := 228) at_225 (tw131 hw) O_sy rfl
          replace W := W.astore (pc' := 230) (L' := #[.val (.int p0), .val (.int p1), .val (.int p2), .val (.int p3), .val (.int s0), .val (.int s1), .val (.ref ca), .val (.int (0 : Int32)), .val (.ref xa), .val (.ref pa), .val (.int mm), .val (.int cp), .val (.ref sy), .unset]) at_228 rfl rfl rfl
          replace W := W.aload (pc' := 232) at_230 rfl rfl rfl
          replace W := W.iload (pc' := 234) at_232 rfl rfl
          obtain ⟨V5, h5, r5, W5, K5, hQ5, SF5⟩ := W.callV (pc' := 237) (argsL := [(.int cp)]) (rest := []) (Wd := 0) (cells' := 7) (slots' := 42) (a := pa) (C := "com/example/lokit/lokit/password/PasswordAlphabet") (y := (⟨"com/example/lokit/lokit/password/PasswordAlphabet", "classOf", "(I)Ljava/util/Optional;"⟩ : MethodName)) (z := (⟨"com/example/lokit/lokit/password/PasswordAlphabet", "classOf", "(I)Ljava/util/Optional;"⟩ : MethodName)) at_234 (clo_S0 l Z a0 n0 hw hEL G1 O1 P1 G3 O3 rG3 oe up lo di sy O5 E5 F5 O_up O_lo O_di O_sy pa cp xa ta kt s0 s1 h W.old F_pa_symbols E_xa F_xa_coder F_xa_value V_ta (pu_lat pu0) (pu_lat pu1) ⟨Or.inl hc1, Or.inl hc2, Or.inl hc3⟩ (by rw [hc4]; exact (pu_lat pu0).1) (by rw [hc4]; exact (pu_lat pu0).2) hc4) E_pa (tw97 hw) (tw98 hw) (Or.inl (tw100 hw)) (tw100 hw) (tw99 hw) (tw36 hw) (tw101 hw) (by decide) (lenOf pd14 rfl) rfl rfl (by decide) (by decide) rfl sf0 all0 rfl rfl rfl (by decide) (by decide)
          clear W
          obtain ⟨r5, rfl, q5_1, q5_2⟩ := hQ5
          have z5 : h.size ≤ h5.size := K5.1
          replace W5 := W5.cast (st' := [(.ref r5)]) rfl
          replace W5 := W5.astore (pc' := 239) (L' := #[.val (.int p0), .val (.int p1), .val (.int p2), .val (.int p3), .val (.int s0), .val (.int s1), .val (.ref ca), .val (.int (0 : Int32)), .val (.ref xa), .val (.ref pa), .val (.int mm), .val (.int cp), .val (.ref sy), .val (.ref r5)]) at_237 rfl rfl rfl
          replace W5 := W5.aload (pc' := 241) at_239 rfl rfl rfl
          replace W5 := W5.ifnonnullT (pc' := 258) at_241 (by decide) (by decide)
          replace W5 := W5.aload (pc' := 260) at_258 rfl rfl rfl
          obtain ⟨V6, h6, r6, W6, K6, hQ6, SF6⟩ := W5.callV (pc' := 263) (argsL := []) (rest := []) (Wd := 0) (cells' := 7) (slots' := 42) (a := r5) (C := "java/util/Optional") (y := (⟨"java/util/Optional", "isPresent", "()Z"⟩ : MethodName)) (z := (⟨"java/util/Optional", "isPresent", "()Z"⟩ : MethodName)) at_260 (isp_1 l Z a0 n0 hw hEL G1 O1 P1 G3 O3 rG3 oe up lo di sy O5 E5 F5 O_up O_lo O_di O_sy r5 sy h5 W5.old q5_2) q5_1 (tw129 hw) (tw89 hw) (Or.inl (tw91 hw)) (tw91 hw) (tw90 hw) (tw85 hw) (tw92 hw) (by decide) (lenOf pd12 rfl) rfl rfl (by decide) (by decide) rfl sf0 all0 rfl rfl rfl (by decide) (by decide)
          clear W5
          obtain ⟨rfl, hs6⟩ := hQ6
          subst hs6
          replace W6 := W6.cast (st' := [(.int (1 : Int32))]) rfl
          replace W6 := W6.ifF (pc' := 266) at_263 (feq (by decide : ¬ ((1 : Int32) = (0 : Int32)))).1 rfl
          replace W6 := W6.aload (pc' := 268) at_266 rfl rfl rfl
          obtain ⟨V7, h7, r7, W7, K7, hQ7, SF7⟩ := W6.callV (pc' := 271) (argsL := []) (rest := []) (Wd := 0) (cells' := 7) (slots' := 42) (a := r5) (C := "java/util/Optional") (y := (⟨"java/util/Optional", "get", "()Ljava/lang/Object;"⟩ : MethodName)) (z := (⟨"java/util/Optional", "get", "()Ljava/lang/Object;"⟩ : MethodName)) at_268 (opt_get l Z a0 n0 hw hEL G1 O1 P1 G3 O3 rG3 oe up lo di sy O5 E5 F5 O_up O_lo O_di O_sy r5 sy h5 W6.old q5_2) q5_1 (tw148 hw) (tw149 hw) (Or.inl (tw151 hw)) (tw151 hw) (tw150 hw) (tw85 hw) (tw152 hw) (by decide) (lenOf pd23 rfl) rfl rfl (by decide) (by decide) rfl sf0 all0 rfl rfl rfl (by decide) (by decide)
          clear W6
          obtain ⟨rfl, hs7⟩ := hQ7
          subst hs7
          replace W7 := W7.cast (st' := [(.ref sy)]) rfl
          replace W7 := W7.aload (pc' := 273) at_271 rfl rfl rfl
          replace W7 := W7.acmpF (pc' := 276) at_273 rfl rfl (by simp [Jvm.Free.XT.acmp]) rfl
          replace W7 := W7.iconst (pc' := 277) (v := (1 : Int32)) at_276 rfl rfl
          replace W7 := W7.goto (pc' := 281) at_277 (by decide) (by decide)
          exact W7.iret (t := .boolean) at_281 rfl (by simp) (by decide) (by decide) (by decide) (fun V' cv => rfl)
        · replace W := W.icmpF (pc' := 218) at_215 (feq hc4).1 rfl
          replace W := W.iload (pc' := 220) at_218 rfl rfl
          replace W := W.iload (pc' := 222) at_220 rfl rfl
          by_cases hc8 : cp = s1
          · replace W := W.icmpF (pc' := 225) at_222 (teq hc8).2 rfl
            replace W := W.gets (pc' := 228) at_225 (tw131 hw) O_sy rfl
            replace W := W.astore (pc' := 230) (L' := #[.val (.int p0), .val (.int p1), .val (.int p2), .val (.int p3), .val (.int s0), .val (.int s1), .val (.ref ca), .val (.int (0 : Int32)), .val (.ref xa), .val (.ref pa), .val (.int mm), .val (.int cp), .val (.ref sy), .unset]) at_228 rfl rfl rfl
            replace W := W.aload (pc' := 232) at_230 rfl rfl rfl
            replace W := W.iload (pc' := 234) at_232 rfl rfl
            obtain ⟨V9, h9, r9, W9, K9, hQ9, SF9⟩ := W.callV (pc' := 237) (argsL := [(.int cp)]) (rest := []) (Wd := 0) (cells' := 7) (slots' := 42) (a := pa) (C := "com/example/lokit/lokit/password/PasswordAlphabet") (y := (⟨"com/example/lokit/lokit/password/PasswordAlphabet", "classOf", "(I)Ljava/util/Optional;"⟩ : MethodName)) (z := (⟨"com/example/lokit/lokit/password/PasswordAlphabet", "classOf", "(I)Ljava/util/Optional;"⟩ : MethodName)) at_234 (clo_S1 l Z a0 n0 hw hEL G1 O1 P1 G3 O3 rG3 oe up lo di sy O5 E5 F5 O_up O_lo O_di O_sy pa cp xa ta kt s0 s1 h W.old F_pa_symbols E_xa F_xa_coder F_xa_value V_ta (pu_lat pu0) (pu_lat pu1) ⟨Or.inl hc1, Or.inl hc2, Or.inl hc3⟩ (by rw [hc8]; exact (pu_lat pu1).1) (by rw [hc8]; exact (pu_lat pu1).2) hc4 hc8) E_pa (tw97 hw) (tw98 hw) (Or.inl (tw100 hw)) (tw100 hw) (tw99 hw) (tw36 hw) (tw101 hw) (by decide) (lenOf pd14 rfl) rfl rfl (by decide) (by decide) rfl sf0 all0 rfl rfl rfl (by decide) (by decide)
            clear W
            obtain ⟨r9, rfl, q9_1, q9_2⟩ := hQ9
            have z9 : h.size ≤ h9.size := K9.1
            replace W9 := W9.cast (st' := [(.ref r9)]) rfl
            replace W9 := W9.astore (pc' := 239) (L' := #[.val (.int p0), .val (.int p1), .val (.int p2), .val (.int p3), .val (.int s0), .val (.int s1), .val (.ref ca), .val (.int (0 : Int32)), .val (.ref xa), .val (.ref pa), .val (.int mm), .val (.int cp), .val (.ref sy), .val (.ref r9)]) at_237 rfl rfl rfl
            replace W9 := W9.aload (pc' := 241) at_239 rfl rfl rfl
            replace W9 := W9.ifnonnullT (pc' := 258) at_241 (by decide) (by decide)
            replace W9 := W9.aload (pc' := 260) at_258 rfl rfl rfl
            obtain ⟨V10, h10, r10, W10, K10, hQ10, SF10⟩ := W9.callV (pc' := 263) (argsL := []) (rest := []) (Wd := 0) (cells' := 7) (slots' := 42) (a := r9) (C := "java/util/Optional") (y := (⟨"java/util/Optional", "isPresent", "()Z"⟩ : MethodName)) (z := (⟨"java/util/Optional", "isPresent", "()Z"⟩ : MethodName)) at_260 (isp_1 l Z a0 n0 hw hEL G1 O1 P1 G3 O3 rG3 oe up lo di sy O5 E5 F5 O_up O_lo O_di O_sy r9 sy h9 W9.old q9_2) q9_1 (tw129 hw) (tw89 hw) (Or.inl (tw91 hw)) (tw91 hw) (tw90 hw) (tw85 hw) (tw92 hw) (by decide) (lenOf pd12 rfl) rfl rfl (by decide) (by decide) rfl sf0 all0 rfl rfl rfl (by decide) (by decide)
            clear W9
            obtain ⟨rfl, hs10⟩ := hQ10
            subst hs10
            replace W10 := W10.cast (st' := [(.int (1 : Int32))]) rfl
            replace W10 := W10.ifF (pc' := 266) at_263 (feq (by decide : ¬ ((1 : Int32) = (0 : Int32)))).1 rfl
            replace W10 := W10.aload (pc' := 268) at_266 rfl rfl rfl
            obtain ⟨V11, h11, r11, W11, K11, hQ11, SF11⟩ := W10.callV (pc' := 271) (argsL := []) (rest := []) (Wd := 0) (cells' := 7) (slots' := 42) (a := r9) (C := "java/util/Optional") (y := (⟨"java/util/Optional", "get", "()Ljava/lang/Object;"⟩ : MethodName)) (z := (⟨"java/util/Optional", "get", "()Ljava/lang/Object;"⟩ : MethodName)) at_268 (opt_get l Z a0 n0 hw hEL G1 O1 P1 G3 O3 rG3 oe up lo di sy O5 E5 F5 O_up O_lo O_di O_sy r9 sy h9 W10.old q9_2) q9_1 (tw148 hw) (tw149 hw) (Or.inl (tw151 hw)) (tw151 hw) (tw150 hw) (tw85 hw) (tw152 hw) (by decide) (lenOf pd23 rfl) rfl rfl (by decide) (by decide) rfl sf0 all0 rfl rfl rfl (by decide) (by decide)
            clear W10
            obtain ⟨rfl, hs11⟩ := hQ11
            subst hs11
            replace W11 := W11.cast (st' := [(.ref sy)]) rfl
            replace W11 := W11.aload (pc' := 273) at_271 rfl rfl rfl
            replace W11 := W11.acmpF (pc' := 276) at_273 rfl rfl (by simp [Jvm.Free.XT.acmp]) rfl
            replace W11 := W11.iconst (pc' := 277) (v := (1 : Int32)) at_276 rfl rfl
            replace W11 := W11.goto (pc' := 281) at_277 (by decide) (by decide)
            exact W11.iret (t := .boolean) at_281 rfl (by simp) (by decide) (by decide) (by decide) (fun V' cv => rfl)
          · replace W := W.icmpT (pc' := 230) at_222 (feq hc8).2 (by decide) (by decide)
            replace W := W.aload (pc' := 232) at_230 rfl rfl rfl
            replace W := W.iload (pc' := 234) at_232 rfl rfl
            obtain ⟨V12, h12, r12, W12, K12, hQ12, SF12⟩ := W.callV (pc' := 237) (argsL := [(.int cp)]) (rest := []) (Wd := 0) (cells' := 6) (slots' := 41) (a := pa) (C := "com/example/lokit/lokit/password/PasswordAlphabet") (y := (⟨"com/example/lokit/lokit/password/PasswordAlphabet", "classOf", "(I)Ljava/util/Optional;"⟩ : MethodName)) (z := (⟨"com/example/lokit/lokit/password/PasswordAlphabet", "classOf", "(I)Ljava/util/Optional;"⟩ : MethodName)) at_234 (clo_N2 l Z a0 n0 hw hEL G1 O1 P1 G3 O3 rG3 oe up lo di sy O5 E5 F5 O_up O_lo O_di O_sy pa cp xa ta kt s0 s1 h W.old F_pa_symbols E_xa F_xa_coder F_xa_value V_ta (pu_lat pu0) (pu_lat pu1) ⟨Or.inl hc1, Or.inl hc2, Or.inl hc3⟩ hc4 hc8) E_pa (tw97 hw) (tw98 hw) (Or.inl (tw100 hw)) (tw100 hw) (tw99 hw) (tw36 hw) (tw101 hw) (by decide) (lenOf pd14 rfl) rfl rfl (by decide) (by decide) rfl sf0 all0 rfl rfl rfl (by decide) (by decide)
            clear W
            obtain ⟨rfl, hs12⟩ := hQ12
            subst hs12
            replace W12 := W12.cast (st' := [(.ref oe)]) rfl
            replace W12 := W12.astore (pc' := 239) (L' := #[.val (.int p0), .val (.int p1), .val (.int p2), .val (.int p3), .val (.int s0), .val (.int s1), .val (.ref ca), .val (.int (0 : Int32)), .val (.ref xa), .val (.ref pa), .val (.int mm), .val (.int cp), .val .null, .val (.ref oe)]) at_237 rfl rfl rfl
            replace W12 := W12.aload (pc' := 241) at_239 rfl rfl rfl
            replace W12 := W12.ifnonnullF (pc' := 244) at_241 rfl
            replace W12 := W12.aload (pc' := 246) at_244 rfl rfl rfl
            have e13 := E5.ext W12.old.2
            have f14 := F5.ext W12.old.2
            obtain ⟨V15, h15, r15, W15, K15, hQ15, SF15⟩ := W12.callV (pc' := 249) (argsL := []) (rest := []) (Wd := 0) (cells' := 6) (slots' := 41) (a := oe) (C := "java/util/Optional") (y := (⟨"java/util/Optional", "isPresent", "()Z"⟩ : MethodName)) (z := (⟨"java/util/Optional", "isPresent", "()Z"⟩ : MethodName)) at_246 (isp_0 l Z a0 n0 hw hEL G1 O1 P1 G3 O3 rG3 oe up lo di sy O5 E5 F5 O_up O_lo O_di O_sy oe h W12.old f14) e13 (tw129 hw) (tw89 hw) (Or.inl (tw91 hw)) (tw91 hw) (tw90 hw) (tw85 hw) (tw92 hw) (by decide) (lenOf pd12 rfl) rfl rfl (by decide) (by decide) rfl sf0 all0 rfl rfl rfl (by decide) (by decide)
            clear W12
            obtain ⟨rfl, hs15⟩ := hQ15
            subst hs15
            replace W15 := W15.cast (st' := [(.int (0 : Int32))]) rfl
            replace W15 := W15.ifF (pc' := 252) at_249 (teq (by decide : (0 : Int32) = (0 : Int32))).2 rfl
            replace W15 := W15.iconst (pc' := 253) (v := (1 : Int32)) at_252 rfl rfl
            replace W15 := W15.goto (pc' := 257) at_253 (by decide) (by decide)
            exact W15.iret (t := .boolean) at_257 rfl (by simp) (by decide) (by decide) (by decide) (fun V' cv => rfl)
      · replace W := W.icmpF (pc' := 191) at_188 (flt hc3).1 rfl
        replace W := W.iload (pc' := 193) at_191 rfl rfl
        replace W := W.bipush (pc' := 195) (v := (57 : Int32)) at_193 rfl rfl
        by_cases hc16 : (57 : Int32) < cp
        · replace W := W.icmpT (pc' := 206) at_195 (tlt hc16).2.2.1 (by decide) (by decide)
          replace W := W.iload (pc' := 208) at_206 rfl rfl
          replace W := W.ifF (pc' := 211) at_208 (teq (by decide : (0 : Int32) = (0 : Int32))).2 rfl
          replace W := W.iload (pc' := 213) at_211 rfl rfl
          replace W := W.iload (pc' := 215) at_213 rfl rfl
          by_cases hc17 : cp = s0
          · replace W := W.icmpT (pc' := 225) at_215 (teq hc17).1 (by decide) (by decide)
            replace W := W.gets (pc' := 228) at_225 (tw131 hw) O_sy rfl
            replace W := W.astore (pc' := 230) (L' := #[.val (.int p0), .val (.int p1), .val (.int p2), .val (.int p3), .val (.int s0), .val (.int s1), .val (.ref ca), .val (.int (0 : Int32)), .val (.ref xa), .val (.ref pa), .val (.int mm), .val (.int cp), .val (.ref sy), .unset]) at_228 rfl rfl rfl
            replace W := W.aload (pc' := 232) at_230 rfl rfl rfl
            replace W := W.iload (pc' := 234) at_232 rfl rfl
            obtain ⟨V18, h18, r18, W18, K18, hQ18, SF18⟩ := W.callV (pc' := 237) (argsL := [(.int cp)]) (rest := []) (Wd := 0) (cells' := 7) (slots' := 42) (a := pa) (C := "com/example/lokit/lokit/password/PasswordAlphabet") (y := (⟨"com/example/lokit/lokit/password/PasswordAlphabet", "classOf", "(I)Ljava/util/Optional;"⟩ : MethodName)) (z := (⟨"com/example/lokit/lokit/password/PasswordAlphabet", "classOf", "(I)Ljava/util/Optional;"⟩ : MethodName)) at_234 (clo_S0 l Z a0 n0 hw hEL G1 O1 P1 G3 O3 rG3 oe up lo di sy O5 E5 F5 O_up O_lo O_di O_sy pa cp xa ta kt s0 s1 h W.old F_pa_symbols E_xa F_xa_coder F_xa_value V_ta (pu_lat pu0) (pu_lat pu1) ⟨Or.inl hc1, Or.inl hc2, Or.inr hc16⟩ (by rw [hc17]; exact (pu_lat pu0).1) (by rw [hc17]; exact (pu_lat pu0).2) hc17) E_pa (tw97 hw) (tw98 hw) (Or.inl (tw100 hw)) (tw100 hw) (tw99 hw) (tw36 hw) (tw101 hw) (by decide) (lenOf pd14 rfl) rfl rfl (by decide) (by decide) rfl sf0 all0 rfl rfl rfl (by decide) (by decide)
            clear W
            obtain ⟨r18, rfl, q18_1, q18_2⟩ := hQ18
            have z18 : h.size ≤ h18.size := K18.1
            replace W18 := W18.cast (st' := [(.ref r18)]) rfl
            replace W18 := W18.astore (pc' := 239) (L' := #[.val (.int p0), .val (.int p1), .val (.int p2), .val (.int p3), .val (.int s0), .val (.int s1), .val (.ref ca), .val (.int (0 : Int32)), .val (.ref xa), .val (.ref pa), .val (.int mm), .val (.int cp), .val (.ref sy), .val (.ref r18)]) at_237 rfl rfl rfl
            replace W18 := W18.aload (pc' := 241) at_239 rfl rfl rfl
            replace W18 := W18.ifnonnullT (pc' := 258) at_241 (by decide) (by decide)
            replace W18 := W18.aload (pc' := 260) at_258 rfl rfl rfl
            obtain ⟨V19, h19, r19, W19, K19, hQ19, SF19⟩ := W18.callV (pc' := 263) (argsL := []) (rest := []) (Wd := 0) (cells' := 7) (slots' := 42) (a := r18) (C := "java/util/Optional") (y := (⟨"java/util/Optional", "isPresent", "()Z"⟩ : MethodName)) (z := (⟨"java/util/Optional", "isPresent", "()Z"⟩ : MethodName)) at_260 (isp_1 l Z a0 n0 hw hEL G1 O1 P1 G3 O3 rG3 oe up lo di sy O5 E5 F5 O_up O_lo O_di O_sy r18 sy h18 W18.old q18_2) q18_1 (tw129 hw) (tw89 hw) (Or.inl (tw91 hw)) (tw91 hw) (tw90 hw) (tw85 hw) (tw92 hw) (by decide) (lenOf pd12 rfl) rfl rfl (by decide) (by decide) rfl sf0 all0 rfl rfl rfl (by decide) (by decide)
            clear W18
            obtain ⟨rfl, hs19⟩ := hQ19
            subst hs19
            replace W19 := W19.cast (st' := [(.int (1 : Int32))]) rfl
            replace W19 := W19.ifF (pc' := 266) at_263 (feq (by decide : ¬ ((1 : Int32) = (0 : Int32)))).1 rfl
            replace W19 := W19.aload (pc' := 268) at_266 rfl rfl rfl
            obtain ⟨V20, h20, r20, W20, K20, hQ20, SF20⟩ := W19.callV (pc' := 271) (argsL := []) (rest := []) (Wd := 0) (cells' := 7) (slots' := 42) (a := r18) (C := "java/util/Optional") (y := (⟨"java/util/Optional", "get", "()Ljava/lang/Object;"⟩ : MethodName)) (z := (⟨"java/util/Optional", "get", "()Ljava/lang/Object;"⟩ : MethodName)) at_268 (opt_get l Z a0 n0 hw hEL G1 O1 P1 G3 O3 rG3 oe up lo di sy O5 E5 F5 O_up O_lo O_di O_sy r18 sy h18 W19.old q18_2) q18_1 (tw148 hw) (tw149 hw) (Or.inl (tw151 hw)) (tw151 hw) (tw150 hw) (tw85 hw) (tw152 hw) (by decide) (lenOf pd23 rfl) rfl rfl (by decide) (by decide) rfl sf0 all0 rfl rfl rfl (by decide) (by decide)
            clear W19
            obtain ⟨rfl, hs20⟩ := hQ20
            subst hs20
            replace W20 := W20.cast (st' := [(.ref sy)]) rfl
            replace W20 := W20.aload (pc' := 273) at_271 rfl rfl rfl
            replace W20 := W20.acmpF (pc' := 276) at_273 rfl rfl (by simp [Jvm.Free.XT.acmp]) rfl
            replace W20 := W20.iconst (pc' := 277) (v := (1 : Int32)) at_276 rfl rfl
            replace W20 := W20.goto (pc' := 281) at_277 (by decide) (by decide)
            exact W20.iret (t := .boolean) at_281 rfl (by simp) (by decide) (by decide) (by decide) (fun V' cv => rfl)
          · replace W := W.icmpF (pc' := 218) at_215 (feq hc17).1 rfl
            replace W := W.iload (pc' := 220) at_218 rfl rfl
            replace W := W.iload (pc' := 222) at_220 rfl rfl
            by_cases hc21 : cp = s1
            · replace W := W.icmpF (pc' := 225) at_222 (teq hc21).2 rfl
              replace W := W.gets (pc' := 228) at_225 (tw131 hw) O_sy rfl
              replace W := W.astore (pc' := 230) (L' := #[.val (.int p0), .val (.int p1), .val (.int p2), .val (.int p3), .val (.int s0), .val (.int s1), .val (.ref ca), .val (.int (0 : Int32)), .val (.ref xa), .val (.ref pa), .val (.int mm), .val (.int cp), .val (.ref sy), .unset]) at_228 rfl rfl rfl
              replace W := W.aload (pc' := 232) at_230 rfl rfl rfl
              replace W := W.iload (pc' := 234) at_232 rfl rfl
              obtain ⟨V22, h22, r22, W22, K22, hQ22, SF22⟩ := W.callV (pc' := 237) (argsL := [(.int cp)]) (rest := []) (Wd := 0) (cells' := 7) (slots' := 42) (a := pa) (C := "com/example/lokit/lokit/password/PasswordAlphabet") (y := (⟨"com/example/lokit/lokit/password/PasswordAlphabet", "classOf", "(I)Ljava/util/Optional;"⟩ : MethodName)) (z := (⟨"com/example/lokit/lokit/password/PasswordAlphabet", "classOf", "(I)Ljava/util/Optional;"⟩ : MethodName)) at_234 (clo_S1 l Z a0 n0 hw hEL G1 O1 P1 G3 O3 rG3 oe up lo di sy O5 E5 F5 O_up O_lo O_di O_sy pa cp xa ta kt s0 s1 h W.old F_pa_symbols E_xa F_xa_coder F_xa_value V_ta (pu_lat pu0) (pu_lat pu1) ⟨Or.inl hc1, Or.inl hc2, Or.inr hc16⟩ (by rw [hc21]; exact (pu_lat pu1).1) (by rw [hc21]; exact (pu_lat pu1).2) hc17 hc21) E_pa (tw97 hw) (tw98 hw) (Or.inl (tw100 hw)) (tw100 hw) (tw99 hw) (tw36 hw) (tw101 hw) (by decide) (lenOf pd14 rfl) rfl rfl (by decide) (by decide) rfl sf0 all0 rfl rfl rfl (by decide) (by decide)
              clear W
              obtain ⟨r22, rfl, q22_1, q22_2⟩ := hQ22
              have z22 : h.size ≤ h22.size := K22.1
              replace W22 := W22.cast (st' := [(.ref r22)]) rfl
              replace W22 := W22.astore (pc' := 239) (L' := #[.val (.int p0), .val (.int p1), .val (.int p2), .val (.int p3), .val (.int s0), .val (.int s1), .val (.ref ca), .val (.int (0 : Int32)), .val (.ref xa), .val (.ref pa), .val (.int mm), .val (.int cp), .val (.ref sy), .val (.ref r22)]) at_237 rfl rfl rfl
              replace W22 := W22.aload (pc' := 241) at_239 rfl rfl rfl
              replace W22 := W22.ifnonnullT (pc' := 258) at_241 (by decide) (by decide)
              replace W22 := W22.aload (pc' := 260) at_258 rfl rfl rfl
              obtain ⟨V23, h23, r23, W23, K23, hQ23, SF23⟩ := W22.callV (pc' := 263) (argsL := []) (rest := []) (Wd := 0) (cells' := 7) (slots' := 42) (a := r22) (C := "java/util/Optional") (y := (⟨"java/util/Optional", "isPresent", "()Z"⟩ : MethodName)) (z := (⟨"java/util/Optional", "isPresent", "()Z"⟩ : MethodName)) at_260 (isp_1 l Z a0 n0 hw hEL G1 O1 P1 G3 O3 rG3 oe up lo di sy O5 E5 F5 O_up O_lo O_di O_sy r22 sy h22 W22.old q22_2) q22_1 (tw129 hw) (tw89 hw) (Or.inl (tw91 hw)) (tw91 hw) (tw90 hw) (tw85 hw) (tw92 hw) (by decide) (lenOf pd12 rfl) rfl rfl (by decide) (by decide) rfl sf0 all0 rfl rfl rfl (by decide) (by decide)
              clear W22
              obtain ⟨rfl, hs23⟩ := hQ23
              subst hs23
              replace W23 := W23.cast (st' := [(.int (1 : Int32))]) rfl
              replace W23 := W23.ifF (pc' := 266) at_263 (feq (by decide : ¬ ((1 : Int32) = (0 : Int32)))).1 rfl
              replace W23 := W23.aload (pc' := 268) at_266 rfl rfl rfl
              obtain ⟨V24, h24, r24, W24, K24, hQ24, SF24⟩ := W23.callV (pc' := 271) (argsL := []) (rest := []) (Wd := 0) (cells' := 7) (slots' := 42) (a := r22) (C := "java/util/Optional") (y := (⟨"java/util/Optional", "get", "()Ljava/lang/Object;"⟩ : MethodName)) (z := (⟨"java/util/Optional", "get", "()Ljava/lang/Object;"⟩ : MethodName)) at_268 (opt_get l Z a0 n0 hw hEL G1 O1 P1 G3 O3 rG3 oe up lo di sy O5 E5 F5 O_up O_lo O_di O_sy r22 sy h22 W23.old q22_2) q22_1 (tw148 hw) (tw149 hw) (Or.inl (tw151 hw)) (tw151 hw) (tw150 hw) (tw85 hw) (tw152 hw) (by decide) (lenOf pd23 rfl) rfl rfl (by decide) (by decide) rfl sf0 all0 rfl rfl rfl (by decide) (by decide)
              clear W23
              obtain ⟨rfl, hs24⟩ := hQ24
              subst hs24
              replace W24 := W24.cast (st' := [(.ref sy)]) rfl
              replace W24 := W24.aload (pc' := 273) at_271 rfl rfl rfl
              replace W24 := W24.acmpF (pc' := 276) at_273 rfl rfl (by simp [Jvm.Free.XT.acmp]) rfl
              replace W24 := W24.iconst (pc' := 277) (v := (1 : Int32)) at_276 rfl rfl
              replace W24 := W24.goto (pc' := 281) at_277 (by decide) (by decide)
              exact W24.iret (t := .boolean) at_281 rfl (by simp) (by decide) (by decide) (by decide) (fun V' cv => rfl)
            · replace W := W.icmpT (pc' := 230) at_222 (feq hc21).2 (by decide) (by decide)
              replace W := W.aload (pc' := 232) at_230 rfl rfl rfl
              replace W := W.iload (pc' := 234) at_232 rfl rfl
              obtain ⟨V25, h25, r25, W25, K25, hQ25, SF25⟩ := W.callV (pc' := 237) (argsL := [(.int cp)]) (rest := []) (Wd := 0) (cells' := 6) (slots' := 41) (a := pa) (C := "com/example/lokit/lokit/password/PasswordAlphabet") (y := (⟨"com/example/lokit/lokit/password/PasswordAlphabet", "classOf", "(I)Ljava/util/Optional;"⟩ : MethodName)) (z := (⟨"com/example/lokit/lokit/password/PasswordAlphabet", "classOf", "(I)Ljava/util/Optional;"⟩ : MethodName)) at_234 (clo_N2 l Z a0 n0 hw hEL G1 O1 P1 G3 O3 rG3 oe up lo di sy O5 E5 F5 O_up O_lo O_di O_sy pa cp xa ta kt s0 s1 h W.old F_pa_symbols E_xa F_xa_coder F_xa_value V_ta (pu_lat pu0) (pu_lat pu1) ⟨Or.inl hc1, Or.inl hc2, Or.inr hc16⟩ hc17 hc21) E_pa (tw97 hw) (tw98 hw) (Or.inl (tw100 hw)) (tw100 hw) (tw99 hw) (tw36 hw) (tw101 hw) (by decide) (lenOf pd14 rfl) rfl rfl (by decide) (by decide) rfl sf0 all0 rfl rfl rfl (by decide) (by decide)
              clear W
              obtain ⟨rfl, hs25⟩ := hQ25
              subst hs25
              replace W25 := W25.cast (st' := [(.ref oe)]) rfl
              replace W25 := W25.astore (pc' := 239) (L' := #[.val (.int p0), .val (.int p1), .val (.int p2), .val (.int p3), .val (.int s0), .val (.int s1), .val (.ref ca), .val (.int (0 : Int32)), .val (.ref xa), .val (.ref pa), .val (.int mm), .val (.int cp), .val .null, .val (.ref oe)]) at_237 rfl rfl rfl
              replace W25 := W25.aload (pc' := 241) at_239 rfl rfl rfl
              replace W25 := W25.ifnonnullF (pc' := 244) at_241 rfl
              replace W25 := W25.aload (pc' := 246) at_244 rfl rfl rfl
              have e26 := E5.ext W25.old.2
              have f27 := F5.ext W25.old.2
              obtain ⟨V28, h28, r28, W28, K28, hQ28, SF28⟩ := W25.callV (pc' := 249) (argsL := []) (rest := []) (Wd := 0) (cells' := 6) (slots' := 41) (a := oe) (C := "java/util/Optional") (y := (⟨"java/util/Optional", "isPresent", "()Z"⟩ : MethodName)) (z := (⟨"java/util/Optional", "isPresent", "()Z"⟩ : MethodName)) at_246 (isp_0 l Z a0 n0 hw hEL G1 O1 P1 G3 O3 rG3 oe up lo di sy O5 E5 F5 O_up O_lo O_di O_sy oe h W25.old f27) e26 (tw129 hw) (tw89 hw) (Or.inl (tw91 hw)) (tw91 hw) (tw90 hw) (tw85 hw) (tw92 hw) (by decide) (lenOf pd12 rfl) rfl rfl (by decide) (by decide) rfl sf0 all0 rfl rfl rfl (by decide) (by decide)
              clear W25
              obtain ⟨rfl, hs28⟩ := hQ28
              subst hs28
              replace W28 := W28.cast (st' := [(.int (0 : Int32))]) rfl
              replace W28 := W28.ifF (pc' := 252) at_249 (teq (by decide : (0 : Int32) = (0 : Int32))).2 rfl
              replace W28 := W28.iconst (pc' := 253) (v := (1 : Int32)) at_252 rfl rfl
              replace W28 := W28.goto (pc' := 257) at_253 (by decide) (by decide)
              exact W28.iret (t := .boolean) at_257 rfl (by simp) (by decide) (by decide) (by decide) (fun V' cv => rfl)
        · replace W := W.icmpF (pc' := 198) at_195 (flt hc16).2.2.1 rfl
          replace W := W.gets (pc' := 201) at_198 (tw156 hw) O_di rfl
          replace W := W.astore (pc' := 203) (L' := #[.val (.int p0), .val (.int p1), .val (.int p2), .val (.int p3), .val (.int s0), .val (.int s1), .val (.ref ca), .val (.int (0 : Int32)), .val (.ref xa), .val (.ref pa), .val (.int mm), .val (.int cp), .val (.ref di), .unset]) at_201 rfl rfl rfl
          replace W := W.goto (pc' := 230) at_203 (by decide) (by decide)
          replace W := W.aload (pc' := 232) at_230 rfl rfl rfl
          replace W := W.iload (pc' := 234) at_232 rfl rfl
          obtain ⟨V29, h29, r29, W29, K29, hQ29, SF29⟩ := W.callV (pc' := 237) (argsL := [(.int cp)]) (rest := []) (Wd := 0) (cells' := 7) (slots' := 42) (a := pa) (C := "com/example/lokit/lokit/password/PasswordAlphabet") (y := (⟨"com/example/lokit/lokit/password/PasswordAlphabet", "classOf", "(I)Ljava/util/Optional;"⟩ : MethodName)) (z := (⟨"com/example/lokit/lokit/password/PasswordAlphabet", "classOf", "(I)Ljava/util/Optional;"⟩ : MethodName)) at_234 (clo_D l Z a0 n0 hw hEL G1 O1 P1 G3 O3 rG3 oe up lo di sy O5 E5 F5 O_up O_lo O_di O_sy pa cp h W.old hc3 hc16) E_pa (tw97 hw) (tw98 hw) (Or.inl (tw100 hw)) (tw100 hw) (tw99 hw) (tw36 hw) (tw101 hw) (by decide) (lenOf pd14 rfl) rfl rfl (by decide) (by decide) rfl sf0 all0 rfl rfl rfl (by decide) (by decide)
          clear W
          obtain ⟨r29, rfl, q29_1, q29_2⟩ := hQ29
          have z29 : h.size ≤ h29.size := K29.1
          replace W29 := W29.cast (st' := [(.ref r29)]) rfl
          replace W29 := W29.astore (pc' := 239) (L' := #[.val (.int p0), .val (.int p1), .val (.int p2), .val (.int p3), .val (.int s0), .val (.int s1), .val (.ref ca), .val (.int (0 : Int32)), .val (.ref xa), .val (.ref pa), .val (.int mm), .val (.int cp), .val (.ref di), .val (.ref r29)]) at_237 rfl rfl rfl
          replace W29 := W29.aload (pc' := 241) at_239 rfl rfl rfl
          replace W29 := W29.ifnonnullT (pc' := 258) at_241 (by decide) (by decide)
          replace W29 := W29.aload (pc' := 260) at_258 rfl rfl rfl
          obtain ⟨V30, h30, r30, W30, K30, hQ30, SF30⟩ := W29.callV (pc' := 263) (argsL := []) (rest := []) (Wd := 0) (cells' := 7) (slots' := 42) (a := r29) (C := "java/util/Optional") (y := (⟨"java/util/Optional", "isPresent", "()Z"⟩ : MethodName)) (z := (⟨"java/util/Optional", "isPresent", "()Z"⟩ : MethodName)) at_260 (isp_1 l Z a0 n0 hw hEL G1 O1 P1 G3 O3 rG3 oe up lo di sy O5 E5 F5 O_up O_lo O_di O_sy r29 di h29 W29.old q29_2) q29_1 (tw129 hw) (tw89 hw) (Or.inl (tw91 hw)) (tw91 hw) (tw90 hw) (tw85 hw) (tw92 hw) (by decide) (lenOf pd12 rfl) rfl rfl (by decide) (by decide) rfl sf0 all0 rfl rfl rfl (by decide) (by decide)
          clear W29
          obtain ⟨rfl, hs30⟩ := hQ30
          subst hs30
          replace W30 := W30.cast (st' := [(.int (1 : Int32))]) rfl
          replace W30 := W30.ifF (pc' := 266) at_263 (feq (by decide : ¬ ((1 : Int32) = (0 : Int32)))).1 rfl
          replace W30 := W30.aload (pc' := 268) at_266 rfl rfl rfl
          obtain ⟨V31, h31, r31, W31, K31, hQ31, SF31⟩ := W30.callV (pc' := 271) (argsL := []) (rest := []) (Wd := 0) (cells' := 7) (slots' := 42) (a := r29) (C := "java/util/Optional") (y := (⟨"java/util/Optional", "get", "()Ljava/lang/Object;"⟩ : MethodName)) (z := (⟨"java/util/Optional", "get", "()Ljava/lang/Object;"⟩ : MethodName)) at_268 (opt_get l Z a0 n0 hw hEL G1 O1 P1 G3 O3 rG3 oe up lo di sy O5 E5 F5 O_up O_lo O_di O_sy r29 di h29 W30.old q29_2) q29_1 (tw148 hw) (tw149 hw) (Or.inl (tw151 hw)) (tw151 hw) (tw150 hw) (tw85 hw) (tw152 hw) (by decide) (lenOf pd23 rfl) rfl rfl (by decide) (by decide) rfl sf0 all0 rfl rfl rfl (by decide) (by decide)
          clear W30
          obtain ⟨rfl, hs31⟩ := hQ31
          subst hs31
          replace W31 := W31.cast (st' := [(.ref di)]) rfl
          replace W31 := W31.aload (pc' := 273) at_271 rfl rfl rfl
          replace W31 := W31.acmpF (pc' := 276) at_273 rfl rfl (by simp [Jvm.Free.XT.acmp]) rfl
          replace W31 := W31.iconst (pc' := 277) (v := (1 : Int32)) at_276 rfl rfl
          replace W31 := W31.goto (pc' := 281) at_277 (by decide) (by decide)
          exact W31.iret (t := .boolean) at_281 rfl (by simp) (by decide) (by decide) (by decide) (fun V' cv => rfl)
    · replace W := W.icmpF (pc' := 169) at_166 (flt hc2).1 rfl
      replace W := W.iload (pc' := 171) at_169 rfl rfl
      replace W := W.bipush (pc' := 173) (v := (122 : Int32)) at_171 rfl rfl
      by_cases hc32 : (122 : Int32) < cp
      · replace W := W.icmpT (pc' := 184) at_173 (tlt hc32).2.2.1 (by decide) (by decide)
        replace W := W.iload (pc' := 186) at_184 rfl rfl
        replace W := W.bipush (pc' := 188) (v := (48 : Int32)) at_186 rfl rfl
        by_cases hc33 : cp < (48 : Int32)
        · replace W := W.icmpT (pc' := 206) at_188 (tlt hc33).1 (by decide) (by decide)
          replace W := W.iload (pc' := 208) at_206 rfl rfl
          replace W := W.ifF (pc' := 211) at_208 (teq (by decide : (0 : Int32) = (0 : Int32))).2 rfl
          replace W := W.iload (pc' := 213) at_211 rfl rfl
          replace W := W.iload (pc' := 215) at_213 rfl rfl
          by_cases hc34 : cp = s0
          · replace W := W.icmpT (pc' := 225) at_215 (teq hc34).1 (by decide) (by decide)
            replace W := W.gets (pc' := 228) at_225 (tw131 hw) O_sy rfl
            replace W := W.astore (pc' := 230) (L' := #[.val (.int p0), .val (.int p1), .val (.int p2), .val (.int p3), .val (.int s0), .val (.int s1), .val (.ref ca), .val (.int (0 : Int32)), .val (.ref xa), .val (.ref pa), .val (.int mm), .val (.int cp), .val (.ref sy), .unset]) at_228 rfl rfl rfl
            replace W := W.aload (pc' := 232) at_230 rfl rfl rfl
            replace W := W.iload (pc' := 234) at_232 rfl rfl
            obtain ⟨V35, h35, r35, W35, K35, hQ35, SF35⟩ := W.callV (pc' := 237) (argsL := [(.int cp)]) (rest := []) (Wd := 0) (cells' := 7) (slots' := 42) (a := pa) (C := "com/example/lokit/lokit/password/PasswordAlphabet") (y := (⟨"com/example/lokit/lokit/password/PasswordAlphabet", "classOf", "(I)Ljava/util/Optional;"⟩ : MethodName)) (z := (⟨"com/example/lokit/lokit/password/PasswordAlphabet", "classOf", "(I)Ljava/util/Optional;"⟩ : MethodName)) at_234 (clo_S0 l Z a0 n0 hw hEL G1 O1 P1 G3 O3 rG3 oe up lo di sy O5 E5 F5 O_up O_lo O_di O_sy pa cp xa ta kt s0 s1 h W.old F_pa_symbols E_xa F_xa_coder F_xa_value V_ta (pu_lat pu0) (pu_lat pu1) ⟨Or.inl hc1, Or.inr hc32, Or.inl hc33⟩ (by rw [hc34]; exact (pu_lat pu0).1) (by rw [hc34]; exact (pu_lat pu0).2) hc34) E_pa (tw97 hw) (tw98 hw) (Or.inl (tw100 hw)) (tw100 hw) (tw99 hw) (tw36 hw) (tw101 hw) (by decide) (lenOf pd14 rfl) rfl rfl (by decide) (by decide) rfl sf0 all0 rfl rfl rfl (by decide) (by decide)
            clear W
            obtain ⟨r35, rfl, q35_1, q35_2⟩ := hQ35
            have z35 : h.size ≤ h35.size := K35.1
            replace W35 := W35.cast (st' := [(.ref r35)]) rfl
            replace W35 := W35.astore (pc' := 239) (L' := #[.val (.int p0), .val (.int p1), .val (.int p2), .val (.int p3), .val (.int s0), .val (.int s1), .val (.ref ca), .val (.int (0 : Int32)), .val (.ref xa), .val (.ref pa), .val (.int mm), .val (.int cp), .val (.ref sy), .val (.ref r35)]) at_237 rfl rfl rfl
            replace W35 := W35.aload (pc' := 241) at_239 rfl rfl rfl
            replace W35 := W35.ifnonnullT (pc' := 258) at_241 (by decide) (by decide)
            replace W35 := W35.aload (pc' := 260) at_258 rfl rfl rfl
            obtain ⟨V36, h36, r36, W36, K36, hQ36, SF36⟩ := W35.callV (pc' := 263) (argsL := []) (rest := []) (Wd := 0) (cells' := 7) (slots' := 42) (a := r35) (C := "java/util/Optional") (y := (⟨"java/util/Optional", "isPresent", "()Z"⟩ : MethodName)) (z := (⟨"java/util/Optional", "isPresent", "()Z"⟩ : MethodName)) at_260 (isp_1 l Z a0 n0 hw hEL G1 O1 P1 G3 O3 rG3 oe up lo di sy O5 E5 F5 O_up O_lo O_di O_sy r35 sy h35 W35.old q35_2) q35_1 (tw129 hw) (tw89 hw) (Or.inl (tw91 hw)) (tw91 hw) (tw90 hw) (tw85 hw) (tw92 hw) (by decide) (lenOf pd12 rfl) rfl rfl (by decide) (by decide) rfl sf0 all0 rfl rfl rfl (by decide) (by decide)
            clear W35
            obtain ⟨rfl, hs36⟩ := hQ36
            subst hs36
            replace W36 := W36.cast (st' := [(.int (1 : Int32))]) rfl
            replace W36 := W36.ifF (pc' := 266) at_263 (feq (by decide : ¬ ((1 : Int32) = (0 : Int32)))).1 rfl
            replace W36 := W36.aload (pc' := 268) at_266 rfl rfl rfl
            obtain ⟨V37, h37, r37, W37, K37, hQ37, SF37⟩ := W36.callV (pc' := 271) (argsL := []) (rest := []) (Wd := 0) (cells' := 7) (slots' := 42) (a := r35) (C := "java/util/Optional") (y := (⟨"java/util/Optional", "get", "()Ljava/lang/Object;"⟩ : MethodName)) (z := (⟨"java/util/Optional", "get", "()Ljava/lang/Object;"⟩ : MethodName)) at_268 (opt_get l Z a0 n0 hw hEL G1 O1 P1 G3 O3 rG3 oe up lo di sy O5 E5 F5 O_up O_lo O_di O_sy r35 sy h35 W36.old q35_2) q35_1 (tw148 hw) (tw149 hw) (Or.inl (tw151 hw)) (tw151 hw) (tw150 hw) (tw85 hw) (tw152 hw) (by decide) (lenOf pd23 rfl) rfl rfl (by decide) (by decide) rfl sf0 all0 rfl rfl rfl (by decide) (by decide)
            clear W36
            obtain ⟨rfl, hs37⟩ := hQ37
            subst hs37
            replace W37 := W37.cast (st' := [(.ref sy)]) rfl
            replace W37 := W37.aload (pc' := 273) at_271 rfl rfl rfl
            replace W37 := W37.acmpF (pc' := 276) at_273 rfl rfl (by simp [Jvm.Free.XT.acmp]) rfl
            replace W37 := W37.iconst (pc' := 277) (v := (1 : Int32)) at_276 rfl rfl
            replace W37 := W37.goto (pc' := 281) at_277 (by decide) (by decide)
            exact W37.iret (t := .boolean) at_281 rfl (by simp) (by decide) (by decide) (by decide) (fun V' cv => rfl)
          · replace W := W.icmpF (pc' := 218) at_215 (feq hc34).1 rfl
            replace W := W.iload (pc' := 220) at_218 rfl rfl
            replace W := W.iload (pc' := 222) at_220 rfl rfl
            by_cases hc38 : cp = s1
            · replace W := W.icmpF (pc' := 225) at_222 (teq hc38).2 rfl
              replace W := W.gets (pc' := 228) at_225 (tw131 hw) O_sy rfl
              replace W := W.astore (pc' := 230) (L' := #[.val (.int p0), .val (.int p1), .val (.int p2), .val (.int p3), .val (.int s0), .val (.int s1), .val (.ref ca), .val (.int (0 : Int32)), .val (.ref xa), .val (.ref pa), .val (.int mm), .val (.int cp), .val (.ref sy), .unset]) at_228 rfl rfl rfl
              replace W := W.aload (pc' := 232) at_230 rfl rfl rfl
              replace W := W.iload (pc' := 234) at_232 rfl rfl
              obtain ⟨V39, h39, r39, W39, K39, hQ39, SF39⟩ := W.callV (pc' := 237) (argsL := [(.int cp)]) (rest := []) (Wd := 0) (cells' := 7) (slots' := 42) (a := pa) (C := "com/example/lokit/lokit/password/PasswordAlphabet") (y := (⟨"com/example/lokit/lokit/password/PasswordAlphabet", "classOf", "(I)Ljava/util/Optional;"⟩ : MethodName)) (z := (⟨"com/example/lokit/lokit/password/PasswordAlphabet", "classOf", "(I)Ljava/util/Optional;"⟩ : MethodName)) at_234 (clo_S1 l Z a0 n0 hw hEL G1 O1 P1 G3 O3 rG3 oe up lo di sy O5 E5 F5 O_up O_lo O_di O_sy pa cp xa ta kt s0 s1 h W.old F_pa_symbols E_xa F_xa_coder F_xa_value V_ta (pu_lat pu0) (pu_lat pu1) ⟨Or.inl hc1, Or.inr hc32, Or.inl hc33⟩ (by rw [hc38]; exact (pu_lat pu1).1) (by rw [hc38]; exact (pu_lat pu1).2) hc34 hc38) E_pa (tw97 hw) (tw98 hw) (Or.inl (tw100 hw)) (tw100 hw) (tw99 hw) (tw36 hw) (tw101 hw) (by decide) (lenOf pd14 rfl) rfl rfl (by decide) (by decide) rfl sf0 all0 rfl rfl rfl (by decide) (by decide)
              clear W
              obtain ⟨r39, rfl, q39_1, q39_2⟩ := hQ39
              have z39 : h.size ≤ h39.size := K39.1
              replace W39 := W39.cast (st' := [(.ref r39)]) rfl
              replace W39 := W39.astore (pc' := 239) (L' := #[.val (.int p0), .val (.int p1), .val (.int p2), .val (.int p3), .val (.int s0), .val (.int s1), .val (.ref ca), .val (.int (0 : Int32)), .val (.ref xa), .val (.ref pa), .val (.int mm), .val (.int cp), .val (.ref sy), .val (.ref r39)]) at_237 rfl rfl rfl
              replace W39 := W39.aload (pc' := 241) at_239 rfl rfl rfl
              replace W39 := W39.ifnonnullT (pc' := 258) at_241 (by decide) (by decide)
              replace W39 := W39.aload (pc' := 260) at_258 rfl rfl rfl
              obtain ⟨V40, h40, r40, W40, K40, hQ40, SF40⟩ := W39.callV (pc' := 263) (argsL := []) (rest := []) (Wd := 0) (cells' := 7) (slots' := 42) (a := r39) (C := "java/util/Optional") (y := (⟨"java/util/Optional", "isPresent", "()Z"⟩ : MethodName)) (z := (⟨"java/util/Optional", "isPresent", "()Z"⟩ : MethodName)) at_260 (isp_1 l Z a0 n0 hw hEL G1 O1 P1 G3 O3 rG3 oe up lo di sy O5 E5 F5 O_up O_lo O_di O_sy r39 sy h39 W39.old q39_2) q39_1 (tw129 hw) (tw89 hw) (Or.inl (tw91 hw)) (tw91 hw) (tw90 hw) (tw85 hw) (tw92 hw) (by decide) (lenOf pd12 rfl) rfl rfl (by decide) (by decide) rfl sf0 all0 rfl rfl rfl (by decide) (by decide)
              clear W39
              obtain ⟨rfl, hs40⟩ := hQ40
              subst hs40
              replace W40 := W40.cast (st' := [(.int (1 : Int32))]) rfl
              replace W40 := W40.ifF (pc' := 266) at_263 (feq (by decide : ¬ ((1 : Int32) = (0 : Int32)))).1 rfl
              replace W40 := W40.aload (pc' := 268) at_266 rfl rfl rfl
              obtain ⟨V41, h41, r41, W41, K41, hQ41, SF41⟩ := W40.callV (pc' := 271) (argsL := []) (rest := []) (Wd := 0) (cells' := 7) (slots' := 42) (a := r39) (C := "java/util/Optional") (y := (⟨"java/util/Optional", "get", "()Ljava/lang/Object;"⟩ : MethodName)) (z := (⟨"java/util/Optional", "get", "()Ljava/lang/Object;"⟩ : MethodName)) at_268 (opt_get l Z a0 n0 hw hEL G1 O1 P1 G3 O3 rG3 oe up lo di sy O5 E5 F5 O_up O_lo O_di O_sy r39 sy h39 W40.old q39_2) q39_1 (tw148 hw) (tw149 hw) (Or.inl (tw151 hw)) (tw151 hw) (tw150 hw) (tw85 hw) (tw152 hw) (by decide) (lenOf pd23 rfl) rfl rfl (by decide) (by decide) rfl sf0 all0 rfl rfl rfl (by decide) (by decide)
              clear W40
              obtain ⟨rfl, hs41⟩ := hQ41
              subst hs41
              replace W41 := W41.cast (st' := [(.ref sy)]) rfl
              replace W41 := W41.aload (pc' := 273) at_271 rfl rfl rfl
              replace W41 := W41.acmpF (pc' := 276) at_273 rfl rfl (by simp [Jvm.Free.XT.acmp]) rfl
              replace W41 := W41.iconst (pc' := 277) (v := (1 : Int32)) at_276 rfl rfl
              replace W41 := W41.goto (pc' := 281) at_277 (by decide) (by decide)
              exact W41.iret (t := .boolean) at_281 rfl (by simp) (by decide) (by decide) (by decide) (fun V' cv => rfl)
            · replace W := W.icmpT (pc' := 230) at_222 (feq hc38).2 (by decide) (by decide)
              replace W := W.aload (pc' := 232) at_230 rfl rfl rfl
              replace W := W.iload (pc' := 234) at_232 rfl rfl
              obtain ⟨V42, h42, r42, W42, K42, hQ42, SF42⟩ := W.callV (pc' := 237) (argsL := [(.int cp)]) (rest := []) (Wd := 0) (cells' := 6) (slots' := 41) (a := pa) (C := "com/example/lokit/lokit/password/PasswordAlphabet") (y := (⟨"com/example/lokit/lokit/password/PasswordAlphabet", "classOf", "(I)Ljava/util/Optional;"⟩ : MethodName)) (z := (⟨"com/example/lokit/lokit/password/PasswordAlphabet", "classOf", "(I)Ljava/util/Optional;"⟩ : MethodName)) at_234 (clo_N2 l Z a0 n0 hw hEL G1 O1 P1 G3 O3 rG3 oe up lo di sy O5 E5 F5 O_up O_lo O_di O_sy pa cp xa ta kt s0 s1 h W.old F_pa_symbols E_xa F_xa_coder F_xa_value V_ta (pu_lat pu0) (pu_lat pu1) ⟨Or.inl hc1, Or.inr hc32, Or.inl hc33⟩ hc34 hc38) E_pa (tw97 hw) (tw98 hw) (Or.inl (tw100 hw)) (tw100 hw) (tw99 hw) (tw36 hw) (tw101 hw) (by decide) (lenOf pd14 rfl) rfl rfl (by decide) (by decide) rfl sf0 all0 rfl rfl rfl (by decide) (by decide)
              clear W
              obtain ⟨rfl, hs42⟩ := hQ42
              subst hs42
              replace W42 := W42.cast (st' := [(.ref oe)]) rfl
              replace W42 := W42.astore (pc' := 239) (L' := #[.val (.int p0), .val (.int p1), .val (.int p2), .val (.int p3), .val (.int s0), .val (.int s1), .val (.ref ca), .val (.int (0 : Int32)), .val (.ref xa), .val (.ref pa), .val (.int mm), .val (.int cp), .val .null, .val (.ref oe)]) at_237 rfl rfl rfl
              replace W42 := W42.aload (pc' := 241) at_239 rfl rfl rfl
              replace W42 := W42.ifnonnullF (pc' := 244) at_241 rfl
              replace W42 := W42.aload (pc' := 246) at_244 rfl rfl rfl
              have e43 := E5.ext W42.old.2
              have f44 := F5.ext W42.old.2
              obtain ⟨V45, h45, r45, W45, K45, hQ45, SF45⟩ := W42.callV (pc' := 249) (argsL := []) (rest := []) (Wd := 0) (cells' := 6) (slots' := 41) (a := oe) (C := "java/util/Optional") (y := (⟨"java/util/Optional", "isPresent", "()Z"⟩ : MethodName)) (z := (⟨"java/util/Optional", "isPresent", "()Z"⟩ : MethodName)) at_246 (isp_0 l Z a0 n0 hw hEL G1 O1 P1 G3 O3 rG3 oe up lo di sy O5 E5 F5 O_up O_lo O_di O_sy oe h W42.old f44) e43 (tw129 hw) (tw89 hw) (Or.inl (tw91 hw)) (tw91 hw) (tw90 hw) (tw85 hw) (tw92 hw) (by decide) (lenOf pd12 rfl) rfl rfl (by decide) (by decide) rfl sf0 all0 rfl rfl rfl (by decide) (by decide)
              clear W42
              obtain ⟨rfl, hs45⟩ := hQ45
              subst hs45
              replace W45 := W45.cast (st' := [(.int (0 : Int32))]) rfl
              replace W45 := W45.ifF (pc' := 252) at_249 (teq (by decide : (0 : Int32) = (0 : Int32))).2 rfl
              replace W45 := W45.iconst (pc' := 253) (v := (1 : Int32)) at_252 rfl rfl
              replace W45 := W45.goto (pc' := 257) at_253 (by decide) (by decide)
              exact W45.iret (t := .boolean) at_257 rfl (by simp) (by decide) (by decide) (by decide) (fun V' cv => rfl)
        · replace W := W.icmpF (pc' := 191) at_188 (flt hc33).1 rfl
          replace W := W.iload (pc' := 193) at_191 rfl rfl
          replace W := W.bipush (pc' := 195) (v := (57 : Int32)) at_193 rfl rfl
          by_cases hc46 : (57 : Int32) < cp
          · replace W := W.icmpT (pc' := 206) at_195 (tlt hc46).2.2.1 (by decide) (by decide)
            replace W := W.iload (pc' := 208) at_206 rfl rfl
            replace W := W.ifF (pc' := 211) at_208 (teq (by decide : (0 : Int32) = (0 : Int32))).2 rfl
            replace W := W.iload (pc' := 213) at_211 rfl rfl
            replace W := W.iload (pc' := 215) at_213 rfl rfl
            by_cases hc47 : cp = s0
            · replace W := W.icmpT (pc' := 225) at_215 (teq hc47).1 (by decide) (by decide)
              replace W := W.gets (pc' := 228) at_225 (tw131 hw) O_sy rfl
              replace W := W.astore (pc' := 230) (L' := #[.val (.int p0), .val (.int p1), .val (.int p2), .val (.int p3), .val (.int s0), .val (.int s1), .val (.ref ca), .val (.int (0 : Int32)), .val (.ref xa), .val (.ref pa), .val (.int mm), .val (.int cp), .val (.ref sy), .unset]) at_228 rfl rfl rfl
              replace W := W.aload (pc' := 232) at_230 rfl rfl rfl
              replace W := W.iload (pc' := 234) at_232 rfl rfl
              obtain ⟨V48, h48, r48, W48, K48, hQ48, SF48⟩ := W.callV (pc' := 237) (argsL := [(.int cp)]) (rest := []) (Wd := 0) (cells' := 7) (slots' := 42) (a := pa) (C := "com/example/lokit/lokit/password/PasswordAlphabet") (y := (⟨"com/example/lokit/lokit/password/PasswordAlphabet", "classOf", "(I)Ljava/util/Optional;"⟩ : MethodName)) (z := (⟨"com/example/lokit/lokit/password/PasswordAlphabet", "classOf", "(I)Ljava/util/Optional;"⟩ : MethodName)) at_234 (clo_S0 l Z a0 n0 hw hEL G1 O1 P1 G3 O3 rG3 oe up lo di sy O5 E5 F5 O_up O_lo O_di O_sy pa cp xa ta kt s0 s1 h W.old F_pa_symbols E_xa F_xa_coder F_xa_value V_ta (pu_lat pu0) (pu_lat pu1) ⟨Or.inl hc1, Or.inr hc32, Or.inr hc46⟩ (by rw [hc47]; exact (pu_lat pu0).1) (by rw [hc47]; exact (pu_lat pu0).2) hc47) E_pa (tw97 hw) (tw98 hw) (Or.inl (tw100 hw)) (tw100 hw) (tw99 hw) (tw36 hw) (tw101 hw) (by decide) (lenOf pd14 rfl) rfl rfl (by decide) (by decide) rfl sf0 all0 rfl rfl rfl (by decide) (by decide)
              clear W
              obtain ⟨r48, rfl, q48_1, q48_2⟩ := hQ48
              have z48 : h.size ≤ h48.size := K48.1
              replace W48 := W48.cast (st' := [(.ref r48)]) rfl
              replace W48 := W48.astore (pc' := 239) (L' := #[.val (.int p0), .val (.int p1), .val (.int p2), .val (.int p3), .val (.int s0), .val (.int s1), .val (.ref ca), .val (.int (0 : Int32)), .val (.ref xa), .val (.ref pa), .val (.int mm), .val (.int cp), .val (.ref sy), .val (.ref r48)]) at_237 rfl rfl rfl
              replace W48 := W48.aload (pc' := 241) at_239 rfl rfl rfl
              replace W48 := W48.ifnonnullT (pc' := 258) at_241 (by decide) (by decide)
              replace W48 := W48.aload (pc' := 260) at_258 rfl rfl rfl
              obtain ⟨V49, h49, r49, W49, K49, hQ49, SF49⟩ := W48.callV (pc' := 263) (argsL := []) (rest := []) (Wd := 0) (cells' := 7) (slots' := 42) (a := r48) (C := "java/util/Optional") (y := (⟨"java/util/Optional", "isPresent", "()Z"⟩ : MethodName)) (z := (⟨"java/util/Optional", "isPresent", "()Z"⟩ : MethodName)) at_260 (isp_1 l Z a0 n0 hw hEL G1 O1 P1 G3 O3 rG3 oe up lo di sy O5 E5 F5 O_up O_lo O_di O_sy r48 sy h48 W48.old q48_2) q48_1 (tw129 hw) (tw89 hw) (Or.inl (tw91 hw)) (tw91 hw) (tw90 hw) (tw85 hw) (tw92 hw) (by decide) (lenOf pd12 rfl) rfl rfl (by decide) (by decide) rfl sf0 all0 rfl rfl rfl (by decide) (by decide)
              clear W48
              obtain ⟨rfl, hs49⟩ := hQ49
              subst hs49
              replace W49 := W49.cast (st' := [(.int (1 : Int32))]) rfl
              replace W49 := W49.ifF (pc' := 266) at_263 (feq (by decide : ¬ ((1 : Int32) = (0 : Int32)))).1 rfl
              replace W49 := W49.aload (pc' := 268) at_266 rfl rfl rfl
              obtain ⟨V50, h50, r50, W50, K50, hQ50, SF50⟩ := W49.callV (pc' := 271) (argsL := []) (rest := []) (Wd := 0) (cells' := 7) (slots' := 42) (a := r48) (C := "java/util/Optional") (y := (⟨"java/util/Optional", "get", "()Ljava/lang/Object;"⟩ : MethodName)) (z := (⟨"java/util/Optional", "get", "()Ljava/lang/Object;"⟩ : MethodName)) at_268 (opt_get l Z a0 n0 hw hEL G1 O1 P1 G3 O3 rG3 oe up lo di sy O5 E5 F5 O_up O_lo O_di O_sy r48 sy h48 W49.old q48_2) q48_1 (tw148 hw) (tw149 hw) (Or.inl (tw151 hw)) (tw151 hw) (tw150 hw) (tw85 hw) (tw152 hw) (by decide) (lenOf pd23 rfl) rfl rfl (by decide) (by decide) rfl sf0 all0 rfl rfl rfl (by decide) (by decide)
              clear W49
              obtain ⟨rfl, hs50⟩ := hQ50
              subst hs50
              replace W50 := W50.cast (st' := [(.ref sy)]) rfl
              replace W50 := W50.aload (pc' := 273) at_271 rfl rfl rfl
              replace W50 := W50.acmpF (pc' := 276) at_273 rfl rfl (by simp [Jvm.Free.XT.acmp]) rfl
              replace W50 := W50.iconst (pc' := 277) (v := (1 : Int32)) at_276 rfl rfl
              replace W50 := W50.goto (pc' := 281) at_277 (by decide) (by decide)
              exact W50.iret (t := .boolean) at_281 rfl (by simp) (by decide) (by decide) (by decide) (fun V' cv => rfl)
            · replace W := W.icmpF (pc' := 218) at_215 (feq hc47).1 rfl
              replace W := W.iload (pc' := 220) at_218 rfl rfl
              replace W := W.iload (pc' := 222) at_220 rfl rfl
              by_cases hc51 : cp = s1
              · replace W := W.icmpF (pc' := 225) at_222 (teq hc51).2 rfl
                replace W := W.gets (pc' := 228) at_225 (tw131 hw) O_sy rfl
                replace W := W.astore (pc' := 230) (L' := #[.val (.int p0), .val (.int p1), .val (.int p2), .val (.int p3), .val (.int s0), .val (.int s1), .val (.ref ca), .val (.int (0 : Int32)), .val (.ref xa), .val (.ref pa), .val (.int mm), .val (.int cp), .val (.ref sy), .unset]) at_228 rfl rfl rfl
                replace W := W.aload (pc' := 232) at_230 rfl rfl rfl
                replace W := W.iload (pc' := 234) at_232 rfl rfl
                obtain ⟨V52, h52, r52, W52, K52, hQ52, SF52⟩ := W.callV (pc' := 237) (argsL := [(.int cp)]) (rest := []) (Wd := 0) (cells' := 7) (slots' := 42) (a := pa) (C := "com/example/lokit/lokit/password/PasswordAlphabet") (y := (⟨"com/example/lokit/lokit/password/PasswordAlphabet", "classOf", "(I)Ljava/util/Optional;"⟩ : MethodName)) (z := (⟨"com/example/lokit/lokit/password/PasswordAlphabet", "classOf", "(I)Ljava/util/Optional;"⟩ : MethodName)) at_234 (clo_S1 l Z a0 n0 hw hEL G1 O1 P1 G3 O3 rG3 oe up lo di sy O5 E5 F5 O_up O_lo O_di O_sy pa cp xa ta kt s0 s1 h W.old F_pa_symbols E_xa F_xa_coder F_xa_value V_ta (pu_lat pu0) (pu_lat pu1) ⟨Or.inl hc1, Or.inr hc32, Or.inr hc46⟩ (by rw [hc51]; exact (pu_lat pu1).1) (by rw [hc51]; exact (pu_lat pu1).2) hc47 hc51) E_pa (tw97 hw) (tw98 hw) (Or.inl (tw100 hw)) (tw100 hw) (tw99 hw) (tw36 hw) (tw101 hw) (by decide) (lenOf pd14 rfl) rfl rfl (by decide) (by decide) rfl sf0 all0 rfl rfl rfl (by decide) (by decide)
                clear W
                obtain ⟨r52, rfl, q52_1, q52_2⟩ := hQ52
                have z52 : h.size ≤ h52.size := K52.1
                replace W52 := W52.cast (st' := [(.ref r52)]) rfl
                replace W52 := W52.astore (pc' := 239) (L' := #[.val (.int p0), .val (.int p1), .val (.int p2), .val (.int p3), .val (.int s0), .val (.int s1), .val (.ref ca), .val (.int (0 : Int32)), .val (.ref xa), .val (.ref pa), .val (.int mm), .val (.int cp), .val (.ref sy), .val (.ref r52)]) at_237 rfl rfl rfl
                replace W52 := W52.aload (pc' := 241) at_239 rfl rfl rfl
                replace W52 := W52.ifnonnullT (pc' := 258) at_241 (by decide) (by decide)
                replace W52 := W52.aload (pc' := 260) at_258 rfl rfl rfl
                obtain ⟨V53, h53, r53, W53, K53, hQ53, SF53⟩ := W52.callV (pc' := 263) (argsL := []) (rest := []) (Wd := 0) (cells' := 7) (slots' := 42) (a := r52) (C := "java/util/Optional") (y := (⟨"java/util/Optional", "isPresent", "()Z"⟩ : MethodName)) (z := (⟨"java/util/Optional", "isPresent", "()Z"⟩ : MethodName)) at_260 (isp_1 l Z a0 n0 hw hEL G1 O1 P1 G3 O3 rG3 oe up lo di sy O5 E5 F5 O_up O_lo O_di O_sy r52 sy h52 W52.old q52_2) q52_1 (tw129 hw) (tw89 hw) (Or.inl (tw91 hw)) (tw91 hw) (tw90 hw) (tw85 hw) (tw92 hw) (by decide) (lenOf pd12 rfl) rfl rfl (by decide) (by decide) rfl sf0 all0 rfl rfl rfl (by decide) (by decide)
                clear W52
                obtain ⟨rfl, hs53⟩ := hQ53
                subst hs53
                replace W53 := W53.cast (st' := [(.int (1 : Int32))]) rfl
                replace W53 := W53.ifF (pc' := 266) at_263 (feq (by decide : ¬ ((1 : Int32) = (0 : Int32)))).1 rfl
                replace W53 := W53.aload (pc' := 268) at_266 rfl rfl rfl
                obtain ⟨V54, h54, r54, W54, K54, hQ54, SF54⟩ := W53.callV (pc' := 271) (argsL := []) (rest := []) (Wd := 0) (cells' := 7) (slots' := 42) (a := r52) (C := "java/util/Optional") (y := (⟨"java/util/Optional", "get", "()Ljava/lang/Object;"⟩ : MethodName)) (z := (⟨"java/util/Optional", "get", "()Ljava/lang/Object;"⟩ : MethodName)) at_268 (opt_get l Z a0 n0 hw hEL G1 O1 P1 G3 O3 rG3 oe up lo di sy O5 E5 F5 O_up O_lo O_di O_sy r52 sy h52 W53.old q52_2) q52_1 (tw148 hw) (tw149 hw) (Or.inl (tw151 hw)) (tw151 hw) (tw150 hw) (tw85 hw) (tw152 hw) (by decide) (lenOf pd23 rfl) rfl rfl (by decide) (by decide) rfl sf0 all0 rfl rfl rfl (by decide) (by decide)
                clear W53
                obtain ⟨rfl, hs54⟩ := hQ54
                subst hs54
                replace W54 := W54.cast (st' := [(.ref sy)]) rfl
                replace W54 := W54.aload (pc' := 273) at_271 rfl rfl rfl
                replace W54 := W54.acmpF (pc' := 276) at_273 rfl rfl (by simp [Jvm.Free.XT.acmp]) rfl
                replace W54 := W54.iconst (pc' := 277) (v := (1 : Int32)) at_276 rfl rfl
                replace W54 := W54.goto (pc' := 281) at_277 (by decide) (by decide)
                exact W54.iret (t := .boolean) at_281 rfl (by simp) (by decide) (by decide) (by decide) (fun V' cv => rfl)
              · replace W := W.icmpT (pc' := 230) at_222 (feq hc51).2 (by decide) (by decide)
                replace W := W.aload (pc' := 232) at_230 rfl rfl rfl
                replace W := W.iload (pc' := 234) at_232 rfl rfl
                obtain ⟨V55, h55, r55, W55, K55, hQ55, SF55⟩ := W.callV (pc' := 237) (argsL := [(.int cp)]) (rest := []) (Wd := 0) (cells' := 6) (slots' := 41) (a := pa) (C := "com/example/lokit/lokit/password/PasswordAlphabet") (y := (⟨"com/example/lokit/lokit/password/PasswordAlphabet", "classOf", "(I)Ljava/util/Optional;"⟩ : MethodName)) (z := (⟨"com/example/lokit/lokit/password/PasswordAlphabet", "classOf", "(I)Ljava/util/Optional;"⟩ : MethodName)) at_234 (clo_N2 l Z a0 n0 hw hEL G1 O1 P1 G3 O3 rG3 oe up lo di sy O5 E5 F5 O_up O_lo O_di O_sy pa cp xa ta kt s0 s1 h W.old F_pa_symbols E_xa F_xa_coder F_xa_value V_ta (pu_lat pu0) (pu_lat pu1) ⟨Or.inl hc1, Or.inr hc32, Or.inr hc46⟩ hc47 hc51) E_pa (tw97 hw) (tw98 hw) (Or.inl (tw100 hw)) (tw100 hw) (tw99 hw) (tw36 hw) (tw101 hw) (by decide) (lenOf pd14 rfl) rfl rfl (by decide) (by decide) rfl sf0 all0 rfl rfl rfl (by decide) (by decide)
                clear W
                obtain ⟨rfl, hs55⟩ := hQ55
                subst hs55
                replace W55 := W55.cast (st' := [(.ref oe)]) rfl
                replace W55 := W55.astore (pc' := 239) (L' := #[.val (.int p0), .val (.int p1), .val (.int p2), .val (.int p3), .val (.int s0), .val (.int s1), .val (.ref ca), .val (.int (0 : Int32)), .val (.ref xa), .val (.ref pa), .val (.int mm), .val (.int cp), .val .null, .val (.ref oe)]) at_237 rfl rfl rfl
                replace W55 := W55.aload (pc' := 241) at_239 rfl rfl rfl
                replace W55 := W55.ifnonnullF (pc' := 244) at_241 rfl
                replace W55 := W55.aload (pc' := 246) at_244 rfl rfl rfl
                have e56 := E5.ext W55.old.2
                have f57 := F5.ext W55.old.2
                obtain ⟨V58, h58, r58, W58, K58, hQ58, SF58⟩ := W55.callV (pc' := 249) (argsL := []) (rest := []) (Wd := 0) (cells' := 6) (slots' := 41) (a := oe) (C := "java/util/Optional") (y := (⟨"java/util/Optional", "isPresent", "()Z"⟩ : MethodName)) (z := (⟨"java/util/Optional", "isPresent", "()Z"⟩ : MethodName)) at_246 (isp_0 l Z a0 n0 hw hEL G1 O1 P1 G3 O3 rG3 oe up lo di sy O5 E5 F5 O_up O_lo O_di O_sy oe h W55.old f57) e56 (tw129 hw) (tw89 hw) (Or.inl (tw91 hw)) (tw91 hw) (tw90 hw) (tw85 hw) (tw92 hw) (by decide) (lenOf pd12 rfl) rfl rfl (by decide) (by decide) rfl sf0 all0 rfl rfl rfl (by decide) (by decide)
                clear W55
                obtain ⟨rfl, hs58⟩ := hQ58
                subst hs58
                replace W58 := W58.cast (st' := [(.int (0 : Int32))]) rfl
                replace W58 := W58.ifF (pc' := 252) at_249 (teq (by decide : (0 : Int32) = (0 : Int32))).2 rfl
                replace W58 := W58.iconst (pc' := 253) (v := (1 : Int32)) at_252 rfl rfl
                replace W58 := W58.goto (pc' := 257) at_253 (by decide) (by decide)
                exact W58.iret (t := .boolean) at_257 rfl (by simp) (by decide) (by decide) (by decide) (fun V' cv => rfl)
          · replace W := W.icmpF (pc' := 198) at_195 (flt hc46).2.2.1 rfl
            replace W := W.gets (pc' := 201) at_198 (tw156 hw) O_di rfl
            replace W := W.astore (pc' := 203) (L' := #[.val (.int p0), .val (.int p1), .val (.int p2), .val (.int p3), .val (.int s0), .val (.int s1), .val (.ref ca), .val (.int (0 : Int32)), .val (.ref xa), .val (.ref pa), .val (.int mm), .val (.int cp), .val (.ref di), .unset]) at_201 rfl rfl rfl
            replace W := W.goto (pc' := 230) at_203 (by decide) (by decide)
            replace W := W.aload (pc' := 232) at_230 rfl rfl rfl
            replace W := W.iload (pc' := 234) at_232 rfl rfl
            obtain ⟨V59, h59, r59, W59, K59, hQ59, SF59⟩ := W.callV (pc' := 237) (argsL := [(.int cp)]) (rest := []) (Wd := 0) (cells' := 7) (slots' := 42) (a := pa) (C := "com/example/lokit/lokit/password/PasswordAlphabet") (y := (⟨"com/example/lokit/lokit/password/PasswordAlphabet", "classOf", "(I)Ljava/util/Optional;"⟩ : MethodName)) (z := (⟨"com/example/lokit/lokit/password/PasswordAlphabet", "classOf", "(I)Ljava/util/Optional;"⟩ : MethodName)) at_234 (clo_D l Z a0 n0 hw hEL G1 O1 P1 G3 O3 rG3 oe up lo di sy O5 E5 F5 O_up O_lo O_di O_sy pa cp h W.old hc33 hc46) E_pa (tw97 hw) (tw98 hw) (Or.inl (tw100 hw)) (tw100 hw) (tw99 hw) (tw36 hw) (tw101 hw) (by decide) (lenOf pd14 rfl) rfl rfl (by decide) (by decide) rfl sf0 all0 rfl rfl rfl (by decide) (by decide)
            clear W
            obtain ⟨r59, rfl, q59_1, q59_2⟩ := hQ59
            have z59 : h.size ≤ h59.size := K59.1
            replace W59 := W59.cast (st' := [(.ref r59)]) rfl
            replace W59 := W59.astore (pc' := 239) (L' := #[.val (.int p0), .val (.int p1), .val (.int p2), .val (.int p3), .val (.int s0), .val (.int s1), .val (.ref ca), .val (.int (0 : Int32)), .val (.ref xa), .val (.ref pa), .val (.int mm), .val (.int cp), .val (.ref di), .val (.ref r59)]) at_237 rfl rfl rfl
            replace W59 := W59.aload (pc' := 241) at_239 rfl rfl rfl
            replace W59 := W59.ifnonnullT (pc' := 258) at_241 (by decide) (by decide)
            replace W59 := W59.aload (pc' := 260) at_258 rfl rfl rfl
            obtain ⟨V60, h60, r60, W60, K60, hQ60, SF60⟩ := W59.callV (pc' := 263) (argsL := []) (rest := []) (Wd := 0) (cells' := 7) (slots' := 42) (a := r59) (C := "java/util/Optional") (y := (⟨"java/util/Optional", "isPresent", "()Z"⟩ : MethodName)) (z := (⟨"java/util/Optional", "isPresent", "()Z"⟩ : MethodName)) at_260 (isp_1 l Z a0 n0 hw hEL G1 O1 P1 G3 O3 rG3 oe up lo di sy O5 E5 F5 O_up O_lo O_di O_sy r59 di h59 W59.old q59_2) q59_1 (tw129 hw) (tw89 hw) (Or.inl (tw91 hw)) (tw91 hw) (tw90 hw) (tw85 hw) (tw92 hw) (by decide) (lenOf pd12 rfl) rfl rfl (by decide) (by decide) rfl sf0 all0 rfl rfl rfl (by decide) (by decide)
            clear W59
            obtain ⟨rfl, hs60⟩ := hQ60
            subst hs60
            replace W60 := W60.cast (st' := [(.int (1 : Int32))]) rfl
            replace W60 := W60.ifF (pc' := 266) at_263 (feq (by decide : ¬ ((1 : Int32) = (0 : Int32)))).1 rfl
            replace W60 := W60.aload (pc' := 268) at_266 rfl rfl rfl
            obtain ⟨V61, h61, r61, W61, K61, hQ61, SF61⟩ := W60.callV (pc' := 271) (argsL := []) (rest := []) (Wd := 0) (cells' := 7) (slots' := 42) (a := r59) (C := "java/util/Optional") (y := (⟨"java/util/Optional", "get", "()Ljava/lang/Object;"⟩ : MethodName)) (z := (⟨"java/util/Optional", "get", "()Ljava/lang/Object;"⟩ : MethodName)) at_268 (opt_get l Z a0 n0 hw hEL G1 O1 P1 G3 O3 rG3 oe up lo di sy O5 E5 F5 O_up O_lo O_di O_sy r59 di h59 W60.old q59_2) q59_1 (tw148 hw) (tw149 hw) (Or.inl (tw151 hw)) (tw151 hw) (tw150 hw) (tw85 hw) (tw152 hw) (by decide) (lenOf pd23 rfl) rfl rfl (by decide) (by decide) rfl sf0 all0 rfl rfl rfl (by decide) (by decide)
            clear W60
            obtain ⟨rfl, hs61⟩ := hQ61
            subst hs61
            replace W61 := W61.cast (st' := [(.ref di)]) rfl
            replace W61 := W61.aload (pc' := 273) at_271 rfl rfl rfl
            replace W61 := W61.acmpF (pc' := 276) at_273 rfl rfl (by simp [Jvm.Free.XT.acmp]) rfl
            replace W61 := W61.iconst (pc' := 277) (v := (1 : Int32)) at_276 rfl rfl
            replace W61 := W61.goto (pc' := 281) at_277 (by decide) (by decide)
            exact W61.iret (t := .boolean) at_281 rfl (by simp) (by decide) (by decide) (by decide) (fun V' cv => rfl)
      · replace W := W.icmpF (pc' := 176) at_173 (flt hc32).2.2.1 rfl
        replace W := W.gets (pc' := 179) at_176 (tw153 hw) O_lo rfl
        replace W := W.astore (pc' := 181) (L' := #[.val (.int p0), .val (.int p1), .val (.int p2), .val (.int p3), .val (.int s0), .val (.int s1), .val (.ref ca), .val (.int (0 : Int32)), .val (.ref xa), .val (.ref pa), .val (.int mm), .val (.int cp), .val (.ref lo), .unset]) at_179 rfl rfl rfl
        replace W := W.goto (pc' := 230) at_181 (by decide) (by decide)
        replace W := W.aload (pc' := 232) at_230 rfl rfl rfl
        replace W := W.iload (pc' := 234) at_232 rfl rfl
        obtain ⟨V62, h62, r62, W62, K62, hQ62, SF62⟩ := W.callV (pc' := 237) (argsL := [(.int cp)]) (rest := []) (Wd := 0) (cells' := 7) (slots' := 42) (a := pa) (C := "com/example/lokit/lokit/password/PasswordAlphabet") (y := (⟨"com/example/lokit/lokit/password/PasswordAlphabet", "classOf", "(I)Ljava/util/Optional;"⟩ : MethodName)) (z := (⟨"com/example/lokit/lokit/password/PasswordAlphabet", "classOf", "(I)Ljava/util/Optional;"⟩ : MethodName)) at_234 (clo_L l Z a0 n0 hw hEL G1 O1 P1 G3 O3 rG3 oe up lo di sy O5 E5 F5 O_up O_lo O_di O_sy pa cp h W.old hc2 hc32) E_pa (tw97 hw) (tw98 hw) (Or.inl (tw100 hw)) (tw100 hw) (tw99 hw) (tw36 hw) (tw101 hw) (by decide) (lenOf pd14 rfl) rfl rfl (by decide) (by decide) rfl sf0 all0 rfl rfl rfl (by decide) (by decide)
        clear W
        obtain ⟨r62, rfl, q62_1, q62_2⟩ := hQ62
        have z62 : h.size ≤ h62.size := K62.1
        replace W62 := W62.cast (st' := [(.ref r62)]) rfl
        replace W62 := W62.astore (pc' := 239) (L' := #[.val (.int p0), .val (.int p1), .val (.int p2), .val (.int p3), .val (.int s0), .val (.int s1), .val (.ref ca), .val (.int (0 : Int32)), .val (.ref xa), .val (.ref pa), .val (.int mm), .val (.int cp), .val (.ref lo), .val (.ref r62)]) at_237 rfl rfl rfl
        replace W62 := W62.aload (pc' := 241) at_239 rfl rfl rfl
        replace W62 := W62.ifnonnullT (pc' := 258) at_241 (by decide) (by decide)
        replace W62 := W62.aload (pc' := 260) at_258 rfl rfl rfl
        obtain ⟨V63, h63, r63, W63, K63, hQ63, SF63⟩ := W62.callV (pc' := 263) (argsL := []) (rest := []) (Wd := 0) (cells' := 7) (slots' := 42) (a := r62) (C := "java/util/Optional") (y := (⟨"java/util/Optional", "isPresent", "()Z"⟩ : MethodName)) (z := (⟨"java/util/Optional", "isPresent", "()Z"⟩ : MethodName)) at_260 (isp_1 l Z a0 n0 hw hEL G1 O1 P1 G3 O3 rG3 oe up lo di sy O5 E5 F5 O_up O_lo O_di O_sy r62 lo h62 W62.old q62_2) q62_1 (tw129 hw) (tw89 hw) (Or.inl (tw91 hw)) (tw91 hw) (tw90 hw) (tw85 hw) (tw92 hw) (by decide) (lenOf pd12 rfl) rfl rfl (by decide) (by decide) rfl sf0 all0 rfl rfl rfl (by decide) (by decide)
        clear W62
        obtain ⟨rfl, hs63⟩ := hQ63
        subst hs63
        replace W63 := W63.cast (st' := [(.int (1 : Int32))]) rfl
        replace W63 := W63.ifF (pc' := 266) at_263 (feq (by decide : ¬ ((1 : Int32) = (0 : Int32)))).1 rfl
        replace W63 := W63.aload (pc' := 268) at_266 rfl rfl rfl
        obtain ⟨V64, h64, r64, W64, K64, hQ64, SF64⟩ := W63.callV (pc' := 271) (argsL := []) (rest := []) (Wd := 0) (cells' := 7) (slots' := 42) (a := r62) (C := "java/util/Optional") (y := (⟨"java/util/Optional", "get", "()Ljava/lang/Object;"⟩ : MethodName)) (z := (⟨"java/util/Optional", "get", "()Ljava/lang/Object;"⟩ : MethodName)) at_268 (opt_get l Z a0 n0 hw hEL G1 O1 P1 G3 O3 rG3 oe up lo di sy O5 E5 F5 O_up O_lo O_di O_sy r62 lo h62 W63.old q62_2) q62_1 (tw148 hw) (tw149 hw) (Or.inl (tw151 hw)) (tw151 hw) (tw150 hw) (tw85 hw) (tw152 hw) (by decide) (lenOf pd23 rfl) rfl rfl (by decide) (by decide) rfl sf0 all0 rfl rfl rfl (by decide) (by decide)
        clear W63
        obtain ⟨rfl, hs64⟩ := hQ64
        subst hs64
        replace W64 := W64.cast (st' := [(.ref lo)]) rfl
        replace W64 := W64.aload (pc' := 273) at_271 rfl rfl rfl
        replace W64 := W64.acmpF (pc' := 276) at_273 rfl rfl (by simp [Jvm.Free.XT.acmp]) rfl
        replace W64 := W64.iconst (pc' := 277) (v := (1 : Int32)) at_276 rfl rfl
        replace W64 := W64.goto (pc' := 281) at_277 (by decide) (by decide)
        exact W64.iret (t := .boolean) at_281 rfl (by simp) (by decide) (by decide) (by decide) (fun V' cv => rfl)
  · replace W := W.icmpF (pc' := 147) at_144 (flt hc1).1 rfl
    replace W := W.iload (pc' := 149) at_147 rfl rfl
    replace W := W.bipush (pc' := 151) (v := (90 : Int32)) at_149 rfl rfl
    by_cases hc65 : (90 : Int32) < cp
    · replace W := W.icmpT (pc' := 162) at_151 (tlt hc65).2.2.1 (by decide) (by decide)
      replace W := W.iload (pc' := 164) at_162 rfl rfl
      replace W := W.bipush (pc' := 166) (v := (97 : Int32)) at_164 rfl rfl
      by_cases hc66 : cp < (97 : Int32)
      · replace W := W.icmpT (pc' := 184) at_166 (tlt hc66).1 (by decide) (by decide)
        replace W := W.iload (pc' := 186) at_184 rfl rfl
        replace W := W.bipush (pc' := 188) (v := (48 : Int32)) at_186 rfl rfl
        by_cases hc67 : cp < (48 : Int32)
        · replace W := W.icmpT (pc' := 206) at_188 (tlt hc67).1 (by decide) (by decide)
          replace W := W.iload (pc' := 208) at_206 rfl rfl
          replace W := W.ifF (pc' := 211) at_208 (teq (by decide : (0 : Int32) = (0 : Int32))).2 rfl
          replace W := W.iload (pc' := 213) at_211 rfl rfl
          replace W := W.iload (pc' := 215) at_213 rfl rfl
          by_cases hc68 : cp = s0
          · replace W := W.icmpT (pc' := 225) at_215 (teq hc68).1 (by decide) (by decide)
            replace W := W.gets (pc' := 228) at_225 (tw131 hw) O_sy rfl
            replace W := W.astore (pc' := 230) (L' := #[.val (.int p0), .val (.int p1), .val (.int p2), .val (.int p3), .val (.int s0), .val (.int s1), .val (.ref ca), .val (.int (0 : Int32)), .val (.ref xa), .val (.ref pa), .val (.int mm), .val (.int cp), .val (.ref sy), .unset]) at_228 rfl rfl rfl
            replace W := W.aload (pc' := 232) at_230 rfl rfl rfl
            replace W := W.iload (pc' := 234) at_232 rfl rfl
            obtain ⟨V69, h69, r69, W69, K69, hQ69, SF69⟩ := W.callV (pc' := 237) (argsL := [(.int cp)]) (rest := []) (Wd := 0) (cells' := 7) (slots' := 42) (a := pa) (C := "com/example/lokit/lokit/password/PasswordAlphabet") (y := (⟨"com/example/lokit/lokit/password/PasswordAlphabet", "classOf", "(I)Ljava/util/Optional;"⟩ : MethodName)) (z := (⟨"com/example/lokit/lokit/password/PasswordAlphabet", "classOf", "(I)Ljava/util/Optional;"⟩ : MethodName)) at_234 (clo_S0 l Z a0 n0 hw hEL G1 O1 P1 G3 O3 rG3 oe up lo di sy O5 E5 F5 O_up O_lo O_di O_sy pa cp xa ta kt s0 s1 h W.old F_pa_symbols E_xa F_xa_coder F_xa_value V_ta (pu_lat pu0) (pu_lat pu1) ⟨Or.inr hc65, Or.inl hc66, Or.inl hc67⟩ (by rw [hc68]; exact (pu_lat pu0).1) (by rw [hc68]; exact (pu_lat pu0).2) hc68) E_pa (tw97 hw) (tw98 hw) (Or.inl (tw100 hw)) (tw100 hw) (tw99 hw) (tw36 hw) (tw101 hw) (by decide) (lenOf pd14 rfl) rfl rfl (by decide) (by decide) rfl sf0 all0 rfl rfl rfl (by decide) (by decide)
            clear W
            obtain ⟨r69, rfl, q69_1, q69_2⟩ := hQ69
            have z69 : h.size ≤ h69.size := K69.1
            replace W69 := W69.cast (st' := [(.ref r69)]) rfl
            replace W69 := W69.astore (pc' := 239) (L' := #[.val (.int p0), .val (.int p1), .val (.int p2), .val (.int p3), .val (.int s0), .val (.int s1), .val (.ref ca), .val (.int (0 : Int32)), .val (.ref xa), .val (.ref pa), .val (.int mm), .val (.int cp), .val (.ref sy), .val (.ref r69)]) at_237 rfl rfl rfl
            replace W69 := W69.aload (pc' := 241) at_239 rfl rfl rfl
            replace W69 := W69.ifnonnullT (pc' := 258) at_241 (by decide) (by decide)
            replace W69 := W69.aload (pc' := 260) at_258 rfl rfl rfl
            obtain ⟨V70, h70, r70, W70, K70, hQ70, SF70⟩ := W69.callV (pc' := 263) (argsL := []) (rest := []) (Wd := 0) (cells' := 7) (slots' := 42) (a := r69) (C := "java/util/Optional") (y := (⟨"java/util/Optional", "isPresent", "()Z"⟩ : MethodName)) (z := (⟨"java/util/Optional", "isPresent", "()Z"⟩ : MethodName)) at_260 (isp_1 l Z a0 n0 hw hEL G1 O1 P1 G3 O3 rG3 oe up lo di sy O5 E5 F5 O_up O_lo O_di O_sy r69 sy h69 W69.old q69_2) q69_1 (tw129 hw) (tw89 hw) (Or.inl (tw91 hw)) (tw91 hw) (tw90 hw) (tw85 hw) (tw92 hw) (by decide) (lenOf pd12 rfl) rfl rfl (by decide) (by decide) rfl sf0 all0 rfl rfl rfl (by decide) (by decide)
            clear W69
            obtain ⟨rfl, hs70⟩ := hQ70
            subst hs70
            replace W70 := W70.cast (st' := [(.int (1 : Int32))]) rfl
            replace W70 := W70.ifF (pc' := 266) at_263 (feq (by decide : ¬ ((1 : Int32) = (0 : Int32)))).1 rfl
            replace W70 := W70.aload (pc' := 268) at_266 rfl rfl rfl
            obtain ⟨V71, h71, r71, W71, K71, hQ71, SF71⟩ := W70.callV (pc' := 271) (argsL := []) (rest := []) (Wd := 0) (cells' := 7) (slots' := 42) (a := r69) (C := "java/util/Optional") (y := (⟨"java/util/Optional", "get", "()Ljava/lang/Object;"⟩ : MethodName)) (z := (⟨"java/util/Optional", "get", "()Ljava/lang/Object;"⟩ : MethodName)) at_268 (opt_get l Z a0 n0 hw hEL G1 O1 P1 G3 O3 rG3 oe up lo di sy O5 E5 F5 O_up O_lo O_di O_sy r69 sy h69 W70.old q69_2) q69_1 (tw148 hw) (tw149 hw) (Or.inl (tw151 hw)) (tw151 hw) (tw150 hw) (tw85 hw) (tw152 hw) (by decide) (lenOf pd23 rfl) rfl rfl (by decide) (by decide) rfl sf0 all0 rfl rfl rfl (by decide) (by decide)
            clear W70
            obtain ⟨rfl, hs71⟩ := hQ71
            subst hs71
            replace W71 := W71.cast (st' := [(.ref sy)]) rfl
            replace W71 := W71.aload (pc' := 273) at_271 rfl rfl rfl
            replace W71 := W71.acmpF (pc' := 276) at_273 rfl rfl (by simp [Jvm.Free.XT.acmp]) rfl
            replace W71 := W71.iconst (pc' := 277) (v := (1 : Int32)) at_276 rfl rfl
            replace W71 := W71.goto (pc' := 281) at_277 (by decide) (by decide)
            exact W71.iret (t := .boolean) at_281 rfl (by simp) (by decide) (by decide) (by decide) (fun V' cv => rfl)
          · replace W := W.icmpF (pc' := 218) at_215 (feq hc68).1 rfl
            replace W := W.iload (pc' := 220) at_218 rfl rfl
            replace W := W.iload (pc' := 222) at_220 rfl rfl
            by_cases hc72 : cp = s1
            · replace W := W.icmpF (pc' := 225) at_222 (teq hc72).2 rfl
              replace W := W.gets (pc' := 228) at_225 (tw131 hw) O_sy rfl
              replace W := W.astore (pc' := 230) (L' := #[.val (.int p0), .val (.int p1), .val (.int p2), .val (.int p3), .val (.int s0), .val (.int s1), .val (.ref ca), .val (.int (0 : Int32)), .val (.ref xa), .val (.ref pa), .val (.int mm), .val (.int cp), .val (.ref sy), .unset]) at_228 rfl rfl rfl
              replace W := W.aload (pc' := 232) at_230 rfl rfl rfl
              replace W := W.iload (pc' := 234) at_232 rfl rfl
              obtain ⟨V73, h73, r73, W73, K73, hQ73, SF73⟩ := W.callV (pc' := 237) (argsL := [(.int cp)]) (rest := []) (Wd := 0) (cells' := 7) (slots' := 42) (a := pa) (C := "com/example/lokit/lokit/password/PasswordAlphabet") (y := (⟨"com/example/lokit/lokit/password/PasswordAlphabet", "classOf", "(I)Ljava/util/Optional;"⟩ : MethodName)) (z := (⟨"com/example/lokit/lokit/password/PasswordAlphabet", "classOf", "(I)Ljava/util/Optional;"⟩ : MethodName)) at_234 (clo_S1 l Z a0 n0 hw hEL G1 O1 P1 G3 O3 rG3 oe up lo di sy O5 E5 F5 O_up O_lo O_di O_sy pa cp xa ta kt s0 s1 h W.old F_pa_symbols E_xa F_xa_coder F_xa_value V_ta (pu_lat pu0) (pu_lat pu1) ⟨Or.inr hc65, Or.inl hc66, Or.inl hc67⟩ (by rw [hc72]; exact (pu_lat pu1).1) (by rw [hc72]; exact (pu_lat pu1).2) hc68 hc72) E_pa (tw97 hw) (tw98 hw) (Or.inl (tw100 hw)) (tw100 hw) (tw99 hw) (tw36 hw) (tw101 hw) (by decide) (lenOf pd14 rfl) rfl rfl (by decide) (by decide) rfl sf0 all0 rfl rfl rfl (by decide) (by decide)
              clear W
              obtain ⟨r73, rfl, q73_1, q73_2⟩ := hQ73
              have z73 : h.size ≤ h73.size := K73.1
              replace W73 := W73.cast (st' := [(.ref r73)]) rfl
              replace W73 := W73.astore (pc' := 239) (L' := #[.val (.int p0), .val (.int p1), .val (.int p2), .val (.int p3), .val (.int s0), .val (.int s1), .val (.ref ca), .val (.int (0 : Int32)), .val (.ref xa), .val (.ref pa), .val (.int mm), .val (.int cp), .val (.ref sy), .val (.ref r73)]) at_237 rfl rfl rfl
              replace W73 := W73.aload (pc' := 241) at_239 rfl rfl rfl
              replace W73 := W73.ifnonnullT (pc' := 258) at_241 (by decide) (by decide)
              replace W73 := W73.aload (pc' := 260) at_258 rfl rfl rfl
              obtain ⟨V74, h74, r74, W74, K74, hQ74, SF74⟩ := W73.callV (pc' := 263) (argsL := []) (rest := []) (Wd := 0) (cells' := 7) (slots' := 42) (a := r73) (C := "java/util/Optional") (y := (⟨"java/util/Optional", "isPresent", "()Z"⟩ : MethodName)) (z := (⟨"java/util/Optional", "isPresent", "()Z"⟩ : MethodName)) at_260 (isp_1 l Z a0 n0 hw hEL G1 O1 P1 G3 O3 rG3 oe up lo di sy O5 E5 F5 O_up O_lo O_di O_sy r73 sy h73 W73.old q73_2) q73_1 (tw129 hw) (tw89 hw) (Or.inl (tw91 hw)) (tw91 hw) (tw90 hw) (tw85 hw) (tw92 hw) (by decide) (lenOf pd12 rfl) rfl rfl (by decide) (by decide) rfl sf0 all0 rfl rfl rfl (by decide) (by decide)
              clear W73
              obtain ⟨rfl, hs74⟩ := hQ74
              subst hs74
              replace W74 := W74.cast (st' := [(.int (1 : Int32))]) rfl
              replace W74 := W74.ifF (pc' := 266) at_263 (feq (by decide : ¬ ((1 : Int32) = (0 : Int32)))).1 rfl
              replace W74 := W74.aload (pc' := 268) at_266 rfl rfl rfl
              obtain ⟨V75, h75, r75, W75, K75, hQ75, SF75⟩ := W74.callV (pc' := 271) (argsL := []) (rest := []) (Wd := 0) (cells' := 7) (slots' := 42) (a := r73) (C := "java/util/Optional") (y := (⟨"java/util/Optional", "get", "()Ljava/lang/Object;"⟩ : MethodName)) (z := (⟨"java/util/Optional", "get", "()Ljava/lang/Object;"⟩ : MethodName)) at_268 (opt_get l Z a0 n0 hw hEL G1 O1 P1 G3 O3 rG3 oe up lo di sy O5 E5 F5 O_up O_lo O_di O_sy r73 sy h73 W74.old q73_2) q73_1 (tw148 hw) (tw149 hw) (Or.inl (tw151 hw)) (tw151 hw) (tw150 hw) (tw85 hw) (tw152 hw) (by decide) (lenOf pd23 rfl) rfl rfl (by decide) (by decide) rfl sf0 all0 rfl rfl rfl (by decide) (by decide)
              clear W74
              obtain ⟨rfl, hs75⟩ := hQ75
              subst hs75
              replace W75 := W75.cast (st' := [(.ref sy)]) rfl
              replace W75 := W75.aload (pc' := 273) at_271 rfl rfl rfl
              replace W75 := W75.acmpF (pc' := 276) at_273 rfl rfl (by simp [Jvm.Free.XT.acmp]) rfl
              replace W75 := W75.iconst (pc' := 277) (v := (1 : Int32)) at_276 rfl rfl
              replace W75 := W75.goto (pc' := 281) at_277 (by decide) (by decide)
              exact W75.iret (t := .boolean) at_281 rfl (by simp) (by decide) (by decide) (by decide) (fun V' cv => rfl)
            · replace W := W.icmpT (pc' := 230) at_222 (feq hc72).2 (by decide) (by decide)
              replace W := W.aload (pc' := 232) at_230 rfl rfl rfl
              replace W := W.iload (pc' := 234) at_232 rfl rfl
              obtain ⟨V76, h76, r76, W76, K76, hQ76, SF76⟩ := W.callV (pc' := 237) (argsL := [(.int cp)]) (rest := []) (Wd := 0) (cells' := 6) (slots' := 41) (a := pa) (C := "com/example/lokit/lokit/password/PasswordAlphabet") (y := (⟨"com/example/lokit/lokit/password/PasswordAlphabet", "classOf", "(I)Ljava/util/Optional;"⟩ : MethodName)) (z := (⟨"com/example/lokit/lokit/password/PasswordAlphabet", "classOf", "(I)Ljava/util/Optional;"⟩ : MethodName)) at_234 (clo_N2 l Z a0 n0 hw hEL G1 O1 P1 G3 O3 rG3 oe up lo di sy O5 E5 F5 O_up O_lo O_di O_sy pa cp xa ta kt s0 s1 h W.old F_pa_symbols E_xa F_xa_coder F_xa_value V_ta (pu_lat pu0) (pu_lat pu1) ⟨Or.inr hc65, Or.inl hc66, Or.inl hc67⟩ hc68 hc72) E_pa (tw97 hw) (tw98 hw) (Or.inl (tw100 hw)) (tw100 hw) (tw99 hw) (tw36 hw) (tw101 hw) (by decide) (lenOf pd14 rfl) rfl rfl (by decide) (by decide) rfl sf0 all0 rfl rfl rfl (by decide) (by decide)
              clear W
              obtain ⟨rfl, hs76⟩ := hQ76
              subst hs76
              replace W76 := W76.cast (st' := [(.ref oe)]) rfl
              replace W76 := W76.astore (pc' := 239) (L' := #[.val (.int p0), .val (.int p1), .val (.int p2), .val (.int p3), .val (.int s0), .val (.int s1), .val (.ref ca), .val (.int (0 : Int32)), .val (.ref xa), .val (.ref pa), .val (.int mm), .val (.int cp), .val .null, .val (.ref oe)]) at_237 rfl rfl rfl
              replace W76 := W76.aload (pc' := 241) at_239 rfl rfl rfl
              replace W76 := W76.ifnonnullF (pc' := 244) at_241 rfl
              replace W76 := W76.aload (pc' := 246) at_244 rfl rfl rfl
              have e77 := E5.ext W76.old.2
              have f78 := F5.ext W76.old.2
              obtain ⟨V79, h79, r79, W79, K79, hQ79, SF79⟩ := W76.callV (pc' := 249) (argsL := []) (rest := []) (Wd := 0) (cells' := 6) (slots' := 41) (a := oe) (C := "java/util/Optional") (y := (⟨"java/util/Optional", "isPresent", "()Z"⟩ : MethodName)) (z := (⟨"java/util/Optional", "isPresent", "()Z"⟩ : MethodName)) at_246 (isp_0 l Z a0 n0 hw hEL G1 O1 P1 G3 O3 rG3 oe up lo di sy O5 E5 F5 O_up O_lo O_di O_sy oe h W76.old f78) e77 (tw129 hw) (tw89 hw) (Or.inl (tw91 hw)) (tw91 hw) (tw90 hw) (tw85 hw) (tw92 hw) (by decide) (lenOf pd12 rfl) rfl rfl (by decide) (by decide) rfl sf0 all0 rfl rfl rfl (by decide) (by decide)
              clear W76
              obtain ⟨rfl, hs79⟩ := hQ79
              subst hs79
              replace W79 := W79.cast (st' := [(.int (0 : Int32))]) rfl
              replace W79 := W79.ifF (pc' := 252) at_249 (teq (by decide : (0 : Int32) = (0 : Int32))).2 rfl
              replace W79 := W79.iconst (pc' := 253) (v := (1 : Int32)) at_252 rfl rfl
              replace W79 := W79.goto (pc' := 257) at_253 (by decide) (by decide)
              exact W79.iret (t := .boolean) at_257 rfl (by simp) (by decide) (by decide) (by decide) (fun V' cv => rfl)
        · replace W := W.icmpF (pc' := 191) at_188 (flt hc67).1 rfl
          replace W := W.iload (pc' := 193) at_191 rfl rfl
          replace W := W.bipush (pc' := 195) (v := (57 : Int32)) at_193 rfl rfl
          by_cases hc80 : (57 : Int32) < cp
          · replace W := W.icmpT (pc' := 206) at_195 (tlt hc80).2.2.1 (by decide) (by decide)
            replace W := W.iload (pc' := 208) at_206 rfl rfl
            replace W := W.ifF (pc' := 211) at_208 (teq (by decide : (0 : Int32) = (0 : Int32))).2 rfl
            replace W := W.iload (pc' := 213) at_211 rfl rfl
            replace W := W.iload (pc' := 215) at_213 rfl rfl
            by_cases hc81 : cp = s0
            · replace W := W.icmpT (pc' := 225) at_215 (teq hc81).1 (by decide) (by decide)
              replace W := W.gets (pc' := 228) at_225 (tw131 hw) O_sy rfl
              replace W := W.astore (pc' := 230) (L' := #[.val (.int p0), .val (.int p1), .val (.int p2), .val (.int p3), .val (.int s0), .val (.int s1), .val (.ref ca), .val (.int (0 : Int32)), .val (.ref xa), .val (.ref pa), .val (.int mm), .val (.int cp), .val (.ref sy), .unset]) at_228 rfl rfl rfl
              replace W := W.aload (pc' := 232) at_230 rfl rfl rfl
              replace W := W.iload (pc' := 234) at_232 rfl rfl
              obtain ⟨V82, h82, r82, W82, K82, hQ82, SF82⟩ := W.callV (pc' := 237) (argsL := [(.int cp)]) (rest := []) (Wd := 0) (cells' := 7) (slots' := 42) (a := pa) (C := "com/example/lokit/lokit/password/PasswordAlphabet") (y := (⟨"com/example/lokit/lokit/password/PasswordAlphabet", "classOf", "(I)Ljava/util/Optional;"⟩ : MethodName)) (z := (⟨"com/example/lokit/lokit/password/PasswordAlphabet", "classOf", "(I)Ljava/util/Optional;"⟩ : MethodName)) at_234 (clo_S0 l Z a0 n0 hw hEL G1 O1 P1 G3 O3 rG3 oe up lo di sy O5 E5 F5 O_up O_lo O_di O_sy pa cp xa ta kt s0 s1 h W.old F_pa_symbols E_xa F_xa_coder F_xa_value V_ta (pu_lat pu0) (pu_lat pu1) ⟨Or.inr hc65, Or.inl hc66, Or.inr hc80⟩ (by rw [hc81]; exact (pu_lat pu0).1) (by rw [hc81]; exact (pu_lat pu0).2) hc81) E_pa (tw97 hw) (tw98 hw) (Or.inl (tw100 hw)) (tw100 hw) (tw99 hw) (tw36 hw) (tw101 hw) (by decide) (lenOf pd14 rfl) rfl rfl (by decide) (by decide) rfl sf0 all0 rfl rfl rfl (by decide) (by decide)
              clear W
              obtain ⟨r82, rfl, q82_1, q82_2⟩ := hQ82
              have z82 : h.size ≤ h82.size := K82.1
              replace W82 := W82.cast (st' := [(.ref r82)]) rfl
              replace W82 := W82.astore (pc' := 239) (L' := #[.val (.int p0), .val (.int p1), .val (.int p2), .val (.int p3), .val (.int s0), .val (.int s1), .val (.ref ca), .val (.int (0 : Int32)), .val (.ref xa), .val (.ref pa), .val (.int mm), .val (.int cp), .val (.ref sy), .val (.ref r82)]) at_237 rfl rfl rfl
              replace W82 := W82.aload (pc' := 241) at_239 rfl rfl rfl
              replace W82 := W82.ifnonnullT (pc' := 258) at_241 (by decide) (by decide)
              replace W82 := W82.aload (pc' := 260) at_258 rfl rfl rfl
              obtain ⟨V83, h83, r83, W83, K83, hQ83, SF83⟩ := W82.callV (pc' := 263) (argsL := []) (rest := []) (Wd := 0) (cells' := 7) (slots' := 42) (a := r82) (C := "java/util/Optional") (y := (⟨"java/util/Optional", "isPresent", "()Z"⟩ : MethodName)) (z := (⟨"java/util/Optional", "isPresent", "()Z"⟩ : MethodName)) at_260 (isp_1 l Z a0 n0 hw hEL G1 O1 P1 G3 O3 rG3 oe up lo di sy O5 E5 F5 O_up O_lo O_di O_sy r82 sy h82 W82.old q82_2) q82_1 (tw129 hw) (tw89 hw) (Or.inl (tw91 hw)) (tw91 hw) (tw90 hw) (tw85 hw) (tw92 hw) (by decide) (lenOf pd12 rfl) rfl rfl (by decide) (by decide) rfl sf0 all0 rfl rfl rfl (by decide) (by decide)
              clear W82
              obtain ⟨rfl, hs83⟩ := hQ83
              subst hs83
              replace W83 := W83.cast (st' := [(.int (1 : Int32))]) rfl
              replace W83 := W83.ifF (pc' := 266) at_263 (feq (by decide : ¬ ((1 : Int32) = (0 : Int32)))).1 rfl
              replace W83 := W83.aload (pc' := 268) at_266 rfl rfl rfl
              obtain ⟨V84, h84, r84, W84, K84, hQ84, SF84⟩ := W83.callV (pc' := 271) (argsL := []) (rest := []) (Wd := 0) (cells' := 7) (slots' := 42) (a := r82) (C := "java/util/Optional") (y := (⟨"java/util/Optional", "get", "()Ljava/lang/Object;"⟩ : MethodName)) (z := (⟨"java/util/Optional", "get", "()Ljava/lang/Object;"⟩ : MethodName)) at_268 (opt_get l Z a0 n0 hw hEL G1 O1 P1 G3 O3 rG3 oe up lo di sy O5 E5 F5 O_up O_lo O_di O_sy r82 sy h82 W83.old q82_2) q82_1 (tw148 hw) (tw149 hw) (Or.inl (tw151 hw)) (tw151 hw) (tw150 hw) (tw85 hw) (tw152 hw) (by decide) (lenOf pd23 rfl) rfl rfl (by decide) (by decide) rfl sf0 all0 rfl rfl rfl (by decide) (by decide)
              clear W83
              obtain ⟨rfl, hs84⟩ := hQ84
              subst hs84
              replace W84 := W84.cast (st' := [(.ref sy)]) rfl
              replace W84 := W84.aload (pc' := 273) at_271 rfl rfl rfl
              replace W84 := W84.acmpF (pc' := 276) at_273 rfl rfl (by simp [Jvm.Free.XT.acmp]) rfl
              replace W84 := W84.iconst (pc' := 277) (v := (1 : Int32)) at_276 rfl rfl
              replace W84 := W84.goto (pc' := 281) at_277 (by decide) (by decide)
              exact W84.iret (t := .boolean) at_281 rfl (by simp) (by decide) (by decide) (by decide) (fun V' cv => rfl)
            · replace W := W.icmpF (pc' := 218) at_215 (feq hc81).1 rfl
              replace W := W.iload (pc' := 220) at_218 rfl rfl
              replace W := W.iload (pc' := 222) at_220 rfl rfl
              by_cases hc85 : cp = s1
              · replace W := W.icmpF (pc' := 225) at_222 (teq hc85).2 rfl
                replace W := W.gets (pc' := 228) at_225 (tw131 hw) O_sy rfl
                replace W := W.astore (pc' := 230) (L' := #[.val (.int p0), .val (.int p1), .val (.int p2), .val (.int p3), .val (.int s0), .val (.int s1), .val (.ref ca), .val (.int (0 : Int32)), .val (.ref xa), .val (.ref pa), .val (.int mm), .val (.int cp), .val (.ref sy), .unset]) at_228 rfl rfl rfl
                replace W := W.aload (pc' := 232) at_230 rfl rfl rfl
                replace W := W.iload (pc' := 234) at_232 rfl rfl
                obtain ⟨V86, h86, r86, W86, K86, hQ86, SF86⟩ := W.callV (pc' := 237) (argsL := [(.int cp)]) (rest := []) (Wd := 0) (cells' := 7) (slots' := 42) (a := pa) (C := "com/example/lokit/lokit/password/PasswordAlphabet") (y := (⟨"com/example/lokit/lokit/password/PasswordAlphabet", "classOf", "(I)Ljava/util/Optional;"⟩ : MethodName)) (z := (⟨"com/example/lokit/lokit/password/PasswordAlphabet", "classOf", "(I)Ljava/util/Optional;"⟩ : MethodName)) at_234 (clo_S1 l Z a0 n0 hw hEL G1 O1 P1 G3 O3 rG3 oe up lo di sy O5 E5 F5 O_up O_lo O_di O_sy pa cp xa ta kt s0 s1 h W.old F_pa_symbols E_xa F_xa_coder F_xa_value V_ta (pu_lat pu0) (pu_lat pu1) ⟨Or.inr hc65, Or.inl hc66, Or.inr hc80⟩ (by rw [hc85]; exact (pu_lat pu1).1) (by rw [hc85]; exact (pu_lat pu1).2) hc81 hc85) E_pa (tw97 hw) (tw98 hw) (Or.inl (tw100 hw)) (tw100 hw) (tw99 hw) (tw36 hw) (tw101 hw) (by decide) (lenOf pd14 rfl) rfl rfl (by decide) (by decide) rfl sf0 all0 rfl rfl rfl (by decide) (by decide)
                clear W
                obtain ⟨r86, rfl, q86_1, q86_2⟩ := hQ86
                have z86 : h.size ≤ h86.size := K86.1
                replace W86 := W86.cast (st' := [(.ref r86)]) rfl
                replace W86 := W86.astore (pc' := 239) (L' := #[.val (.int p0), .val (.int p1), .val (.int p2), .val (.int p3), .val (.int s0), .val (.int s1), .val (.ref ca), .val (.int (0 : Int32)), .val (.ref xa), .val (.ref pa), .val (.int mm), .val (.int cp), .val (.ref sy), .val (.ref r86)]) at_237 rfl rfl rfl
                replace W86 := W86.aload (pc' := 241) at_239 rfl rfl rfl
                replace W86 := W86.ifnonnullT (pc' := 258) at_241 (by decide) (by decide)
                replace W86 := W86.aload (pc' := 260) at_258 rfl rfl rfl
                obtain ⟨V87, h87, r87, W87, K87, hQ87, SF87⟩ := W86.callV (pc' := 263) (argsL := []) (rest := []) (Wd := 0) (cells' := 7) (slots' := 42) (a := r86) (C := "java/util/Optional") (y := (⟨"java/util/Optional", "isPresent", "()Z"⟩ : MethodName)) (z := (⟨"java/util/Optional", "isPresent", "()Z"⟩ : MethodName)) at_260 (isp_1 l Z a0 n0 hw hEL G1 O1 P1 G3 O3 rG3 oe up lo di sy O5 E5 F5 O_up O_lo O_di O_sy r86 sy h86 W86.old q86_2) q86_1 (tw129 hw) (tw89 hw) (Or.inl (tw91 hw)) (tw91 hw) (tw90 hw) (tw85 hw) (tw92 hw) (by decide) (lenOf pd12 rfl) rfl rfl (by decide) (by decide) rfl sf0 all0 rfl rfl rfl (by decide) (by decide)
                clear W86
                obtain ⟨rfl, hs87⟩ := hQ87
                subst hs87
                replace W87 := W87.cast (st' := [(.int (1 : Int32))]) rfl
                replace W87 := W87.ifF (pc' := 266) at_263 (feq (by decide : ¬ ((1 : Int32) = (0 : Int32)))).1 rfl
                replace W87 := W87.aload (pc' := 268) at_266 rfl rfl rfl
                obtain ⟨V88, h88, r88, W88, K88, hQ88, SF88⟩ := W87.callV (pc' := 271) (argsL := []) (rest := []) (Wd := 0) (cells' := 7) (slots' := 42) (a := r86) (C := "java/util/Optional") (y := (⟨"java/util/Optional", "get", "()Ljava/lang/Object;"⟩ : MethodName)) (z := (⟨"java/util/Optional", "get", "()Ljava/lang/Object;"⟩ : MethodName)) at_268 (opt_get l Z a0 n0 hw hEL G1 O1 P1 G3 O3 rG3 oe up lo di sy O5 E5 F5 O_up O_lo O_di O_sy r86 sy h86 W87.old q86_2) q86_1 (tw148 hw) (tw149 hw) (Or.inl (tw151 hw)) (tw151 hw) (tw150 hw) (tw85 hw) (tw152 hw) (by decide) (lenOf pd23 rfl) rfl rfl (by decide) (by decide) rfl sf0 all0 rfl rfl rfl (by decide) (by decide)
                clear W87
                obtain ⟨rfl, hs88⟩ := hQ88
                subst hs88
                replace W88 := W88.cast (st' := [(.ref sy)]) rfl
                replace W88 := W88.aload (pc' := 273) at_271 rfl rfl rfl
                replace W88 := W88.acmpF (pc' := 276) at_273 rfl rfl (by simp [Jvm.Free.XT.acmp]) rfl
                replace W88 := W88.iconst (pc' := 277) (v := (1 : Int32)) at_276 rfl rfl
                replace W88 := W88.goto (pc' := 281) at_277 (by decide) (by decide)
                exact W88.iret (t := .boolean) at_281 rfl (by simp) (by decide) (by decide) (by decide) (fun V' cv => rfl)
              · replace W := W.icmpT (pc' := 230) at_222 (feq hc85).2 (by decide) (by decide)
                replace W := W.aload (pc' := 232) at_230 rfl rfl rfl
                replace W := W.iload (pc' := 234) at_232 rfl rfl
                obtain ⟨V89, h89, r89, W89, K89, hQ89, SF89⟩ := W.callV (pc' := 237) (argsL := [(.int cp)]) (rest := []) (Wd := 0) (cells' := 6) (slots' := 41) (a := pa) (C := "com/example/lokit/lokit/password/PasswordAlphabet") (y := (⟨"com/example/lokit/lokit/password/PasswordAlphabet", "classOf", "(I)Ljava/util/Optional;"⟩ : MethodName)) (z := (⟨"com/example/lokit/lokit/password/PasswordAlphabet", "classOf", "(I)Ljava/util/Optional;"⟩ : MethodName)) at_234 (clo_N2 l Z a0 n0 hw hEL G1 O1 P1 G3 O3 rG3 oe up lo di sy O5 E5 F5 O_up O_lo O_di O_sy pa cp xa ta kt s0 s1 h W.old F_pa_symbols E_xa F_xa_coder F_xa_value V_ta (pu_lat pu0) (pu_lat pu1) ⟨Or.inr hc65, Or.inl hc66, Or.inr hc80⟩ hc81 hc85) E_pa (tw97 hw) (tw98 hw) (Or.inl (tw100 hw)) (tw100 hw) (tw99 hw) (tw36 hw) (tw101 hw) (by decide) (lenOf pd14 rfl) rfl rfl (by decide) (by decide) rfl sf0 all0 rfl rfl rfl (by decide) (by decide)
                clear W
                obtain ⟨rfl, hs89⟩ := hQ89
                subst hs89
                replace W89 := W89.cast (st' := [(.ref oe)]) rfl
                replace W89 := W89.astore (pc' := 239) (L' := #[.val (.int p0), .val (.int p1), .val (.int p2), .val (.int p3), .val (.int s0), .val (.int s1), .val (.ref ca), .val (.int (0 : Int32)), .val (.ref xa), .val (.ref pa), .val (.int mm), .val (.int cp), .val .null, .val (.ref oe)]) at_237 rfl rfl rfl
                replace W89 := W89.aload (pc' := 241) at_239 rfl rfl rfl
                replace W89 := W89.ifnonnullF (pc' := 244) at_241 rfl
                replace W89 := W89.aload (pc' := 246) at_244 rfl rfl rfl
                have e90 := E5.ext W89.old.2
                have f91 := F5.ext W89.old.2
                obtain ⟨V92, h92, r92, W92, K92, hQ92, SF92⟩ := W89.callV (pc' := 249) (argsL := []) (rest := []) (Wd := 0) (cells' := 6) (slots' := 41) (a := oe) (C := "java/util/Optional") (y := (⟨"java/util/Optional", "isPresent", "()Z"⟩ : MethodName)) (z := (⟨"java/util/Optional", "isPresent", "()Z"⟩ : MethodName)) at_246 (isp_0 l Z a0 n0 hw hEL G1 O1 P1 G3 O3 rG3 oe up lo di sy O5 E5 F5 O_up O_lo O_di O_sy oe h W89.old f91) e90 (tw129 hw) (tw89 hw) (Or.inl (tw91 hw)) (tw91 hw) (tw90 hw) (tw85 hw) (tw92 hw) (by decide) (lenOf pd12 rfl) rfl rfl (by decide) (by decide) rfl sf0 all0 rfl rfl rfl (by decide) (by decide)
                clear W89
                obtain ⟨rfl, hs92⟩ := hQ92
                subst hs92
                replace W92 := W92.cast (st' := [(.int (0 : Int32))]) rfl
                replace W92 := W92.ifF (pc' := 252) at_249 (teq (by decide : (0 : Int32) = (0 : Int32))).2 rfl
                replace W92 := W92.iconst (pc' := 253) (v := (1 : Int32)) at_252 rfl rfl
                replace W92 := W92.goto (pc' := 257) at_253 (by decide) (by decide)
                exact W92.iret (t := .boolean) at_257 rfl (by simp) (by decide) (by decide) (by decide) (fun V' cv => rfl)
          · replace W := W.icmpF (pc' := 198) at_195 (flt hc80).2.2.1 rfl
            replace W := W.gets (pc' := 201) at_198 (tw156 hw) O_di rfl
            replace W := W.astore (pc' := 203) (L' := #[.val (.int p0), .val (.int p1), .val (.int p2), .val (.int p3), .val (.int s0), .val (.int s1), .val (.ref ca), .val (.int (0 : Int32)), .val (.ref xa), .val (.ref pa), .val (.int mm), .val (.int cp), .val (.ref di), .unset]) at_201 rfl rfl rfl
            replace W := W.goto (pc' := 230) at_203 (by decide) (by decide)
            replace W := W.aload (pc' := 232) at_230 rfl rfl rfl
            replace W := W.iload (pc' := 234) at_232 rfl rfl
            obtain ⟨V93, h93, r93, W93, K93, hQ93, SF93⟩ := W.callV (pc' := 237) (argsL := [(.int cp)]) (rest := []) (Wd := 0) (cells' := 7) (slots' := 42) (a := pa) (C := "com/example/lokit/lokit/password/PasswordAlphabet") (y := (⟨"com/example/lokit/lokit/password/PasswordAlphabet", "classOf", "(I)Ljava/util/Optional;"⟩ : MethodName)) (z := (⟨"com/example/lokit/lokit/password/PasswordAlphabet", "classOf", "(I)Ljava/util/Optional;"⟩ : MethodName)) at_234 (clo_D l Z a0 n0 hw hEL G1 O1 P1 G3 O3 rG3 oe up lo di sy O5 E5 F5 O_up O_lo O_di O_sy pa cp h W.old hc67 hc80) E_pa (tw97 hw) (tw98 hw) (Or.inl (tw100 hw)) (tw100 hw) (tw99 hw) (tw36 hw) (tw101 hw) (by decide) (lenOf pd14 rfl) rfl rfl (by decide) (by decide) rfl sf0 all0 rfl rfl rfl (by decide) (by decide)
            clear W
            obtain ⟨r93, rfl, q93_1, q93_2⟩ := hQ93
            have z93 : h.size ≤ h93.size := K93.1
            replace W93 := W93.cast (st' := [(.ref r93)]) rfl
            replace W93 := W93.astore (pc' := 239) (L' := #[.val (.int p0), .val (.int p1), .val (.int p2), .val (.int p3), .val (.int s0), .val (.int s1), .val (.ref ca), .val (.int (0 : Int32)), .val (.ref xa), .val (.ref pa), .val (.int mm), .val (.int cp), .val (.ref di), .val (.ref r93)]) at_237 rfl rfl rfl
            replace W93 := W93.aload (pc' := 241) at_239 rfl rfl rfl
            replace W93 := W93.ifnonnullT (pc' := 258) at_241 (by decide) (by decide)
            replace W93 := W93.aload (pc' := 260) at_258 rfl rfl rfl
            obtain ⟨V94, h94, r94, W94, K94, hQ94, SF94⟩ := W93.callV (pc' := 263) (argsL := []) (rest := []) (Wd := 0) (cells' := 7) (slots' := 42) (a := r93) (C := "java/util/Optional") (y := (⟨"java/util/Optional", "isPresent", "()Z"⟩ : MethodName)) (z := (⟨"java/util/Optional", "isPresent", "()Z"⟩ : MethodName)) at_260 (isp_1 l Z a0 n0 hw hEL G1 O1 P1 G3 O3 rG3 oe up lo di sy O5 E5 F5 O_up O_lo O_di O_sy r93 di h93 W93.old q93_2) q93_1 (tw129 hw) (tw89 hw) (Or.inl (tw91 hw)) (tw91 hw) (tw90 hw) (tw85 hw) (tw92 hw) (by decide) (lenOf pd12 rfl) rfl rfl (by decide) (by decide) rfl sf0 all0 rfl rfl rfl (by decide) (by decide)
            clear W93
            obtain ⟨rfl, hs94⟩ := hQ94
            subst hs94
            replace W94 := W94.cast (st' := [(.int (1 : Int32))]) rfl
            replace W94 := W94.ifF (pc' := 266) at_263 (feq (by decide : ¬ ((1 : Int32) = (0 : Int32)))).1 rfl
            replace W94 := W94.aload (pc' := 268) at_266 rfl rfl rfl
            obtain ⟨V95, h95, r95, W95, K95, hQ95, SF95⟩ := W94.callV (pc' := 271) (argsL := []) (rest := []) (Wd := 0) (cells' := 7) (slots' := 42) (a := r93) (C := "java/util/Optional") (y := (⟨"java/util/Optional", "get", "()Ljava/lang/Object;"⟩ : MethodName)) (z := (⟨"java/util/Optional", "get", "()Ljava/lang/Object;"⟩ : MethodName)) at_268 (opt_get l Z a0 n0 hw hEL G1 O1 P1 G3 O3 rG3 oe up lo di sy O5 E5 F5 O_up O_lo O_di O_sy r93 di h93 W94.old q93_2) q93_1 (tw148 hw) (tw149 hw) (Or.inl (tw151 hw)) (tw151 hw) (tw150 hw) (tw85 hw) (tw152 hw) (by decide) (lenOf pd23 rfl) rfl rfl (by decide) (by decide) rfl sf0 all0 rfl rfl rfl (by decide) (by decide)
            clear W94
            obtain ⟨rfl, hs95⟩ := hQ95
            subst hs95
            replace W95 := W95.cast (st' := [(.ref di)]) rfl
            replace W95 := W95.aload (pc' := 273) at_271 rfl rfl rfl
            replace W95 := W95.acmpF (pc' := 276) at_273 rfl rfl (by simp [Jvm.Free.XT.acmp]) rfl
            replace W95 := W95.iconst (pc' := 277) (v := (1 : Int32)) at_276 rfl rfl
            replace W95 := W95.goto (pc' := 281) at_277 (by decide) (by decide)
            exact W95.iret (t := .boolean) at_281 rfl (by simp) (by decide) (by decide) (by decide) (fun V' cv => rfl)
      · replace W := W.icmpF (pc' := 169) at_166 (flt hc66).1 rfl
        replace W := W.iload (pc' := 171) at_169 rfl rfl
        replace W := W.bipush (pc' := 173) (v := (122 : Int32)) at_171 rfl rfl
        by_cases hc96 : (122 : Int32) < cp
        · replace W := W.icmpT (pc' := 184) at_173 (tlt hc96).2.2.1 (by decide) (by decide)
          replace W := W.iload (pc' := 186) at_184 rfl rfl
          replace W := W.bipush (pc' := 188) (v := (48 : Int32)) at_186 rfl rfl
          by_cases hc97 : cp < (48 : Int32)
          · replace W := W.icmpT (pc' := 206) at_188 (tlt hc97).1 (by decide) (by decide)
            replace W := W.iload (pc' := 208) at_206 rfl rfl
            replace W := W.ifF (pc' := 211) at_208 (teq (by decide : (0 : Int32) = (0 : Int32))).2 rfl
            replace W := W.iload (pc' := 213) at_211 rfl rfl
            replace W := W.iload (pc' := 215) at_213 rfl rfl
            by_cases hc98 : cp = s0
            · replace W := W.icmpT (pc' := 225) at_215 (teq hc98).1 (by decide) (by decide)
              replace W := W.gets (pc' := 228) at_225 (tw131 hw) O_sy rfl
              replace W := W.astore (pc' := 230) (L' := #[.val (.int p0), .val (.int p1), .val (.int p2), .val (.int p3), .val (.int s0), .val (.int s1), .val (.ref ca), .val (.int (0 : Int32)), .val (.ref xa), .val (.ref pa), .val (.int mm), .val (.int cp), .val (.ref sy), .unset]) at_228 rfl rfl rfl
              replace W := W.aload (pc' := 232) at_230 rfl rfl rfl
              replace W := W.iload (pc' := 234) at_232 rfl rfl
              obtain ⟨V99, h99, r99, W99, K99, hQ99, SF99⟩ := W.callV (pc' := 237) (argsL := [(.int cp)]) (rest := []) (Wd := 0) (cells' := 7) (slots' := 42) (a := pa) (C := "com/example/lokit/lokit/password/PasswordAlphabet") (y := (⟨"com/example/lokit/lokit/password/PasswordAlphabet", "classOf", "(I)Ljava/util/Optional;"⟩ : MethodName)) (z := (⟨"com/example/lokit/lokit/password/PasswordAlphabet", "classOf", "(I)Ljava/util/Optional;"⟩ : MethodName)) at_234 (clo_S0 l Z a0 n0 hw hEL G1 O1 P1 G3 O3 rG3 oe up lo di sy O5 E5 F5 O_up O_lo O_di O_sy pa cp xa ta kt s0 s1 h W.old F_pa_symbols E_xa F_xa_coder F_xa_value V_ta (pu_lat pu0) (pu_lat pu1) ⟨Or.inr hc65, Or.inr hc96, Or.inl hc97⟩ (by rw [hc98]; exact (pu_lat pu0).1) (by rw [hc98]; exact (pu_lat pu0).2) hc98) E_pa (tw97 hw) (tw98 hw) (Or.inl (tw100 hw)) (tw100 hw) (tw99 hw) (tw36 hw) (tw101 hw) (by decide) (lenOf pd14 rfl) rfl rfl (by decide) (by decide) rfl sf0 all0 rfl rfl rfl (by decide) (by decide)
              clear W
              obtain ⟨r99, rfl, q99_1, q99_2⟩ := hQ99
              have z99 : h.size ≤ h99.size := K99.1
              replace W99 := W99.cast (st' := [(.ref r99)]) rfl
              replace W99 := W99.astore (pc' := 239) (L' := #[.val (.int p0), .val (.int p1), .val (.int p2), .val (.int p3), .val (.int s0), .val (.int s1), .val (.ref ca), .val (.int (0 : Int32)), .val (.ref xa), .val (.ref pa), .val (.int mm), .val (.int cp), .val (.ref sy), .val (.ref r99)]) at_237 rfl rfl rfl
              replace W99 := W99.aload (pc' := 241) at_239 rfl rfl rfl
              replace W99 := W99.ifnonnullT (pc' := 258) at_241 (by decide) (by decide)
              replace W99 := W99.aload (pc' := 260) at_258 rfl rfl rfl
              obtain ⟨V100, h100, r100, W100, K100, hQ100, SF100⟩ := W99.callV (pc' := 263) (argsL := []) (rest := []) (Wd := 0) (cells' := 7) (slots' := 42) (a := r99) (C := "java/util/Optional") (y := (⟨"java/util/Optional", "isPresent", "()Z"⟩ : MethodName)) (z := (⟨"java/util/Optional", "isPresent", "()Z"⟩ : MethodName)) at_260 (isp_1 l Z a0 n0 hw hEL G1 O1 P1 G3 O3 rG3 oe up lo di sy O5 E5 F5 O_up O_lo O_di O_sy r99 sy h99 W99.old q99_2) q99_1 (tw129 hw) (tw89 hw) (Or.inl (tw91 hw)) (tw91 hw) (tw90 hw) (tw85 hw) (tw92 hw) (by decide) (lenOf pd12 rfl) rfl rfl (by decide) (by decide) rfl sf0 all0 rfl rfl rfl (by decide) (by decide)
              clear W99
              obtain ⟨rfl, hs100⟩ := hQ100
              subst hs100
              replace W100 := W100.cast (st' := [(.int (1 : Int32))]) rfl
              replace W100 := W100.ifF (pc' := 266) at_263 (feq (by decide : ¬ ((1 : Int32) = (0 : Int32)))).1 rfl
              replace W100 := W100.aload (pc' := 268) at_266 rfl rfl rfl
              obtain ⟨V101, h101, r101, W101, K101, hQ101, SF101⟩ := W100.callV (pc' := 271) (argsL := []) (rest := []) (Wd := 0) (cells' := 7) (slots' := 42) (a := r99) (C := "java/util/Optional") (y := (⟨"java/util/Optional", "get", "()Ljava/lang/Object;"⟩ : MethodName)) (z := (⟨"java/util/Optional", "get", "()Ljava/lang/Object;"⟩ : MethodName)) at_268 (opt_get l Z a0 n0 hw hEL G1 O1 P1 G3 O3 rG3 oe up lo di sy O5 E5 F5 O_up O_lo O_di O_sy r99 sy h99 W100.old q99_2) q99_1 (tw148 hw) (tw149 hw) (Or.inl (tw151 hw)) (tw151 hw) (tw150 hw) (tw85 hw) (tw152 hw) (by decide) (lenOf pd23 rfl) rfl rfl (by decide) (by decide) rfl sf0 all0 rfl rfl rfl (by decide) (by decide)
              clear W100
              obtain ⟨rfl, hs101⟩ := hQ101
              subst hs101
              replace W101 := W101.cast (st' := [(.ref sy)]) rfl
              replace W101 := W101.aload (pc' := 273) at_271 rfl rfl rfl
              replace W101 := W101.acmpF (pc' := 276) at_273 rfl rfl (by simp [Jvm.Free.XT.acmp]) rfl
              replace W101 := W101.iconst (pc' := 277) (v := (1 : Int32)) at_276 rfl rfl
              replace W101 := W101.goto (pc' := 281) at_277 (by decide) (by decide)
              exact W101.iret (t := .boolean) at_281 rfl (by simp) (by decide) (by decide) (by decide) (fun V' cv => rfl)
            · replace W := W.icmpF (pc' := 218) at_215 (feq hc98).1 rfl
              replace W := W.iload (pc' := 220) at_218 rfl rfl
              replace W := W.iload (pc' := 222) at_220 rfl rfl
              by_cases hc102 : cp = s1
              · replace W := W.icmpF (pc' := 225) at_222 (teq hc102).2 rfl
                replace W := W.gets (pc' := 228) at_225 (tw131 hw) O_sy rfl
                replace W := W.astore (pc' := 230) (L' := #[.val (.int p0), .val (.int p1), .val (.int p2), .val (.int p3), .val (.int s0), .val (.int s1), .val (.ref ca), .val (.int (0 : Int32)), .val (.ref xa), .val (.ref pa), .val (.int mm), .val (.int cp), .val (.ref sy), .unset]) at_228 rfl rfl rfl
                replace W := W.aload (pc' := 232) at_230 rfl rfl rfl
                replace W := W.iload (pc' := 234) at_232 rfl rfl
                obtain ⟨V103, h103, r103, W103, K103, hQ103, SF103⟩ := W.callV (pc' := 237) (argsL := [(.int cp)]) (rest := []) (Wd := 0) (cells' := 7) (slots' := 42) (a := pa) (C := "com/example/lokit/lokit/password/PasswordAlphabet") (y := (⟨"com/example/lokit/lokit/password/PasswordAlphabet", "classOf", "(I)Ljava/util/Optional;"⟩ : MethodName)) (z := (⟨"com/example/lokit/lokit/password/PasswordAlphabet", "classOf", "(I)Ljava/util/Optional;"⟩ : MethodName)) at_234 (clo_S1 l Z a0 n0 hw hEL G1 O1 P1 G3 O3 rG3 oe up lo di sy O5 E5 F5 O_up O_lo O_di O_sy pa cp xa ta kt s0 s1 h W.old F_pa_symbols E_xa F_xa_coder F_xa_value V_ta (pu_lat pu0) (pu_lat pu1) ⟨Or.inr hc65, Or.inr hc96, Or.inl hc97⟩ (by rw [hc102]; exact (pu_lat pu1).1) (by rw [hc102]; exact (pu_lat pu1).2) hc98 hc102) E_pa (tw97 hw) (tw98 hw) (Or.inl (tw100 hw)) (tw100 hw) (tw99 hw) (tw36 hw) (tw101 hw) (by decide) (lenOf pd14 rfl) rfl rfl (by decide) (by decide) rfl sf0 all0 rfl rfl rfl (by decide) (by decide)
                clear W
                obtain ⟨r103, rfl, q103_1, q103_2⟩ := hQ103
                have z103 : h.size ≤ h103.size := K103.1
                replace W103 := W103.cast (st' := [(.ref r103)]) rfl
                replace W103 := W103.astore (pc' := 239) (L' := #[.val (.int p0), .val (.int p1), .val (.int p2), .val (.int p3), .val (.int s0), .val (.int s1), .val (.ref ca), .val (.int (0 : Int32)), .val (.ref xa), .val (.ref pa), .val (.int mm), .val (.int cp), .val (.ref sy), .val (.ref r103)]) at_237 rfl rfl rfl
                replace W103 := W103.aload (pc' := 241) at_239 rfl rfl rfl
                replace W103 := W103.ifnonnullT (pc' := 258) at_241 (by decide) (by decide)
                replace W103 := W103.aload (pc' := 260) at_258 rfl rfl rfl
                obtain ⟨V104, h104, r104, W104, K104, hQ104, SF104⟩ := W103.callV (pc' := 263) (argsL := []) (rest := []) (Wd := 0) (cells' := 7) (slots' := 42) (a := r103) (C := "java/util/Optional") (y := (⟨"java/util/Optional", "isPresent", "()Z"⟩ : MethodName)) (z := (⟨"java/util/Optional", "isPresent", "()Z"⟩ : MethodName)) at_260 (isp_1 l Z a0 n0 hw hEL G1 O1 P1 G3 O3 rG3 oe up lo di sy O5 E5 F5 O_up O_lo O_di O_sy r103 sy h103 W103.old q103_2) q103_1 (tw129 hw) (tw89 hw) (Or.inl (tw91 hw)) (tw91 hw) (tw90 hw) (tw85 hw) (tw92 hw) (by decide) (lenOf pd12 rfl) rfl rfl (by decide) (by decide) rfl sf0 all0 rfl rfl rfl (by decide) (by decide)
                clear W103
                obtain ⟨rfl, hs104⟩ := hQ104
                subst hs104
                replace W104 := W104.cast (st' := [(.int (1 : Int32))]) rfl
                replace W104 := W104.ifF (pc' := 266) at_263 (feq (by decide : ¬ ((1 : Int32) = (0 : Int32)))).1 rfl
                replace W104 := W104.aload (pc' := 268) at_266 rfl rfl rfl
                obtain ⟨V105, h105, r105, W105, K105, hQ105, SF105⟩ := W104.callV (pc' := 271) (argsL := []) (rest := []) (Wd := 0) (cells' := 7) (slots' := 42) (a := r103) (C := "java/util/Optional") (y := (⟨"java/util/Optional", "get", "()Ljava/lang/Object;"⟩ : MethodName)) (z := (⟨"java/util/Optional", "get", "()Ljava/lang/Object;"⟩ : MethodName)) at_268 (opt_get l Z a0 n0 hw hEL G1 O1 P1 G3 O3 rG3 oe up lo di sy O5 E5 F5 O_up O_lo O_di O_sy r103 sy h103 W104.old q103_2) q103_1 (tw148 hw) (tw149 hw) (Or.inl (tw151 hw)) (tw151 hw) (tw150 hw) (tw85 hw) (tw152 hw) (by decide) (lenOf pd23 rfl) rfl rfl (by decide) (by decide) rfl sf0 all0 rfl rfl rfl (by decide) (by decide)
                clear W104
                obtain ⟨rfl, hs105⟩ := hQ105
                subst hs105
                replace W105 := W105.cast (st' := [(.ref sy)]) rfl
                replace W105 := W105.aload (pc' := 273) at_271 rfl rfl rfl
                replace W105 := W105.acmpF (pc' := 276) at_273 rfl rfl (by simp [Jvm.Free.XT.acmp]) rfl
                replace W105 := W105.iconst (pc' := 277) (v := (1 : Int32)) at_276 rfl rfl
                replace W105 := W105.goto (pc' := 281) at_277 (by decide) (by decide)
                exact W105.iret (t := .boolean) at_281 rfl (by simp) (by decide) (by decide) (by decide) (fun V' cv => rfl)
              · replace W := W.icmpT (pc' := 230) at_222 (feq hc102).2 (by decide) (by decide)
                replace W := W.aload (pc' := 232) at_230 rfl rfl rfl
                replace W := W.iload (pc' := 234) at_232 rfl rfl
                obtain ⟨V106, h106, r106, W106, K106, hQ106, SF106⟩ := W.callV (pc' := 237) (argsL := [(.int cp)]) (rest := []) (Wd := 0) (cells' := 6) (slots' := 41) (a := pa) (C := "com/example/lokit/lokit/password/PasswordAlphabet") (y := (⟨"com/example/lokit/lokit/password/PasswordAlphabet", "classOf", "(I)Ljava/util/Optional;"⟩ : MethodName)) (z := (⟨"com/example/lokit/lokit/password/PasswordAlphabet", "classOf", "(I)Ljava/util/Optional;"⟩ : MethodName)) at_234 (clo_N2 l Z a0 n0 hw hEL G1 O1 P1 G3 O3 rG3 oe up lo di sy O5 E5 F5 O_up O_lo O_di O_sy pa cp xa ta kt s0 s1 h W.old F_pa_symbols E_xa F_xa_coder F_xa_value V_ta (pu_lat pu0) (pu_lat pu1) ⟨Or.inr hc65, Or.inr hc96, Or.inl hc97⟩ hc98 hc102) E_pa (tw97 hw) (tw98 hw) (Or.inl (tw100 hw)) (tw100 hw) (tw99 hw) (tw36 hw) (tw101 hw) (by decide) (lenOf pd14 rfl) rfl rfl (by decide) (by decide) rfl sf0 all0 rfl rfl rfl (by decide) (by decide)
                clear W
                obtain ⟨rfl, hs106⟩ := hQ106
                subst hs106
                replace W106 := W106.cast (st' := [(.ref oe)]) rfl
                replace W106 := W106.astore (pc' := 239) (L' := #[.val (.int p0), .val (.int p1), .val (.int p2), .val (.int p3), .val (.int s0), .val (.int s1), .val (.ref ca), .val (.int (0 : Int32)), .val (.ref xa), .val (.ref pa), .val (.int mm), .val (.int cp), .val .null, .val (.ref oe)]) at_237 rfl rfl rfl
                replace W106 := W106.aload (pc' := 241) at_239 rfl rfl rfl
                replace W106 := W106.ifnonnullF (pc' := 244) at_241 rfl
                replace W106 := W106.aload (pc' := 246) at_244 rfl rfl rfl
                have e107 := E5.ext W106.old.2
                have f108 := F5.ext W106.old.2
                obtain ⟨V109, h109, r109, W109, K109, hQ109, SF109⟩ := W106.callV (pc' := 249) (argsL := []) (rest := []) (Wd := 0) (cells' := 6) (slots' := 41) (a := oe) (C := "java/util/Optional") (y := (⟨"java/util/Optional", "isPresent", "()Z"⟩ : MethodName)) (z := (⟨"java/util/Optional", "isPresent", "()Z"⟩ : MethodName)) at_246 (isp_0 l Z a0 n0 hw hEL G1 O1 P1 G3 O3 rG3 oe up lo di sy O5 E5 F5 O_up O_lo O_di O_sy oe h W106.old f108) e107 (tw129 hw) (tw89 hw) (Or.inl (tw91 hw)) (tw91 hw) (tw90 hw) (tw85 hw) (tw92 hw) (by decide) (lenOf pd12 rfl) rfl rfl (by decide) (by decide) rfl sf0 all0 rfl rfl rfl (by decide) (by decide)
                clear W106
                obtain ⟨rfl, hs109⟩ := hQ109
                subst hs109
                replace W109 := W109.cast (st' := [(.int (0 : Int32))]) rfl
                replace W109 := W109.ifF (pc' := 252) at_249 (teq (by decide : (0 : Int32) = (0 : Int32))).2 rfl
                replace W109 := W109.iconst (pc' := 253) (v := (1 : Int32)) at_252 rfl rfl
                replace W109 := W109.goto (pc' := 257) at_253 (by decide) (by decide)
                exact W109.iret (t := .boolean) at_257 rfl (by simp) (by decide) (by decide) (by decide) (fun V' cv => rfl)
          · replace W := W.icmpF (pc' := 191) at_188 (flt hc97).1 rfl
            replace W := W.iload (pc' := 193) at_191 rfl rfl
            replace W := W.bipush (pc' := 195) (v := (57 : Int32)) at_193 rfl rfl
            by_cases hc110 : (57 : Int32) < cp
            · replace W := W.icmpT (pc' := 206) at_195 (tlt hc110).2.2.1 (by decide) (by decide)
              replace W := W.iload (pc' := 208) at_206 rfl rfl
              replace W := W.ifF (pc' := 211) at_208 (teq (by decide : (0 : Int32) = (0 : Int32))).2 rfl
              replace W := W.iload (pc' := 213) at_211 rfl rfl
              replace W := W.iload (pc' := 215) at_213 rfl rfl
              by_cases hc111 : cp = s0
              · replace W := W.icmpT (pc' := 225) at_215 (teq hc111).1 (by decide) (by decide)
                replace W := W.gets (pc' := 228) at_225 (tw131 hw) O_sy rfl
                replace W := W.astore (pc' := 230) (L' := #[.val (.int p0), .val (.int p1), .val (.int p2), .val (.int p3), .val (.int s0), .val (.int s1), .val (.ref ca), .val (.int (0 : Int32)), .val (.ref xa), .val (.ref pa), .val (.int mm), .val (.int cp), .val (.ref sy), .unset]) at_228 rfl rfl rfl
                replace W := W.aload (pc' := 232) at_230 rfl rfl rfl
                replace W := W.iload (pc' := 234) at_232 rfl rfl
                obtain ⟨V112, h112, r112, W112, K112, hQ112, SF112⟩ := W.callV (pc' := 237) (argsL := [(.int cp)]) (rest := []) (Wd := 0) (cells' := 7) (slots' := 42) (a := pa) (C := "com/example/lokit/lokit/password/PasswordAlphabet") (y := (⟨"com/example/lokit/lokit/password/PasswordAlphabet", "classOf", "(I)Ljava/util/Optional;"⟩ : MethodName)) (z := (⟨"com/example/lokit/lokit/password/PasswordAlphabet", "classOf", "(I)Ljava/util/Optional;"⟩ : MethodName)) at_234 (clo_S0 l Z a0 n0 hw hEL G1 O1 P1 G3 O3 rG3 oe up lo di sy O5 E5 F5 O_up O_lo O_di O_sy pa cp xa ta kt s0 s1 h W.old F_pa_symbols E_xa F_xa_coder F_xa_value V_ta (pu_lat pu0) (pu_lat pu1) ⟨Or.inr hc65, Or.inr hc96, Or.inr hc110⟩ (by rw [hc111]; exact (pu_lat pu0).1) (by rw [hc111]; exact (pu_lat pu0).2) hc111) E_pa (tw97 hw) (tw98 hw) (Or.inl (tw100 hw)) (tw100 hw) (tw99 hw) (tw36 hw) (tw101 hw) (by decide) (lenOf pd14 rfl) rfl rfl (by decide) (by decide) rfl sf0 all0 rfl rfl rfl (by decide) (by decide)
                clear W
                obtain ⟨r112, rfl, q112_1, q112_2⟩ := hQ112
                have z112 : h.size ≤ h112.size := K112.1
                replace W112 := W112.cast (st' := [(.ref r112)]) rfl
                replace W112 := W112.astore (pc' := 239) (L' := #[.val (.int p0), .val (.int p1), .val (.int p2), .val (.int p3), .val (.int s0), .val (.int s1), .val (.ref ca), .val (.int (0 : Int32)), .val (.ref xa), .val (.ref pa), .val (.int mm), .val (.int cp), .val (.ref sy), .val (.ref r112)]) at_237 rfl rfl rfl
                replace W112 := W112.aload (pc' := 241) at_239 rfl rfl rfl
                replace W112 := W112.ifnonnullT (pc' := 258) at_241 (by decide) (by decide)
                replace W112 := W112.aload (pc' := 260) at_258 rfl rfl rfl
                obtain ⟨V113, h113, r113, W113, K113, hQ113, SF113⟩ := W112.callV (pc' := 263) (argsL := []) (rest := []) (Wd := 0) (cells' := 7) (slots' := 42) (a := r112) (C := "java/util/Optional") (y := (⟨"java/util/Optional", "isPresent", "()Z"⟩ : MethodName)) (z := (⟨"java/util/Optional", "isPresent", "()Z"⟩ : MethodName)) at_260 (isp_1 l Z a0 n0 hw hEL G1 O1 P1 G3 O3 rG3 oe up lo di sy O5 E5 F5 O_up O_lo O_di O_sy r112 sy h112 W112.old q112_2) q112_1 (tw129 hw) (tw89 hw) (Or.inl (tw91 hw)) (tw91 hw) (tw90 hw) (tw85 hw) (tw92 hw) (by decide) (lenOf pd12 rfl) rfl rfl (by decide) (by decide) rfl sf0 all0 rfl rfl rfl (by decide) (by decide)
                clear W112
                obtain ⟨rfl, hs113⟩ := hQ113
                subst hs113
                replace W113 := W113.cast (st' := [(.int (1 : Int32))]) rfl
                replace W113 := W113.ifF (pc' := 266) at_263 (feq (by decide : ¬ ((1 : Int32) = (0 : Int32)))).1 rfl
                replace W113 := W113.aload (pc' := 268) at_266 rfl rfl rfl
                obtain ⟨V114, h114, r114, W114, K114, hQ114, SF114⟩ := W113.callV (pc' := 271) (argsL := []) (rest := []) (Wd := 0) (cells' := 7) (slots' := 42) (a := r112) (C := "java/util/Optional") (y := (⟨"java/util/Optional", "get", "()Ljava/lang/Object;"⟩ : MethodName)) (z := (⟨"java/util/Optional", "get", "()Ljava/lang/Object;"⟩ : MethodName)) at_268 (opt_get l Z a0 n0 hw hEL G1 O1 P1 G3 O3 rG3 oe up lo di sy O5 E5 F5 O_up O_lo O_di O_sy r112 sy h112 W113.old q112_2) q112_1 (tw148 hw) (tw149 hw) (Or.inl (tw151 hw)) (tw151 hw) (tw150 hw) (tw85 hw) (tw152 hw) (by decide) (lenOf pd23 rfl) rfl rfl (by decide) (by decide) rfl sf0 all0 rfl rfl rfl (by decide) (by decide)
                clear W113
                obtain ⟨rfl, hs114⟩ := hQ114
                subst hs114
                replace W114 := W114.cast (st' := [(.ref sy)]) rfl
                replace W114 := W114.aload (pc' := 273) at_271 rfl rfl rfl
                replace W114 := W114.acmpF (pc' := 276) at_273 rfl rfl (by simp [Jvm.Free.XT.acmp]) rfl
                replace W114 := W114.iconst (pc' := 277) (v := (1 : Int32)) at_276 rfl rfl
                replace W114 := W114.goto (pc' := 281) at_277 (by decide) (by decide)
                exact W114.iret (t := .boolean) at_281 rfl (by simp) (by decide) (by decide) (by decide) (fun V' cv => rfl)
              · replace W := W.icmpF (pc' := 218) at_215 (feq hc111).1 rfl
                replace W := W.iload (pc' := 220) at_218 rfl rfl
                replace W := W.iload (pc' := 222) at_220 rfl rfl
                by_cases hc115 : cp = s1
                · replace W := W.icmpF (pc' := 225) at_222 (teq hc115).2 rfl
                  replace W := W.gets (pc' := 228) at_225 (tw131 hw) O_sy rfl
                  replace W := W.astore (pc' := 230) (L' := #[.val (.int p0), .val (.int p1), .val (.int p2), .val (.int p3), .val (.int s0), .val (.int s1), .val (.ref ca), .val (.int (0 : Int32)), .val (.ref xa), .val (.ref pa), .val (.int mm), .val (.int cp), .val (.ref sy), .unset]) at_228 rfl rfl rfl
                  replace W := W.aload (pc' := 232) at_230 rfl rfl rfl
                  replace W := W.iload (pc' := 234) at_232 rfl rfl
                  obtain ⟨V116, h116, r116, W116, K116, hQ116, SF116⟩ := W.callV (pc' := 237) (argsL := [(.int cp)]) (rest := []) (Wd := 0) (cells' := 7) (slots' := 42) (a := pa) (C := "com/example/lokit/lokit/password/PasswordAlphabet") (y := (⟨"com/example/lokit/lokit/password/PasswordAlphabet", "classOf", "(I)Ljava/util/Optional;"⟩ : MethodName)) (z := (⟨"com/example/lokit/lokit/password/PasswordAlphabet", "classOf", "(I)Ljava/util/Optional;"⟩ : MethodName)) at_234 (clo_S1 l Z a0 n0 hw hEL G1 O1 P1 G3 O3 rG3 oe up lo di sy O5 E5 F5 O_up O_lo O_di O_sy pa cp xa ta kt s0 s1 h W.old F_pa_symbols E_xa F_xa_coder F_xa_value V_ta (pu_lat pu0) (pu_lat pu1) ⟨Or.inr hc65, Or.inr hc96, Or.inr hc110⟩ (by rw [hc115]; exact (pu_lat pu1).1) (by rw [hc115]; exact (pu_lat pu1).2) hc111 hc115) E_pa (tw97 hw) (tw98 hw) (Or.inl (tw100 hw)) (tw100 hw) (tw99 hw) (tw36 hw) (tw101 hw) (by decide) (lenOf pd14 rfl) rfl rfl (by decide) (by decide) rfl sf0 all0 rfl rfl rfl (by decide) (by decide)
                  clear W
                  obtain ⟨r116, rfl, q116_1, q116_2⟩ := hQ116
                  have z116 : h.size ≤ h116.size := K116.1
                  replace W116 := W116.cast (st' := [(.ref r116)]) rfl
                  replace W116 := W116.astore (pc' := 239) (L' := #[.val (.int p0), .val (.int p1), .val (.int p2), .val (.int p3), .val (.int s0), .val (.int s1), .val (.ref ca), .val (.int (0 : Int32)), .val (.ref xa), .val (.ref pa), .val (.int mm), .val (.int cp), .val (.ref sy), .val (.ref r116)]) at_237 rfl rfl rfl
                  replace W116 := W116.aload (pc' := 241) at_239 rfl rfl rfl
                  replace W116 := W116.ifnonnullT (pc' := 258) at_241 (by decide) (by decide)
                  replace W116 := W116.aload (pc' := 260) at_258 rfl rfl rfl
                  obtain ⟨V117, h117, r117, W117, K117, hQ117, SF117⟩ := W116.callV (pc' := 263) (argsL := []) (rest := []) (Wd := 0) (cells' := 7) (slots' := 42) (a := r116) (C := "java/util/Optional") (y := (⟨"java/util/Optional", "isPresent", "()Z"⟩ : MethodName)) (z := (⟨"java/util/Optional", "isPresent", "()Z"⟩ : MethodName)) at_260 (isp_1 l Z a0 n0 hw hEL G1 O1 P1 G3 O3 rG3 oe up lo di sy O5 E5 F5 O_up O_lo O_di O_sy r116 sy h116 W116.old q116_2) q116_1 (tw129 hw) (tw89 hw) (Or.inl (tw91 hw)) (tw91 hw) (tw90 hw) (tw85 hw) (tw92 hw) (by decide) (lenOf pd12 rfl) rfl rfl (by decide) (by decide) rfl sf0 all0 rfl rfl rfl (by decide) (by decide)
                  clear W116
                  obtain ⟨rfl, hs117⟩ := hQ117
                  subst hs117
                  replace W117 := W117.cast (st' := [(.int (1 : Int32))]) rfl
                  replace W117 := W117.ifF (pc' := 266) at_263 (feq (by decide : ¬ ((1 : Int32) = (0 : Int32)))).1 rfl
                  replace W117 := W117.aload (pc' := 268) at_266 rfl rfl rfl
                  obtain ⟨V118, h118, r118, W118, K118, hQ118, SF118⟩ := W117.callV (pc' := 271) (argsL := []) (rest := []) (Wd := 0) (cells' := 7) (slots' := 42) (a := r116) (C := "java/util/Optional") (y := (⟨"java/util/Optional", "get", "()Ljava/lang/Object;"⟩ : MethodName)) (z := (⟨"java/util/Optional", "get", "()Ljava/lang/Object;"⟩ : MethodName)) at_268 (opt_get l Z a0 n0 hw hEL G1 O1 P1 G3 O3 rG3 oe up lo di sy O5 E5 F5 O_up O_lo O_di O_sy r116 sy h116 W117.old q116_2) q116_1 (tw148 hw) (tw149 hw) (Or.inl (tw151 hw)) (tw151 hw) (tw150 hw) (tw85 hw) (tw152 hw) (by decide) (lenOf pd23 rfl) rfl rfl (by decide) (by decide) rfl sf0 all0 rfl rfl rfl (by decide) (by decide)
                  clear W117
                  obtain ⟨rfl, hs118⟩ := hQ118
                  subst hs118
                  replace W118 := W118.cast (st' := [(.ref sy)]) rfl
                  replace W118 := W118.aload (pc' := 273) at_271 rfl rfl rfl
                  replace W118 := W118.acmpF (pc' := 276) at_273 rfl rfl (by simp [Jvm.Free.XT.acmp]) rfl
                  replace W118 := W118.iconst (pc' := 277) (v := (1 : Int32)) at_276 rfl rfl
                  replace W118 := W118.goto (pc' := 281) at_277 (by decide) (by decide)
                  exact W118.iret (t := .boolean) at_281 rfl (by simp) (by decide) (by decide) (by decide) (fun V' cv => rfl)
                · replace W := W.icmpT (pc' := 230) at_222 (feq hc115).2 (by decide) (by decide)
                  replace W := W.aload (pc' := 232) at_230 rfl rfl rfl
                  replace W := W.iload (pc' := 234) at_232 rfl rfl
                  obtain ⟨V119, h119, r119, W119, K119, hQ119, SF119⟩ := W.callV (pc' := 237) (argsL := [(.int cp)]) (rest := []) (Wd := 0) (cells' := 6) (slots' := 41) (a := pa) (C := "com/example/lokit/lokit/password/PasswordAlphabet") (y := (⟨"com/example/lokit/lokit/password/PasswordAlphabet", "classOf", "(I)Ljava/util/Optional;"⟩ : MethodName)) (z := (⟨"com/example/lokit/lokit/password/PasswordAlphabet", "classOf", "(I)Ljava/util/Optional;"⟩ : MethodName)) at_234 (clo_N2 l Z a0 n0 hw hEL G1 O1 P1 G3 O3 rG3 oe up lo di sy O5 E5 F5 O_up O_lo O_di O_sy pa cp xa ta kt s0 s1 h W.old F_pa_symbols E_xa F_xa_coder F_xa_value V_ta (pu_lat pu0) (pu_lat pu1) ⟨Or.inr hc65, Or.inr hc96, Or.inr hc110⟩ hc111 hc115) E_pa (tw97 hw) (tw98 hw) (Or.inl (tw100 hw)) (tw100 hw) (tw99 hw) (tw36 hw) (tw101 hw) (by decide) (lenOf pd14 rfl) rfl rfl (by decide) (by decide) rfl sf0 all0 rfl rfl rfl (by decide) (by decide)
                  clear W
                  obtain ⟨rfl, hs119⟩ := hQ119
                  subst hs119
                  replace W119 := W119.cast (st' := [(.ref oe)]) rfl
                  replace W119 := W119.astore (pc' := 239) (L' := #[.val (.int p0), .val (.int p1), .val (.int p2), .val (.int p3), .val (.int s0), .val (.int s1), .val (.ref ca), .val (.int (0 : Int32)), .val (.ref xa), .val (.ref pa), .val (.int mm), .val (.int cp), .val .null, .val (.ref oe)]) at_237 rfl rfl rfl
                  replace W119 := W119.aload (pc' := 241) at_239 rfl rfl rfl
                  replace W119 := W119.ifnonnullF (pc' := 244) at_241 rfl
                  replace W119 := W119.aload (pc' := 246) at_244 rfl rfl rfl
                  have e120 := E5.ext W119.old.2
                  have f121 := F5.ext W119.old.2
                  obtain ⟨V122, h122, r122, W122, K122, hQ122, SF122⟩ := W119.callV (pc' := 249) (argsL := []) (rest := []) (Wd := 0) (cells' := 6) (slots' := 41) (a := oe) (C := "java/util/Optional") (y := (⟨"java/util/Optional", "isPresent", "()Z"⟩ : MethodName)) (z := (⟨"java/util/Optional", "isPresent", "()Z"⟩ : MethodName)) at_246 (isp_0 l Z a0 n0 hw hEL G1 O1 P1 G3 O3 rG3 oe up lo di sy O5 E5 F5 O_up O_lo O_di O_sy oe h W119.old f121) e120 (tw129 hw) (tw89 hw) (Or.inl (tw91 hw)) (tw91 hw) (tw90 hw) (tw85 hw) (tw92 hw) (by decide) (lenOf pd12 rfl) rfl rfl (by decide) (by decide) rfl sf0 all0 rfl rfl rfl (by decide) (by decide)
                  clear W119
                  obtain ⟨rfl, hs122⟩ := hQ122
                  subst hs122
                  replace W122 := W122.cast (st' := [(.int (0 : Int32))]) rfl
                  replace W122 := W122.ifF (pc' := 252) at_249 (teq (by decide : (0 : Int32) = (0 : Int32))).2 rfl
                  replace W122 := W122.iconst (pc' := 253) (v := (1 : Int32)) at_252 rfl rfl
                  replace W122 := W122.goto (pc' := 257) at_253 (by decide) (by decide)
                  exact W122.iret (t := .boolean) at_257 rfl (by simp) (by decide) (by decide) (by decide) (fun V' cv => rfl)
            · replace W := W.icmpF (pc' := 198) at_195 (flt hc110).2.2.1 rfl
              replace W := W.gets (pc' := 201) at_198 (tw156 hw) O_di rfl
              replace W := W.astore (pc' := 203) (L' := #[.val (.int p0), .val (.int p1), .val (.int p2), .val (.int p3), .val (.int s0), .val (.int s1), .val (.ref ca), .val (.int (0 : Int32)), .val (.ref xa), .val (.ref pa), .val (.int mm), .val (.int cp), .val (.ref di), .unset]) at_201 rfl rfl rfl
              replace W := W.goto (pc' := 230) at_203 (by decide) (by decide)
              replace W := W.aload (pc' := 232) at_230 rfl rfl rfl
              replace W := W.iload (pc' := 234) at_232 rfl rfl
              obtain ⟨V123, h123, r123, W123, K123, hQ123, SF123⟩ := W.callV (pc' := 237) (argsL := [(.int cp)]) (rest := []) (Wd := 0) (cells' := 7) (slots' := 42) (a := pa) (C := "com/example/lokit/lokit/password/PasswordAlphabet") (y := (⟨"com/example/lokit/lokit/password/PasswordAlphabet", "classOf", "(I)Ljava/util/Optional;"⟩ : MethodName)) (z := (⟨"com/example/lokit/lokit/password/PasswordAlphabet", "classOf", "(I)Ljava/util/Optional;"⟩ : MethodName)) at_234 (clo_D l Z a0 n0 hw hEL G1 O1 P1 G3 O3 rG3 oe up lo di sy O5 E5 F5 O_up O_lo O_di O_sy pa cp h W.old hc97 hc110) E_pa (tw97 hw) (tw98 hw) (Or.inl (tw100 hw)) (tw100 hw) (tw99 hw) (tw36 hw) (tw101 hw) (by decide) (lenOf pd14 rfl) rfl rfl (by decide) (by decide) rfl sf0 all0 rfl rfl rfl (by decide) (by decide)
              clear W
              obtain ⟨r123, rfl, q123_1, q123_2⟩ := hQ123
              have z123 : h.size ≤ h123.size := K123.1
              replace W123 := W123.cast (st' := [(.ref r123)]) rfl
              replace W123 := W123.astore (pc' := 239) (L' := #[.val (.int p0), .val (.int p1), .val (.int p2), .val (.int p3), .val (.int s0), .val (.int s1), .val (.ref ca), .val (.int (0 : Int32)), .val (.ref xa), .val (.ref pa), .val (.int mm), .val (.int cp), .val (.ref di), .val (.ref r123)]) at_237 rfl rfl rfl
              replace W123 := W123.aload (pc' := 241) at_239 rfl rfl rfl
              replace W123 := W123.ifnonnullT (pc' := 258) at_241 (by decide) (by decide)
              replace W123 := W123.aload (pc' := 260) at_258 rfl rfl rfl
              obtain ⟨V124, h124, r124, W124, K124, hQ124, SF124⟩ := W123.callV (pc' := 263) (argsL := []) (rest := []) (Wd := 0) (cells' := 7) (slots' := 42) (a := r123) (C := "java/util/Optional") (y := (⟨"java/util/Optional", "isPresent", "()Z"⟩ : MethodName)) (z := (⟨"java/util/Optional", "isPresent", "()Z"⟩ : MethodName)) at_260 (isp_1 l Z a0 n0 hw hEL G1 O1 P1 G3 O3 rG3 oe up lo di sy O5 E5 F5 O_up O_lo O_di O_sy r123 di h123 W123.old q123_2) q123_1 (tw129 hw) (tw89 hw) (Or.inl (tw91 hw)) (tw91 hw) (tw90 hw) (tw85 hw) (tw92 hw) (by decide) (lenOf pd12 rfl) rfl rfl (by decide) (by decide) rfl sf0 all0 rfl rfl rfl (by decide) (by decide)
              clear W123
              obtain ⟨rfl, hs124⟩ := hQ124
              subst hs124
              replace W124 := W124.cast (st' := [(.int (1 : Int32))]) rfl
              replace W124 := W124.ifF (pc' := 266) at_263 (feq (by decide : ¬ ((1 : Int32) = (0 : Int32)))).1 rfl
              replace W124 := W124.aload (pc' := 268) at_266 rfl rfl rfl
              obtain ⟨V125, h125, r125, W125, K125, hQ125, SF125⟩ := W124.callV (pc' := 271) (argsL := []) (rest := []) (Wd := 0) (cells' := 7) (slots' := 42) (a := r123) (C := "java/util/Optional") (y := (⟨"java/util/Optional", "get", "()Ljava/lang/Object;"⟩ : MethodName)) (z := (⟨"java/util/Optional", "get", "()Ljava/lang/Object;"⟩ : MethodName)) at_268 (opt_get l Z a0 n0 hw hEL G1 O1 P1 G3 O3 rG3 oe up lo di sy O5 E5 F5 O_up O_lo O_di O_sy r123 di h123 W124.old q123_2) q123_1 (tw148 hw) (tw149 hw) (Or.inl (tw151 hw)) (tw151 hw) (tw150 hw) (tw85 hw) (tw152 hw) (by decide) (lenOf pd23 rfl) rfl rfl (by decide) (by decide) rfl sf0 all0 rfl rfl rfl (by decide) (by decide)
              clear W124
              obtain ⟨rfl, hs125⟩ := hQ125
              subst hs125
              replace W125 := W125.cast (st' := [(.ref di)]) rfl
              replace W125 := W125.aload (pc' := 273) at_271 rfl rfl rfl
              replace W125 := W125.acmpF (pc' := 276) at_273 rfl rfl (by simp [Jvm.Free.XT.acmp]) rfl
              replace W125 := W125.iconst (pc' := 277) (v := (1 : Int32)) at_276 rfl rfl
              replace W125 := W125.goto (pc' := 281) at_277 (by decide) (by decide)
              exact W125.iret (t := .boolean) at_281 rfl (by simp) (by decide) (by decide) (by decide) (fun V' cv => rfl)
        · replace W := W.icmpF (pc' := 176) at_173 (flt hc96).2.2.1 rfl
          replace W := W.gets (pc' := 179) at_176 (tw153 hw) O_lo rfl
          replace W := W.astore (pc' := 181) (L' := #[.val (.int p0), .val (.int p1), .val (.int p2), .val (.int p3), .val (.int s0), .val (.int s1), .val (.ref ca), .val (.int (0 : Int32)), .val (.ref xa), .val (.ref pa), .val (.int mm), .val (.int cp), .val (.ref lo), .unset]) at_179 rfl rfl rfl
          replace W := W.goto (pc' := 230) at_181 (by decide) (by decide)
          replace W := W.aload (pc' := 232) at_230 rfl rfl rfl
          replace W := W.iload (pc' := 234) at_232 rfl rfl
          obtain ⟨V126, h126, r126, W126, K126, hQ126, SF126⟩ := W.callV (pc' := 237) (argsL := [(.int cp)]) (rest := []) (Wd := 0) (cells' := 7) (slots' := 42) (a := pa) (C := "com/example/lokit/lokit/password/PasswordAlphabet") (y := (⟨"com/example/lokit/lokit/password/PasswordAlphabet", "classOf", "(I)Ljava/util/Optional;"⟩ : MethodName)) (z := (⟨"com/example/lokit/lokit/password/PasswordAlphabet", "classOf", "(I)Ljava/util/Optional;"⟩ : MethodName)) at_234 (clo_L l Z a0 n0 hw hEL G1 O1 P1 G3 O3 rG3 oe up lo di sy O5 E5 F5 O_up O_lo O_di O_sy pa cp h W.old hc66 hc96) E_pa (tw97 hw) (tw98 hw) (Or.inl (tw100 hw)) (tw100 hw) (tw99 hw) (tw36 hw) (tw101 hw) (by decide) (lenOf pd14 rfl) rfl rfl (by decide) (by decide) rfl sf0 all0 rfl rfl rfl (by decide) (by decide)
          clear W
          obtain ⟨r126, rfl, q126_1, q126_2⟩ := hQ126
          have z126 : h.size ≤ h126.size := K126.1
          replace W126 := W126.cast (st' := [(.ref r126)]) rfl
          replace W126 := W126.astore (pc' := 239) (L' := #[.val (.int p0), .val (.int p1), .val (.int p2), .val (.int p3), .val (.int s0), .val (.int s1), .val (.ref ca), .val (.int (0 : Int32)), .val (.ref xa), .val (.ref pa), .val (.int mm), .val (.int cp), .val (.ref lo), .val (.ref r126)]) at_237 rfl rfl rfl
          replace W126 := W126.aload (pc' := 241) at_239 rfl rfl rfl
          replace W126 := W126.ifnonnullT (pc' := 258) at_241 (by decide) (by decide)
          replace W126 := W126.aload (pc' := 260) at_258 rfl rfl rfl
          obtain ⟨V127, h127, r127, W127, K127, hQ127, SF127⟩ := W126.callV (pc' := 263) (argsL := []) (rest := []) (Wd := 0) (cells' := 7) (slots' := 42) (a := r126) (C := "java/util/Optional") (y := (⟨"java/util/Optional", "isPresent", "()Z"⟩ : MethodName)) (z := (⟨"java/util/Optional", "isPresent", "()Z"⟩ : MethodName)) at_260 (isp_1 l Z a0 n0 hw hEL G1 O1 P1 G3 O3 rG3 oe up lo di sy O5 E5 F5 O_up O_lo O_di O_sy r126 lo h126 W126.old q126_2) q126_1 (tw129 hw) (tw89 hw) (Or.inl (tw91 hw)) (tw91 hw) (tw90 hw) (tw85 hw) (tw92 hw) (by decide) (lenOf pd12 rfl) rfl rfl (by decide) (by decide) rfl sf0 all0 rfl rfl rfl (by decide) (by decide)
          clear W126
          obtain ⟨rfl, hs127⟩ := hQ127
          subst hs127
          replace W127 := W127.cast (st' := [(.int (1 : Int32))]) rfl
          replace W127 := W127.ifF (pc' := 266) at_263 (feq (by decide : ¬ ((1 : Int32) = (0 : Int32)))).1 rfl
          replace W127 := W127.aload (pc' := 268) at_266 rfl rfl rfl
          obtain ⟨V128, h128, r128, W128, K128, hQ128, SF128⟩ := W127.callV (pc' := 271) (argsL := []) (rest := []) (Wd := 0) (cells' := 7) (slots' := 42) (a := r126) (C := "java/util/Optional") (y := (⟨"java/util/Optional", "get", "()Ljava/lang/Object;"⟩ : MethodName)) (z := (⟨"java/util/Optional", "get", "()Ljava/lang/Object;"⟩ : MethodName)) at_268 (opt_get l Z a0 n0 hw hEL G1 O1 P1 G3 O3 rG3 oe up lo di sy O5 E5 F5 O_up O_lo O_di O_sy r126 lo h126 W127.old q126_2) q126_1 (tw148 hw) (tw149 hw) (Or.inl (tw151 hw)) (tw151 hw) (tw150 hw) (tw85 hw) (tw152 hw) (by decide) (lenOf pd23 rfl) rfl rfl (by decide) (by decide) rfl sf0 all0 rfl rfl rfl (by decide) (by decide)
          clear W127
          obtain ⟨rfl, hs128⟩ := hQ128
          subst hs128
          replace W128 := W128.cast (st' := [(.ref lo)]) rfl
          replace W128 := W128.aload (pc' := 273) at_271 rfl rfl rfl
          replace W128 := W128.acmpF (pc' := 276) at_273 rfl rfl (by simp [Jvm.Free.XT.acmp]) rfl
          replace W128 := W128.iconst (pc' := 277) (v := (1 : Int32)) at_276 rfl rfl
          replace W128 := W128.goto (pc' := 281) at_277 (by decide) (by decide)
          exact W128.iret (t := .boolean) at_281 rfl (by simp) (by decide) (by decide) (by decide) (fun V' cv => rfl)
    · replace W := W.icmpF (pc' := 154) at_151 (flt hc65).2.2.1 rfl
      replace W := W.gets (pc' := 157) at_154 (tw159 hw) O_up rfl
      replace W := W.astore (pc' := 159) (L' := #[.val (.int p0), .val (.int p1), .val (.int p2), .val (.int p3), .val (.int s0), .val (.int s1), .val (.ref ca), .val (.int (0 : Int32)), .val (.ref xa), .val (.ref pa), .val (.int mm), .val (.int cp), .val (.ref up), .unset]) at_157 rfl rfl rfl
      replace W := W.goto (pc' := 230) at_159 (by decide) (by decide)
      replace W := W.aload (pc' := 232) at_230 rfl rfl rfl
      replace W := W.iload (pc' := 234) at_232 rfl rfl
      obtain ⟨V129, h129, r129, W129, K129, hQ129, SF129⟩ := W.callV (pc' := 237) (argsL := [(.int cp)]) (rest := []) (Wd := 0) (cells' := 7) (slots' := 42) (a := pa) (C := "com/example/lokit/lokit/password/PasswordAlphabet") (y := (⟨"com/example/lokit/lokit/password/PasswordAlphabet", "classOf", "(I)Ljava/util/Optional;"⟩ : MethodName)) (z := (⟨"com/example/lokit/lokit/password/PasswordAlphabet", "classOf", "(I)Ljava/util/Optional;"⟩ : MethodName)) at_234 (clo_U l Z a0 n0 hw hEL G1 O1 P1 G3 O3 rG3 oe up lo di sy O5 E5 F5 O_up O_lo O_di O_sy pa cp h W.old hc1 hc65) E_pa (tw97 hw) (tw98 hw) (Or.inl (tw100 hw)) (tw100 hw) (tw99 hw) (tw36 hw) (tw101 hw) (by decide) (lenOf pd14 rfl) rfl rfl (by decide) (by decide) rfl sf0 all0 rfl rfl rfl (by decide) (by decide)
      clear W
      obtain ⟨r129, rfl, q129_1, q129_2⟩ := hQ129
      have z129 : h.size ≤ h129.size := K129.1
      replace W129 := W129.cast (st' := [(.ref r129)]) rfl
      replace W129 := W129.astore (pc' := 239) (L' := #[.val (.int p0), .val (.int p1), .val (.int p2), .val (.int p3), .val (.int s0), .val (.int s1), .val (.ref ca), .val (.int (0 : Int32)), .val (.ref xa), .val (.ref pa), .val (.int mm), .val (.int cp), .val (.ref up), .val (.ref r129)]) at_237 rfl rfl rfl
      replace W129 := W129.aload (pc' := 241) at_239 rfl rfl rfl
      replace W129 := W129.ifnonnullT (pc' := 258) at_241 (by decide) (by decide)
      replace W129 := W129.aload (pc' := 260) at_258 rfl rfl rfl
      obtain ⟨V130, h130, r130, W130, K130, hQ130, SF130⟩ := W129.callV (pc' := 263) (argsL := []) (rest := []) (Wd := 0) (cells' := 7) (slots' := 42) (a := r129) (C := "java/util/Optional") (y := (⟨"java/util/Optional", "isPresent", "()Z"⟩ : MethodName)) (z := (⟨"java/util/Optional", "isPresent", "()Z"⟩ : MethodName)) at_260 (isp_1 l Z a0 n0 hw hEL G1 O1 P1 G3 O3 rG3 oe up lo di sy O5 E5 F5 O_up O_lo O_di O_sy r129 up h129 W129.old q129_2) q129_1 (tw129 hw) (tw89 hw) (Or.inl (tw91 hw)) (tw91 hw) (tw90 hw) (tw85 hw) (tw92 hw) (by decide) (lenOf pd12 rfl) rfl rfl (by decide) (by decide) rfl sf0 all0 rfl rfl rfl (by decide) (by decide)
      clear W129
      obtain ⟨rfl, hs130⟩ := hQ130
      subst hs130
      replace W130 := W130.cast (st' := [(.int (1 : Int32))]) rfl
      replace W130 := W130.ifF (pc' := 266) at_263 (feq (by decide : ¬ ((1 : Int32) = (0 : Int32)))).1 rfl
      replace W130 := W130.aload (pc' := 268) at_266 rfl rfl rfl
      obtain ⟨V131, h131, r131, W131, K131, hQ131, SF131⟩ := W130.callV (pc' := 271) (argsL := []) (rest := []) (Wd := 0) (cells' := 7) (slots' := 42) (a := r129) (C := "java/util/Optional") (y := (⟨"java/util/Optional", "get", "()Ljava/lang/Object;"⟩ : MethodName)) (z := (⟨"java/util/Optional", "get", "()Ljava/lang/Object;"⟩ : MethodName)) at_268 (opt_get l Z a0 n0 hw hEL G1 O1 P1 G3 O3 rG3 oe up lo di sy O5 E5 F5 O_up O_lo O_di O_sy r129 up h129 W130.old q129_2) q129_1 (tw148 hw) (tw149 hw) (Or.inl (tw151 hw)) (tw151 hw) (tw150 hw) (tw85 hw) (tw152 hw) (by decide) (lenOf pd23 rfl) rfl rfl (by decide) (by decide) rfl sf0 all0 rfl rfl rfl (by decide) (by decide)
      clear W130
      obtain ⟨rfl, hs131⟩ := hQ131
      subst hs131
      replace W131 := W131.cast (st' := [(.ref up)]) rfl
      replace W131 := W131.aload (pc' := 273) at_271 rfl rfl rfl
      replace W131 := W131.acmpF (pc' := 276) at_273 rfl rfl (by simp [Jvm.Free.XT.acmp]) rfl
      replace W131 := W131.iconst (pc' := 277) (v := (1 : Int32)) at_276 rfl rfl
      replace W131 := W131.goto (pc' := 281) at_277 (by decide) (by decide)
      exact W131.iret (t := .boolean) at_281 rfl (by simp) (by decide) (by decide) (by decide) (fun V' cv => rfl)
set_option maxRecDepth 65536 in
set_option maxHeartbeats 40000000 in
theorem tail_0 (l : Launch) (Z : State) (a0 : Array Value) (n0 : Nat) (hw : ∀ d ∈ tables_1, d.before a0 Z = true) (hEL : EW Z a0 consts_1) (G1 : Int32) (O1 : Sta Z Z.heap "java/lang/String" "COMPACT_STRINGS" "Z" (.int G1)) (P1 : ¬ (G1 = (0 : Int32))) (G3 : Value) (O3 : Sta Z Z.heap "jdk/internal/util/Preconditions" "SIOOBE_FORMATTER" "Ljava/util/function/BiFunction;" G3) (rG3 : G3.isRef = true) (oe up lo di sy : Addr) (O5 : Sta Z Z.heap "java/util/Optional" "EMPTY" "Ljava/util/Optional;" (.ref oe)) (E5 : Exa Z Z.heap oe "java/util/Optional") (F5 : Fld Z Z.heap oe "java/util/Optional" "value" "Ljava/lang/Object;" .null) (O_up : Sta Z Z.heap "com/example/lokit/lokit/password/CharacterClass" "UPPER_CASE" "Lcom/example/lokit/lokit/password/CharacterClass;" (.ref up)) (O_lo : Sta Z Z.heap "com/example/lokit/lokit/password/CharacterClass" "LOWER_CASE" "Lcom/example/lokit/lokit/password/CharacterClass;" (.ref lo)) (O_di : Sta Z Z.heap "com/example/lokit/lokit/password/CharacterClass" "DIGIT" "Lcom/example/lokit/lokit/password/CharacterClass;" (.ref di)) (O_sy : Sta Z Z.heap "com/example/lokit/lokit/password/CharacterClass" "SYMBOL" "Lcom/example/lokit/lokit/password/CharacterClass;" (.ref sy)) (p0 : Int32) (p1 : Int32) (p2 : Int32) (p3 : Int32) (s0 : Int32) (s1 : Int32) (ca : Addr) (pa : Addr) (mm : Int32) (cp : Int32) (xa : Addr) (ta : Addr) (kt : ClassId) (p : Program) (e : Env) (s : State) (m : MethodId) (below : List Frame) (meth : Method) (c : Code) (S0 : State) (V : Vm) (h0 h : Heap) (hO0 : Old Z n0 h0) (E_pa : Exa Z h pa "com/example/lokit/lokit/password/PasswordAlphabet") (F_pa_symbols : Fld Z h pa "com/example/lokit/lokit/password/PasswordAlphabet" "symbols" "Ljava/lang/String;" (.ref xa)) (E_xa : Exa Z h xa "java/lang/String") (F_xa_coder : Fld Z h xa "java/lang/String" "coder" "B" (.int (0 : Int32))) (F_xa_value : Fld Z h xa "java/lang/String" "value" "[B" (.ref ta)) (V_ta : Arv Z h ta kt .byte (0 : Int32) [] (.int (0 : Int32))) (pu0 : PU s0) (pu1 : PU s1) (hnm : meth.name = "law") (W : Wk p l e room_1 s m #[(.int p0), (.int p1), (.int p2), (.int p3)] below meth c code maxLocals ret Z a0 consts_1 "com/example/lokit/lokit/password/PasswordAlphabetClassOfPinLaw" n0 h0 [] S0 V h 6 39 (mkF m 137 #[.val (.int p0), .val (.int p1), .val (.int p2), .val (.int p3), .val (.int s0), .val (.int s1), .val (.ref ca), .val (.int (1 : Int32)), .val (.ref xa), .val (.ref pa), .val (.int mm), .val (.int cp), .unset, .unset] [])) : Done p e below S0 s Z consts_1 n0 h0 [] room_1 (fun v h V' => v = some (.int (1 : Int32))) := by
  have z0 : h0.size ≤ h.size := W.kept.1
  replace W := W.aconstNull (pc' := 138) at_137 rfl
  replace W := W.astore (pc' := 140) (L' := #[.val (.int p0), .val (.int p1), .val (.int p2), .val (.int p3), .val (.int s0), .val (.int s1), .val (.ref ca), .val (.int (1 : Int32)), .val (.ref xa), .val (.ref pa), .val (.int mm), .val (.int cp), .val .null, .unset]) at_138 rfl rfl rfl
  replace W := W.iload (pc' := 142) at_140 rfl rfl
  replace W := W.bipush (pc' := 144) (v := (65 : Int32)) at_142 rfl rfl
  by_cases hc1 : cp < (65 : Int32)
  · replace W := W.icmpT (pc' := 162) at_144 (tlt hc1).1 (by decide) (by decide)
    replace W := W.iload (pc' := 164) at_162 rfl rfl
    replace W := W.bipush (pc' := 166) (v := (97 : Int32)) at_164 rfl rfl
    by_cases hc2 : cp < (97 : Int32)
    · replace W := W.icmpT (pc' := 184) at_166 (tlt hc2).1 (by decide) (by decide)
      replace W := W.iload (pc' := 186) at_184 rfl rfl
      replace W := W.bipush (pc' := 188) (v := (48 : Int32)) at_186 rfl rfl
      by_cases hc3 : cp < (48 : Int32)
      · replace W := W.icmpT (pc' := 206) at_188 (tlt hc3).1 (by decide) (by decide)
        replace W := W.iload (pc' := 208) at_206 rfl rfl
        replace W := W.ifT (pc' := 230) at_208 (feq (by decide : ¬ ((1 : Int32) = (0 : Int32)))).2 (by decide) (by decide)
        replace W := W.aload (pc' := 232) at_230 rfl rfl rfl
        replace W := W.iload (pc' := 234) at_232 rfl rfl
        obtain ⟨V4, h4, r4, W4, K4, hQ4, SF4⟩ := W.callV (pc' := 237) (argsL := [(.int cp)]) (rest := []) (Wd := 0) (cells' := 6) (slots' := 39) (a := pa) (C := "com/example/lokit/lokit/password/PasswordAlphabet") (y := (⟨"com/example/lokit/lokit/password/PasswordAlphabet", "classOf", "(I)Ljava/util/Optional;"⟩ : MethodName)) (z := (⟨"com/example/lokit/lokit/password/PasswordAlphabet", "classOf", "(I)Ljava/util/Optional;"⟩ : MethodName)) at_234 (clo_N0 l Z a0 n0 hw hEL G1 O1 P1 G3 O3 rG3 oe up lo di sy O5 E5 F5 O_up O_lo O_di O_sy pa cp xa ta kt h W.old F_pa_symbols E_xa F_xa_coder F_xa_value V_ta ⟨Or.inl hc1, Or.inl hc2, Or.inl hc3⟩) E_pa (tw97 hw) (tw98 hw) (Or.inl (tw100 hw)) (tw100 hw) (tw99 hw) (tw36 hw) (tw101 hw) (by decide) (lenOf pd14 rfl) rfl rfl (by decide) (by decide) rfl sf0 all0 rfl rfl rfl (by decide) (by decide)
        clear W
        obtain ⟨rfl, hs4⟩ := hQ4
        subst hs4
        replace W4 := W4.cast (st' := [(.ref oe)]) rfl
        replace W4 := W4.astore (pc' := 239) (L' := #[.val (.int p0), .val (.int p1), .val (.int p2), .val (.int p3), .val (.int s0), .val (.int s1), .val (.ref ca), .val (.int (1 : Int32)), .val (.ref xa), .val (.ref pa), .val (.int mm), .val (.int cp), .val .null, .val (.ref oe)]) at_237 rfl rfl rfl
        replace W4 := W4.aload (pc' := 241) at_239 rfl rfl rfl
        replace W4 := W4.ifnonnullF (pc' := 244) at_241 rfl
        replace W4 := W4.aload (pc' := 246) at_244 rfl rfl rfl
        have e5 := E5.ext W4.old.2
        have f6 := F5.ext W4.old.2
        obtain ⟨V7, h7, r7, W7, K7, hQ7, SF7⟩ := W4.callV (pc' := 249) (argsL := []) (rest := []) (Wd := 0) (cells' := 6) (slots' := 39) (a := oe) (C := "java/util/Optional") (y := (⟨"java/util/Optional", "isPresent", "()Z"⟩ : MethodName)) (z := (⟨"java/util/Optional", "isPresent", "()Z"⟩ : MethodName)) at_246 (isp_0 l Z a0 n0 hw hEL G1 O1 P1 G3 O3 rG3 oe up lo di sy O5 E5 F5 O_up O_lo O_di O_sy oe h W4.old f6) e5 (tw129 hw) (tw89 hw) (Or.inl (tw91 hw)) (tw91 hw) (tw90 hw) (tw85 hw) (tw92 hw) (by decide) (lenOf pd12 rfl) rfl rfl (by decide) (by decide) rfl sf0 all0 rfl rfl rfl (by decide) (by decide)
        clear W4
        obtain ⟨rfl, hs7⟩ := hQ7
        subst hs7
        replace W7 := W7.cast (st' := [(.int (0 : Int32))]) rfl
        replace W7 := W7.ifF (pc' := 252) at_249 (teq (by decide : (0 : Int32) = (0 : Int32))).2 rfl
        replace W7 := W7.iconst (pc' := 253) (v := (1 : Int32)) at_252 rfl rfl
        replace W7 := W7.goto (pc' := 257) at_253 (by decide) (by decide)
        exact W7.iret (t := .boolean) at_257 rfl (by simp) (by decide) (by decide) (by decide) (fun V' cv => rfl)
      · replace W := W.icmpF (pc' := 191) at_188 (flt hc3).1 rfl
        replace W := W.iload (pc' := 193) at_191 rfl rfl
        replace W := W.bipush (pc' := 195) (v := (57 : Int32)) at_193 rfl rfl
        by_cases hc8 : (57 : Int32) < cp
        · replace W := W.icmpT (pc' := 206) at_195 (tlt hc8).2.2.1 (by decide) (by decide)
          replace W := W.iload (pc' := 208) at_206 rfl rfl
          replace W := W.ifT (pc' := 230) at_208 (feq (by decide : ¬ ((1 : Int32) = (0 : Int32)))).2 (by decide) (by decide)
          replace W := W.aload (pc' := 232) at_230 rfl rfl rfl
          replace W := W.iload (pc' := 234) at_232 rfl rfl
          obtain ⟨V9, h9, r9, W9, K9, hQ9, SF9⟩ := W.callV (pc' := 237) (argsL := [(.int cp)]) (rest := []) (Wd := 0) (cells' := 6) (slots' := 39) (a := pa) (C := "com/example/lokit/lokit/password/PasswordAlphabet") (y := (⟨"com/example/lokit/lokit/password/PasswordAlphabet", "classOf", "(I)Ljava/util/Optional;"⟩ : MethodName)) (z := (⟨"com/example/lokit/lokit/password/PasswordAlphabet", "classOf", "(I)Ljava/util/Optional;"⟩ : MethodName)) at_234 (clo_N0 l Z a0 n0 hw hEL G1 O1 P1 G3 O3 rG3 oe up lo di sy O5 E5 F5 O_up O_lo O_di O_sy pa cp xa ta kt h W.old F_pa_symbols E_xa F_xa_coder F_xa_value V_ta ⟨Or.inl hc1, Or.inl hc2, Or.inr hc8⟩) E_pa (tw97 hw) (tw98 hw) (Or.inl (tw100 hw)) (tw100 hw) (tw99 hw) (tw36 hw) (tw101 hw) (by decide) (lenOf pd14 rfl) rfl rfl (by decide) (by decide) rfl sf0 all0 rfl rfl rfl (by decide) (by decide)
          clear W
          obtain ⟨rfl, hs9⟩ := hQ9
          subst hs9
          replace W9 := W9.cast (st' := [(.ref oe)]) rfl
          replace W9 := W9.astore (pc' := 239) (L' := #[.val (.int p0), .val (.int p1), .val (.int p2), .val (.int p3), .val (.int s0), .val (.int s1), .val (.ref ca), .val (.int (1 : Int32)), .val (.ref xa), .val (.ref pa), .val (.int mm), .val (.int cp), .val .null, .val (.ref oe)]) at_237 rfl rfl rfl
          replace W9 := W9.aload (pc' := 241) at_239 rfl rfl rfl
          replace W9 := W9.ifnonnullF (pc' := 244) at_241 rfl
          replace W9 := W9.aload (pc' := 246) at_244 rfl rfl rfl
          have e10 := E5.ext W9.old.2
          have f11 := F5.ext W9.old.2
          obtain ⟨V12, h12, r12, W12, K12, hQ12, SF12⟩ := W9.callV (pc' := 249) (argsL := []) (rest := []) (Wd := 0) (cells' := 6) (slots' := 39) (a := oe) (C := "java/util/Optional") (y := (⟨"java/util/Optional", "isPresent", "()Z"⟩ : MethodName)) (z := (⟨"java/util/Optional", "isPresent", "()Z"⟩ : MethodName)) at_246 (isp_0 l Z a0 n0 hw hEL G1 O1 P1 G3 O3 rG3 oe up lo di sy O5 E5 F5 O_up O_lo O_di O_sy oe h W9.old f11) e10 (tw129 hw) (tw89 hw) (Or.inl (tw91 hw)) (tw91 hw) (tw90 hw) (tw85 hw) (tw92 hw) (by decide) (lenOf pd12 rfl) rfl rfl (by decide) (by decide) rfl sf0 all0 rfl rfl rfl (by decide) (by decide)
          clear W9
          obtain ⟨rfl, hs12⟩ := hQ12
          subst hs12
          replace W12 := W12.cast (st' := [(.int (0 : Int32))]) rfl
          replace W12 := W12.ifF (pc' := 252) at_249 (teq (by decide : (0 : Int32) = (0 : Int32))).2 rfl
          replace W12 := W12.iconst (pc' := 253) (v := (1 : Int32)) at_252 rfl rfl
          replace W12 := W12.goto (pc' := 257) at_253 (by decide) (by decide)
          exact W12.iret (t := .boolean) at_257 rfl (by simp) (by decide) (by decide) (by decide) (fun V' cv => rfl)
        · replace W := W.icmpF (pc' := 198) at_195 (flt hc8).2.2.1 rfl
          replace W := W.gets (pc' := 201) at_198 (tw156 hw) O_di rfl
          replace W := W.astore (pc' := 203) (L' := #[.val (.int p0), .val (.int p1), .val (.int p2), .val (.int p3), .val (.int s0), .val (.int s1), .val (.ref ca), .val (.int (1 : Int32)), .val (.ref xa), .val (.ref pa), .val (.int mm), .val (.int cp), .val (.ref di), .unset]) at_201 rfl rfl rfl
          replace W := W.goto (pc' := 230) at_203 (by decide) (by decide)
          replace W := W.aload (pc' := 232) at_230 rfl rfl rfl
          replace W := W.iload (pc' := 234) at_232 rfl rfl
          obtain ⟨V13, h13, r13, W13, K13, hQ13, SF13⟩ := W.callV (pc' := 237) (argsL := [(.int cp)]) (rest := []) (Wd := 0) (cells' := 7) (slots' := 40) (a := pa) (C := "com/example/lokit/lokit/password/PasswordAlphabet") (y := (⟨"com/example/lokit/lokit/password/PasswordAlphabet", "classOf", "(I)Ljava/util/Optional;"⟩ : MethodName)) (z := (⟨"com/example/lokit/lokit/password/PasswordAlphabet", "classOf", "(I)Ljava/util/Optional;"⟩ : MethodName)) at_234 (clo_D l Z a0 n0 hw hEL G1 O1 P1 G3 O3 rG3 oe up lo di sy O5 E5 F5 O_up O_lo O_di O_sy pa cp h W.old hc3 hc8) E_pa (tw97 hw) (tw98 hw) (Or.inl (tw100 hw)) (tw100 hw) (tw99 hw) (tw36 hw) (tw101 hw) (by decide) (lenOf pd14 rfl) rfl rfl (by decide) (by decide) rfl sf0 all0 rfl rfl rfl (by decide) (by decide)
          clear W
          obtain ⟨r13, rfl, q13_1, q13_2⟩ := hQ13
          have z13 : h.size ≤ h13.size := K13.1
          replace W13 := W13.cast (st' := [(.ref r13)]) rfl
          replace W13 := W13.astore (pc' := 239) (L' := #[.val (.int p0), .val (.int p1), .val (.int p2), .val (.int p3), .val (.int s0), .val (.int s1), .val (.ref ca), .val (.int (1 : Int32)), .val (.ref xa), .val (.ref pa), .val (.int mm), .val (.int cp), .val (.ref di), .val (.ref r13)]) at_237 rfl rfl rfl
          replace W13 := W13.aload (pc' := 241) at_239 rfl rfl rfl
          replace W13 := W13.ifnonnullT (pc' := 258) at_241 (by decide) (by decide)
          replace W13 := W13.aload (pc' := 260) at_258 rfl rfl rfl
          obtain ⟨V14, h14, r14, W14, K14, hQ14, SF14⟩ := W13.callV (pc' := 263) (argsL := []) (rest := []) (Wd := 0) (cells' := 7) (slots' := 40) (a := r13) (C := "java/util/Optional") (y := (⟨"java/util/Optional", "isPresent", "()Z"⟩ : MethodName)) (z := (⟨"java/util/Optional", "isPresent", "()Z"⟩ : MethodName)) at_260 (isp_1 l Z a0 n0 hw hEL G1 O1 P1 G3 O3 rG3 oe up lo di sy O5 E5 F5 O_up O_lo O_di O_sy r13 di h13 W13.old q13_2) q13_1 (tw129 hw) (tw89 hw) (Or.inl (tw91 hw)) (tw91 hw) (tw90 hw) (tw85 hw) (tw92 hw) (by decide) (lenOf pd12 rfl) rfl rfl (by decide) (by decide) rfl sf0 all0 rfl rfl rfl (by decide) (by decide)
          clear W13
          obtain ⟨rfl, hs14⟩ := hQ14
          subst hs14
          replace W14 := W14.cast (st' := [(.int (1 : Int32))]) rfl
          replace W14 := W14.ifF (pc' := 266) at_263 (feq (by decide : ¬ ((1 : Int32) = (0 : Int32)))).1 rfl
          replace W14 := W14.aload (pc' := 268) at_266 rfl rfl rfl
          obtain ⟨V15, h15, r15, W15, K15, hQ15, SF15⟩ := W14.callV (pc' := 271) (argsL := []) (rest := []) (Wd := 0) (cells' := 7) (slots' := 40) (a := r13) (C := "java/util/Optional") (y := (⟨"java/util/Optional", "get", "()Ljava/lang/Object;"⟩ : MethodName)) (z := (⟨"java/util/Optional", "get", "()Ljava/lang/Object;"⟩ : MethodName)) at_268 (opt_get l Z a0 n0 hw hEL G1 O1 P1 G3 O3 rG3 oe up lo di sy O5 E5 F5 O_up O_lo O_di O_sy r13 di h13 W14.old q13_2) q13_1 (tw148 hw) (tw149 hw) (Or.inl (tw151 hw)) (tw151 hw) (tw150 hw) (tw85 hw) (tw152 hw) (by decide) (lenOf pd23 rfl) rfl rfl (by decide) (by decide) rfl sf0 all0 rfl rfl rfl (by decide) (by decide)
          clear W14
          obtain ⟨rfl, hs15⟩ := hQ15
          subst hs15
          replace W15 := W15.cast (st' := [(.ref di)]) rfl
          replace W15 := W15.aload (pc' := 273) at_271 rfl rfl rfl
          replace W15 := W15.acmpF (pc' := 276) at_273 rfl rfl (by simp [Jvm.Free.XT.acmp]) rfl
          replace W15 := W15.iconst (pc' := 277) (v := (1 : Int32)) at_276 rfl rfl
          replace W15 := W15.goto (pc' := 281) at_277 (by decide) (by decide)
          exact W15.iret (t := .boolean) at_281 rfl (by simp) (by decide) (by decide) (by decide) (fun V' cv => rfl)
    · replace W := W.icmpF (pc' := 169) at_166 (flt hc2).1 rfl
      replace W := W.iload (pc' := 171) at_169 rfl rfl
      replace W := W.bipush (pc' := 173) (v := (122 : Int32)) at_171 rfl rfl
      by_cases hc16 : (122 : Int32) < cp
      · replace W := W.icmpT (pc' := 184) at_173 (tlt hc16).2.2.1 (by decide) (by decide)
        replace W := W.iload (pc' := 186) at_184 rfl rfl
        replace W := W.bipush (pc' := 188) (v := (48 : Int32)) at_186 rfl rfl
        by_cases hc17 : cp < (48 : Int32)
        · replace W := W.icmpT (pc' := 206) at_188 (tlt hc17).1 (by decide) (by decide)
          replace W := W.iload (pc' := 208) at_206 rfl rfl
          replace W := W.ifT (pc' := 230) at_208 (feq (by decide : ¬ ((1 : Int32) = (0 : Int32)))).2 (by decide) (by decide)
          replace W := W.aload (pc' := 232) at_230 rfl rfl rfl
          replace W := W.iload (pc' := 234) at_232 rfl rfl
          obtain ⟨V18, h18, r18, W18, K18, hQ18, SF18⟩ := W.callV (pc' := 237) (argsL := [(.int cp)]) (rest := []) (Wd := 0) (cells' := 6) (slots' := 39) (a := pa) (C := "com/example/lokit/lokit/password/PasswordAlphabet") (y := (⟨"com/example/lokit/lokit/password/PasswordAlphabet", "classOf", "(I)Ljava/util/Optional;"⟩ : MethodName)) (z := (⟨"com/example/lokit/lokit/password/PasswordAlphabet", "classOf", "(I)Ljava/util/Optional;"⟩ : MethodName)) at_234 (clo_N0 l Z a0 n0 hw hEL G1 O1 P1 G3 O3 rG3 oe up lo di sy O5 E5 F5 O_up O_lo O_di O_sy pa cp xa ta kt h W.old F_pa_symbols E_xa F_xa_coder F_xa_value V_ta ⟨Or.inl hc1, Or.inr hc16, Or.inl hc17⟩) E_pa (tw97 hw) (tw98 hw) (Or.inl (tw100 hw)) (tw100 hw) (tw99 hw) (tw36 hw) (tw101 hw) (by decide) (lenOf pd14 rfl) rfl rfl (by decide) (by decide) rfl sf0 all0 rfl rfl rfl (by decide) (by decide)
          clear W
          obtain ⟨rfl, hs18⟩ := hQ18
          subst hs18
          replace W18 := W18.cast (st' := [(.ref oe)]) rfl
          replace W18 := W18.astore (pc' := 239) (L' := #[.val (.int p0), .val (.int p1), .val (.int p2), .val (.int p3), .val (.int s0), .val (.int s1), .val (.ref ca), .val (.int (1 : Int32)), .val (.ref xa), .val (.ref pa), .val (.int mm), .val (.int cp), .val .null, .val (.ref oe)]) at_237 rfl rfl rfl
          replace W18 := W18.aload (pc' := 241) at_239 rfl rfl rfl
          replace W18 := W18.ifnonnullF (pc' := 244) at_241 rfl
          replace W18 := W18.aload (pc' := 246) at_244 rfl rfl rfl
          have e19 := E5.ext W18.old.2
          have f20 := F5.ext W18.old.2
          obtain ⟨V21, h21, r21, W21, K21, hQ21, SF21⟩ := W18.callV (pc' := 249) (argsL := []) (rest := []) (Wd := 0) (cells' := 6) (slots' := 39) (a := oe) (C := "java/util/Optional") (y := (⟨"java/util/Optional", "isPresent", "()Z"⟩ : MethodName)) (z := (⟨"java/util/Optional", "isPresent", "()Z"⟩ : MethodName)) at_246 (isp_0 l Z a0 n0 hw hEL G1 O1 P1 G3 O3 rG3 oe up lo di sy O5 E5 F5 O_up O_lo O_di O_sy oe h W18.old f20) e19 (tw129 hw) (tw89 hw) (Or.inl (tw91 hw)) (tw91 hw) (tw90 hw) (tw85 hw) (tw92 hw) (by decide) (lenOf pd12 rfl) rfl rfl (by decide) (by decide) rfl sf0 all0 rfl rfl rfl (by decide) (by decide)
          clear W18
          obtain ⟨rfl, hs21⟩ := hQ21
          subst hs21
          replace W21 := W21.cast (st' := [(.int (0 : Int32))]) rfl
          replace W21 := W21.ifF (pc' := 252) at_249 (teq (by decide : (0 : Int32) = (0 : Int32))).2 rfl
          replace W21 := W21.iconst (pc' := 253) (v := (1 : Int32)) at_252 rfl rfl
          replace W21 := W21.goto (pc' := 257) at_253 (by decide) (by decide)
          exact W21.iret (t := .boolean) at_257 rfl (by simp) (by decide) (by decide) (by decide) (fun V' cv => rfl)
        · replace W := W.icmpF (pc' := 191) at_188 (flt hc17).1 rfl
          replace W := W.iload (pc' := 193) at_191 rfl rfl
          replace W := W.bipush (pc' := 195) (v := (57 : Int32)) at_193 rfl rfl
          by_cases hc22 : (57 : Int32) < cp
          · replace W := W.icmpT (pc' := 206) at_195 (tlt hc22).2.2.1 (by decide) (by decide)
            replace W := W.iload (pc' := 208) at_206 rfl rfl
            replace W := W.ifT (pc' := 230) at_208 (feq (by decide : ¬ ((1 : Int32) = (0 : Int32)))).2 (by decide) (by decide)
            replace W := W.aload (pc' := 232) at_230 rfl rfl rfl
            replace W := W.iload (pc' := 234) at_232 rfl rfl
            obtain ⟨V23, h23, r23, W23, K23, hQ23, SF23⟩ := W.callV (pc' := 237) (argsL := [(.int cp)]) (rest := []) (Wd := 0) (cells' := 6) (slots' := 39) (a := pa) (C := "com/example/lokit/lokit/password/PasswordAlphabet") (y := (⟨"com/example/lokit/lokit/password/PasswordAlphabet", "classOf", "(I)Ljava/util/Optional;"⟩ : MethodName)) (z := (⟨"com/example/lokit/lokit/password/PasswordAlphabet", "classOf", "(I)Ljava/util/Optional;"⟩ : MethodName)) at_234 (clo_N0 l Z a0 n0 hw hEL G1 O1 P1 G3 O3 rG3 oe up lo di sy O5 E5 F5 O_up O_lo O_di O_sy pa cp xa ta kt h W.old F_pa_symbols E_xa F_xa_coder F_xa_value V_ta ⟨Or.inl hc1, Or.inr hc16, Or.inr hc22⟩) E_pa (tw97 hw) (tw98 hw) (Or.inl (tw100 hw)) (tw100 hw) (tw99 hw) (tw36 hw) (tw101 hw) (by decide) (lenOf pd14 rfl) rfl rfl (by decide) (by decide) rfl sf0 all0 rfl rfl rfl (by decide) (by decide)
            clear W
            obtain ⟨rfl, hs23⟩ := hQ23
            subst hs23
            replace W23 := W23.cast (st' := [(.ref oe)]) rfl
            replace W23 := W23.astore (pc' := 239) (L' := #[.val (.int p0), .val (.int p1), .val (.int p2), .val (.int p3), .val (.int s0), .val (.int s1), .val (.ref ca), .val (.int (1 : Int32)), .val (.ref xa), .val (.ref pa), .val (.int mm), .val (.int cp), .val .null, .val (.ref oe)]) at_237 rfl rfl rfl
            replace W23 := W23.aload (pc' := 241) at_239 rfl rfl rfl
            replace W23 := W23.ifnonnullF (pc' := 244) at_241 rfl
            replace W23 := W23.aload (pc' := 246) at_244 rfl rfl rfl
            have e24 := E5.ext W23.old.2
            have f25 := F5.ext W23.old.2
            obtain ⟨V26, h26, r26, W26, K26, hQ26, SF26⟩ := W23.callV (pc' := 249) (argsL := []) (rest := []) (Wd := 0) (cells' := 6) (slots' := 39) (a := oe) (C := "java/util/Optional") (y := (⟨"java/util/Optional", "isPresent", "()Z"⟩ : MethodName)) (z := (⟨"java/util/Optional", "isPresent", "()Z"⟩ : MethodName)) at_246 (isp_0 l Z a0 n0 hw hEL G1 O1 P1 G3 O3 rG3 oe up lo di sy O5 E5 F5 O_up O_lo O_di O_sy oe h W23.old f25) e24 (tw129 hw) (tw89 hw) (Or.inl (tw91 hw)) (tw91 hw) (tw90 hw) (tw85 hw) (tw92 hw) (by decide) (lenOf pd12 rfl) rfl rfl (by decide) (by decide) rfl sf0 all0 rfl rfl rfl (by decide) (by decide)
            clear W23
            obtain ⟨rfl, hs26⟩ := hQ26
            subst hs26
            replace W26 := W26.cast (st' := [(.int (0 : Int32))]) rfl
            replace W26 := W26.ifF (pc' := 252) at_249 (teq (by decide : (0 : Int32) = (0 : Int32))).2 rfl
            replace W26 := W26.iconst (pc' := 253) (v := (1 : Int32)) at_252 rfl rfl
            replace W26 := W26.goto (pc' := 257) at_253 (by decide) (by decide)
            exact W26.iret (t := .boolean) at_257 rfl (by simp) (by decide) (by decide) (by decide) (fun V' cv => rfl)
          · replace W := W.icmpF (pc' := 198) at_195 (flt hc22).2.2.1 rfl
            replace W := W.gets (pc' := 201) at_198 (tw156 hw) O_di rfl
            replace W := W.astore (pc' := 203) (L' := #[.val (.int p0), .val (.int p1), .val (.int p2), .val (.int p3), .val (.int s0), .val (.int s1), .val (.ref ca), .val (.int (1 : Int32)), .val (.ref xa), .val (.ref pa), .val (.int mm), .val (.int cp), .val (.ref di), .unset]) at_201 rfl rfl rfl
            replace W := W.goto (pc' := 230) at_203 (by decide) (by decide)
            replace W := W.aload (pc' := 232) at_230 rfl rfl rfl
            replace W := W.iload (pc' := 234) at_232 rfl rfl
            obtain ⟨V27, h27, r27, W27, K27, hQ27, SF27⟩ := W.callV (pc' := 237) (argsL := [(.int cp)]) (rest := []) (Wd := 0) (cells' := 7) (slots' := 40) (a := pa) (C := "com/example/lokit/lokit/password/PasswordAlphabet") (y := (⟨"com/example/lokit/lokit/password/PasswordAlphabet", "classOf", "(I)Ljava/util/Optional;"⟩ : MethodName)) (z := (⟨"com/example/lokit/lokit/password/PasswordAlphabet", "classOf", "(I)Ljava/util/Optional;"⟩ : MethodName)) at_234 (clo_D l Z a0 n0 hw hEL G1 O1 P1 G3 O3 rG3 oe up lo di sy O5 E5 F5 O_up O_lo O_di O_sy pa cp h W.old hc17 hc22) E_pa (tw97 hw) (tw98 hw) (Or.inl (tw100 hw)) (tw100 hw) (tw99 hw) (tw36 hw) (tw101 hw) (by decide) (lenOf pd14 rfl) rfl rfl (by decide) (by decide) rfl sf0 all0 rfl rfl rfl (by decide) (by decide)
            clear W
            obtain ⟨r27, rfl, q27_1, q27_2⟩ := hQ27
            have z27 : h.size ≤ h27.size := K27.1
            replace W27 := W27.cast (st' := [(.ref r27)]) rfl
            replace W27 := W27.astore (pc' := 239) (L' := #[.val (.int p0), .val (.int p1), .val (.int p2), .val (.int p3), .val (.int s0), .val (.int s1), .val (.ref ca), .val (.int (1 : Int32)), .val (.ref xa), .val (.ref pa), .val (.int mm), .val (.int cp), .val (.ref di), .val (.ref r27)]) at_237 rfl rfl rfl
            replace W27 := W27.aload (pc' := 241) at_239 rfl rfl rfl
            replace W27 := W27.ifnonnullT (pc' := 258) at_241 (by decide) (by decide)
            replace W27 := W27.aload (pc' := 260) at_258 rfl rfl rfl
            obtain ⟨V28, h28, r28, W28, K28, hQ28, SF28⟩ := W27.callV (pc' := 263) (argsL := []) (rest := []) (Wd := 0) (cells' := 7) (slots' := 40) (a := r27) (C := "java/util/Optional") (y := (⟨"java/util/Optional", "isPresent", "()Z"⟩ : MethodName)) (z := (⟨"java/util/Optional", "isPresent", "()Z"⟩ : MethodName)) at_260 (isp_1 l Z a0 n0 hw hEL G1 O1 P1 G3 O3 rG3 oe up lo di sy O5 E5 F5 O_up O_lo O_di O_sy r27 di h27 W27.old q27_2) q27_1 (tw129 hw) (tw89 hw) (Or.inl (tw91 hw)) (tw91 hw) (tw90 hw) (tw85 hw) (tw92 hw) (by decide) (lenOf pd12 rfl) rfl rfl (by decide) (by decide) rfl sf0 all0 rfl rfl rfl (by decide) (by decide)
            clear W27
            obtain ⟨rfl, hs28⟩ := hQ28
            subst hs28
            replace W28 := W28.cast (st' := [(.int (1 : Int32))]) rfl
            replace W28 := W28.ifF (pc' := 266) at_263 (feq (by decide : ¬ ((1 : Int32) = (0 : Int32)))).1 rfl
            replace W28 := W28.aload (pc' := 268) at_266 rfl rfl rfl
            obtain ⟨V29, h29, r29, W29, K29, hQ29, SF29⟩ := W28.callV (pc' := 271) (argsL := []) (rest := []) (Wd := 0) (cells' := 7) (slots' := 40) (a := r27) (C := "java/util/Optional") (y := (⟨"java/util/Optional", "get", "()Ljava/lang/Object;"⟩ : MethodName)) (z := (⟨"java/util/Optional", "get", "()Ljava/lang/Object;"⟩ : MethodName)) at_268 (opt_get l Z a0 n0 hw hEL G1 O1 P1 G3 O3 rG3 oe up lo di sy O5 E5 F5 O_up O_lo O_di O_sy r27 di h27 W28.old q27_2) q27_1 (tw148 hw) (tw149 hw) (Or.inl (tw151 hw)) (tw151 hw) (tw150 hw) (tw85 hw) (tw152 hw) (by decide) (lenOf pd23 rfl) rfl rfl (by decide) (by decide) rfl sf0 all0 rfl rfl rfl (by decide) (by decide)
            clear W28
            obtain ⟨rfl, hs29⟩ := hQ29
            subst hs29
            replace W29 := W29.cast (st' := [(.ref di)]) rfl
            replace W29 := W29.aload (pc' := 273) at_271 rfl rfl rfl
            replace W29 := W29.acmpF (pc' := 276) at_273 rfl rfl (by simp [Jvm.Free.XT.acmp]) rfl
            replace W29 := W29.iconst (pc' := 277) (v := (1 : Int32)) at_276 rfl rfl
            replace W29 := W29.goto (pc' := 281) at_277 (by decide) (by decide)
            exact W29.iret (t := .boolean) at_281 rfl (by simp) (by decide) (by decide) (by decide) (fun V' cv => rfl)
      · replace W := W.icmpF (pc' := 176) at_173 (flt hc16).2.2.1 rfl
        replace W := W.gets (pc' := 179) at_176 (tw153 hw) O_lo rfl
        replace W := W.astore (pc' := 181) (L' := #[.val (.int p0), .val (.int p1), .val (.int p2), .val (.int p3), .val (.int s0), .val (.int s1), .val (.ref ca), .val (.int (1 : Int32)), .val (.ref xa), .val (.ref pa), .val (.int mm), .val (.int cp), .val (.ref lo), .unset]) at_179 rfl rfl rfl
        replace W := W.goto (pc' := 230) at_181 (by decide) (by decide)
        replace W := W.aload (pc' := 232) at_230 rfl rfl rfl
        replace W := W.iload (pc' := 234) at_232 rfl rfl
        obtain ⟨V30, h30, r30, W30, K30, hQ30, SF30⟩ := W.callV (pc' := 237) (argsL := [(.int cp)]) (rest := []) (Wd := 0) (cells' := 7) (slots' := 40) (a := pa) (C := "com/example/lokit/lokit/password/PasswordAlphabet") (y := (⟨"com/example/lokit/lokit/password/PasswordAlphabet", "classOf", "(I)Ljava/util/Optional;"⟩ : MethodName)) (z := (⟨"com/example/lokit/lokit/password/PasswordAlphabet", "classOf", "(I)Ljava/util/Optional;"⟩ : MethodName)) at_234 (clo_L l Z a0 n0 hw hEL G1 O1 P1 G3 O3 rG3 oe up lo di sy O5 E5 F5 O_up O_lo O_di O_sy pa cp h W.old hc2 hc16) E_pa (tw97 hw) (tw98 hw) (Or.inl (tw100 hw)) (tw100 hw) (tw99 hw) (tw36 hw) (tw101 hw) (by decide) (lenOf pd14 rfl) rfl rfl (by decide) (by decide) rfl sf0 all0 rfl rfl rfl (by decide) (by decide)
        clear W
        obtain ⟨r30, rfl, q30_1, q30_2⟩ := hQ30
        have z30 : h.size ≤ h30.size := K30.1
        replace W30 := W30.cast (st' := [(.ref r30)]) rfl
        replace W30 := W30.astore (pc' := 239) (L' := #[.val (.int p0), .val (.int p1), .val (.int p2), .val (.int p3), .val (.int s0), .val (.int s1), .val (.ref ca), .val (.int (1 : Int32)), .val (.ref xa), .val (.ref pa), .val (.int mm), .val (.int cp), .val (.ref lo), .val (.ref r30)]) at_237 rfl rfl rfl
        replace W30 := W30.aload (pc' := 241) at_239 rfl rfl rfl
        replace W30 := W30.ifnonnullT (pc' := 258) at_241 (by decide) (by decide)
        replace W30 := W30.aload (pc' := 260) at_258 rfl rfl rfl
        obtain ⟨V31, h31, r31, W31, K31, hQ31, SF31⟩ := W30.callV (pc' := 263) (argsL := []) (rest := []) (Wd := 0) (cells' := 7) (slots' := 40) (a := r30) (C := "java/util/Optional") (y := (⟨"java/util/Optional", "isPresent", "()Z"⟩ : MethodName)) (z := (⟨"java/util/Optional", "isPresent", "()Z"⟩ : MethodName)) at_260 (isp_1 l Z a0 n0 hw hEL G1 O1 P1 G3 O3 rG3 oe up lo di sy O5 E5 F5 O_up O_lo O_di O_sy r30 lo h30 W30.old q30_2) q30_1 (tw129 hw) (tw89 hw) (Or.inl (tw91 hw)) (tw91 hw) (tw90 hw) (tw85 hw) (tw92 hw) (by decide) (lenOf pd12 rfl) rfl rfl (by decide) (by decide) rfl sf0 all0 rfl rfl rfl (by decide) (by decide)
        clear W30
        obtain ⟨rfl, hs31⟩ := hQ31
        subst hs31
        replace W31 := W31.cast (st' := [(.int (1 : Int32))]) rfl
        replace W31 := W31.ifF (pc' := 266) at_263 (feq (by decide : ¬ ((1 : Int32) = (0 : Int32)))).1 rfl
        replace W31 := W31.aload (pc' := 268) at_266 rfl rfl rfl
        obtain ⟨V32, h32, r32, W32, K32, hQ32, SF32⟩ := W31.callV (pc' := 271) (argsL := []) (rest := []) (Wd := 0) (cells' := 7) (slots' := 40) (a := r30) (C := "java/util/Optional") (y := (⟨"java/util/Optional", "get", "()Ljava/lang/Object;"⟩ : MethodName)) (z := (⟨"java/util/Optional", "get", "()Ljava/lang/Object;"⟩ : MethodName)) at_268 (opt_get l Z a0 n0 hw hEL G1 O1 P1 G3 O3 rG3 oe up lo di sy O5 E5 F5 O_up O_lo O_di O_sy r30 lo h30 W31.old q30_2) q30_1 (tw148 hw) (tw149 hw) (Or.inl (tw151 hw)) (tw151 hw) (tw150 hw) (tw85 hw) (tw152 hw) (by decide) (lenOf pd23 rfl) rfl rfl (by decide) (by decide) rfl sf0 all0 rfl rfl rfl (by decide) (by decide)
        clear W31
        obtain ⟨rfl, hs32⟩ := hQ32
        subst hs32
        replace W32 := W32.cast (st' := [(.ref lo)]) rfl
        replace W32 := W32.aload (pc' := 273) at_271 rfl rfl rfl
        replace W32 := W32.acmpF (pc' := 276) at_273 rfl rfl (by simp [Jvm.Free.XT.acmp]) rfl
        replace W32 := W32.iconst (pc' := 277) (v := (1 : Int32)) at_276 rfl rfl
        replace W32 := W32.goto (pc' := 281) at_277 (by decide) (by decide)
        exact W32.iret (t := .boolean) at_281 rfl (by simp) (by decide) (by decide) (by decide) (fun V' cv => rfl)
  · replace W := W.icmpF (pc' := 147) at_144 (flt hc1).1 rfl
    replace W := W.iload (pc' := 149) at_147 rfl rfl
    replace W := W.bipush (pc' := 151) (v := (90 : Int32)) at_149 rfl rfl
    by_cases hc33 : (90 : Int32) < cp
    · replace W := W.icmpT (pc' := 162) at_151 (tlt hc33).2.2.1 (by decide) (by decide)
      replace W := W.iload (pc' := 164) at_162 rfl rfl
      replace W := W.bipush (pc' := 166) (v := (97 : Int32)) at_164 rfl rfl
      by_cases hc34 : cp < (97 : Int32)
      · replace W := W.icmpT (pc' := 184) at_166 (tlt hc34).1 (by decide) (by decide)
        replace W := W.iload (pc' := 186) at_184 rfl rfl
        replace W := W.bipush (pc' := 188) (v := (48 : Int32)) at_186 rfl rfl
        by_cases hc35 : cp < (48 : Int32)
        · replace W := W.icmpT (pc' := 206) at_188 (tlt hc35).1 (by decide) (by decide)
          replace W := W.iload (pc' := 208) at_206 rfl rfl
          replace W := W.ifT (pc' := 230) at_208 (feq (by decide : ¬ ((1 : Int32) = (0 : Int32)))).2 (by decide) (by decide)
          replace W := W.aload (pc' := 232) at_230 rfl rfl rfl
          replace W := W.iload (pc' := 234) at_232 rfl rfl
          obtain ⟨V36, h36, r36, W36, K36, hQ36, SF36⟩ := W.callV (pc' := 237) (argsL := [(.int cp)]) (rest := []) (Wd := 0) (cells' := 6) (slots' := 39) (a := pa) (C := "com/example/lokit/lokit/password/PasswordAlphabet") (y := (⟨"com/example/lokit/lokit/password/PasswordAlphabet", "classOf", "(I)Ljava/util/Optional;"⟩ : MethodName)) (z := (⟨"com/example/lokit/lokit/password/PasswordAlphabet", "classOf", "(I)Ljava/util/Optional;"⟩ : MethodName)) at_234 (clo_N0 l Z a0 n0 hw hEL G1 O1 P1 G3 O3 rG3 oe up lo di sy O5 E5 F5 O_up O_lo O_di O_sy pa cp xa ta kt h W.old F_pa_symbols E_xa F_xa_coder F_xa_value V_ta ⟨Or.inr hc33, Or.inl hc34, Or.inl hc35⟩) E_pa (tw97 hw) (tw98 hw) (Or.inl (tw100 hw)) (tw100 hw) (tw99 hw) (tw36 hw) (tw101 hw) (by decide) (lenOf pd14 rfl) rfl rfl (by decide) (by decide) rfl sf0 all0 rfl rfl rfl (by decide) (by decide)
          clear W
          obtain ⟨rfl, hs36⟩ := hQ36
          subst hs36
          replace W36 := W36.cast (st' := [(.ref oe)]) rfl
          replace W36 := W36.astore (pc' := 239) (L' := #[.val (.int p0), .val (.int p1), .val (.int p2), .val (.int p3), .val (.int s0), .val (.int s1), .val (.ref ca), .val (.int (1 : Int32)), .val (.ref xa), .val (.ref pa), .val (.int mm), .val (.int cp), .val .null, .val (.ref oe)]) at_237 rfl rfl rfl
          replace W36 := W36.aload (pc' := 241) at_239 rfl rfl rfl
          replace W36 := W36.ifnonnullF (pc' := 244) at_241 rfl
          replace W36 := W36.aload (pc' := 246) at_244 rfl rfl rfl
          have e37 := E5.ext W36.old.2
          have f38 := F5.ext W36.old.2
          obtain ⟨V39, h39, r39, W39, K39, hQ39, SF39⟩ := W36.callV (pc' := 249) (argsL := []) (rest := []) (Wd := 0) (cells' := 6) (slots' := 39) (a := oe) (C := "java/util/Optional") (y := (⟨"java/util/Optional", "isPresent", "()Z"⟩ : MethodName)) (z := (⟨"java/util/Optional", "isPresent", "()Z"⟩ : MethodName)) at_246 (isp_0 l Z a0 n0 hw hEL G1 O1 P1 G3 O3 rG3 oe up lo di sy O5 E5 F5 O_up O_lo O_di O_sy oe h W36.old f38) e37 (tw129 hw) (tw89 hw) (Or.inl (tw91 hw)) (tw91 hw) (tw90 hw) (tw85 hw) (tw92 hw) (by decide) (lenOf pd12 rfl) rfl rfl (by decide) (by decide) rfl sf0 all0 rfl rfl rfl (by decide) (by decide)
          clear W36
          obtain ⟨rfl, hs39⟩ := hQ39
          subst hs39
          replace W39 := W39.cast (st' := [(.int (0 : Int32))]) rfl
          replace W39 := W39.ifF (pc' := 252) at_249 (teq (by decide : (0 : Int32) = (0 : Int32))).2 rfl
          replace W39 := W39.iconst (pc' := 253) (v := (1 : Int32)) at_252 rfl rfl
          replace W39 := W39.goto (pc' := 257) at_253 (by decide) (by decide)
          exact W39.iret (t := .boolean) at_257 rfl (by simp) (by decide) (by decide) (by decide) (fun V' cv => rfl)
        · replace W := W.icmpF (pc' := 191) at_188 (flt hc35).1 rfl
          replace W := W.iload (pc' := 193) at_191 rfl rfl
          replace W := W.bipush (pc' := 195) (v := (57 : Int32)) at_193 rfl rfl
          by_cases hc40 : (57 : Int32) < cp
          · replace W := W.icmpT (pc' := 206) at_195 (tlt hc40).2.2.1 (by decide) (by decide)
            replace W := W.iload (pc' := 208) at_206 rfl rfl
            replace W := W.ifT (pc' := 230) at_208 (feq (by decide : ¬ ((1 : Int32) = (0 : Int32)))).2 (by decide) (by decide)
            replace W := W.aload (pc' := 232) at_230 rfl rfl rfl
            replace W := W.iload (pc' := 234) at_232 rfl rfl
            obtain ⟨V41, h41, r41, W41, K41, hQ41, SF41⟩ := W.callV (pc' := 237) (argsL := [(.int cp)]) (rest := []) (Wd := 0) (cells' := 6) (slots' := 39) (a := pa) (C := "com/example/lokit/lokit/password/PasswordAlphabet") (y := (⟨"com/example/lokit/lokit/password/PasswordAlphabet", "classOf", "(I)Ljava/util/Optional;"⟩ : MethodName)) (z := (⟨"com/example/lokit/lokit/password/PasswordAlphabet", "classOf", "(I)Ljava/util/Optional;"⟩ : MethodName)) at_234 (clo_N0 l Z a0 n0 hw hEL G1 O1 P1 G3 O3 rG3 oe up lo di sy O5 E5 F5 O_up O_lo O_di O_sy pa cp xa ta kt h W.old F_pa_symbols E_xa F_xa_coder F_xa_value V_ta ⟨Or.inr hc33, Or.inl hc34, Or.inr hc40⟩) E_pa (tw97 hw) (tw98 hw) (Or.inl (tw100 hw)) (tw100 hw) (tw99 hw) (tw36 hw) (tw101 hw) (by decide) (lenOf pd14 rfl) rfl rfl (by decide) (by decide) rfl sf0 all0 rfl rfl rfl (by decide) (by decide)
            clear W
            obtain ⟨rfl, hs41⟩ := hQ41
            subst hs41
            replace W41 := W41.cast (st' := [(.ref oe)]) rfl
            replace W41 := W41.astore (pc' := 239) (L' := #[.val (.int p0), .val (.int p1), .val (.int p2), .val (.int p3), .val (.int s0), .val (.int s1), .val (.ref ca), .val (.int (1 : Int32)), .val (.ref xa), .val (.ref pa), .val (.int mm), .val (.int cp), .val .null, .val (.ref oe)]) at_237 rfl rfl rfl
            replace W41 := W41.aload (pc' := 241) at_239 rfl rfl rfl
            replace W41 := W41.ifnonnullF (pc' := 244) at_241 rfl
            replace W41 := W41.aload (pc' := 246) at_244 rfl rfl rfl
            have e42 := E5.ext W41.old.2
            have f43 := F5.ext W41.old.2
            obtain ⟨V44, h44, r44, W44, K44, hQ44, SF44⟩ := W41.callV (pc' := 249) (argsL := []) (rest := []) (Wd := 0) (cells' := 6) (slots' := 39) (a := oe) (C := "java/util/Optional") (y := (⟨"java/util/Optional", "isPresent", "()Z"⟩ : MethodName)) (z := (⟨"java/util/Optional", "isPresent", "()Z"⟩ : MethodName)) at_246 (isp_0 l Z a0 n0 hw hEL G1 O1 P1 G3 O3 rG3 oe up lo di sy O5 E5 F5 O_up O_lo O_di O_sy oe h W41.old f43) e42 (tw129 hw) (tw89 hw) (Or.inl (tw91 hw)) (tw91 hw) (tw90 hw) (tw85 hw) (tw92 hw) (by decide) (lenOf pd12 rfl) rfl rfl (by decide) (by decide) rfl sf0 all0 rfl rfl rfl (by decide) (by decide)
            clear W41
            obtain ⟨rfl, hs44⟩ := hQ44
            subst hs44
            replace W44 := W44.cast (st' := [(.int (0 : Int32))]) rfl
            replace W44 := W44.ifF (pc' := 252) at_249 (teq (by decide : (0 : Int32) = (0 : Int32))).2 rfl
            replace W44 := W44.iconst (pc' := 253) (v := (1 : Int32)) at_252 rfl rfl
            replace W44 := W44.goto (pc' := 257) at_253 (by decide) (by decide)
            exact W44.iret (t := .boolean) at_257 rfl (by simp) (by decide) (by decide) (by decide) (fun V' cv => rfl)
          · replace W := W.icmpF (pc' := 198) at_195 (flt hc40).2.2.1 rfl
            replace W := W.gets (pc' := 201) at_198 (tw156 hw) O_di rfl
            replace W := W.astore (pc' := 203) (L' := #[.val (.int p0), .val (.int p1), .val (.int p2), .val (.int p3), .val (.int s0), .val (.int s1), .val (.ref ca), .val (.int (1 : Int32)), .val (.ref xa), .val (.ref pa), .val (.int mm), .val (.int cp), .val (.ref di), .unset]) at_201 rfl rfl rfl
            replace W := W.goto (pc' := 230) at_203 (by decide) (by decide)
            replace W := W.aload (pc' := 232) at_230 rfl rfl rfl
            replace W := W.iload (pc' := 234) at_232 rfl rfl
            obtain ⟨V45, h45, r45, W45, K45, hQ45, SF45⟩ := W.callV (pc' := 237) (argsL := [(.int cp)]) (rest := []) (Wd := 0) (cells' := 7) (slots' := 40) (a := pa) (C := "com/example/lokit/lokit/password/PasswordAlphabet") (y := (⟨"com/example/lokit/lokit/password/PasswordAlphabet", "classOf", "(I)Ljava/util/Optional;"⟩ : MethodName)) (z := (⟨"com/example/lokit/lokit/password/PasswordAlphabet", "classOf", "(I)Ljava/util/Optional;"⟩ : MethodName)) at_234 (clo_D l Z a0 n0 hw hEL G1 O1 P1 G3 O3 rG3 oe up lo di sy O5 E5 F5 O_up O_lo O_di O_sy pa cp h W.old hc35 hc40) E_pa (tw97 hw) (tw98 hw) (Or.inl (tw100 hw)) (tw100 hw) (tw99 hw) (tw36 hw) (tw101 hw) (by decide) (lenOf pd14 rfl) rfl rfl (by decide) (by decide) rfl sf0 all0 rfl rfl rfl (by decide) (by decide)
            clear W
            obtain ⟨r45, rfl, q45_1, q45_2⟩ := hQ45
            have z45 : h.size ≤ h45.size := K45.1
            replace W45 := W45.cast (st' := [(.ref r45)]) rfl
            replace W45 := W45.astore (pc' := 239) (L' := #[.val (.int p0), .val (.int p1), .val (.int p2), .val (.int p3), .val (.int s0), .val (.int s1), .val (.ref ca), .val (.int (1 : Int32)), .val (.ref xa), .val (.ref pa), .val (.int mm), .val (.int cp), .val (.ref di), .val (.ref r45)]) at_237 rfl rfl rfl
            replace W45 := W45.aload (pc' := 241) at_239 rfl rfl rfl
            replace W45 := W45.ifnonnullT (pc' := 258) at_241 (by decide) (by decide)
            replace W45 := W45.aload (pc' := 260) at_258 rfl rfl rfl
            obtain ⟨V46, h46, r46, W46, K46, hQ46, SF46⟩ := W45.callV (pc' := 263) (argsL := []) (rest := []) (Wd := 0) (cells' := 7) (slots' := 40) (a := r45) (C := "java/util/Optional") (y := (⟨"java/util/Optional", "isPresent", "()Z"⟩ : MethodName)) (z := (⟨"java/util/Optional", "isPresent", "()Z"⟩ : MethodName)) at_260 (isp_1 l Z a0 n0 hw hEL G1 O1 P1 G3 O3 rG3 oe up lo di sy O5 E5 F5 O_up O_lo O_di O_sy r45 di h45 W45.old q45_2) q45_1 (tw129 hw) (tw89 hw) (Or.inl (tw91 hw)) (tw91 hw) (tw90 hw) (tw85 hw) (tw92 hw) (by decide) (lenOf pd12 rfl) rfl rfl (by decide) (by decide) rfl sf0 all0 rfl rfl rfl (by decide) (by decide)
            clear W45
            obtain ⟨rfl, hs46⟩ := hQ46
            subst hs46
            replace W46 := W46.cast (st' := [(.int (1 : Int32))]) rfl
            replace W46 := W46.ifF (pc' := 266) at_263 (feq (by decide : ¬ ((1 : Int32) = (0 : Int32)))).1 rfl
            replace W46 := W46.aload (pc' := 268) at_266 rfl rfl rfl
            obtain ⟨V47, h47, r47, W47, K47, hQ47, SF47⟩ := W46.callV (pc' := 271) (argsL := []) (rest := []) (Wd := 0) (cells' := 7) (slots' := 40) (a := r45) (C := "java/util/Optional") (y := (⟨"java/util/Optional", "get", "()Ljava/lang/Object;"⟩ : MethodName)) (z := (⟨"java/util/Optional", "get", "()Ljava/lang/Object;"⟩ : MethodName)) at_268 (opt_get l Z a0 n0 hw hEL G1 O1 P1 G3 O3 rG3 oe up lo di sy O5 E5 F5 O_up O_lo O_di O_sy r45 di h45 W46.old q45_2) q45_1 (tw148 hw) (tw149 hw) (Or.inl (tw151 hw)) (tw151 hw) (tw150 hw) (tw85 hw) (tw152 hw) (by decide) (lenOf pd23 rfl) rfl rfl (by decide) (by decide) rfl sf0 all0 rfl rfl rfl (by decide) (by decide)
            clear W46
            obtain ⟨rfl, hs47⟩ := hQ47
            subst hs47
            replace W47 := W47.cast (st' := [(.ref di)]) rfl
            replace W47 := W47.aload (pc' := 273) at_271 rfl rfl rfl
            replace W47 := W47.acmpF (pc' := 276) at_273 rfl rfl (by simp [Jvm.Free.XT.acmp]) rfl
            replace W47 := W47.iconst (pc' := 277) (v := (1 : Int32)) at_276 rfl rfl
            replace W47 := W47.goto (pc' := 281) at_277 (by decide) (by decide)
            exact W47.iret (t := .boolean) at_281 rfl (by simp) (by decide) (by decide) (by decide) (fun V' cv => rfl)
      · replace W := W.icmpF (pc' := 169) at_166 (flt hc34).1 rfl
        replace W := W.iload (pc' := 171) at_169 rfl rfl
        replace W := W.bipush (pc' := 173) (v := (122 : Int32)) at_171 rfl rfl
        by_cases hc48 : (122 : Int32) < cp
        · replace W := W.icmpT (pc' := 184) at_173 (tlt hc48).2.2.1 (by decide) (by decide)
          replace W := W.iload (pc' := 186) at_184 rfl rfl
          replace W := W.bipush (pc' := 188) (v := (48 : Int32)) at_186 rfl rfl
          by_cases hc49 : cp < (48 : Int32)
          · replace W := W.icmpT (pc' := 206) at_188 (tlt hc49).1 (by decide) (by decide)
            replace W := W.iload (pc' := 208) at_206 rfl rfl
            replace W := W.ifT (pc' := 230) at_208 (feq (by decide : ¬ ((1 : Int32) = (0 : Int32)))).2 (by decide) (by decide)
            replace W := W.aload (pc' := 232) at_230 rfl rfl rfl
            replace W := W.iload (pc' := 234) at_232 rfl rfl
            obtain ⟨V50, h50, r50, W50, K50, hQ50, SF50⟩ := W.callV (pc' := 237) (argsL := [(.int cp)]) (rest := []) (Wd := 0) (cells' := 6) (slots' := 39) (a := pa) (C := "com/example/lokit/lokit/password/PasswordAlphabet") (y := (⟨"com/example/lokit/lokit/password/PasswordAlphabet", "classOf", "(I)Ljava/util/Optional;"⟩ : MethodName)) (z := (⟨"com/example/lokit/lokit/password/PasswordAlphabet", "classOf", "(I)Ljava/util/Optional;"⟩ : MethodName)) at_234 (clo_N0 l Z a0 n0 hw hEL G1 O1 P1 G3 O3 rG3 oe up lo di sy O5 E5 F5 O_up O_lo O_di O_sy pa cp xa ta kt h W.old F_pa_symbols E_xa F_xa_coder F_xa_value V_ta ⟨Or.inr hc33, Or.inr hc48, Or.inl hc49⟩) E_pa (tw97 hw) (tw98 hw) (Or.inl (tw100 hw)) (tw100 hw) (tw99 hw) (tw36 hw) (tw101 hw) (by decide) (lenOf pd14 rfl) rfl rfl (by decide) (by decide) rfl sf0 all0 rfl rfl rfl (by decide) (by decide)
            clear W
            obtain ⟨rfl, hs50⟩ := hQ50
            subst hs50
            replace W50 := W50.cast (st' := [(.ref oe)]) rfl
            replace W50 := W50.astore (pc' := 239) (L' := #[.val (.int p0), .val (.int p1), .val (.int p2), .val (.int p3), .val (.int s0), .val (.int s1), .val (.ref ca), .val (.int (1 : Int32)), .val (.ref xa), .val (.ref pa), .val (.int mm), .val (.int cp), .val .null, .val (.ref oe)]) at_237 rfl rfl rfl
            replace W50 := W50.aload (pc' := 241) at_239 rfl rfl rfl
            replace W50 := W50.ifnonnullF (pc' := 244) at_241 rfl
            replace W50 := W50.aload (pc' := 246) at_244 rfl rfl rfl
            have e51 := E5.ext W50.old.2
            have f52 := F5.ext W50.old.2
            obtain ⟨V53, h53, r53, W53, K53, hQ53, SF53⟩ := W50.callV (pc' := 249) (argsL := []) (rest := []) (Wd := 0) (cells' := 6) (slots' := 39) (a := oe) (C := "java/util/Optional") (y := (⟨"java/util/Optional", "isPresent", "()Z"⟩ : MethodName)) (z := (⟨"java/util/Optional", "isPresent", "()Z"⟩ : MethodName)) at_246 (isp_0 l Z a0 n0 hw hEL G1 O1 P1 G3 O3 rG3 oe up lo di sy O5 E5 F5 O_up O_lo O_di O_sy oe h W50.old f52) e51 (tw129 hw) (tw89 hw) (Or.inl (tw91 hw)) (tw91 hw) (tw90 hw) (tw85 hw) (tw92 hw) (by decide) (lenOf pd12 rfl) rfl rfl (by decide) (by decide) rfl sf0 all0 rfl rfl rfl (by decide) (by decide)
            clear W50
            obtain ⟨rfl, hs53⟩ := hQ53
            subst hs53
            replace W53 := W53.cast (st' := [(.int (0 : Int32))]) rfl
            replace W53 := W53.ifF (pc' := 252) at_249 (teq (by decide : (0 : Int32) = (0 : Int32))).2 rfl
            replace W53 := W53.iconst (pc' := 253) (v := (1 : Int32)) at_252 rfl rfl
            replace W53 := W53.goto (pc' := 257) at_253 (by decide) (by decide)
            exact W53.iret (t := .boolean) at_257 rfl (by simp) (by decide) (by decide) (by decide) (fun V' cv => rfl)
          · replace W := W.icmpF (pc' := 191) at_188 (flt hc49).1 rfl
            replace W := W.iload (pc' := 193) at_191 rfl rfl
            replace W := W.bipush (pc' := 195) (v := (57 : Int32)) at_193 rfl rfl
            by_cases hc54 : (57 : Int32) < cp
            · replace W := W.icmpT (pc' := 206) at_195 (tlt hc54).2.2.1 (by decide) (by decide)
              replace W := W.iload (pc' := 208) at_206 rfl rfl
              replace W := W.ifT (pc' := 230) at_208 (feq (by decide : ¬ ((1 : Int32) = (0 : Int32)))).2 (by decide) (by decide)
              replace W := W.aload (pc' := 232) at_230 rfl rfl rfl
              replace W := W.iload (pc' := 234) at_232 rfl rfl
              obtain ⟨V55, h55, r55, W55, K55, hQ55, SF55⟩ := W.callV (pc' := 237) (argsL := [(.int cp)]) (rest := []) (Wd := 0) (cells' := 6) (slots' := 39) (a := pa) (C := "com/example/lokit/lokit/password/PasswordAlphabet") (y := (⟨"com/example/lokit/lokit/password/PasswordAlphabet", "classOf", "(I)Ljava/util/Optional;"⟩ : MethodName)) (z := (⟨"com/example/lokit/lokit/password/PasswordAlphabet", "classOf", "(I)Ljava/util/Optional;"⟩ : MethodName)) at_234 (clo_N0 l Z a0 n0 hw hEL G1 O1 P1 G3 O3 rG3 oe up lo di sy O5 E5 F5 O_up O_lo O_di O_sy pa cp xa ta kt h W.old F_pa_symbols E_xa F_xa_coder F_xa_value V_ta ⟨Or.inr hc33, Or.inr hc48, Or.inr hc54⟩) E_pa (tw97 hw) (tw98 hw) (Or.inl (tw100 hw)) (tw100 hw) (tw99 hw) (tw36 hw) (tw101 hw) (by decide) (lenOf pd14 rfl) rfl rfl (by decide) (by decide) rfl sf0 all0 rfl rfl rfl (by decide) (by decide)
              clear W
              obtain ⟨rfl, hs55⟩ := hQ55
              subst hs55
              replace W55 := W55.cast (st' := [(.ref oe)]) rfl
              replace W55 := W55.astore (pc' := 239) (L' := #[.val (.int p0), .val (.int p1), .val (.int p2), .val (.int p3), .val (.int s0), .val (.int s1), .val (.ref ca), .val (.int (1 : Int32)), .val (.ref xa), .val (.ref pa), .val (.int mm), .val (.int cp), .val .null, .val (.ref oe)]) at_237 rfl rfl rfl
              replace W55 := W55.aload (pc' := 241) at_239 rfl rfl rfl
              replace W55 := W55.ifnonnullF (pc' := 244) at_241 rfl
              replace W55 := W55.aload (pc' := 246) at_244 rfl rfl rfl
              have e56 := E5.ext W55.old.2
              have f57 := F5.ext W55.old.2
              obtain ⟨V58, h58, r58, W58, K58, hQ58, SF58⟩ := W55.callV (pc' := 249) (argsL := []) (rest := []) (Wd := 0) (cells' := 6) (slots' := 39) (a := oe) (C := "java/util/Optional") (y := (⟨"java/util/Optional", "isPresent", "()Z"⟩ : MethodName)) (z := (⟨"java/util/Optional", "isPresent", "()Z"⟩ : MethodName)) at_246 (isp_0 l Z a0 n0 hw hEL G1 O1 P1 G3 O3 rG3 oe up lo di sy O5 E5 F5 O_up O_lo O_di O_sy oe h W55.old f57) e56 (tw129 hw) (tw89 hw) (Or.inl (tw91 hw)) (tw91 hw) (tw90 hw) (tw85 hw) (tw92 hw) (by decide) (lenOf pd12 rfl) rfl rfl (by decide) (by decide) rfl sf0 all0 rfl rfl rfl (by decide) (by decide)
              clear W55
              obtain ⟨rfl, hs58⟩ := hQ58
              subst hs58
              replace W58 := W58.cast (st' := [(.int (0 : Int32))]) rfl
              replace W58 := W58.ifF (pc' := 252) at_249 (teq (by decide : (0 : Int32) = (0 : Int32))).2 rfl
              replace W58 := W58.iconst (pc' := 253) (v := (1 : Int32)) at_252 rfl rfl
              replace W58 := W58.goto (pc' := 257) at_253 (by decide) (by decide)
              exact W58.iret (t := .boolean) at_257 rfl (by simp) (by decide) (by decide) (by decide) (fun V' cv => rfl)
            · replace W := W.icmpF (pc' := 198) at_195 (flt hc54).2.2.1 rfl
              replace W := W.gets (pc' := 201) at_198 (tw156 hw) O_di rfl
              replace W := W.astore (pc' := 203) (L' := #[.val (.int p0), .val (.int p1), .val (.int p2), .val (.int p3), .val (.int s0), .val (.int s1), .val (.ref ca), .val (.int (1 : Int32)), .val (.ref xa), .val (.ref pa), .val (.int mm), .val (.int cp), .val (.ref di), .unset]) at_201 rfl rfl rfl
              replace W := W.goto (pc' := 230) at_203 (by decide) (by decide)
              replace W := W.aload (pc' := 232) at_230 rfl rfl rfl
              replace W := W.iload (pc' := 234) at_232 rfl rfl
              obtain ⟨V59, h59, r59, W59, K59, hQ59, SF59⟩ := W.callV (pc' := 237) (argsL := [(.int cp)]) (rest := []) (Wd := 0) (cells' := 7) (slots' := 40) (a := pa) (C := "com/example/lokit/lokit/password/PasswordAlphabet") (y := (⟨"com/example/lokit/lokit/password/PasswordAlphabet", "classOf", "(I)Ljava/util/Optional;"⟩ : MethodName)) (z := (⟨"com/example/lokit/lokit/password/PasswordAlphabet", "classOf", "(I)Ljava/util/Optional;"⟩ : MethodName)) at_234 (clo_D l Z a0 n0 hw hEL G1 O1 P1 G3 O3 rG3 oe up lo di sy O5 E5 F5 O_up O_lo O_di O_sy pa cp h W.old hc49 hc54) E_pa (tw97 hw) (tw98 hw) (Or.inl (tw100 hw)) (tw100 hw) (tw99 hw) (tw36 hw) (tw101 hw) (by decide) (lenOf pd14 rfl) rfl rfl (by decide) (by decide) rfl sf0 all0 rfl rfl rfl (by decide) (by decide)
              clear W
              obtain ⟨r59, rfl, q59_1, q59_2⟩ := hQ59
              have z59 : h.size ≤ h59.size := K59.1
              replace W59 := W59.cast (st' := [(.ref r59)]) rfl
              replace W59 := W59.astore (pc' := 239) (L' := #[.val (.int p0), .val (.int p1), .val (.int p2), .val (.int p3), .val (.int s0), .val (.int s1), .val (.ref ca), .val (.int (1 : Int32)), .val (.ref xa), .val (.ref pa), .val (.int mm), .val (.int cp), .val (.ref di), .val (.ref r59)]) at_237 rfl rfl rfl
              replace W59 := W59.aload (pc' := 241) at_239 rfl rfl rfl
              replace W59 := W59.ifnonnullT (pc' := 258) at_241 (by decide) (by decide)
              replace W59 := W59.aload (pc' := 260) at_258 rfl rfl rfl
              obtain ⟨V60, h60, r60, W60, K60, hQ60, SF60⟩ := W59.callV (pc' := 263) (argsL := []) (rest := []) (Wd := 0) (cells' := 7) (slots' := 40) (a := r59) (C := "java/util/Optional") (y := (⟨"java/util/Optional", "isPresent", "()Z"⟩ : MethodName)) (z := (⟨"java/util/Optional", "isPresent", "()Z"⟩ : MethodName)) at_260 (isp_1 l Z a0 n0 hw hEL G1 O1 P1 G3 O3 rG3 oe up lo di sy O5 E5 F5 O_up O_lo O_di O_sy r59 di h59 W59.old q59_2) q59_1 (tw129 hw) (tw89 hw) (Or.inl (tw91 hw)) (tw91 hw) (tw90 hw) (tw85 hw) (tw92 hw) (by decide) (lenOf pd12 rfl) rfl rfl (by decide) (by decide) rfl sf0 all0 rfl rfl rfl (by decide) (by decide)
              clear W59
              obtain ⟨rfl, hs60⟩ := hQ60
              subst hs60
              replace W60 := W60.cast (st' := [(.int (1 : Int32))]) rfl
              replace W60 := W60.ifF (pc' := 266) at_263 (feq (by decide : ¬ ((1 : Int32) = (0 : Int32)))).1 rfl
              replace W60 := W60.aload (pc' := 268) at_266 rfl rfl rfl
              obtain ⟨V61, h61, r61, W61, K61, hQ61, SF61⟩ := W60.callV (pc' := 271) (argsL := []) (rest := []) (Wd := 0) (cells' := 7) (slots' := 40) (a := r59) (C := "java/util/Optional") (y := (⟨"java/util/Optional", "get", "()Ljava/lang/Object;"⟩ : MethodName)) (z := (⟨"java/util/Optional", "get", "()Ljava/lang/Object;"⟩ : MethodName)) at_268 (opt_get l Z a0 n0 hw hEL G1 O1 P1 G3 O3 rG3 oe up lo di sy O5 E5 F5 O_up O_lo O_di O_sy r59 di h59 W60.old q59_2) q59_1 (tw148 hw) (tw149 hw) (Or.inl (tw151 hw)) (tw151 hw) (tw150 hw) (tw85 hw) (tw152 hw) (by decide) (lenOf pd23 rfl) rfl rfl (by decide) (by decide) rfl sf0 all0 rfl rfl rfl (by decide) (by decide)
              clear W60
              obtain ⟨rfl, hs61⟩ := hQ61
              subst hs61
              replace W61 := W61.cast (st' := [(.ref di)]) rfl
              replace W61 := W61.aload (pc' := 273) at_271 rfl rfl rfl
              replace W61 := W61.acmpF (pc' := 276) at_273 rfl rfl (by simp [Jvm.Free.XT.acmp]) rfl
              replace W61 := W61.iconst (pc' := 277) (v := (1 : Int32)) at_276 rfl rfl
              replace W61 := W61.goto (pc' := 281) at_277 (by decide) (by decide)
              exact W61.iret (t := .boolean) at_281 rfl (by simp) (by decide) (by decide) (by decide) (fun V' cv => rfl)
        · replace W := W.icmpF (pc' := 176) at_173 (flt hc48).2.2.1 rfl
          replace W := W.gets (pc' := 179) at_176 (tw153 hw) O_lo rfl
          replace W := W.astore (pc' := 181) (L' := #[.val (.int p0), .val (.int p1), .val (.int p2), .val (.int p3), .val (.int s0), .val (.int s1), .val (.ref ca), .val (.int (1 : Int32)), .val (.ref xa), .val (.ref pa), .val (.int mm), .val (.int cp), .val (.ref lo), .unset]) at_179 rfl rfl rfl
          replace W := W.goto (pc' := 230) at_181 (by decide) (by decide)
          replace W := W.aload (pc' := 232) at_230 rfl rfl rfl
          replace W := W.iload (pc' := 234) at_232 rfl rfl
          obtain ⟨V62, h62, r62, W62, K62, hQ62, SF62⟩ := W.callV (pc' := 237) (argsL := [(.int cp)]) (rest := []) (Wd := 0) (cells' := 7) (slots' := 40) (a := pa) (C := "com/example/lokit/lokit/password/PasswordAlphabet") (y := (⟨"com/example/lokit/lokit/password/PasswordAlphabet", "classOf", "(I)Ljava/util/Optional;"⟩ : MethodName)) (z := (⟨"com/example/lokit/lokit/password/PasswordAlphabet", "classOf", "(I)Ljava/util/Optional;"⟩ : MethodName)) at_234 (clo_L l Z a0 n0 hw hEL G1 O1 P1 G3 O3 rG3 oe up lo di sy O5 E5 F5 O_up O_lo O_di O_sy pa cp h W.old hc34 hc48) E_pa (tw97 hw) (tw98 hw) (Or.inl (tw100 hw)) (tw100 hw) (tw99 hw) (tw36 hw) (tw101 hw) (by decide) (lenOf pd14 rfl) rfl rfl (by decide) (by decide) rfl sf0 all0 rfl rfl rfl (by decide) (by decide)
          clear W
          obtain ⟨r62, rfl, q62_1, q62_2⟩ := hQ62
          have z62 : h.size ≤ h62.size := K62.1
          replace W62 := W62.cast (st' := [(.ref r62)]) rfl
          replace W62 := W62.astore (pc' := 239) (L' := #[.val (.int p0), .val (.int p1), .val (.int p2), .val (.int p3), .val (.int s0), .val (.int s1), .val (.ref ca), .val (.int (1 : Int32)), .val (.ref xa), .val (.ref pa), .val (.int mm), .val (.int cp), .val (.ref lo), .val (.ref r62)]) at_237 rfl rfl rfl
          replace W62 := W62.aload (pc' := 241) at_239 rfl rfl rfl
          replace W62 := W62.ifnonnullT (pc' := 258) at_241 (by decide) (by decide)
          replace W62 := W62.aload (pc' := 260) at_258 rfl rfl rfl
          obtain ⟨V63, h63, r63, W63, K63, hQ63, SF63⟩ := W62.callV (pc' := 263) (argsL := []) (rest := []) (Wd := 0) (cells' := 7) (slots' := 40) (a := r62) (C := "java/util/Optional") (y := (⟨"java/util/Optional", "isPresent", "()Z"⟩ : MethodName)) (z := (⟨"java/util/Optional", "isPresent", "()Z"⟩ : MethodName)) at_260 (isp_1 l Z a0 n0 hw hEL G1 O1 P1 G3 O3 rG3 oe up lo di sy O5 E5 F5 O_up O_lo O_di O_sy r62 lo h62 W62.old q62_2) q62_1 (tw129 hw) (tw89 hw) (Or.inl (tw91 hw)) (tw91 hw) (tw90 hw) (tw85 hw) (tw92 hw) (by decide) (lenOf pd12 rfl) rfl rfl (by decide) (by decide) rfl sf0 all0 rfl rfl rfl (by decide) (by decide)
          clear W62
          obtain ⟨rfl, hs63⟩ := hQ63
          subst hs63
          replace W63 := W63.cast (st' := [(.int (1 : Int32))]) rfl
          replace W63 := W63.ifF (pc' := 266) at_263 (feq (by decide : ¬ ((1 : Int32) = (0 : Int32)))).1 rfl
          replace W63 := W63.aload (pc' := 268) at_266 rfl rfl rfl
          obtain ⟨V64, h64, r64, W64, K64, hQ64, SF64⟩ := W63.callV (pc' := 271) (argsL := []) (rest := []) (Wd := 0) (cells' := 7) (slots' := 40) (a := r62) (C := "java/util/Optional") (y := (⟨"java/util/Optional", "get", "()Ljava/lang/Object;"⟩ : MethodName)) (z := (⟨"java/util/Optional", "get", "()Ljava/lang/Object;"⟩ : MethodName)) at_268 (opt_get l Z a0 n0 hw hEL G1 O1 P1 G3 O3 rG3 oe up lo di sy O5 E5 F5 O_up O_lo O_di O_sy r62 lo h62 W63.old q62_2) q62_1 (tw148 hw) (tw149 hw) (Or.inl (tw151 hw)) (tw151 hw) (tw150 hw) (tw85 hw) (tw152 hw) (by decide) (lenOf pd23 rfl) rfl rfl (by decide) (by decide) rfl sf0 all0 rfl rfl rfl (by decide) (by decide)
          clear W63
          obtain ⟨rfl, hs64⟩ := hQ64
          subst hs64
          replace W64 := W64.cast (st' := [(.ref lo)]) rfl
          replace W64 := W64.aload (pc' := 273) at_271 rfl rfl rfl
          replace W64 := W64.acmpF (pc' := 276) at_273 rfl rfl (by simp [Jvm.Free.XT.acmp]) rfl
          replace W64 := W64.iconst (pc' := 277) (v := (1 : Int32)) at_276 rfl rfl
          replace W64 := W64.goto (pc' := 281) at_277 (by decide) (by decide)
          exact W64.iret (t := .boolean) at_281 rfl (by simp) (by decide) (by decide) (by decide) (fun V' cv => rfl)
    · replace W := W.icmpF (pc' := 154) at_151 (flt hc33).2.2.1 rfl
      replace W := W.gets (pc' := 157) at_154 (tw159 hw) O_up rfl
      replace W := W.astore (pc' := 159) (L' := #[.val (.int p0), .val (.int p1), .val (.int p2), .val (.int p3), .val (.int s0), .val (.int s1), .val (.ref ca), .val (.int (1 : Int32)), .val (.ref xa), .val (.ref pa), .val (.int mm), .val (.int cp), .val (.ref up), .unset]) at_157 rfl rfl rfl
      replace W := W.goto (pc' := 230) at_159 (by decide) (by decide)
      replace W := W.aload (pc' := 232) at_230 rfl rfl rfl
      replace W := W.iload (pc' := 234) at_232 rfl rfl
      obtain ⟨V65, h65, r65, W65, K65, hQ65, SF65⟩ := W.callV (pc' := 237) (argsL := [(.int cp)]) (rest := []) (Wd := 0) (cells' := 7) (slots' := 40) (a := pa) (C := "com/example/lokit/lokit/password/PasswordAlphabet") (y := (⟨"com/example/lokit/lokit/password/PasswordAlphabet", "classOf", "(I)Ljava/util/Optional;"⟩ : MethodName)) (z := (⟨"com/example/lokit/lokit/password/PasswordAlphabet", "classOf", "(I)Ljava/util/Optional;"⟩ : MethodName)) at_234 (clo_U l Z a0 n0 hw hEL G1 O1 P1 G3 O3 rG3 oe up lo di sy O5 E5 F5 O_up O_lo O_di O_sy pa cp h W.old hc1 hc33) E_pa (tw97 hw) (tw98 hw) (Or.inl (tw100 hw)) (tw100 hw) (tw99 hw) (tw36 hw) (tw101 hw) (by decide) (lenOf pd14 rfl) rfl rfl (by decide) (by decide) rfl sf0 all0 rfl rfl rfl (by decide) (by decide)
      clear W
      obtain ⟨r65, rfl, q65_1, q65_2⟩ := hQ65
      have z65 : h.size ≤ h65.size := K65.1
      replace W65 := W65.cast (st' := [(.ref r65)]) rfl
      replace W65 := W65.astore (pc' := 239) (L' := #[.val (.int p0), .val (.int p1), .val (.int p2), .val (.int p3), .val (.int s0), .val (.int s1), .val (.ref ca), .val (.int (1 : Int32)), .val (.ref xa), .val (.ref pa), .val (.int mm), .val (.int cp), .val (.ref up), .val (.ref r65)]) at_237 rfl rfl rfl
      replace W65 := W65.aload (pc' := 241) at_239 rfl rfl rfl
      replace W65 := W65.ifnonnullT (pc' := 258) at_241 (by decide) (by decide)
      replace W65 := W65.aload (pc' := 260) at_258 rfl rfl rfl
      obtain ⟨V66, h66, r66, W66, K66, hQ66, SF66⟩ := W65.callV (pc' := 263) (argsL := []) (rest := []) (Wd := 0) (cells' := 7) (slots' := 40) (a := r65) (C := "java/util/Optional") (y := (⟨"java/util/Optional", "isPresent", "()Z"⟩ : MethodName)) (z := (⟨"java/util/Optional", "isPresent", "()Z"⟩ : MethodName)) at_260 (isp_1 l Z a0 n0 hw hEL G1 O1 P1 G3 O3 rG3 oe up lo di sy O5 E5 F5 O_up O_lo O_di O_sy r65 up h65 W65.old q65_2) q65_1 (tw129 hw) (tw89 hw) (Or.inl (tw91 hw)) (tw91 hw) (tw90 hw) (tw85 hw) (tw92 hw) (by decide) (lenOf pd12 rfl) rfl rfl (by decide) (by decide) rfl sf0 all0 rfl rfl rfl (by decide) (by decide)
      clear W65
      obtain ⟨rfl, hs66⟩ := hQ66
      subst hs66
      replace W66 := W66.cast (st' := [(.int (1 : Int32))]) rfl
      replace W66 := W66.ifF (pc' := 266) at_263 (feq (by decide : ¬ ((1 : Int32) = (0 : Int32)))).1 rfl
      replace W66 := W66.aload (pc' := 268) at_266 rfl rfl rfl
      obtain ⟨V67, h67, r67, W67, K67, hQ67, SF67⟩ := W66.callV (pc' := 271) (argsL := []) (rest := []) (Wd := 0) (cells' := 7) (slots' := 40) (a := r65) (C := "java/util/Optional") (y := (⟨"java/util/Optional", "get", "()Ljava/lang/Object;"⟩ : MethodName)) (z := (⟨"java/util/Optional", "get", "()Ljava/lang/Object;"⟩ : MethodName)) at_268 (opt_get l Z a0 n0 hw hEL G1 O1 P1 G3 O3 rG3 oe up lo di sy O5 E5 F5 O_up O_lo O_di O_sy r65 up h65 W66.old q65_2) q65_1 (tw148 hw) (tw149 hw) (Or.inl (tw151 hw)) (tw151 hw) (tw150 hw) (tw85 hw) (tw152 hw) (by decide) (lenOf pd23 rfl) rfl rfl (by decide) (by decide) rfl sf0 all0 rfl rfl rfl (by decide) (by decide)
      clear W66
      obtain ⟨rfl, hs67⟩ := hQ67
      subst hs67
      replace W67 := W67.cast (st' := [(.ref up)]) rfl
      replace W67 := W67.aload (pc' := 273) at_271 rfl rfl rfl
      replace W67 := W67.acmpF (pc' := 276) at_273 rfl rfl (by simp [Jvm.Free.XT.acmp]) rfl
      replace W67 := W67.iconst (pc' := 277) (v := (1 : Int32)) at_276 rfl rfl
      replace W67 := W67.goto (pc' := 281) at_277 (by decide) (by decide)
      exact W67.iret (t := .boolean) at_281 rfl (by simp) (by decide) (by decide) (by decide) (fun V' cv => rfl)
theorem ef_law_c (m : MethodId) (p0 : Int32) (p1 : Int32) (p2 : Int32) (p3 : Int32) : entryFrame m #[(.int p0), (.int p1), (.int p2), (.int p3)] maxLocals = mkF m 0 #[.val (.int p0), .val (.int p1), .val (.int p2), .val (.int p3), .unset, .unset, .unset, .unset, .unset, .unset, .unset, .unset, .unset, .unset] [] := by first | (simp [entryFrame, mkF, argsToLocals, Value.category, maxLocals]; done) | rfl
set_option maxRecDepth 65536 in
set_option maxHeartbeats 40000000 in
theorem law_c (l : Launch) (Z : State) (a0 : Array Value) (n0 : Nat) (hw : ∀ d ∈ tables_1, d.before a0 Z = true) (hEL : EW Z a0 consts_1) (G1 : Int32) (O1 : Sta Z Z.heap "java/lang/String" "COMPACT_STRINGS" "Z" (.int G1)) (P1 : ¬ (G1 = (0 : Int32))) (G3 : Value) (O3 : Sta Z Z.heap "jdk/internal/util/Preconditions" "SIOOBE_FORMATTER" "Ljava/util/function/BiFunction;" G3) (rG3 : G3.isRef = true) (oe up lo di sy : Addr) (O5 : Sta Z Z.heap "java/util/Optional" "EMPTY" "Ljava/util/Optional;" (.ref oe)) (E5 : Exa Z Z.heap oe "java/util/Optional") (F5 : Fld Z Z.heap oe "java/util/Optional" "value" "Ljava/lang/Object;" .null) (O_up : Sta Z Z.heap "com/example/lokit/lokit/password/CharacterClass" "UPPER_CASE" "Lcom/example/lokit/lokit/password/CharacterClass;" (.ref up)) (O_lo : Sta Z Z.heap "com/example/lokit/lokit/password/CharacterClass" "LOWER_CASE" "Lcom/example/lokit/lokit/password/CharacterClass;" (.ref lo)) (O_di : Sta Z Z.heap "com/example/lokit/lokit/password/CharacterClass" "DIGIT" "Lcom/example/lokit/lokit/password/CharacterClass;" (.ref di)) (O_sy : Sta Z Z.heap "com/example/lokit/lokit/password/CharacterClass" "SYMBOL" "Lcom/example/lokit/lokit/password/CharacterClass;" (.ref sy)) (p0 : Int32) (p1 : Int32) (p2 : Int32) (p3 : Int32) (h0 : Heap) (hO : Old Z n0 h0)  (wds : List Jvm.Cond) :
    Con l Z consts_1 n0 x code maxLocals ret room_1 #[(.int p0), (.int p1), (.int p2), (.int p3)] h0 [] (fun v h V' => v = some (.int (1 : Int32))) wds := by
  refine Con.of (a0 := a0) pf30 (fun m => ef_law_c m p0 p1 p2 p3) all0 hO hEL ?_
  intro p e s m below meth c S0 hnm hsf W
  replace W := W.iloadN (pc' := 1) at_0 rfl rfl
  obtain ⟨V1, h1, r1, W1, K1, hQ1, SF1⟩ := W.callS (pc' := 4) (argsL := [(.int p0)]) (rest := []) (Wd := 0) (cells' := 0) (slots' := 0) (y := (⟨"com/example/lokit/lokit/password/PasswordAlphabetClassOfPinLaw", "punct", "(I)C"⟩ : MethodName)) at_1 (punct_c l Z a0 n0 hw hEL G1 O1 P1 G3 O3 rG3 oe up lo di sy O5 E5 F5 O_up O_lo O_di O_sy p0 h0 W.old) (tw0 hw) (tw1 hw) (tw2 hw) (tw3 hw) (by decide) (lenOf pd20 rfl) rfl rfl (by decide) (by decide) rfl sf0 all0 rfl rfl rfl (by decide) (by decide)
  clear W
  obtain ⟨r1, rfl, hs1, q1_2⟩ := hQ1
  subst hs1
  replace W1 := W1.cast (st' := [(.int r1)]) rfl
  replace W1 := W1.istore (pc' := 6) (L' := #[.val (.int p0), .val (.int p1), .val (.int p2), .val (.int p3), .val (.int r1), .unset, .unset, .unset, .unset, .unset, .unset, .unset, .unset, .unset]) at_4 rfl rfl
  replace W1 := W1.iloadN (pc' := 7) at_6 rfl rfl
  obtain ⟨V2, h2, r2, W2, K2, hQ2, SF2⟩ := W1.callS (pc' := 10) (argsL := [(.int p1)]) (rest := []) (Wd := 0) (cells' := 0) (slots' := 0) (y := (⟨"com/example/lokit/lokit/password/PasswordAlphabetClassOfPinLaw", "punct", "(I)C"⟩ : MethodName)) at_7 (punct_c l Z a0 n0 hw hEL G1 O1 P1 G3 O3 rG3 oe up lo di sy O5 E5 F5 O_up O_lo O_di O_sy p1 h0 W1.old) (tw0 hw) (tw1 hw) (tw2 hw) (tw3 hw) (by decide) (lenOf pd20 rfl) rfl rfl (by decide) (by decide) rfl sf0 all0 rfl rfl rfl (by decide) (by decide)
  clear W1
  obtain ⟨r2, rfl, hs2, q2_2⟩ := hQ2
  subst hs2
  replace W2 := W2.cast (st' := [(.int r2)]) rfl
  replace W2 := W2.istore (pc' := 12) (L' := #[.val (.int p0), .val (.int p1), .val (.int p2), .val (.int p3), .val (.int r1), .val (.int r2), .unset, .unset, .unset, .unset, .unset, .unset, .unset, .unset]) at_10 rfl rfl
  replace W2 := W2.iconst (pc' := 13) (v := (2 : Int32)) at_12 rfl rfl
  obtain ⟨h3, a3, W3, E3, g3, ⟨k3, A3⟩, sf3, SF3⟩ := W2.newarr (pc' := 15) (cap := 2) (cells' := 1) (slots' := 2) at_13 (tw4 hw) (by decide) (by decide) (by decide) rfl rfl rfl (by decide) (by decide)
  clear W2
  rw [← g3] at A3
  have z3 : h0.size ≤ h3.size := E3.1
  have v3 : Arv Z h3 a3 k3 .char (2 : Int32) [(.int (0 : Int32)), (.int (0 : Int32))] (.int (0 : Int32)) := A3.pad (pad_rep [] (.int (0 : Int32)) 2)
  replace W3 := W3.astore (pc' := 17) (L' := #[.val (.int p0), .val (.int p1), .val (.int p2), .val (.int p3), .val (.int r1), .val (.int r2), .val (.ref a3), .unset, .unset, .unset, .unset, .unset, .unset, .unset]) at_15 rfl rfl rfl
  replace W3 := W3.aload (pc' := 19) at_17 rfl rfl rfl
  replace W3 := W3.iconst (pc' := 20) (v := (0 : Int32)) at_19 rfl rfl
  replace W3 := W3.iload (pc' := 22) at_20 rfl rfl
  obtain ⟨h4, W4, w4, A4, SF4⟩ := W3.castore (pc' := 23) (i := 0) (x' := r1) at_22 v3 ⟨by decide, by decide⟩ rfl (by show 0 < 2; decide) (own_narc (own_up (pu_lat q1_2))) (W3.safeA v3 (by decide)) (Or.inr (Nat.le_of_eq g3.symm)) rfl
  clear W3
  have z4 : h3.size ≤ h4.size := Nat.le_of_eq w4.size.symm
  have v4 : Arv Z h4 a3 k3 .char (2 : Int32) [(.int r1), (.int (0 : Int32))] (.int (0 : Int32)) := A4
  replace W4 := W4.aload (pc' := 25) at_23 rfl rfl rfl
  replace W4 := W4.iconst (pc' := 26) (v := (1 : Int32)) at_25 rfl rfl
  replace W4 := W4.iload (pc' := 28) at_26 rfl rfl
  obtain ⟨h5, W5, w5, A5, SF5⟩ := W4.castore (pc' := 29) (i := 1) (x' := r2) at_28 v4 ⟨by decide, by decide⟩ rfl (by show 1 < 2; decide) (own_narc (own_up (pu_lat q2_2))) (W4.safeA v4 (by decide)) (Or.inr (Nat.le_of_eq g3.symm)) rfl
  clear W4
  have z5 : h4.size ≤ h5.size := Nat.le_of_eq w5.size.symm
  have v5 : Arv Z h5 a3 k3 .char (2 : Int32) [(.int r1), (.int r2)] (.int (0 : Int32)) := A5
  replace W5 := W5.iloadN (pc' := 30) at_29 rfl rfl
  replace W5 := W5.iconst (pc' := 31) (v := (2 : Int32)) at_30 rfl rfl
  replace W5 := W5.ishr (pc' := 32) (v := (p3 >>> ((2 : Int32) &&& 31))) at_31 rfl rfl
  replace W5 := W5.iconst (pc' := 33) (v := (1 : Int32)) at_32 rfl rfl
  replace W5 := W5.iand (pc' := 34) (v := ((p3 >>> ((2 : Int32) &&& 31)) &&& (1 : Int32))) at_33 rfl rfl
  by_cases hc6 : ((p3 >>> ((2 : Int32) &&& 31)) &&& (1 : Int32)) = (0 : Int32)
  · replace W5 := W5.ifT (pc' := 41) at_34 (teq hc6).1 (by decide) (by decide)
    replace W5 := W5.iconst (pc' := 42) (v := (0 : Int32)) at_41 rfl rfl
    replace W5 := W5.istore (pc' := 44) (L' := #[.val (.int p0), .val (.int p1), .val (.int p2), .val (.int p3), .val (.int r1), .val (.int r2), .val (.ref a3), .val (.int (0 : Int32)), .unset, .unset, .unset, .unset, .unset, .unset]) at_42 rfl rfl
    replace W5 := W5.iload (pc' := 46) at_44 rfl rfl
    replace W5 := W5.ifT (pc' := 54) at_46 (teq (by decide : (0 : Int32) = (0 : Int32))).1 (by decide) (by decide)
    obtain ⟨h7, a7, W7, E7, g7, ⟨A7, D7, U7⟩, sf7, SF7⟩ := W5.new (pc' := 57) (cells' := 2) (slots' := 6) at_54 (tw5 hw) (tw6 hw) (tw7 hw) rfl rfl rfl (by decide) (by decide)
    clear W5
    rw [← g7] at A7 D7 U7
    have z7 : h5.size ≤ h7.size := E7.1
    replace W7 := W7.dup (pc' := 58) at_57 rfl rfl
    replace W7 := W7.aload (pc' := 60) at_58 rfl rfl rfl
    have v8 := (v5.ext E7)
    obtain ⟨V9, h9, r9, W9, K9, hQ9, SF9⟩ := W7.callI (pc' := 63) (argsL := [(.ref a3)]) (rest := [(.ref a7)]) (Wd := 1) (cells' := 3) (slots' := 8) (a := a7) (y := (⟨"java/lang/String", "<init>", "([C)V"⟩ : MethodName)) at_60 (new1_2 l Z a0 n0 hw hEL G1 O1 P1 G3 O3 rG3 oe up lo di sy O5 E5 F5 O_up O_lo O_di O_sy a7 a3 k3 r1 r2 h7 W7.old A7 (D7 (Or.inr (tw33 hw)) (ty := (.array .byte)) (by decide) : Fld Z h7 a7 "java/lang/String" "value" "[B" .null) (D7 (Or.inr (tw31 hw)) (ty := .byte) (by decide) : Fld Z h7 a7 "java/lang/String" "coder" "B" (.int (0 : Int32))) v8 (pu_lat q1_2) (pu_lat q2_2) (Nat.le_trans W7.1.2.2.2.2.2.2.2.1 (Nat.le_trans (Nat.le_trans (Nat.le_trans z3 z4) z5) (Nat.le_of_eq g7.symm)))) rfl (tw8 hw) (tw9 hw) (tw7 hw) (tw10 hw) (by decide) (lenOf pd21 rfl) rfl rfl (by decide) (by decide) rfl (sfS sf7 sf0) (allS (Or.inr (Nat.le_trans (Nat.le_trans (Nat.le_trans z3 z4) z5) (Nat.le_of_eq g7.symm))) all0) rfl rfl rfl (by decide) (by decide)
    clear W7
    obtain ⟨t9, kt9, rfl, q9_1, q9_2, q9_3, q9_4⟩ := hQ9
    have z9 : h7.size ≤ h9.size := K9.1
    replace W9 := W9.cast (st' := [(.ref a7)]) rfl
    replace W9 := W9.astore (pc' := 65) (L' := #[.val (.int p0), .val (.int p1), .val (.int p2), .val (.int p3), .val (.int r1), .val (.int r2), .val (.ref a3), .val (.int (0 : Int32)), .val (.ref a7), .unset, .unset, .unset, .unset, .unset]) at_63 rfl rfl rfl
    obtain ⟨h10, a10, W10, E10, g10, ⟨A10, D10, U10⟩, sf10, SF10⟩ := W9.new (pc' := 68) (cells' := 4) (slots' := 9) at_65 (tw34 hw) (tw35 hw) (tw36 hw) rfl rfl rfl (by decide) (by decide)
    clear W9
    rw [← g10] at A10 D10 U10
    have z10 : h9.size ≤ h10.size := E10.1
    replace W10 := W10.dup (pc' := 69) at_68 rfl rfl
    replace W10 := W10.aload (pc' := 71) at_69 rfl rfl rfl
    have e11 := (q9_1.ext E10)
    have f12 := (q9_2.ext E10)
    have f13 := (q9_3.ext E10)
    have v14 := (q9_4.ext E10)
    obtain ⟨V15, h15, r15, W15, K15, hQ15, SF15⟩ := W10.callI (pc' := 74) (argsL := [(.ref a7)]) (rest := [(.ref a10)]) (Wd := 1) (cells' := 6) (slots' := 41) (a := a10) (y := (⟨"com/example/lokit/lokit/password/PasswordAlphabet", "<init>", "(Ljava/lang/String;)V"⟩ : MethodName)) at_71 (pai_2 l Z a0 n0 hw hEL G1 O1 P1 G3 O3 rG3 oe up lo di sy O5 E5 F5 O_up O_lo O_di O_sy a10 a7 t9 kt9 r1 r2 h10 W10.old A10 (D10 (Or.inr (tw96 hw)) (ty := (.object "java/lang/String")) (by decide) : Fld Z h10 a10 "com/example/lokit/lokit/password/PasswordAlphabet" "symbols" "Ljava/lang/String;" .null) e11 f12 f13 v14 (pu_lat q1_2) (pu_lat q2_2) q1_2 q2_2 (Nat.le_trans W10.1.2.2.2.2.2.2.2.1 (Nat.le_trans (Nat.le_trans (Nat.le_trans (Nat.le_trans (Nat.le_trans z3 z4) z5) z7) z9) (Nat.le_of_eq g10.symm)))) rfl (tw37 hw) (tw38 hw) (tw36 hw) (tw39 hw) (by decide) (lenOf pd22 rfl) rfl rfl (by decide) (by decide) rfl (sfS (W10.safeE A10 (by decide) (by decide)) sf0) (allS (Or.inr (Nat.le_trans (Nat.le_trans (Nat.le_trans (Nat.le_trans (Nat.le_trans z3 z4) z5) z7) z9) (Nat.le_of_eq g10.symm))) all0) rfl rfl rfl (by decide) (by decide)
    clear W10
    obtain ⟨rfl, q15_1⟩ := hQ15
    have z15 : h10.size ≤ h15.size := K15.1
    replace W15 := W15.cast (st' := [(.ref a10)]) rfl
    replace W15 := W15.astore (pc' := 76) (L' := #[.val (.int p0), .val (.int p1), .val (.int p2), .val (.int p3), .val (.int r1), .val (.int r2), .val (.ref a3), .val (.int (0 : Int32)), .val (.ref a7), .val (.ref a10), .unset, .unset, .unset, .unset]) at_74 rfl rfl rfl
    replace W15 := W15.iloadN (pc' := 77) at_76 rfl rfl
    replace W15 := W15.iconst (pc' := 78) (v := (3 : Int32)) at_77 rfl rfl
    replace W15 := W15.iand (pc' := 79) (v := (p3 &&& (3 : Int32))) at_78 rfl rfl
    replace W15 := W15.istore (pc' := 81) (L' := #[.val (.int p0), .val (.int p1), .val (.int p2), .val (.int p3), .val (.int r1), .val (.int r2), .val (.ref a3), .val (.int (0 : Int32)), .val (.ref a7), .val (.ref a10), .val (.int (p3 &&& (3 : Int32))), .unset, .unset, .unset]) at_79 rfl rfl
    replace W15 := W15.iload (pc' := 83) at_81 rfl rfl
    by_cases hc16 : (p3 &&& (3 : Int32)) = (0 : Int32)
    · replace W15 := W15.ifF (pc' := 86) at_83 (teq hc16).2 rfl
      replace W15 := W15.iloadN (pc' := 87) at_86 rfl rfl
      replace W15 := W15.istore (pc' := 89) (L' := #[.val (.int p0), .val (.int p1), .val (.int p2), .val (.int p3), .val (.int r1), .val (.int r2), .val (.ref a3), .val (.int (0 : Int32)), .val (.ref a7), .val (.ref a10), .val (.int (p3 &&& (3 : Int32))), .val (.int p2), .unset, .unset]) at_87 rfl rfl
      replace W15 := W15.goto (pc' := 137) at_89 (by decide) (by decide)
      have e17 := (A10.keep K15)
      have e18 := (e11.keep K15)
      have f19 := (f12.keep K15 (ninS (Nat.ne_of_lt (Nat.lt_of_lt_of_le A7.lt (Nat.le_trans z9 (Nat.le_of_eq g10.symm)))) nin0))
      have f20 := (f13.keep K15 (ninS (Nat.ne_of_lt (Nat.lt_of_lt_of_le A7.lt (Nat.le_trans z9 (Nat.le_of_eq g10.symm)))) nin0))
      have v21 := (v14.keep K15 (ninS (Nat.ne_of_lt (Nat.lt_of_lt_of_le q9_4.lt (Nat.le_of_eq g10.symm))) nin0))
      exact tail_2 l Z a0 n0 hw hEL G1 O1 P1 G3 O3 rG3 oe up lo di sy O5 E5 F5 O_up O_lo O_di O_sy p0 p1 p2 p3 r1 r2 a3 a10 (p3 &&& (3 : Int32)) p2 a7 t9 kt9 p e s m below meth c S0 V15 h0 h15 hO e17 q15_1 e18 f19 f20 v21 q1_2 q2_2 hnm W15
    · replace W15 := W15.ifT (pc' := 92) at_83 (feq hc16).2 (by decide) (by decide)
      replace W15 := W15.iload (pc' := 94) at_92 rfl rfl
      replace W15 := W15.iconst (pc' := 95) (v := (1 : Int32)) at_94 rfl rfl
      by_cases hc22 : (p3 &&& (3 : Int32)) = (1 : Int32)
      · replace W15 := W15.icmpF (pc' := 98) at_95 (teq hc22).2 rfl
        replace W15 := W15.iloadN (pc' := 99) at_98 rfl rfl
        replace W15 := W15.bipush (pc' := 101) (v := (127 : Int32)) at_99 rfl rfl
        replace W15 := W15.iand (pc' := 102) (v := (p2 &&& (127 : Int32))) at_101 rfl rfl
        replace W15 := W15.istore (pc' := 104) (L' := #[.val (.int p0), .val (.int p1), .val (.int p2), .val (.int p3), .val (.int r1), .val (.int r2), .val (.ref a3), .val (.int (0 : Int32)), .val (.ref a7), .val (.ref a10), .val (.int (p3 &&& (3 : Int32))), .val (.int (p2 &&& (127 : Int32))), .unset, .unset]) at_102 rfl rfl
        replace W15 := W15.goto (pc' := 137) at_104 (by decide) (by decide)
        have e23 := (A10.keep K15)
        have e24 := (e11.keep K15)
        have f25 := (f12.keep K15 (ninS (Nat.ne_of_lt (Nat.lt_of_lt_of_le A7.lt (Nat.le_trans z9 (Nat.le_of_eq g10.symm)))) nin0))
        have f26 := (f13.keep K15 (ninS (Nat.ne_of_lt (Nat.lt_of_lt_of_le A7.lt (Nat.le_trans z9 (Nat.le_of_eq g10.symm)))) nin0))
        have v27 := (v14.keep K15 (ninS (Nat.ne_of_lt (Nat.lt_of_lt_of_le q9_4.lt (Nat.le_of_eq g10.symm))) nin0))
        exact tail_2 l Z a0 n0 hw hEL G1 O1 P1 G3 O3 rG3 oe up lo di sy O5 E5 F5 O_up O_lo O_di O_sy p0 p1 p2 p3 r1 r2 a3 a10 (p3 &&& (3 : Int32)) (p2 &&& (127 : Int32)) a7 t9 kt9 p e s m below meth c S0 V15 h0 h15 hO e23 q15_1 e24 f25 f26 v27 q1_2 q2_2 hnm W15
      · replace W15 := W15.icmpT (pc' := 107) at_95 (feq hc22).2 (by decide) (by decide)
        replace W15 := W15.iload (pc' := 109) at_107 rfl rfl
        replace W15 := W15.iconst (pc' := 110) (v := (2 : Int32)) at_109 rfl rfl
        by_cases hc28 : (p3 &&& (3 : Int32)) = (2 : Int32)
        · replace W15 := W15.icmpF (pc' := 113) at_110 (teq hc28).2 rfl
          replace W15 := W15.iloadN (pc' := 114) at_113 rfl rfl
          obtain ⟨V29, h29, r29, W29, K29, hQ29, SF29⟩ := W15.callS (pc' := 117) (argsL := [(.int p2)]) (rest := []) (Wd := 0) (cells' := 6) (slots' := 41) (y := (⟨"com/example/lokit/lokit/password/PasswordAlphabetClassOfPinLaw", "punct", "(I)C"⟩ : MethodName)) at_114 (punct_c l Z a0 n0 hw hEL G1 O1 P1 G3 O3 rG3 oe up lo di sy O5 E5 F5 O_up O_lo O_di O_sy p2 h15 W15.old) (tw0 hw) (tw1 hw) (tw2 hw) (tw3 hw) (by decide) (lenOf pd20 rfl) rfl rfl (by decide) (by decide) rfl sf0 all0 rfl rfl rfl (by decide) (by decide)
          clear W15
          obtain ⟨r29, rfl, hs29, q29_2⟩ := hQ29
          subst hs29
          have sf30 := (SF15 a7 (Nat.lt_of_lt_of_le q9_1.lt z10) (SF10 a7 (SF9 a7 A7.lt sf7)))
          have sf31 := SF29 a7 (Nat.lt_of_lt_of_le q9_1.lt (Nat.le_trans z10 z15)) sf30
          replace W29 := W29.cast (st' := [(.int r29)]) rfl
          replace W29 := W29.istore (pc' := 119) (L' := #[.val (.int p0), .val (.int p1), .val (.int p2), .val (.int p3), .val (.int r1), .val (.int r2), .val (.ref a3), .val (.int (0 : Int32)), .val (.ref a7), .val (.ref a10), .val (.int (p3 &&& (3 : Int32))), .val (.int r29), .unset, .unset]) at_117 rfl rfl
          replace W29 := W29.goto (pc' := 137) at_119 (by decide) (by decide)
          have e32 := (A10.keep K15)
          have e33 := (e11.keep K15)
          have f34 := (f12.keep K15 (ninS (Nat.ne_of_lt (Nat.lt_of_lt_of_le A7.lt (Nat.le_trans z9 (Nat.le_of_eq g10.symm)))) nin0))
          have f35 := (f13.keep K15 (ninS (Nat.ne_of_lt (Nat.lt_of_lt_of_le A7.lt (Nat.le_trans z9 (Nat.le_of_eq g10.symm)))) nin0))
          have v36 := (v14.keep K15 (ninS (Nat.ne_of_lt (Nat.lt_of_lt_of_le q9_4.lt (Nat.le_of_eq g10.symm))) nin0))
          exact tail_2 l Z a0 n0 hw hEL G1 O1 P1 G3 O3 rG3 oe up lo di sy O5 E5 F5 O_up O_lo O_di O_sy p0 p1 p2 p3 r1 r2 a3 a10 (p3 &&& (3 : Int32)) r29 a7 t9 kt9 p e s m below meth c S0 V29 h0 h15 hO e32 q15_1 e33 f34 f35 v36 q1_2 q2_2 hnm W29
        · replace W15 := W15.icmpT (pc' := 122) at_110 (feq hc28).2 (by decide) (by decide)
          replace W15 := W15.iloadN (pc' := 123) at_122 rfl rfl
          replace W15 := W15.iconst (pc' := 124) (v := (1 : Int32)) at_123 rfl rfl
          replace W15 := W15.iand (pc' := 125) (v := (p2 &&& (1 : Int32))) at_124 rfl rfl
          by_cases hc37 : (p2 &&& (1 : Int32)) = (0 : Int32)
          · replace W15 := W15.ifF (pc' := 128) at_125 (teq hc37).2 rfl
            replace W15 := W15.iload (pc' := 130) at_128 rfl rfl
            replace W15 := W15.goto (pc' := 135) at_130 (by decide) (by decide)
            replace W15 := W15.istore (pc' := 137) (L' := #[.val (.int p0), .val (.int p1), .val (.int p2), .val (.int p3), .val (.int r1), .val (.int r2), .val (.ref a3), .val (.int (0 : Int32)), .val (.ref a7), .val (.ref a10), .val (.int (p3 &&& (3 : Int32))), .val (.int r1), .unset, .unset]) at_135 rfl rfl
            have e38 := (A10.keep K15)
            have e39 := (e11.keep K15)
            have f40 := (f12.keep K15 (ninS (Nat.ne_of_lt (Nat.lt_of_lt_of_le A7.lt (Nat.le_trans z9 (Nat.le_of_eq g10.symm)))) nin0))
            have f41 := (f13.keep K15 (ninS (Nat.ne_of_lt (Nat.lt_of_lt_of_le A7.lt (Nat.le_trans z9 (Nat.le_of_eq g10.symm)))) nin0))
            have v42 := (v14.keep K15 (ninS (Nat.ne_of_lt (Nat.lt_of_lt_of_le q9_4.lt (Nat.le_of_eq g10.symm))) nin0))
            exact tail_2 l Z a0 n0 hw hEL G1 O1 P1 G3 O3 rG3 oe up lo di sy O5 E5 F5 O_up O_lo O_di O_sy p0 p1 p2 p3 r1 r2 a3 a10 (p3 &&& (3 : Int32)) r1 a7 t9 kt9 p e s m below meth c S0 V15 h0 h15 hO e38 q15_1 e39 f40 f41 v42 q1_2 q2_2 hnm W15
          · replace W15 := W15.ifT (pc' := 133) at_125 (feq hc37).2 (by decide) (by decide)
            replace W15 := W15.iload (pc' := 135) at_133 rfl rfl
            replace W15 := W15.istore (pc' := 137) (L' := #[.val (.int p0), .val (.int p1), .val (.int p2), .val (.int p3), .val (.int r1), .val (.int r2), .val (.ref a3), .val (.int (0 : Int32)), .val (.ref a7), .val (.ref a10), .val (.int (p3 &&& (3 : Int32))), .val (.int r2), .unset, .unset]) at_135 rfl rfl
            have e43 := (A10.keep K15)
            have e44 := (e11.keep K15)
            have f45 := (f12.keep K15 (ninS (Nat.ne_of_lt (Nat.lt_of_lt_of_le A7.lt (Nat.le_trans z9 (Nat.le_of_eq g10.symm)))) nin0))
            have f46 := (f13.keep K15 (ninS (Nat.ne_of_lt (Nat.lt_of_lt_of_le A7.lt (Nat.le_trans z9 (Nat.le_of_eq g10.symm)))) nin0))
            have v47 := (v14.keep K15 (ninS (Nat.ne_of_lt (Nat.lt_of_lt_of_le q9_4.lt (Nat.le_of_eq g10.symm))) nin0))
            exact tail_2 l Z a0 n0 hw hEL G1 O1 P1 G3 O3 rG3 oe up lo di sy O5 E5 F5 O_up O_lo O_di O_sy p0 p1 p2 p3 r1 r2 a3 a10 (p3 &&& (3 : Int32)) r2 a7 t9 kt9 p e s m below meth c S0 V15 h0 h15 hO e43 q15_1 e44 f45 f46 v47 q1_2 q2_2 hnm W15
  · replace W5 := W5.ifF (pc' := 37) at_34 (feq hc6).1 rfl
    replace W5 := W5.iconst (pc' := 38) (v := (1 : Int32)) at_37 rfl rfl
    replace W5 := W5.goto (pc' := 42) at_38 (by decide) (by decide)
    replace W5 := W5.istore (pc' := 44) (L' := #[.val (.int p0), .val (.int p1), .val (.int p2), .val (.int p3), .val (.int r1), .val (.int r2), .val (.ref a3), .val (.int (1 : Int32)), .unset, .unset, .unset, .unset, .unset, .unset]) at_42 rfl rfl
    replace W5 := W5.iload (pc' := 46) at_44 rfl rfl
    replace W5 := W5.ifF (pc' := 49) at_46 (feq (by decide : ¬ ((1 : Int32) = (0 : Int32)))).1 rfl
    obtain ⟨V48, h48, a48, b48, k48, W48, E48, A48, C48, F48, B48, t48, ne48, SF48⟩ := W5.ldcT (pc' := 51) (n := 0) (vs := []) (z := (0 : Int32)) (cells' := 3) (slots' := 6) at_49 (tw130 hw) (hSA hw) (by decide) ⟨by decide, by decide⟩ (by decide) (by decide) (by decide) (by decide) rfl rfl rfl (by decide) (by decide)
    clear W5
    have z48 : h5.size ≤ h48.size := E48.1
    have v49 := (v5.ext E48)
    replace W48 := W48.goto (pc' := 63) at_51 (by decide) (by decide)
    replace W48 := W48.astore (pc' := 65) (L' := #[.val (.int p0), .val (.int p1), .val (.int p2), .val (.int p3), .val (.int r1), .val (.int r2), .val (.ref a3), .val (.int (1 : Int32)), .val (.ref a48), .unset, .unset, .unset, .unset, .unset]) at_63 rfl rfl rfl
    obtain ⟨h50, a50, W50, E50, g50, ⟨A50, D50, U50⟩, sf50, SF50⟩ := W48.new (pc' := 68) (cells' := 4) (slots' := 7) at_65 (tw34 hw) (tw35 hw) (tw36 hw) rfl rfl rfl (by decide) (by decide)
    clear W48
    rw [← g50] at A50 D50 U50
    have z50 : h48.size ≤ h50.size := E50.1
    replace W50 := W50.dup (pc' := 69) at_68 rfl rfl
    replace W50 := W50.aload (pc' := 71) at_69 rfl rfl rfl
    have e51 := (A48.ext E50)
    have f52 := (C48.ext E50)
    have f53 := (F48.ext E50)
    have v54 := (B48.ext E50)
    obtain ⟨V55, h55, r55, W55, K55, hQ55, SF55⟩ := W50.callI (pc' := 74) (argsL := [(.ref a48)]) (rest := [(.ref a50)]) (Wd := 1) (cells' := 6) (slots' := 39) (a := a50) (y := (⟨"com/example/lokit/lokit/password/PasswordAlphabet", "<init>", "(Ljava/lang/String;)V"⟩ : MethodName)) at_71 (pai_0 l Z a0 n0 hw hEL G1 O1 P1 G3 O3 rG3 oe up lo di sy O5 E5 F5 O_up O_lo O_di O_sy a50 a48 b48 k48 h50 W50.old A50 (D50 (Or.inr (tw96 hw)) (ty := (.object "java/lang/String")) (by decide) : Fld Z h50 a50 "com/example/lokit/lokit/password/PasswordAlphabet" "symbols" "Ljava/lang/String;" .null) e51 f52 f53 v54 (Nat.le_trans W50.1.2.2.2.2.2.2.2.1 (Nat.le_trans (Nat.le_trans (Nat.le_trans (Nat.le_trans z3 z4) z5) z48) (Nat.le_of_eq g50.symm)))) rfl (tw37 hw) (tw38 hw) (tw36 hw) (tw39 hw) (by decide) (lenOf pd22 rfl) rfl rfl (by decide) (by decide) rfl (sfS (W50.safeE A50 (by decide) (by decide)) sf0) (allS (Or.inr (Nat.le_trans (Nat.le_trans (Nat.le_trans (Nat.le_trans z3 z4) z5) z48) (Nat.le_of_eq g50.symm))) all0) rfl rfl rfl (by decide) (by decide)
    clear W50
    obtain ⟨rfl, q55_1⟩ := hQ55
    have z55 : h50.size ≤ h55.size := K55.1
    replace W55 := W55.cast (st' := [(.ref a50)]) rfl
    replace W55 := W55.astore (pc' := 76) (L' := #[.val (.int p0), .val (.int p1), .val (.int p2), .val (.int p3), .val (.int r1), .val (.int r2), .val (.ref a3), .val (.int (1 : Int32)), .val (.ref a48), .val (.ref a50), .unset, .unset, .unset, .unset]) at_74 rfl rfl rfl
    replace W55 := W55.iloadN (pc' := 77) at_76 rfl rfl
    replace W55 := W55.iconst (pc' := 78) (v := (3 : Int32)) at_77 rfl rfl
    replace W55 := W55.iand (pc' := 79) (v := (p3 &&& (3 : Int32))) at_78 rfl rfl
    replace W55 := W55.istore (pc' := 81) (L' := #[.val (.int p0), .val (.int p1), .val (.int p2), .val (.int p3), .val (.int r1), .val (.int r2), .val (.ref a3), .val (.int (1 : Int32)), .val (.ref a48), .val (.ref a50), .val (.int (p3 &&& (3 : Int32))), .unset, .unset, .unset]) at_79 rfl rfl
    replace W55 := W55.iload (pc' := 83) at_81 rfl rfl
    by_cases hc56 : (p3 &&& (3 : Int32)) = (0 : Int32)
    · replace W55 := W55.ifF (pc' := 86) at_83 (teq hc56).2 rfl
      replace W55 := W55.iloadN (pc' := 87) at_86 rfl rfl
      replace W55 := W55.istore (pc' := 89) (L' := #[.val (.int p0), .val (.int p1), .val (.int p2), .val (.int p3), .val (.int r1), .val (.int r2), .val (.ref a3), .val (.int (1 : Int32)), .val (.ref a48), .val (.ref a50), .val (.int (p3 &&& (3 : Int32))), .val (.int p2), .unset, .unset]) at_87 rfl rfl
      replace W55 := W55.goto (pc' := 137) at_89 (by decide) (by decide)
      have e57 := (A50.keep K55)
      have e58 := (e51.keep K55)
      have f59 := (f52.keep K55 (ninS (Nat.ne_of_lt (Nat.lt_of_lt_of_le A48.lt (Nat.le_of_eq g50.symm))) nin0))
      have f60 := (f53.keep K55 (ninS (Nat.ne_of_lt (Nat.lt_of_lt_of_le A48.lt (Nat.le_of_eq g50.symm))) nin0))
      have v61 := (v54.keep K55 (ninS (Nat.ne_of_lt (Nat.lt_of_lt_of_le B48.lt (Nat.le_of_eq g50.symm))) nin0))
      exact tail_0 l Z a0 n0 hw hEL G1 O1 P1 G3 O3 rG3 oe up lo di sy O5 E5 F5 O_up O_lo O_di O_sy p0 p1 p2 p3 r1 r2 a3 a50 (p3 &&& (3 : Int32)) p2 a48 b48 k48 p e s m below meth c S0 V55 h0 h55 hO e57 q55_1 e58 f59 f60 v61 q1_2 q2_2 hnm W55
    · replace W55 := W55.ifT (pc' := 92) at_83 (feq hc56).2 (by decide) (by decide)
      replace W55 := W55.iload (pc' := 94) at_92 rfl rfl
      replace W55 := W55.iconst (pc' := 95) (v := (1 : Int32)) at_94 rfl rfl
      by_cases hc62 : (p3 &&& (3 : Int32)) = (1 : Int32)
      · replace W55 := W55.icmpF (pc' := 98) at_95 (teq hc62).2 rfl
        replace W55 := W55.iloadN (pc' := 99) at_98 rfl rfl
        replace W55 := W55.bipush (pc' := 101) (v := (127 : Int32)) at_99 rfl rfl
        replace W55 := W55.iand (pc' := 102) (v := (p2 &&& (127 : Int32))) at_101 rfl rfl
        replace W55 := W55.istore (pc' := 104) (L' := #[.val (.int p0), .val (.int p1), .val (.int p2), .val (.int p3), .val (.int r1), .val (.int r2), .val (.ref a3), .val (.int (1 : Int32)), .val (.ref a48), .val (.ref a50), .val (.int (p3 &&& (3 : Int32))), .val (.int (p2 &&& (127 : Int32))), .unset, .unset]) at_102 rfl rfl
        replace W55 := W55.goto (pc' := 137) at_104 (by decide) (by decide)
        have e63 := (A50.keep K55)
        have e64 := (e51.keep K55)
        have f65 := (f52.keep K55 (ninS (Nat.ne_of_lt (Nat.lt_of_lt_of_le A48.lt (Nat.le_of_eq g50.symm))) nin0))
        have f66 := (f53.keep K55 (ninS (Nat.ne_of_lt (Nat.lt_of_lt_of_le A48.lt (Nat.le_of_eq g50.symm))) nin0))
        have v67 := (v54.keep K55 (ninS (Nat.ne_of_lt (Nat.lt_of_lt_of_le B48.lt (Nat.le_of_eq g50.symm))) nin0))
        exact tail_0 l Z a0 n0 hw hEL G1 O1 P1 G3 O3 rG3 oe up lo di sy O5 E5 F5 O_up O_lo O_di O_sy p0 p1 p2 p3 r1 r2 a3 a50 (p3 &&& (3 : Int32)) (p2 &&& (127 : Int32)) a48 b48 k48 p e s m below meth c S0 V55 h0 h55 hO e63 q55_1 e64 f65 f66 v67 q1_2 q2_2 hnm W55
      · replace W55 := W55.icmpT (pc' := 107) at_95 (feq hc62).2 (by decide) (by decide)
        replace W55 := W55.iload (pc' := 109) at_107 rfl rfl
        replace W55 := W55.iconst (pc' := 110) (v := (2 : Int32)) at_109 rfl rfl
        by_cases hc68 : (p3 &&& (3 : Int32)) = (2 : Int32)
        · replace W55 := W55.icmpF (pc' := 113) at_110 (teq hc68).2 rfl
          replace W55 := W55.iloadN (pc' := 114) at_113 rfl rfl
          obtain ⟨V69, h69, r69, W69, K69, hQ69, SF69⟩ := W55.callS (pc' := 117) (argsL := [(.int p2)]) (rest := []) (Wd := 0) (cells' := 6) (slots' := 39) (y := (⟨"com/example/lokit/lokit/password/PasswordAlphabetClassOfPinLaw", "punct", "(I)C"⟩ : MethodName)) at_114 (punct_c l Z a0 n0 hw hEL G1 O1 P1 G3 O3 rG3 oe up lo di sy O5 E5 F5 O_up O_lo O_di O_sy p2 h55 W55.old) (tw0 hw) (tw1 hw) (tw2 hw) (tw3 hw) (by decide) (lenOf pd20 rfl) rfl rfl (by decide) (by decide) rfl sf0 all0 rfl rfl rfl (by decide) (by decide)
          clear W55
          obtain ⟨r69, rfl, hs69, q69_2⟩ := hQ69
          subst hs69
          replace W69 := W69.cast (st' := [(.int r69)]) rfl
          replace W69 := W69.istore (pc' := 119) (L' := #[.val (.int p0), .val (.int p1), .val (.int p2), .val (.int p3), .val (.int r1), .val (.int r2), .val (.ref a3), .val (.int (1 : Int32)), .val (.ref a48), .val (.ref a50), .val (.int (p3 &&& (3 : Int32))), .val (.int r69), .unset, .unset]) at_117 rfl rfl
          replace W69 := W69.goto (pc' := 137) at_119 (by decide) (by decide)
          have e70 := (A50.keep K55)
          have e71 := (e51.keep K55)
          have f72 := (f52.keep K55 (ninS (Nat.ne_of_lt (Nat.lt_of_lt_of_le A48.lt (Nat.le_of_eq g50.symm))) nin0))
          have f73 := (f53.keep K55 (ninS (Nat.ne_of_lt (Nat.lt_of_lt_of_le A48.lt (Nat.le_of_eq g50.symm))) nin0))
          have v74 := (v54.keep K55 (ninS (Nat.ne_of_lt (Nat.lt_of_lt_of_le B48.lt (Nat.le_of_eq g50.symm))) nin0))
          exact tail_0 l Z a0 n0 hw hEL G1 O1 P1 G3 O3 rG3 oe up lo di sy O5 E5 F5 O_up O_lo O_di O_sy p0 p1 p2 p3 r1 r2 a3 a50 (p3 &&& (3 : Int32)) r69 a48 b48 k48 p e s m below meth c S0 V69 h0 h55 hO e70 q55_1 e71 f72 f73 v74 q1_2 q2_2 hnm W69
        · replace W55 := W55.icmpT (pc' := 122) at_110 (feq hc68).2 (by decide) (by decide)
          replace W55 := W55.iloadN (pc' := 123) at_122 rfl rfl
          replace W55 := W55.iconst (pc' := 124) (v := (1 : Int32)) at_123 rfl rfl
          replace W55 := W55.iand (pc' := 125) (v := (p2 &&& (1 : Int32))) at_124 rfl rfl
          by_cases hc75 : (p2 &&& (1 : Int32)) = (0 : Int32)
          · replace W55 := W55.ifF (pc' := 128) at_125 (teq hc75).2 rfl
            replace W55 := W55.iload (pc' := 130) at_128 rfl rfl
            replace W55 := W55.goto (pc' := 135) at_130 (by decide) (by decide)
            replace W55 := W55.istore (pc' := 137) (L' := #[.val (.int p0), .val (.int p1), .val (.int p2), .val (.int p3), .val (.int r1), .val (.int r2), .val (.ref a3), .val (.int (1 : Int32)), .val (.ref a48), .val (.ref a50), .val (.int (p3 &&& (3 : Int32))), .val (.int r1), .unset, .unset]) at_135 rfl rfl
            have e76 := (A50.keep K55)
            have e77 := (e51.keep K55)
            have f78 := (f52.keep K55 (ninS (Nat.ne_of_lt (Nat.lt_of_lt_of_le A48.lt (Nat.le_of_eq g50.symm))) nin0))
            have f79 := (f53.keep K55 (ninS (Nat.ne_of_lt (Nat.lt_of_lt_of_le A48.lt (Nat.le_of_eq g50.symm))) nin0))
            have v80 := (v54.keep K55 (ninS (Nat.ne_of_lt (Nat.lt_of_lt_of_le B48.lt (Nat.le_of_eq g50.symm))) nin0))
            exact tail_0 l Z a0 n0 hw hEL G1 O1 P1 G3 O3 rG3 oe up lo di sy O5 E5 F5 O_up O_lo O_di O_sy p0 p1 p2 p3 r1 r2 a3 a50 (p3 &&& (3 : Int32)) r1 a48 b48 k48 p e s m below meth c S0 V55 h0 h55 hO e76 q55_1 e77 f78 f79 v80 q1_2 q2_2 hnm W55
          · replace W55 := W55.ifT (pc' := 133) at_125 (feq hc75).2 (by decide) (by decide)
            replace W55 := W55.iload (pc' := 135) at_133 rfl rfl
            replace W55 := W55.istore (pc' := 137) (L' := #[.val (.int p0), .val (.int p1), .val (.int p2), .val (.int p3), .val (.int r1), .val (.int r2), .val (.ref a3), .val (.int (1 : Int32)), .val (.ref a48), .val (.ref a50), .val (.int (p3 &&& (3 : Int32))), .val (.int r2), .unset, .unset]) at_135 rfl rfl
            have e81 := (A50.keep K55)
            have e82 := (e51.keep K55)
            have f83 := (f52.keep K55 (ninS (Nat.ne_of_lt (Nat.lt_of_lt_of_le A48.lt (Nat.le_of_eq g50.symm))) nin0))
            have f84 := (f53.keep K55 (ninS (Nat.ne_of_lt (Nat.lt_of_lt_of_le A48.lt (Nat.le_of_eq g50.symm))) nin0))
            have v85 := (v54.keep K55 (ninS (Nat.ne_of_lt (Nat.lt_of_lt_of_le B48.lt (Nat.le_of_eq g50.symm))) nin0))
            exact tail_0 l Z a0 n0 hw hEL G1 O1 P1 G3 O3 rG3 oe up lo di sy O5 E5 F5 O_up O_lo O_di O_sy p0 p1 p2 p3 r1 r2 a3 a50 (p3 &&& (3 : Int32)) r2 a48 b48 k48 p e s m below meth c S0 V55 h0 h55 hO e81 q55_1 e82 f83 f84 v85 q1_2 q2_2 hnm W55
set_option maxRecDepth 65536 in
set_option maxHeartbeats 40000000 in
theorem comes_1 {Post : Tables → Env → Array Value → State → Outcome → State → Prop} (hpost : ∀ tb e args s v u, (limb_1_1.after args s (.returned v) u = true ∧ limb_1_2.after args s (.returned v) u = true ∧ True) → FramedW s (.returned v) u (Jvm.fieldLocs frame_1_writes args s ++ Jvm.arrayLocs frame_1_arrays args s ++ Jvm.staticLocs frame_1_statics s) 24 2176 → Post tb e args s (.returned v) u) :
    ArmFor flags0 classFile x code maxLocals ret World_1 tables_1 room_1 Calls_1 rest_1 Pre_1 Post := by
  intro l hfl _ _ p e ha hc hk s m args below hf hA hF happ hP
  obtain ⟨hcalls, hrest, hpre⟩ := hP
  obtain ⟨-, -, -, hnamed, -, -, -, hat⟩ := (Spec.applies_iff hf).mp happ
  obtain ⟨hg, hn⟩ := and_e (Cond.before_iff.mp (show (Jvm.Cond.and given_1 narrow_1).before args s = true from hpre))
  obtain ⟨hcount, hr0⟩ := and_e hg
  obtain ⟨ha0, hr1⟩ := and_e hr0
  obtain ⟨ha1, hr2⟩ := and_e hr1
  obtain ⟨ha2, hr3⟩ := and_e hr2
  have ha3 := hr3
  obtain ⟨w0, w1, w2, w3, rfl⟩ : ∃ w0 w1 w2 w3 : Value, args = #[w0, w1, w2, w3] := by
    have hs : args.size = 4 := by simpa [Cond.value, given_1] using hcount
    obtain ⟨L⟩ := args
    match L, hs with
    | [w0, w1, w2, w3], _ => exact ⟨w0, w1, w2, w3, rfl⟩
  have hw := fun d (hd : d ∈ tables_1) => atoms_spec (ws := Jvm.Cond.code x code maxLocals ret :: tables_1) hat d (List.mem_cons_of_mem _ hd)
  obtain ⟨hsets, hown0⟩ := atoms_of _ (rest_1_c_eq ▸ (show rest_1_c.before _ s = true from hrest))
  obtain ⟨i0, ei0⟩ := is_v ha0
  obtain rfl : w0 = (.int i0) := Option.some.inj ei0
  obtain ⟨i1, ei1⟩ := is_v ha1
  obtain rfl : w1 = (.int i1) := Option.some.inj ei1
  obtain ⟨i2, ei2⟩ := is_v ha2
  obtain rfl : w2 = (.int i2) := Option.some.inj ei2
  obtain ⟨i3, ei3⟩ := is_v ha3
  obtain rfl : w3 = (.int i3) := Option.some.inj ei3
  have n5 := not_v (Cond.before_iff.mp (hsets _ (List.mem_of_getElem? (i := 2) rfl)))
  obtain ⟨i11, e10⟩ := is_v (Cond.before_iff.mp (hsets _ (List.mem_of_getElem? (i := 1) rfl)))
  have S12 : Sta s s.heap "java/lang/String" "COMPACT_STRINGS" "Z" (.int i11) := Sta.start e10 (Or.inl (hsets _ (List.mem_of_getElem? (i := 0) rfl)))
  have c17 : ¬ (i11 = (0 : Int32)) := gotF (Cond.eq_ints e10 (Term.int_eval (0))) n5
  obtain ⟨v13, e14, r15⟩ := isR_v (Cond.before_iff.mp (hsets _ (List.mem_of_getElem? (i := 8) rfl)))
  have S16 : Sta s s.heap "jdk/internal/util/Preconditions" "SIOOBE_FORMATTER" "Ljava/util/function/BiFunction;" v13 := Sta.start e14 (Or.inl (hsets _ (List.mem_of_getElem? (i := 7) rfl)))
  have q11 := Cond.before_iff.mp (hsets _ (List.mem_of_getElem? (i := 11) rfl))
  obtain ⟨oe, eoe⟩ := exa_v q11
  have S5 : Sta s s.heap "java/util/Optional" "EMPTY" "Ljava/util/Optional;" (.ref oe) := Sta.start eoe (Or.inl (hsets _ (List.mem_of_getElem? (i := 10) rfl)))
  have E5 := Exa.start eoe q11
  have q12 := null_v (Cond.before_iff.mp (hsets _ (List.mem_of_getElem? (i := 12) rfl)))
  rw [fld_at eoe] at q12
  have F5 := Fld.start q12
  obtain ⟨nSY, hn1⟩ := and_e hn
  obtain ⟨nLO, hn2⟩ := and_e hn1
  obtain ⟨nDI, nUP⟩ := and_e hn2
  obtain ⟨sy, esy⟩ := exa_v nSY
  have Ssy : Sta s s.heap "com/example/lokit/lokit/password/CharacterClass" "SYMBOL" "Lcom/example/lokit/lokit/password/CharacterClass;" (.ref sy) := Sta.start esy (Or.inr ⟨(tw132 hw), (tw133 hw)⟩)
  obtain ⟨lo, elo⟩ := exa_v nLO
  have Slo : Sta s s.heap "com/example/lokit/lokit/password/CharacterClass" "LOWER_CASE" "Lcom/example/lokit/lokit/password/CharacterClass;" (.ref lo) := Sta.start elo (Or.inr ⟨(tw132 hw), (tw154 hw)⟩)
  obtain ⟨di, edi⟩ := exa_v nDI
  have Sdi : Sta s s.heap "com/example/lokit/lokit/password/CharacterClass" "DIGIT" "Lcom/example/lokit/lokit/password/CharacterClass;" (.ref di) := Sta.start edi (Or.inr ⟨(tw132 hw), (tw157 hw)⟩)
  obtain ⟨up, eup⟩ := exa_v nUP
  have Sup : Sta s s.heap "com/example/lokit/lokit/password/CharacterClass" "UPPER_CASE" "Lcom/example/lokit/lokit/password/CharacterClass;" (.ref up) := Sta.start eup (Or.inr ⟨(tw132 hw), (tw160 hw)⟩)
  have hCH : CHv s consts_1 s.vm s.heap := CHv.start (hELs hw) (fun q hq => hcalls.1 q hq) (hsets _ (List.mem_of_getElem? (i := 2) rfl)) (tw23 hw) (tw6 hw)
  obtain ⟨n, o, h1, h2, h3, v, L, rfl, ⟨N, -, rfl⟩, -, r1, r2, r3, r4⟩ := law_c l s _ s.heap.size hw (hELs hw) i11 S12 c17 v13 S16 r15 oe up lo di sy S5 E5 F5 Sup Slo Sdi Ssy i0 i1 i2 i3 s.heap (Old.start s) tables_1 p e ha hc hk s m _ below hf ((Spec.applies_iff_loose hf).mp happ).1 ⟨rfl, State.Warmed39.refl s, rfl, hCH, sf0⟩ trivial
  exact ⟨n, _, h1, h2, h3, hpost _ _ _ _ _ _ ⟨Cond.after_iff.mpr rfl, Cond.after_iff.mpr (eq_i res_at (Term.int_eval (1)) rfl), trivial⟩ ⟨r1, r2, r3, (r4.sift fun y hy => Or.inr (N y hy)).mono (by decide) (by decide)⟩⟩
theorem main_1_1 : Claimed_1_1 := comes_1 fun _ _ _ _ _ _ h hF => ⟨h.1, hF⟩
theorem main_1_2 : Claimed_1_2 := comes_1 fun _ _ _ _ _ _ h hF => ⟨h.2.1, hF⟩
end Jvm.Pilot.@@N@@
namespace Jvm.Pilot.@@N@@
open Jvm Jvm.ClassFile Sem Op Lib Jvm.Free Jvm.Stand Jvm.Pilot.@@N@@.Jvm.D
/-! MADE BY PROGRAM (witnessworld.py) out of the Statement's table words and the real class files: 25 classes; the members and pool entries that the words name. The judged class is class 1, her method 2. -/
namespace start1
open Jvm.ClassFile
def u (s : String) : CpInfo := .utf8 (stringToUtf16 s)
/-- a pool by its gaps: so many unusable entries, then the entry; so many at the end -/
def gap : Nat → List CpInfo → List CpInfo
  | 0, r => r
  | n + 1, r => .unusable :: gap n r
def poolList (es : List (Nat × CpInfo)) (last : Nat) : List CpInfo := es.foldr (fun e r => gap e.1 (e.2 :: r)) (gap last [])
def pool (es : List (Nat × CpInfo)) (last : Nat) : Array CpInfo := ⟨poolList es last⟩
def fileOf (pool : Array CpInfo) (this : Nat) (attrs : Array Attribute := #[]) (ms : Array MethodInfo := #[]) (fl : Nat := 33) (sup : Nat := 0) (ifs : Array Nat := #[]) (fds : Array FieldInfo := #[]) : ClassFile where
  minorVersion := 0
  majorVersion := 65
  constantPool := pool
  accessFlags := fl
  thisClass := this
  superClass := sup
  interfaces := ifs
  fields := fds
  methods := ms
  attributes := attrs
def plain (name : String) (sup : Option ClassId) : Class where
  name := name
  kind := .ordinary
  loader := none
  accessFlags := 33
  super := sup
  interfaces := #[]
  cf := none
  fields := #[]
  methods := #[]
  instanceTypes := #[]
  staticTypes := #[]
  resolved := #[]
  callSites := []
  init := .initialized
  statics := none
  mirror := none

def pool0 : Array CpInfo := pool [(5, u "<init>"), (0, u "()V"), (1, .class_ 10), (1, u "java/lang/Object")] 113

def k0c0 : Code := { maxStack := 0, maxLocals := 1, code := object_method_1_code, exceptionTable := #[], attributes := #[] }
def k0m0 : Method := { name := "<init>", desc := "()V", sig := { parameters := [], returnType := none }, accessFlags := 1, code := some k0c0 }
/-- java/lang/Object -/
def k0 : Class := { plain "java/lang/Object" none with
  accessFlags := 33
  interfaces := #[]
  cf := some (fileOf pool0 8 #[] #[{ accessFlags := 1, nameIndex := 5, descriptorIndex := 6, attributes := #[] }] 33 0 #[] #[])
  fields := #[]
  methods := #[k0m0]
  instanceTypes := #[]
  staticTypes := #[]
  resolved := Array.replicate 124 none
  statics := none }

def pool1 : Array CpInfo := pool [(2, .class_ 4), (1, u "java/lang/Object"), (0, u "<init>"), (0, u "()V"), (0, .methodref 8 9), (0, .class_ 10), (0, .nameAndType 11 12), (0, u "com/example/lokit/lokit/password/PasswordAlphabetClassOfPinLaw"), (0, u "punct"), (0, u "(I)C"), (0, .string 14), (0, u ""), (0, .class_ 16), (0, u "java/lang/String"), (0, .methodref 15 18), (0, .nameAndType 5 19), (0, u "([C)V"), (0, .class_ 21), (0, u "com/example/lokit/lokit/password/PasswordAlphabet"), (0, .methodref 20 23), (0, .nameAndType 5 24), (0, u "(Ljava/lang/String;)V"), (0, .fieldref 26 27), (0, .class_ 28), (0, .nameAndType 29 30), (0, u "com/example/lokit/lokit/password/CharacterClass"), (0, u "UPPER_CASE"), (0, u "Lcom/example/lokit/lokit/password/CharacterClass;"), (0, .fieldref 26 32), (0, .nameAndType 33 30), (0, u "LOWER_CASE"), (0, .fieldref 26 35), (0, .nameAndType 36 30), (0, u "DIGIT"), (0, .fieldref 26 38), (0, .nameAndType 39 30), (0, u "SYMBOL"), (0, .methodref 20 41), (0, .nameAndType 42 43), (0, u "classOf"), (0, u "(I)Ljava/util/Optional;"), (0, .methodref 45 46), (0, .class_ 47), (0, .nameAndType 48 49), (0, u "java/util/Optional"), (0, u "isPresent"), (0, u "()Z"), (0, .methodref 45 51), (0, .nameAndType 52 53), (0, u "get"), (0, u "()Ljava/lang/Object;"), (3, u "law"), (0, u "(IIII)Z")] 4

def k1m0 : Method := { name := "<init>", desc := "()V", sig := { parameters := [], returnType := none }, accessFlags := 1, code := none }
def k1c1 : Code := { maxStack := 2, maxLocals := 2, code := method_2_code, exceptionTable := #[], attributes := #[] }
def k1m1 : Method := { name := "punct", desc := "(I)C", sig := { parameters := [.int], returnType := some .char }, accessFlags := 10, code := some k1c1 }
def k1c2 : Code := { maxStack := 3, maxLocals := 14, code := code, exceptionTable := #[], attributes := #[] }
def k1m2 : Method := { name := "law", desc := "(IIII)Z", sig := { parameters := [.int, .int, .int, .int], returnType := some .boolean }, accessFlags := 9, code := some k1c2 }
/-- com/example/lokit/lokit/password/PasswordAlphabetClassOfPinLaw -/
def k1 : Class := { plain "com/example/lokit/lokit/password/PasswordAlphabetClassOfPinLaw" (some 0) with
  accessFlags := 49
  interfaces := #[]
  cf := some (fileOf pool1 8 #[] #[{ accessFlags := 1, nameIndex := 5, descriptorIndex := 6, attributes := #[] }, { accessFlags := 10, nameIndex := 11, descriptorIndex := 12, attributes := #[] }, { accessFlags := 9, nameIndex := 57, descriptorIndex := 58, attributes := #[] }] 49 2 #[] #[])
  fields := #[]
  methods := #[k1m0, k1m1, k1m2]
  instanceTypes := #[]
  staticTypes := #[]
  resolved := Array.replicate 63 none
  statics := none }

def pool2 : Array CpInfo := pool [(1, .class_ 2), (0, u "java/io/Serializable"), (0, .class_ 4), (0, u "java/lang/Object")] 2

/-- java/io/Serializable -/
def k2 : Class := { plain "java/io/Serializable" (some 0) with
  accessFlags := 1537
  interfaces := #[]
  cf := some (fileOf pool2 1 #[] #[] 1537 3 #[] #[])
  fields := #[]
  methods := #[]
  instanceTypes := #[]
  staticTypes := #[]
  resolved := Array.replicate 7 none
  statics := none }

def pool3 : Array CpInfo := pool [(1, .class_ 2), (0, u "java/lang/Comparable"), (0, .class_ 4), (0, u "java/lang/Object")] 7

/-- java/lang/Comparable -/
def k3 : Class := { plain "java/lang/Comparable" (some 0) with
  accessFlags := 1537
  interfaces := #[]
  cf := some (fileOf pool3 1 #[] #[] 1537 3 #[] #[])
  fields := #[]
  methods := #[]
  instanceTypes := #[]
  staticTypes := #[]
  resolved := Array.replicate 12 none
  statics := none }

def pool4 : Array CpInfo := pool [(2, .class_ 4), (1, u "java/lang/CharSequence"), (42, .class_ 48), (0, u "java/lang/CharSequence$1CodePointIterator"), (10, .class_ 60), (0, u "java/lang/CharSequence$1CharIterator"), (5, .class_ 67), (0, u "java/lang/Object")] 63

/-- java/lang/CharSequence -/
def k4 : Class := { plain "java/lang/CharSequence" (some 0) with
  accessFlags := 1537
  interfaces := #[]
  cf := some (fileOf pool4 2 #[.nestMembers #[47, 59]] #[] 1537 66 #[] #[])
  fields := #[]
  methods := #[]
  instanceTypes := #[]
  staticTypes := #[]
  resolved := Array.replicate 131 none
  statics := none }

def pool5 : Array CpInfo := pool [(1, .class_ 2), (0, u "java/lang/constant/Constable"), (0, .class_ 4), (0, u "java/lang/Object")] 6

/-- java/lang/constant/Constable -/
def k5 : Class := { plain "java/lang/constant/Constable" (some 0) with
  accessFlags := 1537
  interfaces := #[]
  cf := some (fileOf pool5 1 #[] #[] 1537 3 #[] #[])
  fields := #[]
  methods := #[]
  instanceTypes := #[]
  staticTypes := #[]
  resolved := Array.replicate 11 none
  statics := none }

def pool6 : Array CpInfo := pool [(1, .class_ 2), (0, u "java/lang/constant/ConstantDesc"), (0, .class_ 4), (0, u "java/lang/Object")] 32

/-- java/lang/constant/ConstantDesc -/
def k6 : Class := { plain "java/lang/constant/ConstantDesc" (some 0) with
  accessFlags := 1537
  interfaces := #[]
  cf := some (fileOf pool6 1 #[] #[] 1537 3 #[] #[])
  fields := #[]
  methods := #[]
  instanceTypes := #[]
  staticTypes := #[]
  resolved := Array.replicate 37 none
  statics := none }

def pool7 : Array CpInfo := pool [(1, .methodref 2 3), (0, .class_ 4), (0, .nameAndType 5 6), (0, u "java/lang/Object"), (0, u "<init>"), (0, u "()V"), (2, .fieldref 10 11), (0, .class_ 12), (0, .nameAndType 13 14), (0, u "java/lang/String"), (0, u "value"), (0, u "[B"), (0, .fieldref 10 16), (0, .nameAndType 17 18), (0, u "coder"), (0, u "B"), (2, u "hash"), (0, u "I"), (2, u "hashIsZero"), (0, u "Z"), (0, .methodref 10 28), (0, .nameAndType 5 29), (0, u "([CIILjava/lang/Void;)V"), (8, .fieldref 10 39), (0, .nameAndType 40 26), (0, u "COMPACT_STRINGS"), (1, .class_ 44), (1, u "java/lang/StringUTF16"), (0, u "compress"), (1, .methodref 42 48), (0, .nameAndType 49 50), (0, u "coderFromArrayLen"), (0, u "([BI)B"), (56, .class_ 109), (1, u "java/lang/StringLatin1"), (32, u "()Z"), (34, .methodref 42 178), (0, .nameAndType 45 179), (0, u "([CII)[B"), (154, u "()I"), (0, .methodref 10 336), (0, .nameAndType 17 337), (0, u "()B"), (25, u "([BI)C"), (27, u "(II)V"), (35, u "(I)C"), (64, .methodref 10 493), (0, .nameAndType 494 142), (0, u "isLatin1"), (0, .methodref 107 496), (0, .nameAndType 497 363), (0, u "charAt"), (3, u "checkIndex"), (3, .methodref 10 506), (0, .nameAndType 507 334), (0, u "length"), (67, .class_ 576), (0, u "java/lang/CharSequence"), (22, u "CASE_INSENSITIVE_ORDER"), (0, u "Ljava/util/Comparator;"), (32, .methodref 10 634), (0, .nameAndType 635 636), (0, u "indexOf"), (0, u "(II)I"), (0, .methodref 107 638), (0, .nameAndType 635 639), (0, u "([BIII)I"), (125, u "(I)I"), (244, u "([C)V"), (42, .fieldref 1054 1055), (0, .class_ 1056), (0, .nameAndType 1057 1058), (0, u "jdk/internal/util/Preconditions"), (0, u "SIOOBE_FORMATTER"), (0, u "Ljava/util/function/BiFunction;"), (0, .methodref 1054 1060), (0, .nameAndType 501 1061), (0, u "(IILjava/util/function/BiFunction;)I"), (39, u "serialPersistentFields"), (0, u "[Ljava/io/ObjectStreamField;"), (0, .class_ 1104), (0, u "java/lang/String$CaseInsensitiveComparator"), (1, .class_ 1107), (0, u "java/io/Serializable"), (0, .class_ 1109), (0, u "java/lang/Comparable"), (0, .class_ 1111), (0, u "java/lang/constant/Constable"), (0, .class_ 1113), (0, u "java/lang/constant/ConstantDesc"), (2, u "serialVersionUID"), (0, u "J"), (3, u "REPL"), (0, u "C"), (2, u "LATIN1"), (1, u "UTF16")] 323

def k7m0 : Method := { name := "<init>", desc := "()V", sig := { parameters := [], returnType := none }, accessFlags := 1, code := none }
def k7c1 : Code := { maxStack := 5, maxLocals := 2, code := jdk_42_method_3_code, exceptionTable := #[], attributes := #[] }
def k7m1 : Method := { name := "<init>", desc := "([C)V", sig := { parameters := [(.array .char)], returnType := none }, accessFlags := 1, code := some k7c1 }
def k7c2 : Code := { maxStack := 2, maxLocals := 1, code := jdk_42_method_54_code, exceptionTable := #[], attributes := #[] }
def k7m2 : Method := { name := "length", desc := "()I", sig := { parameters := [], returnType := some .int }, accessFlags := 1, code := some k7c2 }
def k7c3 : Code := { maxStack := 2, maxLocals := 2, code := jdk_42_method_56_code, exceptionTable := #[], attributes := #[] }
def k7m3 : Method := { name := "charAt", desc := "(I)C", sig := { parameters := [.int], returnType := some .char }, accessFlags := 1, code := some k7c3 }
def k7c4 : Code := { maxStack := 3, maxLocals := 2, code := jdk_42_method_79_code, exceptionTable := #[], attributes := #[] }
def k7m4 : Method := { name := "indexOf", desc := "(I)I", sig := { parameters := [.int], returnType := some .int }, accessFlags := 1, code := some k7c4 }
def k7c5 : Code := { maxStack := 4, maxLocals := 3, code := jdk_42_method_80_code, exceptionTable := #[], attributes := #[] }
def k7m5 : Method := { name := "indexOf", desc := "(II)I", sig := { parameters := [.int, .int], returnType := some .int }, accessFlags := 1, code := some k7c5 }
def k7c6 : Code := { maxStack := 4, maxLocals := 6, code := jdk_42_method_149_code, exceptionTable := #[], attributes := #[] }
def k7m6 : Method := { name := "<init>", desc := "([CIILjava/lang/Void;)V", sig := { parameters := [(.array .char), .int, .int, (.object "java/lang/Void")], returnType := none }, accessFlags := 2, code := some k7c6 }
def k7c7 : Code := { maxStack := 1, maxLocals := 1, code := jdk_42_method_152_code, exceptionTable := #[], attributes := #[] }
def k7m7 : Method := { name := "coder", desc := "()B", sig := { parameters := [], returnType := some .byte }, accessFlags := 0, code := some k7c7 }
def k7c8 : Code := { maxStack := 1, maxLocals := 1, code := jdk_42_method_154_code, exceptionTable := #[], attributes := #[] }
def k7m8 : Method := { name := "isLatin1", desc := "()Z", sig := { parameters := [], returnType := some .boolean }, accessFlags := 0, code := some k7c8 }
def k7c9 : Code := { maxStack := 3, maxLocals := 2, code := jdk_42_method_155_code, exceptionTable := #[], attributes := #[] }
def k7m9 : Method := { name := "checkIndex", desc := "(II)V", sig := { parameters := [.int, .int], returnType := none }, accessFlags := 8, code := some k7c9 }
/-- java/lang/String -/
def k7 : Class := { plain "java/lang/String" (some 0) with
  accessFlags := 49
  interfaces := #[2, 3, 4, 5, 6]
  cf := some (fileOf pool7 10 #[.nestMembers #[1103]] #[{ accessFlags := 1, nameIndex := 5, descriptorIndex := 6, attributes := #[] }, { accessFlags := 1, nameIndex := 5, descriptorIndex := 1010, attributes := #[] }, { accessFlags := 1, nameIndex := 507, descriptorIndex := 334, attributes := #[] }, { accessFlags := 1, nameIndex := 497, descriptorIndex := 427, attributes := #[] }, { accessFlags := 1, nameIndex := 635, descriptorIndex := 765, attributes := #[] }, { accessFlags := 1, nameIndex := 635, descriptorIndex := 636, attributes := #[] }, { accessFlags := 2, nameIndex := 5, descriptorIndex := 29, attributes := #[] }, { accessFlags := 0, nameIndex := 17, descriptorIndex := 337, attributes := #[] }, { accessFlags := 0, nameIndex := 494, descriptorIndex := 142, attributes := #[] }, { accessFlags := 8, nameIndex := 501, descriptorIndex := 391, attributes := #[] }] 49 2 #[1106, 1108, 575, 1110, 1112] #[{ accessFlags := 18, nameIndex := 13, descriptorIndex := 14, attributes := #[] }, { accessFlags := 18, nameIndex := 17, descriptorIndex := 18, attributes := #[] }, { accessFlags := 2, nameIndex := 21, descriptorIndex := 22, attributes := #[] }, { accessFlags := 2, nameIndex := 25, descriptorIndex := 26, attributes := #[] }, { accessFlags := 26, nameIndex := 1116, descriptorIndex := 1117, attributes := #[] }, { accessFlags := 24, nameIndex := 40, descriptorIndex := 26, attributes := #[] }, { accessFlags := 26, nameIndex := 1101, descriptorIndex := 1102, attributes := #[] }, { accessFlags := 26, nameIndex := 1121, descriptorIndex := 1122, attributes := #[] }, { accessFlags := 25, nameIndex := 599, descriptorIndex := 600, attributes := #[] }, { accessFlags := 24, nameIndex := 1125, descriptorIndex := 18, attributes := #[] }, { accessFlags := 24, nameIndex := 1127, descriptorIndex := 18, attributes := #[] }])
  fields := #[{ name := "value", type := (.array .byte), accessFlags := 18, slot := 0, constantValue := 0 }, { name := "coder", type := .byte, accessFlags := 18, slot := 1, constantValue := 0 }, { name := "hash", type := .int, accessFlags := 2, slot := 2, constantValue := 0 }, { name := "hashIsZero", type := .boolean, accessFlags := 2, slot := 3, constantValue := 0 }, { name := "serialVersionUID", type := .long, accessFlags := 26, slot := 0, constantValue := 0 }, { name := "COMPACT_STRINGS", type := .boolean, accessFlags := 24, slot := 1, constantValue := 0 }, { name := "serialPersistentFields", type := (.array (.object "java/io/ObjectStreamField")), accessFlags := 26, slot := 2, constantValue := 0 }, { name := "REPL", type := .char, accessFlags := 26, slot := 3, constantValue := 0 }, { name := "CASE_INSENSITIVE_ORDER", type := (.object "java/util/Comparator"), accessFlags := 25, slot := 4, constantValue := 0 }, { name := "LATIN1", type := .byte, accessFlags := 24, slot := 5, constantValue := 0 }, { name := "UTF16", type := .byte, accessFlags := 24, slot := 6, constantValue := 0 }]
  methods := #[k7m0, k7m1, k7m2, k7m3, k7m4, k7m5, k7m6, k7m7, k7m8, k7m9]
  instanceTypes := #[(.array .byte), .byte, .int, .boolean]
  staticTypes := #[.long, .boolean, (.array (.object "java/io/ObjectStreamField")), .char, (.object "java/util/Comparator"), .byte, .byte]
  resolved := Array.replicate 1451 none
  statics := some 0 }

def pool8 : Array CpInfo := pool [(6, .class_ 8), (1, u "java/lang/Object"), (0, u "<init>"), (0, u "()V"), (1, .class_ 14), (1, u "java/lang/StringUTF16"), (31, u "$assertionsDisabled"), (0, u "Z"), (13, u "HI_BYTE_SHIFT"), (0, u "I"), (2, u "LO_BYTE_SHIFT"), (49, .methodref 12 116), (0, .nameAndType 117 118), (0, u "compress"), (0, u "([CI[BII)I"), (3, u "([CII)[B"), (138, u "coderFromArrayLen"), (0, u "([BI)B"), (106, .class_ 371), (1, u "java/lang/StringUTF16$LinesSpliterator"), (58, u "MAX_LENGTH"), (196, .class_ 628), (0, u "java/lang/StringUTF16$CodePointsSpliterator"), (0, .class_ 630), (0, u "java/lang/StringUTF16$CharsSpliterator")] 4

def k8m0 : Method := { name := "<init>", desc := "()V", sig := { parameters := [], returnType := none }, accessFlags := 0, code := none }
def k8c1 : Code := { maxStack := 2, maxLocals := 2, code := jdk_52_method_15_code, exceptionTable := #[], attributes := #[] }
def k8m1 : Method := { name := "coderFromArrayLen", desc := "([BI)B", sig := { parameters := [(.array .byte), .int], returnType := some .byte }, accessFlags := 8, code := some k8c1 }
def k8c2 : Code := { maxStack := 5, maxLocals := 6, code := jdk_52_method_16_code, exceptionTable := #[], attributes := #[] }
def k8m2 : Method := { name := "compress", desc := "([CII)[B", sig := { parameters := [(.array .char), .int, .int], returnType := some (.array .byte) }, accessFlags := 9, code := some k8c2 }
def k8c3 : Code := { maxStack := 3, maxLocals := 7, code := jdk_52_method_21_code, exceptionTable := #[], attributes := #[] }
def k8m3 : Method := { name := "compress", desc := "([CI[BII)I", sig := { parameters := [(.array .char), .int, (.array .byte), .int, .int], returnType := some .int }, accessFlags := 9, code := some k8c3 }
/-- java/lang/StringUTF16 -/
def k8 : Class := { plain "java/lang/StringUTF16" (some 0) with
  accessFlags := 48
  interfaces := #[]
  cf := some (fileOf pool8 12 #[.nestMembers #[627, 629, 369]] #[{ accessFlags := 0, nameIndex := 9, descriptorIndex := 10, attributes := #[] }, { accessFlags := 8, nameIndex := 261, descriptorIndex := 262, attributes := #[] }, { accessFlags := 9, nameIndex := 117, descriptorIndex := 122, attributes := #[] }, { accessFlags := 9, nameIndex := 117, descriptorIndex := 118, attributes := #[] }] 48 6 #[] #[{ accessFlags := 26, nameIndex := 61, descriptorIndex := 62, attributes := #[] }, { accessFlags := 26, nameIndex := 65, descriptorIndex := 62, attributes := #[] }, { accessFlags := 24, nameIndex := 430, descriptorIndex := 62, attributes := #[] }, { accessFlags := 4120, nameIndex := 46, descriptorIndex := 47, attributes := #[] }])
  fields := #[{ name := "HI_BYTE_SHIFT", type := .int, accessFlags := 26, slot := 0, constantValue := 0 }, { name := "LO_BYTE_SHIFT", type := .int, accessFlags := 26, slot := 1, constantValue := 0 }, { name := "MAX_LENGTH", type := .int, accessFlags := 24, slot := 2, constantValue := 0 }, { name := "$assertionsDisabled", type := .boolean, accessFlags := 4120, slot := 3, constantValue := 0 }]
  methods := #[k8m0, k8m1, k8m2, k8m3]
  instanceTypes := #[]
  staticTypes := #[.int, .int, .int, .boolean]
  resolved := Array.replicate 635 none
  statics := none }

def pool9 : Array CpInfo := pool [(1, .methodref 2 3), (0, .class_ 4), (0, .nameAndType 5 6), (0, u "java/lang/Object"), (0, u "<init>"), (0, u "()V"), (0, .string 8), (0, u "symbols"), (0, .methodref 10 11), (0, .class_ 12), (0, .nameAndType 13 14), (0, u "java/util/Objects"), (0, u "requireNonNull"), (0, u "(Ljava/lang/Object;Ljava/lang/String;)Ljava/lang/Object;"), (0, .methodref 16 17), (0, .class_ 18), (0, .nameAndType 19 20), (0, u "java/lang/String"), (0, u "length"), (0, u "()I"), (0, .methodref 16 22), (0, .nameAndType 23 24), (0, u "charAt"), (0, u "(I)C"), (0, .methodref 26 27), (0, .class_ 28), (0, .nameAndType 29 30), (0, u "com/example/lokit/lokit/password/PasswordAlphabet"), (0, u "letterOrDigitClassOf"), (0, u "(I)Ljava/util/Optional;"), (0, .methodref 32 33), (0, .class_ 34), (0, .nameAndType 35 36), (0, u "java/util/Optional"), (0, u "isPresent"), (0, u "()Z"), (16, u "(Ljava/lang/String;)V"), (0, .fieldref 26 55), (0, .nameAndType 8 56), (0, u "Ljava/lang/String;"), (0, .methodref 16 58), (0, .nameAndType 59 60), (0, u "indexOf"), (0, u "(I)I"), (0, .fieldref 62 63), (0, .class_ 64), (0, .nameAndType 65 66), (0, u "com/example/lokit/lokit/password/CharacterClass"), (0, u "SYMBOL"), (0, u "Lcom/example/lokit/lokit/password/CharacterClass;"), (0, .methodref 32 68), (0, .nameAndType 69 70), (0, u "of"), (0, u "(Ljava/lang/Object;)Ljava/util/Optional;"), (0, .methodref 32 72), (0, .nameAndType 73 74), (0, u "empty"), (0, u "()Ljava/util/Optional;"), (0, .fieldref 62 76), (0, .nameAndType 77 66), (0, u "UPPER_CASE"), (0, .fieldref 62 79), (0, .nameAndType 80 66), (0, u "LOWER_CASE"), (0, .fieldref 62 82), (0, .nameAndType 83 66), (0, u "DIGIT"), (0, u "DEFAULT_SYMBOLS"), (6, u "classOf")] 4

def k9c0 : Code := { maxStack := 7, maxLocals := 4, code := prog_12_method_1_code, exceptionTable := #[], attributes := #[] }
def k9m0 : Method := { name := "<init>", desc := "(Ljava/lang/String;)V", sig := { parameters := [(.object "java/lang/String")], returnType := none }, accessFlags := 1, code := some k9c0 }
def k9c1 : Code := { maxStack := 2, maxLocals := 3, code := prog_12_method_2_code, exceptionTable := #[], attributes := #[] }
def k9m1 : Method := { name := "classOf", desc := "(I)Ljava/util/Optional;", sig := { parameters := [.int], returnType := some (.object "java/util/Optional") }, accessFlags := 1, code := some k9c1 }
def k9c2 : Code := { maxStack := 2, maxLocals := 1, code := prog_12_method_3_code, exceptionTable := #[], attributes := #[] }
def k9m2 : Method := { name := "letterOrDigitClassOf", desc := "(I)Ljava/util/Optional;", sig := { parameters := [.int], returnType := some (.object "java/util/Optional") }, accessFlags := 10, code := some k9c2 }
/-- com/example/lokit/lokit/password/PasswordAlphabet -/
def k9 : Class := { plain "com/example/lokit/lokit/password/PasswordAlphabet" (some 0) with
  accessFlags := 49
  interfaces := #[]
  cf := some (fileOf pool9 26 #[] #[{ accessFlags := 1, nameIndex := 5, descriptorIndex := 53, attributes := #[] }, { accessFlags := 1, nameIndex := 91, descriptorIndex := 30, attributes := #[] }, { accessFlags := 10, nameIndex := 29, descriptorIndex := 30, attributes := #[] }] 49 2 #[] #[{ accessFlags := 25, nameIndex := 84, descriptorIndex := 56, attributes := #[] }, { accessFlags := 18, nameIndex := 8, descriptorIndex := 56, attributes := #[] }])
  fields := #[{ name := "DEFAULT_SYMBOLS", type := (.object "java/lang/String"), accessFlags := 25, slot := 0, constantValue := 0 }, { name := "symbols", type := (.object "java/lang/String"), accessFlags := 18, slot := 0, constantValue := 0 }]
  methods := #[k9m0, k9m1, k9m2]
  instanceTypes := #[(.object "java/lang/String")]
  staticTypes := #[(.object "java/lang/String")]
  resolved := Array.replicate 96 none
  statics := none }

def pool10 : Array CpInfo := pool [(2, .class_ 4), (1, u "java/lang/Object"), (0, u "<init>"), (0, u "()V"), (35, .class_ 44), (1, u "java/util/Objects"), (0, u "requireNonNull"), (0, u "(Ljava/lang/Object;)Ljava/lang/Object;"), (47, u "(Ljava/lang/Object;Ljava/lang/String;)Ljava/lang/Object;")] 89

def k10m0 : Method := { name := "<init>", desc := "()V", sig := { parameters := [], returnType := none }, accessFlags := 2, code := none }
def k10c1 : Code := { maxStack := 2, maxLocals := 1, code := jdk_31_method_10_code, exceptionTable := #[], attributes := #[] }
def k10m1 : Method := { name := "requireNonNull", desc := "(Ljava/lang/Object;)Ljava/lang/Object;", sig := { parameters := [(.object "java/lang/Object")], returnType := some (.object "java/lang/Object") }, accessFlags := 9, code := some k10c1 }
def k10c2 : Code := { maxStack := 3, maxLocals := 2, code := jdk_31_method_11_code, exceptionTable := #[], attributes := #[] }
def k10m2 : Method := { name := "requireNonNull", desc := "(Ljava/lang/Object;Ljava/lang/String;)Ljava/lang/Object;", sig := { parameters := [(.object "java/lang/Object"), (.object "java/lang/String")], returnType := some (.object "java/lang/Object") }, accessFlags := 9, code := some k10c2 }
/-- java/util/Objects -/
def k10 : Class := { plain "java/util/Objects" (some 0) with
  accessFlags := 49
  interfaces := #[]
  cf := some (fileOf pool10 42 #[] #[{ accessFlags := 2, nameIndex := 5, descriptorIndex := 6, attributes := #[] }, { accessFlags := 9, nameIndex := 45, descriptorIndex := 46, attributes := #[] }, { accessFlags := 9, nameIndex := 45, descriptorIndex := 94, attributes := #[] }] 49 2 #[] #[])
  fields := #[]
  methods := #[k10m0, k10m1, k10m2]
  instanceTypes := #[]
  staticTypes := #[]
  resolved := Array.replicate 184 none
  statics := none }

def pool11 : Array CpInfo := pool [(1, .class_ 2), (0, u "java/lang/String"), (1, .class_ 6), (1, u "java/lang/Object"), (0, u "<init>"), (0, u "()V"), (0, .methodref 1 10), (0, .nameAndType 11 12), (0, u "checkIndex"), (0, u "(II)V"), (1, .class_ 16), (1, u "java/lang/StringLatin1"), (21, .methodref 39 40), (0, .class_ 41), (0, .nameAndType 42 43), (0, u "java/lang/Math"), (0, u "min"), (0, u "(II)I"), (9, u "([BI)C"), (34, .methodref 14 89), (0, .nameAndType 90 91), (0, u "canEncode"), (0, u "(I)Z"), (0, .methodref 39 93), (0, .nameAndType 94 43), (0, u "max"), (0, .methodref 14 96), (0, .nameAndType 97 98), (0, u "indexOfChar"), (0, u "([BIII)I"), (2, u "indexOf"), (19, u "$assertionsDisabled"), (0, u "Z"), (98, .class_ 223), (1, u "java/lang/StringLatin1$LinesSpliterator"), (28, u "charAt"), (137, .class_ 391), (0, u "java/lang/StringLatin1$CharsSpliterator")] 3

def k11m0 : Method := { name := "<init>", desc := "()V", sig := { parameters := [], returnType := none }, accessFlags := 0, code := none }
def k11c1 : Code := { maxStack := 2, maxLocals := 2, code := jdk_43_method_2_code, exceptionTable := #[], attributes := #[] }
def k11m1 : Method := { name := "charAt", desc := "([BI)C", sig := { parameters := [(.array .byte), .int], returnType := some .char }, accessFlags := 9, code := some k11c1 }
def k11c2 : Code := { maxStack := 2, maxLocals := 1, code := jdk_43_method_4_code, exceptionTable := #[], attributes := #[] }
def k11m2 : Method := { name := "canEncode", desc := "(I)Z", sig := { parameters := [.int], returnType := some .boolean }, accessFlags := 9, code := some k11c2 }
def k11c3 : Code := { maxStack := 4, maxLocals := 4, code := jdk_43_method_22_code, exceptionTable := #[], attributes := #[] }
def k11m3 : Method := { name := "indexOf", desc := "([BIII)I", sig := { parameters := [(.array .byte), .int, .int, .int], returnType := some .int }, accessFlags := 9, code := some k11c3 }
def k11c4 : Code := { maxStack := 2, maxLocals := 6, code := jdk_43_method_23_code, exceptionTable := #[], attributes := #[] }
def k11m4 : Method := { name := "indexOfChar", desc := "([BIII)I", sig := { parameters := [(.array .byte), .int, .int, .int], returnType := some .int }, accessFlags := 10, code := some k11c4 }
/-- java/lang/StringLatin1 -/
def k11 : Class := { plain "java/lang/StringLatin1" (some 0) with
  accessFlags := 48
  interfaces := #[]
  cf := some (fileOf pool11 14 #[.nestMembers #[390, 221]] #[{ accessFlags := 0, nameIndex := 7, descriptorIndex := 8, attributes := #[] }, { accessFlags := 9, nameIndex := 252, descriptorIndex := 53, attributes := #[] }, { accessFlags := 9, nameIndex := 90, descriptorIndex := 91, attributes := #[] }, { accessFlags := 9, nameIndex := 101, descriptorIndex := 98, attributes := #[] }, { accessFlags := 10, nameIndex := 97, descriptorIndex := 98, attributes := #[] }] 48 4 #[] #[{ accessFlags := 4120, nameIndex := 121, descriptorIndex := 122, attributes := #[] }])
  fields := #[{ name := "$assertionsDisabled", type := .boolean, accessFlags := 4120, slot := 0, constantValue := 0 }]
  methods := #[k11m0, k11m1, k11m2, k11m3, k11m4]
  instanceTypes := #[]
  staticTypes := #[.boolean]
  resolved := Array.replicate 395 none
  statics := none }

def pool12 : Array CpInfo := pool [(2, .class_ 4), (1, u "java/lang/Object"), (0, u "<init>"), (0, u "()V"), (17, .class_ 26), (1, u "jdk/internal/util/Preconditions"), (6, u "checkIndex"), (21, .class_ 56), (0, u "jdk/internal/util/Preconditions$4"), (57, .class_ 115), (0, u "jdk/internal/util/Preconditions$1"), (7, u "SIOOBE_FORMATTER"), (0, u "Ljava/util/function/BiFunction;"), (0, .class_ 126), (0, u "jdk/internal/util/Preconditions$2"), (3, u "AIOOBE_FORMATTER"), (0, .class_ 132), (0, u "jdk/internal/util/Preconditions$3"), (3, u "IOOBE_FORMATTER"), (41, u "(IILjava/util/function/BiFunction;)I")] 15

def k12m0 : Method := { name := "<init>", desc := "()V", sig := { parameters := [], returnType := none }, accessFlags := 1, code := none }
def k12c1 : Code := { maxStack := 3, maxLocals := 3, code := jdk_41_method_11_code, exceptionTable := #[], attributes := #[] }
def k12m1 : Method := { name := "checkIndex", desc := "(IILjava/util/function/BiFunction;)I", sig := { parameters := [.int, .int, (.object "java/util/function/BiFunction")], returnType := some .int }, accessFlags := 9, code := some k12c1 }
/-- jdk/internal/util/Preconditions -/
def k12 : Class := { plain "jdk/internal/util/Preconditions" (some 0) with
  accessFlags := 33
  interfaces := #[]
  cf := some (fileOf pool12 24 #[.nestMembers #[55, 131, 125, 114]] #[{ accessFlags := 1, nameIndex := 5, descriptorIndex := 6, attributes := #[] }, { accessFlags := 9, nameIndex := 33, descriptorIndex := 178, attributes := #[] }] 33 2 #[] #[{ accessFlags := 25, nameIndex := 123, descriptorIndex := 124, attributes := #[] }, { accessFlags := 25, nameIndex := 130, descriptorIndex := 124, attributes := #[] }, { accessFlags := 25, nameIndex := 136, descriptorIndex := 124, attributes := #[] }])
  fields := #[{ name := "SIOOBE_FORMATTER", type := (.object "java/util/function/BiFunction"), accessFlags := 25, slot := 0, constantValue := 0 }, { name := "AIOOBE_FORMATTER", type := (.object "java/util/function/BiFunction"), accessFlags := 25, slot := 1, constantValue := 0 }, { name := "IOOBE_FORMATTER", type := (.object "java/util/function/BiFunction"), accessFlags := 25, slot := 2, constantValue := 0 }]
  methods := #[k12m0, k12m1]
  instanceTypes := #[]
  staticTypes := #[(.object "java/util/function/BiFunction"), (.object "java/util/function/BiFunction"), (.object "java/util/function/BiFunction")]
  resolved := Array.replicate 194 none
  statics := some 1 }

def pool13 : Array CpInfo := pool [(1, .fieldref 2 3), (0, .class_ 4), (0, .nameAndType 5 6), (0, u "java/util/Optional"), (0, u "EMPTY"), (0, u "Ljava/util/Optional;"), (0, .methodref 8 9), (0, .class_ 10), (0, .nameAndType 11 12), (0, u "java/lang/Object"), (0, u "<init>"), (0, u "()V"), (0, .fieldref 2 14), (0, .nameAndType 15 16), (0, u "value"), (0, u "Ljava/lang/Object;"), (0, .methodref 18 19), (0, .class_ 20), (0, .nameAndType 21 22), (0, u "java/util/Objects"), (0, u "requireNonNull"), (0, u "(Ljava/lang/Object;)Ljava/lang/Object;"), (0, .methodref 2 24), (0, .nameAndType 11 25), (0, u "(Ljava/lang/Object;)V"), (20, u "()Z"), (8, u "empty"), (0, u "()Ljava/util/Optional;"), (8, u "(Ljava/lang/Object;)Ljava/util/Optional;"), (2, u "isPresent"), (4, u "get"), (0, u "()Ljava/lang/Object;"), (7, u "of")] 104

def k13c0 : Code := { maxStack := 1, maxLocals := 1, code := jdk_32_method_1_code, exceptionTable := #[], attributes := #[] }
def k13m0 : Method := { name := "empty", desc := "()Ljava/util/Optional;", sig := { parameters := [], returnType := some (.object "java/util/Optional") }, accessFlags := 9, code := some k13c0 }
def k13c1 : Code := { maxStack := 2, maxLocals := 2, code := jdk_32_method_2_code, exceptionTable := #[], attributes := #[] }
def k13m1 : Method := { name := "<init>", desc := "(Ljava/lang/Object;)V", sig := { parameters := [(.object "java/lang/Object")], returnType := none }, accessFlags := 2, code := some k13c1 }
def k13c2 : Code := { maxStack := 3, maxLocals := 1, code := jdk_32_method_3_code, exceptionTable := #[], attributes := #[] }
def k13m2 : Method := { name := "of", desc := "(Ljava/lang/Object;)Ljava/util/Optional;", sig := { parameters := [(.object "java/lang/Object")], returnType := some (.object "java/util/Optional") }, accessFlags := 9, code := some k13c2 }
def k13c3 : Code := { maxStack := 3, maxLocals := 1, code := jdk_32_method_5_code, exceptionTable := #[], attributes := #[] }
def k13m3 : Method := { name := "get", desc := "()Ljava/lang/Object;", sig := { parameters := [], returnType := some (.object "java/lang/Object") }, accessFlags := 1, code := some k13c3 }
def k13c4 : Code := { maxStack := 1, maxLocals := 1, code := jdk_32_method_6_code, exceptionTable := #[], attributes := #[] }
def k13m4 : Method := { name := "isPresent", desc := "()Z", sig := { parameters := [], returnType := some .boolean }, accessFlags := 1, code := some k13c4 }
/-- java/util/Optional -/
def k13 : Class := { plain "java/util/Optional" (some 0) with
  accessFlags := 49
  interfaces := #[]
  cf := some (fileOf pool13 2 #[] #[{ accessFlags := 9, nameIndex := 55, descriptorIndex := 56, attributes := #[] }, { accessFlags := 2, nameIndex := 11, descriptorIndex := 25, attributes := #[] }, { accessFlags := 9, nameIndex := 82, descriptorIndex := 65, attributes := #[] }, { accessFlags := 1, nameIndex := 73, descriptorIndex := 74, attributes := #[] }, { accessFlags := 1, nameIndex := 68, descriptorIndex := 46, attributes := #[] }] 49 8 #[] #[{ accessFlags := 26, nameIndex := 5, descriptorIndex := 6, attributes := #[] }, { accessFlags := 18, nameIndex := 15, descriptorIndex := 16, attributes := #[] }])
  fields := #[{ name := "EMPTY", type := (.object "java/util/Optional"), accessFlags := 26, slot := 0, constantValue := 0 }, { name := "value", type := (.object "java/lang/Object"), accessFlags := 18, slot := 0, constantValue := 0 }]
  methods := #[k13m0, k13m1, k13m2, k13m3, k13m4]
  instanceTypes := #[(.object "java/lang/Object")]
  staticTypes := #[(.object "java/util/Optional")]
  resolved := Array.replicate 187 none
  statics := some 2 }

def pool14 : Array CpInfo := pool [(1, .class_ 2), (0, u "java/lang/Math"), (1, .class_ 6), (1, u "java/lang/Object"), (0, u "<init>"), (0, u "()V"), (89, .class_ 100), (1, u "java/lang/Math$RandomNumberGeneratorHolder"), (71, u "negativeZeroFloatBits"), (0, u "J"), (2, u "negativeZeroDoubleBits"), (21, u "max"), (2, u "min"), (43, u "$assertionsDisabled"), (0, u "Z"), (88, u "(II)I"), (2, u "twoToTheDoubleScaleDown"), (0, u "D"), (4, u "twoToTheDoubleScaleUp"), (9, u "E"), (3, u "PI"), (2, u "TAU"), (2, u "DEGREES_TO_RADIANS"), (0, u "RADIANS_TO_DEGREES")] 94

def k14m0 : Method := { name := "<init>", desc := "()V", sig := { parameters := [], returnType := none }, accessFlags := 2, code := none }
def k14c1 : Code := { maxStack := 2, maxLocals := 2, code := jdk_29_method_65_code, exceptionTable := #[], attributes := #[] }
def k14m1 : Method := { name := "max", desc := "(II)I", sig := { parameters := [.int, .int], returnType := some .int }, accessFlags := 9, code := some k14c1 }
def k14c2 : Code := { maxStack := 2, maxLocals := 2, code := jdk_29_method_69_code, exceptionTable := #[], attributes := #[] }
def k14m2 : Method := { name := "min", desc := "(II)I", sig := { parameters := [.int, .int], returnType := some .int }, accessFlags := 9, code := some k14c2 }
/-- java/lang/Math -/
def k14 : Class := { plain "java/lang/Math" (some 0) with
  accessFlags := 49
  interfaces := #[]
  cf := some (fileOf pool14 1 #[.nestMembers #[98]] #[{ accessFlags := 2, nameIndex := 7, descriptorIndex := 8, attributes := #[] }, { accessFlags := 9, nameIndex := 198, descriptorIndex := 335, attributes := #[] }, { accessFlags := 9, nameIndex := 201, descriptorIndex := 335, attributes := #[] }] 49 4 #[] #[{ accessFlags := 25, nameIndex := 354, descriptorIndex := 339, attributes := #[] }, { accessFlags := 25, nameIndex := 358, descriptorIndex := 339, attributes := #[] }, { accessFlags := 25, nameIndex := 361, descriptorIndex := 339, attributes := #[] }, { accessFlags := 26, nameIndex := 364, descriptorIndex := 339, attributes := #[] }, { accessFlags := 26, nameIndex := 365, descriptorIndex := 339, attributes := #[] }, { accessFlags := 26, nameIndex := 172, descriptorIndex := 173, attributes := #[] }, { accessFlags := 26, nameIndex := 176, descriptorIndex := 173, attributes := #[] }, { accessFlags := 8, nameIndex := 344, descriptorIndex := 339, attributes := #[] }, { accessFlags := 8, nameIndex := 338, descriptorIndex := 339, attributes := #[] }, { accessFlags := 4120, nameIndex := 245, descriptorIndex := 246, attributes := #[] }])
  fields := #[{ name := "E", type := .double, accessFlags := 25, slot := 0, constantValue := 0 }, { name := "PI", type := .double, accessFlags := 25, slot := 1, constantValue := 0 }, { name := "TAU", type := .double, accessFlags := 25, slot := 2, constantValue := 0 }, { name := "DEGREES_TO_RADIANS", type := .double, accessFlags := 26, slot := 3, constantValue := 0 }, { name := "RADIANS_TO_DEGREES", type := .double, accessFlags := 26, slot := 4, constantValue := 0 }, { name := "negativeZeroFloatBits", type := .long, accessFlags := 26, slot := 5, constantValue := 0 }, { name := "negativeZeroDoubleBits", type := .long, accessFlags := 26, slot := 6, constantValue := 0 }, { name := "twoToTheDoubleScaleUp", type := .double, accessFlags := 8, slot := 7, constantValue := 0 }, { name := "twoToTheDoubleScaleDown", type := .double, accessFlags := 8, slot := 8, constantValue := 0 }, { name := "$assertionsDisabled", type := .boolean, accessFlags := 4120, slot := 9, constantValue := 0 }]
  methods := #[k14m0, k14m1, k14m2]
  instanceTypes := #[]
  staticTypes := #[.double, .double, .double, .double, .double, .long, .long, .double, .double, .boolean]
  resolved := Array.replicate 460 none
  statics := none }

def pool15 : Array CpInfo := pool [(2, .class_ 4), (1, u "java/lang/Enum"), (0, u "name"), (0, u "Ljava/lang/String;"), (2, u "ordinal"), (0, u "I"), (1, .class_ 14), (1, u "java/lang/Object"), (4, u "hash"), (86, .class_ 108), (1, u "java/lang/Enum$EnumDesc"), (2, .class_ 112), (0, u "java/lang/constant/Constable"), (0, .class_ 114), (0, u "java/lang/Comparable"), (0, .class_ 116), (0, u "java/io/Serializable")] 87

/-- java/lang/Enum -/
def k15 : Class := { plain "java/lang/Enum" (some 0) with
  accessFlags := 1057
  interfaces := #[5, 3, 2]
  cf := some (fileOf pool15 2 #[.nestMembers #[106]] #[] 1057 12 #[111, 113, 115] #[{ accessFlags := 18, nameIndex := 5, descriptorIndex := 6, attributes := #[] }, { accessFlags := 18, nameIndex := 9, descriptorIndex := 10, attributes := #[] }, { accessFlags := 2, nameIndex := 19, descriptorIndex := 10, attributes := #[] }])
  fields := #[{ name := "name", type := (.object "java/lang/String"), accessFlags := 18, slot := 0, constantValue := 0 }, { name := "ordinal", type := .int, accessFlags := 18, slot := 1, constantValue := 0 }, { name := "hash", type := .int, accessFlags := 2, slot := 2, constantValue := 0 }]
  methods := #[]
  instanceTypes := #[(.object "java/lang/String"), .int, .int]
  staticTypes := #[]
  resolved := Array.replicate 204 none
  statics := none }

def pool16 : Array CpInfo := pool [(1, .class_ 2), (0, u "com/example/lokit/lokit/password/CharacterClass"), (2, u "UPPER_CASE"), (0, u "Lcom/example/lokit/lokit/password/CharacterClass;"), (2, u "LOWER_CASE"), (2, u "DIGIT"), (2, u "SYMBOL"), (2, u "$VALUES"), (0, u "[Lcom/example/lokit/lokit/password/CharacterClass;"), (6, .class_ 28), (1, u "java/lang/Enum")] 26

/-- com/example/lokit/lokit/password/CharacterClass -/
def k16 : Class := { plain "com/example/lokit/lokit/password/CharacterClass" (some 15) with
  accessFlags := 16433
  interfaces := #[]
  cf := some (fileOf pool16 1 #[] #[] 16433 26 #[] #[{ accessFlags := 16409, nameIndex := 5, descriptorIndex := 6, attributes := #[] }, { accessFlags := 16409, nameIndex := 9, descriptorIndex := 6, attributes := #[] }, { accessFlags := 16409, nameIndex := 12, descriptorIndex := 6, attributes := #[] }, { accessFlags := 16409, nameIndex := 15, descriptorIndex := 6, attributes := #[] }, { accessFlags := 4122, nameIndex := 18, descriptorIndex := 19, attributes := #[] }])
  fields := #[{ name := "UPPER_CASE", type := (.object "com/example/lokit/lokit/password/CharacterClass"), accessFlags := 16409, slot := 0, constantValue := 0 }, { name := "LOWER_CASE", type := (.object "com/example/lokit/lokit/password/CharacterClass"), accessFlags := 16409, slot := 1, constantValue := 0 }, { name := "DIGIT", type := (.object "com/example/lokit/lokit/password/CharacterClass"), accessFlags := 16409, slot := 2, constantValue := 0 }, { name := "SYMBOL", type := (.object "com/example/lokit/lokit/password/CharacterClass"), accessFlags := 16409, slot := 3, constantValue := 0 }, { name := "$VALUES", type := (.array (.object "com/example/lokit/lokit/password/CharacterClass")), accessFlags := 4122, slot := 4, constantValue := 0 }]
  methods := #[]
  instanceTypes := #[(.object "java/lang/String"), .int, .int]
  staticTypes := #[(.object "com/example/lokit/lokit/password/CharacterClass"), (.object "com/example/lokit/lokit/password/CharacterClass"), (.object "com/example/lokit/lokit/password/CharacterClass"), (.object "com/example/lokit/lokit/password/CharacterClass"), (.array (.object "com/example/lokit/lokit/password/CharacterClass"))]
  resolved := Array.replicate 55 none
  statics := some 3 }

def pool17 : Array CpInfo := pool [(9, u "<init>"), (6, .class_ 18), (1, u "java/lang/Object"), (0, u "()V"), (1, .class_ 23), (1, u "jdk/internal/util/ArraysSupport"), (0, u "LOG2_ARRAY_LONG_INDEX_SCALE"), (0, u "I"), (2, u "U"), (0, u "Ljdk/internal/misc/Unsafe;"), (8, u "BIG_ENDIAN"), (0, u "Z"), (8, u "LOG2_BYTE_BIT_SIZE"), (4, u "LOG2_ARRAY_INT_INDEX_SCALE"), (54, u "JLA"), (0, u "Ljdk/internal/access/JavaLangAccess;"), (11, u "LOG2_ARRAY_BOOLEAN_INDEX_SCALE"), (9, u "LOG2_ARRAY_BYTE_INDEX_SCALE"), (5, u "LOG2_ARRAY_CHAR_INDEX_SCALE"), (5, u "LOG2_ARRAY_SHORT_INDEX_SCALE"), (18, u "LOG2_ARRAY_FLOAT_INDEX_SCALE"), (24, u "LOG2_ARRAY_DOUBLE_INDEX_SCALE"), (89, u "T_BOOLEAN"), (2, u "T_CHAR"), (1, u "T_FLOAT"), (1, u "T_DOUBLE"), (1, u "T_BYTE"), (1, u "T_SHORT"), (1, u "T_INT"), (1, u "T_LONG"), (1, u "SOFT_MAX_ARRAY_LENGTH")] 83

def k17m0 : Method := { name := "<init>", desc := "()V", sig := { parameters := [], returnType := none }, accessFlags := 2, code := none }
/-- jdk/internal/util/ArraysSupport -/
def k17 : Class := { plain "jdk/internal/util/ArraysSupport" (some 0) with
  accessFlags := 33
  interfaces := #[]
  cf := some (fileOf pool17 21 #[] #[{ accessFlags := 2, nameIndex := 9, descriptorIndex := 19, attributes := #[] }] 33 16 #[] #[{ accessFlags := 24, nameIndex := 28, descriptorIndex := 29, attributes := #[] }, { accessFlags := 26, nameIndex := 38, descriptorIndex := 39, attributes := #[] }, { accessFlags := 25, nameIndex := 121, descriptorIndex := 25, attributes := #[] }, { accessFlags := 25, nameIndex := 131, descriptorIndex := 25, attributes := #[] }, { accessFlags := 25, nameIndex := 137, descriptorIndex := 25, attributes := #[] }, { accessFlags := 25, nameIndex := 143, descriptorIndex := 25, attributes := #[] }, { accessFlags := 25, nameIndex := 53, descriptorIndex := 25, attributes := #[] }, { accessFlags := 25, nameIndex := 24, descriptorIndex := 25, attributes := #[] }, { accessFlags := 25, nameIndex := 162, descriptorIndex := 25, attributes := #[] }, { accessFlags := 25, nameIndex := 187, descriptorIndex := 25, attributes := #[] }, { accessFlags := 26, nameIndex := 48, descriptorIndex := 25, attributes := #[] }, { accessFlags := 25, nameIndex := 277, descriptorIndex := 25, attributes := #[] }, { accessFlags := 25, nameIndex := 280, descriptorIndex := 25, attributes := #[] }, { accessFlags := 25, nameIndex := 282, descriptorIndex := 25, attributes := #[] }, { accessFlags := 25, nameIndex := 284, descriptorIndex := 25, attributes := #[] }, { accessFlags := 25, nameIndex := 286, descriptorIndex := 25, attributes := #[] }, { accessFlags := 25, nameIndex := 288, descriptorIndex := 25, attributes := #[] }, { accessFlags := 25, nameIndex := 290, descriptorIndex := 25, attributes := #[] }, { accessFlags := 25, nameIndex := 292, descriptorIndex := 25, attributes := #[] }, { accessFlags := 26, nameIndex := 108, descriptorIndex := 109, attributes := #[] }, { accessFlags := 25, nameIndex := 294, descriptorIndex := 25, attributes := #[] }])
  fields := #[{ name := "U", type := (.object "jdk/internal/misc/Unsafe"), accessFlags := 24, slot := 0, constantValue := 0 }, { name := "BIG_ENDIAN", type := .boolean, accessFlags := 26, slot := 1, constantValue := 0 }, { name := "LOG2_ARRAY_BOOLEAN_INDEX_SCALE", type := .int, accessFlags := 25, slot := 2, constantValue := 0 }, { name := "LOG2_ARRAY_BYTE_INDEX_SCALE", type := .int, accessFlags := 25, slot := 3, constantValue := 0 }, { name := "LOG2_ARRAY_CHAR_INDEX_SCALE", type := .int, accessFlags := 25, slot := 4, constantValue := 0 }, { name := "LOG2_ARRAY_SHORT_INDEX_SCALE", type := .int, accessFlags := 25, slot := 5, constantValue := 0 }, { name := "LOG2_ARRAY_INT_INDEX_SCALE", type := .int, accessFlags := 25, slot := 6, constantValue := 0 }, { name := "LOG2_ARRAY_LONG_INDEX_SCALE", type := .int, accessFlags := 25, slot := 7, constantValue := 0 }, { name := "LOG2_ARRAY_FLOAT_INDEX_SCALE", type := .int, accessFlags := 25, slot := 8, constantValue := 0 }, { name := "LOG2_ARRAY_DOUBLE_INDEX_SCALE", type := .int, accessFlags := 25, slot := 9, constantValue := 0 }, { name := "LOG2_BYTE_BIT_SIZE", type := .int, accessFlags := 26, slot := 10, constantValue := 0 }, { name := "T_BOOLEAN", type := .int, accessFlags := 25, slot := 11, constantValue := 0 }, { name := "T_CHAR", type := .int, accessFlags := 25, slot := 12, constantValue := 0 }, { name := "T_FLOAT", type := .int, accessFlags := 25, slot := 13, constantValue := 0 }, { name := "T_DOUBLE", type := .int, accessFlags := 25, slot := 14, constantValue := 0 }, { name := "T_BYTE", type := .int, accessFlags := 25, slot := 15, constantValue := 0 }, { name := "T_SHORT", type := .int, accessFlags := 25, slot := 16, constantValue := 0 }, { name := "T_INT", type := .int, accessFlags := 25, slot := 17, constantValue := 0 }, { name := "T_LONG", type := .int, accessFlags := 25, slot := 18, constantValue := 0 }, { name := "JLA", type := (.object "jdk/internal/access/JavaLangAccess"), accessFlags := 26, slot := 19, constantValue := 0 }, { name := "SOFT_MAX_ARRAY_LENGTH", type := .int, accessFlags := 25, slot := 20, constantValue := 0 }]
  methods := #[k17m0]
  instanceTypes := #[]
  staticTypes := #[(.object "jdk/internal/misc/Unsafe"), .boolean, .int, .int, .int, .int, .int, .int, .int, .int, .int, .int, .int, .int, .int, .int, .int, .int, .int, (.object "jdk/internal/access/JavaLangAccess"), .int]
  resolved := Array.replicate 378 none
  statics := none }

def pool18 : Array CpInfo := pool [(1, u "java/lang/Cloneable"), (0, .class_ 1), (0, u "java/lang/Object"), (0, .class_ 3)] 3

/-- java/lang/Cloneable -/
def k18 : Class := { plain "java/lang/Cloneable" (some 0) with
  accessFlags := 1537
  interfaces := #[]
  cf := some (fileOf pool18 2 #[] #[] 1537 4 #[] #[])
  fields := #[]
  methods := #[]
  instanceTypes := #[]
  staticTypes := #[]
  resolved := Array.replicate 8 none
  statics := none }

/-- the primitive byte -/
def k19 : Class := { plain "byte" none with kind := .primitive 'B', accessFlags := 0x411 }
/-- [B -/
def k20 : Class := { plain "[B" (some 0) with kind := .array 19 .byte, interfaces := #[18, 2], accessFlags := 1041 }

/-- the primitive char -/
def k21 : Class := { plain "char" none with kind := .primitive 'C', accessFlags := 0x411 }
/-- [C -/
def k22 : Class := { plain "[C" (some 0) with kind := .array 21 .char, interfaces := #[18, 2], accessFlags := 1041 }

/-- the primitive int -/
def k23 : Class := { plain "int" none with kind := .primitive 'I', accessFlags := 0x411 }
/-- [I -/
def k24 : Class := { plain "[I" (some 0) with kind := .array 23 .int, interfaces := #[18, 2], accessFlags := 1041 }

def heap : Heap := #[{ cls := 7, slots := #[.long 0, .int 1, .null, .int 0, .null, .int 0, .int 0], vm := .statics 7 },
  { cls := 12, slots := #[.null, .null, .null], vm := .statics 12 },
  { cls := 13, slots := #[.ref 8], vm := .statics 13 },
  { cls := 16, slots := #[.ref 7, .ref 5, .ref 6, .ref 4, .null], vm := .statics 16 },
  { cls := 16, slots := #[.null, .int 0, .int 0], vm := .none },
  { cls := 16, slots := #[.null, .int 0, .int 0], vm := .none },
  { cls := 16, slots := #[.null, .int 0, .int 0], vm := .none },
  { cls := 16, slots := #[.null, .int 0, .int 0], vm := .none },
  { cls := 13, slots := #[.null], vm := .none }]
def classes : Array Class := #[k0, k1, k2, k3, k4, k5, k6, k7, k8, k9, k10, k11, k12, k13, k14, k15, k16, k17, k18, k19, k20, k21, k22, k23, k24]
def interned : List (Array UInt16 × Addr) := []
def slotsUsed : Nat := 29
def theMethod : MethodId := ⟨1, 2⟩
def args0 : Array Value := #[.int 5, .int 5, .int 5, .int 5]
def aboutOver (below : List Frame) : State where
  vm := { classes := classes, interned := interned.toArray }
  heap := heap
  slotsUsed := slotsUsed
  threads := #[{ frames := .invoking theMethod args0 :: below }]
def below0 : List Frame := [.native { method := ⟨0, 0⟩, args := #[] }]
def about1 : State := aboutOver below0
def p0 : Program := .bare "" "" ""
def e0 : Env := launch0.env 0 0 0
theorem w_frames : about1.frames = Frame.invoking theMethod args0 :: below0 := rfl
set_option maxRecDepth 65536 in
theorem w_args : argsFit about1.vm theMethod args0 = true := by decide +kernel
set_option maxRecDepth 65536 in
theorem w_heap : heapFits about1 = true := by decide +kernel
set_option maxRecDepth 65536 in
theorem w_runnable : about1.curStatus? = some .runnable := by decide +kernel
set_option maxRecDepth 65536 in
theorem w_alone : about1.alone = true := by decide +kernel
set_option maxRecDepth 65536 in
theorem w_named : about1.methodNamed? x = some theMethod := by decide +kernel
set_option maxRecDepth 65536 in
theorem w_hears : about1.hears theMethod below0 = true := by decide +kernel
set_option maxRecDepth 65536 in
theorem w_ripe : about1.ripe theMethod args0 below0 = true := by decide +kernel
theorem w_running : about1.status = .running := rfl
set_option maxRecDepth 65536 in
theorem w_room : about1.hasRoom e0.platform room_1 = true :=
  launch0.hasRoom_least _ room_1 (by decide +kernel) (by decide +kernel) (by decide +kernel) (by decide +kernel) (by decide +kernel) (by decide +kernel)
theorem allAtoms_all (ts : List Jvm.Cond) (a : Array Jvm.Value) (st : Jvm.State) : (allAtoms ts).before a st = ts.all (fun c => c.before a st) := by
  induction ts with
  | nil => rfl
  | cons c t ih =>
    show (Jvm.Cond.and c (allAtoms t)).before a st = _
    rw [Jvm.Cond.before_and, ih, List.all_cons]
def words1 : List Jvm.Cond := Jvm.Cond.code x code maxLocals ret :: tables_1
/-- a 'code' word, met by the world's own term for the bytes: nothing is compared byte by byte -/
theorem code_word {y : MethodName} {bytes : ByteArray} {mx : Nat} {rt : Option FieldType} {a : Array Value} {s : State} {m : MethodId} {meth : Method} {c : Code} (h1 : s.methodNamed? y = some m) (h2 : s.vm.method? m = some meth) (h3 : meth.code = some c) (h4 : c.code = bytes)
    (h5 : (c.maxLocals == mx && c.exceptionTable.isEmpty && decide (c.maxStack ≤ mostOperands) && decide (meth.sig.returnType = rt) && !meth.locks && decide (parseMethodDescriptor y.desc = some meth.sig)) = true) : (Jvm.Cond.code y bytes mx rt).before a s = true := by
  simp only [Bool.and_eq_true, beq_iff_eq, Bool.not_eq_true', decide_eq_true_eq] at h5
  obtain ⟨⟨⟨⟨⟨g1, g2⟩, g3⟩, g4⟩, g5⟩, g6⟩ := h5
  simp [Cond.before, Cond.holds, Cond.value, h1, h2, h3, h4, g1, g2, g3, g4, g5, g6]
def isCode : Jvm.Cond → Bool
  | .code _ _ _ _ => true
  | _ => false
theorem all_split {L : List Jvm.Cond} {P : Jvm.Cond → Bool} (h1 : L.all (fun c => isCode c || P c) = true) (h2 : ∀ c ∈ L.filter isCode, P c = true) : L.all P = true := by
  refine List.all_eq_true.mpr fun c hc => ?_
  have h := List.all_eq_true.mp h1 c hc
  rcases Bool.eq_false_or_eq_true (isCode c) with hi | hi
  · exact h2 c (List.mem_filter.mpr ⟨hc, hi⟩)
  · simpa [hi] using h
set_option maxRecDepth 65536 in
theorem w_c0 : (Jvm.Cond.code x code maxLocals ret).before args0 about1 = true := code_word (m := ⟨1, 2⟩) (meth := k1m2) (c := k1c2) (by decide +kernel) rfl rfl rfl (by decide +kernel)
set_option maxRecDepth 65536 in
theorem w_c1 : (Jvm.Cond.code ({ cls := "com/example/lokit/lokit/password/PasswordAlphabetClassOfPinLaw", name := "punct", desc := "(I)C" } : Jvm.MethodName) method_2_code (2 : Nat) (Option.some Jvm.ClassFile.FieldType.char)).before args0 about1 = true := code_word (m := ⟨1, 1⟩) (meth := k1m1) (c := k1c1) (by decide +kernel) rfl rfl rfl (by decide +kernel)
set_option maxRecDepth 65536 in
theorem w_c2 : (Jvm.Cond.code ({ cls := "java/lang/String", name := "<init>", desc := "([C)V" } : Jvm.MethodName) jdk_42_method_3_code (2 : Nat) (Option.none : Option Jvm.ClassFile.FieldType)).before args0 about1 = true := code_word (m := ⟨7, 1⟩) (meth := k7m1) (c := k7c1) (by decide +kernel) rfl rfl rfl (by decide +kernel)
set_option maxRecDepth 65536 in
theorem w_c3 : (Jvm.Cond.code ({ cls := "java/lang/String", name := "<init>", desc := "([CIILjava/lang/Void;)V" } : Jvm.MethodName) jdk_42_method_149_code (6 : Nat) (Option.none : Option Jvm.ClassFile.FieldType)).before args0 about1 = true := code_word (m := ⟨7, 6⟩) (meth := k7m6) (c := k7c6) (by decide +kernel) rfl rfl rfl (by decide +kernel)
set_option maxRecDepth 65536 in
theorem w_c4 : (Jvm.Cond.code ({ cls := "java/lang/Object", name := "<init>", desc := "()V" } : Jvm.MethodName) object_method_1_code (1 : Nat) (Option.none : Option Jvm.ClassFile.FieldType)).before args0 about1 = true := code_word (m := ⟨0, 0⟩) (meth := k0m0) (c := k0c0) (by decide +kernel) rfl rfl rfl (by decide +kernel)
set_option maxRecDepth 65536 in
theorem w_c5 : (Jvm.Cond.code ({ cls := "java/lang/StringUTF16", name := "compress", desc := "([CII)[B" } : Jvm.MethodName) jdk_52_method_16_code (6 : Nat) (Option.some (Jvm.ClassFile.FieldType.array Jvm.ClassFile.FieldType.byte))).before args0 about1 = true := code_word (m := ⟨8, 2⟩) (meth := k8m2) (c := k8c2) (by decide +kernel) rfl rfl rfl (by decide +kernel)
set_option maxRecDepth 65536 in
theorem w_c6 : (Jvm.Cond.code ({ cls := "java/lang/StringUTF16", name := "compress", desc := "([CI[BII)I" } : Jvm.MethodName) jdk_52_method_21_code (7 : Nat) (Option.some Jvm.ClassFile.FieldType.int)).before args0 about1 = true := code_word (m := ⟨8, 3⟩) (meth := k8m3) (c := k8c3) (by decide +kernel) rfl rfl rfl (by decide +kernel)
set_option maxRecDepth 65536 in
theorem w_c7 : (Jvm.Cond.code ({ cls := "java/lang/StringUTF16", name := "coderFromArrayLen", desc := "([BI)B" } : Jvm.MethodName) jdk_52_method_15_code (2 : Nat) (Option.some Jvm.ClassFile.FieldType.byte)).before args0 about1 = true := code_word (m := ⟨8, 1⟩) (meth := k8m1) (c := k8c1) (by decide +kernel) rfl rfl rfl (by decide +kernel)
set_option maxRecDepth 65536 in
theorem w_c8 : (Jvm.Cond.code ({ cls := "com/example/lokit/lokit/password/PasswordAlphabet", name := "<init>", desc := "(Ljava/lang/String;)V" } : Jvm.MethodName) prog_12_method_1_code (4 : Nat) (Option.none : Option Jvm.ClassFile.FieldType)).before args0 about1 = true := code_word (m := ⟨9, 0⟩) (meth := k9m0) (c := k9c0) (by decide +kernel) rfl rfl rfl (by decide +kernel)
set_option maxRecDepth 65536 in
theorem w_c9 : (Jvm.Cond.code ({ cls := "java/util/Objects", name := "requireNonNull", desc := "(Ljava/lang/Object;Ljava/lang/String;)Ljava/lang/Object;" } : Jvm.MethodName) jdk_31_method_11_code (2 : Nat) (Option.some (Jvm.ClassFile.FieldType.object "java/lang/Object"))).before args0 about1 = true := code_word (m := ⟨10, 2⟩) (meth := k10m2) (c := k10c2) (by decide +kernel) rfl rfl rfl (by decide +kernel)
set_option maxRecDepth 65536 in
theorem w_c10 : (Jvm.Cond.code ({ cls := "java/lang/String", name := "length", desc := "()I" } : Jvm.MethodName) jdk_42_method_54_code (1 : Nat) (Option.some Jvm.ClassFile.FieldType.int)).before args0 about1 = true := code_word (m := ⟨7, 2⟩) (meth := k7m2) (c := k7c2) (by decide +kernel) rfl rfl rfl (by decide +kernel)
set_option maxRecDepth 65536 in
theorem w_c11 : (Jvm.Cond.code ({ cls := "java/lang/String", name := "coder", desc := "()B" } : Jvm.MethodName) jdk_42_method_152_code (1 : Nat) (Option.some Jvm.ClassFile.FieldType.byte)).before args0 about1 = true := code_word (m := ⟨7, 7⟩) (meth := k7m7) (c := k7c7) (by decide +kernel) rfl rfl rfl (by decide +kernel)
set_option maxRecDepth 65536 in
theorem w_c12 : (Jvm.Cond.code ({ cls := "java/lang/String", name := "charAt", desc := "(I)C" } : Jvm.MethodName) jdk_42_method_56_code (2 : Nat) (Option.some Jvm.ClassFile.FieldType.char)).before args0 about1 = true := code_word (m := ⟨7, 3⟩) (meth := k7m3) (c := k7c3) (by decide +kernel) rfl rfl rfl (by decide +kernel)
set_option maxRecDepth 65536 in
theorem w_c13 : (Jvm.Cond.code ({ cls := "java/lang/String", name := "isLatin1", desc := "()Z" } : Jvm.MethodName) jdk_42_method_154_code (1 : Nat) (Option.some Jvm.ClassFile.FieldType.boolean)).before args0 about1 = true := code_word (m := ⟨7, 8⟩) (meth := k7m8) (c := k7c8) (by decide +kernel) rfl rfl rfl (by decide +kernel)
set_option maxRecDepth 65536 in
theorem w_c14 : (Jvm.Cond.code ({ cls := "java/lang/StringLatin1", name := "charAt", desc := "([BI)C" } : Jvm.MethodName) jdk_43_method_2_code (2 : Nat) (Option.some Jvm.ClassFile.FieldType.char)).before args0 about1 = true := code_word (m := ⟨11, 1⟩) (meth := k11m1) (c := k11c1) (by decide +kernel) rfl rfl rfl (by decide +kernel)
set_option maxRecDepth 65536 in
theorem w_c15 : (Jvm.Cond.code ({ cls := "java/lang/String", name := "checkIndex", desc := "(II)V" } : Jvm.MethodName) jdk_42_method_155_code (2 : Nat) (Option.none : Option Jvm.ClassFile.FieldType)).before args0 about1 = true := code_word (m := ⟨7, 9⟩) (meth := k7m9) (c := k7c9) (by decide +kernel) rfl rfl rfl (by decide +kernel)
set_option maxRecDepth 65536 in
theorem w_c16 : (Jvm.Cond.code ({ cls := "jdk/internal/util/Preconditions", name := "checkIndex", desc := "(IILjava/util/function/BiFunction;)I" } : Jvm.MethodName) jdk_41_method_11_code (3 : Nat) (Option.some Jvm.ClassFile.FieldType.int)).before args0 about1 = true := code_word (m := ⟨12, 1⟩) (meth := k12m1) (c := k12c1) (by decide +kernel) rfl rfl rfl (by decide +kernel)
set_option maxRecDepth 65536 in
theorem w_c17 : (Jvm.Cond.code ({ cls := "com/example/lokit/lokit/password/PasswordAlphabet", name := "letterOrDigitClassOf", desc := "(I)Ljava/util/Optional;" } : Jvm.MethodName) prog_12_method_3_code (1 : Nat) (Option.some (Jvm.ClassFile.FieldType.object "java/util/Optional"))).before args0 about1 = true := code_word (m := ⟨9, 2⟩) (meth := k9m2) (c := k9c2) (by decide +kernel) rfl rfl rfl (by decide +kernel)
set_option maxRecDepth 65536 in
theorem w_c18 : (Jvm.Cond.code ({ cls := "java/util/Optional", name := "empty", desc := "()Ljava/util/Optional;" } : Jvm.MethodName) jdk_32_method_1_code (1 : Nat) (Option.some (Jvm.ClassFile.FieldType.object "java/util/Optional"))).before args0 about1 = true := code_word (m := ⟨13, 0⟩) (meth := k13m0) (c := k13c0) (by decide +kernel) rfl rfl rfl (by decide +kernel)
set_option maxRecDepth 65536 in
theorem w_c19 : (Jvm.Cond.code ({ cls := "java/util/Optional", name := "isPresent", desc := "()Z" } : Jvm.MethodName) jdk_32_method_6_code (1 : Nat) (Option.some Jvm.ClassFile.FieldType.boolean)).before args0 about1 = true := code_word (m := ⟨13, 4⟩) (meth := k13m4) (c := k13c4) (by decide +kernel) rfl rfl rfl (by decide +kernel)
set_option maxRecDepth 65536 in
theorem w_c20 : (Jvm.Cond.code ({ cls := "com/example/lokit/lokit/password/PasswordAlphabet", name := "classOf", desc := "(I)Ljava/util/Optional;" } : Jvm.MethodName) prog_12_method_2_code (3 : Nat) (Option.some (Jvm.ClassFile.FieldType.object "java/util/Optional"))).before args0 about1 = true := code_word (m := ⟨9, 1⟩) (meth := k9m1) (c := k9c1) (by decide +kernel) rfl rfl rfl (by decide +kernel)
set_option maxRecDepth 65536 in
theorem w_c21 : (Jvm.Cond.code ({ cls := "java/lang/String", name := "indexOf", desc := "(I)I" } : Jvm.MethodName) jdk_42_method_79_code (2 : Nat) (Option.some Jvm.ClassFile.FieldType.int)).before args0 about1 = true := code_word (m := ⟨7, 4⟩) (meth := k7m4) (c := k7c4) (by decide +kernel) rfl rfl rfl (by decide +kernel)
set_option maxRecDepth 65536 in
theorem w_c22 : (Jvm.Cond.code ({ cls := "java/lang/String", name := "indexOf", desc := "(II)I" } : Jvm.MethodName) jdk_42_method_80_code (3 : Nat) (Option.some Jvm.ClassFile.FieldType.int)).before args0 about1 = true := code_word (m := ⟨7, 5⟩) (meth := k7m5) (c := k7c5) (by decide +kernel) rfl rfl rfl (by decide +kernel)
set_option maxRecDepth 65536 in
theorem w_c23 : (Jvm.Cond.code ({ cls := "java/lang/StringLatin1", name := "indexOf", desc := "([BIII)I" } : Jvm.MethodName) jdk_43_method_22_code (4 : Nat) (Option.some Jvm.ClassFile.FieldType.int)).before args0 about1 = true := code_word (m := ⟨11, 3⟩) (meth := k11m3) (c := k11c3) (by decide +kernel) rfl rfl rfl (by decide +kernel)
set_option maxRecDepth 65536 in
theorem w_c24 : (Jvm.Cond.code ({ cls := "java/lang/StringLatin1", name := "canEncode", desc := "(I)Z" } : Jvm.MethodName) jdk_43_method_4_code (1 : Nat) (Option.some Jvm.ClassFile.FieldType.boolean)).before args0 about1 = true := code_word (m := ⟨11, 2⟩) (meth := k11m2) (c := k11c2) (by decide +kernel) rfl rfl rfl (by decide +kernel)
set_option maxRecDepth 65536 in
theorem w_c25 : (Jvm.Cond.code ({ cls := "java/lang/Math", name := "max", desc := "(II)I" } : Jvm.MethodName) jdk_29_method_65_code (2 : Nat) (Option.some Jvm.ClassFile.FieldType.int)).before args0 about1 = true := code_word (m := ⟨14, 1⟩) (meth := k14m1) (c := k14c1) (by decide +kernel) rfl rfl rfl (by decide +kernel)
set_option maxRecDepth 65536 in
theorem w_c26 : (Jvm.Cond.code ({ cls := "java/lang/Math", name := "min", desc := "(II)I" } : Jvm.MethodName) jdk_29_method_69_code (2 : Nat) (Option.some Jvm.ClassFile.FieldType.int)).before args0 about1 = true := code_word (m := ⟨14, 2⟩) (meth := k14m2) (c := k14c2) (by decide +kernel) rfl rfl rfl (by decide +kernel)
set_option maxRecDepth 65536 in
theorem w_c27 : (Jvm.Cond.code ({ cls := "java/lang/StringLatin1", name := "indexOfChar", desc := "([BIII)I" } : Jvm.MethodName) jdk_43_method_23_code (6 : Nat) (Option.some Jvm.ClassFile.FieldType.int)).before args0 about1 = true := code_word (m := ⟨11, 4⟩) (meth := k11m4) (c := k11c4) (by decide +kernel) rfl rfl rfl (by decide +kernel)
set_option maxRecDepth 65536 in
theorem w_c28 : (Jvm.Cond.code ({ cls := "java/util/Optional", name := "of", desc := "(Ljava/lang/Object;)Ljava/util/Optional;" } : Jvm.MethodName) jdk_32_method_3_code (1 : Nat) (Option.some (Jvm.ClassFile.FieldType.object "java/util/Optional"))).before args0 about1 = true := code_word (m := ⟨13, 2⟩) (meth := k13m2) (c := k13c2) (by decide +kernel) rfl rfl rfl (by decide +kernel)
set_option maxRecDepth 65536 in
theorem w_c29 : (Jvm.Cond.code ({ cls := "java/util/Objects", name := "requireNonNull", desc := "(Ljava/lang/Object;)Ljava/lang/Object;" } : Jvm.MethodName) jdk_31_method_10_code (1 : Nat) (Option.some (Jvm.ClassFile.FieldType.object "java/lang/Object"))).before args0 about1 = true := code_word (m := ⟨10, 1⟩) (meth := k10m1) (c := k10c1) (by decide +kernel) rfl rfl rfl (by decide +kernel)
set_option maxRecDepth 65536 in
theorem w_c30 : (Jvm.Cond.code ({ cls := "java/util/Optional", name := "<init>", desc := "(Ljava/lang/Object;)V" } : Jvm.MethodName) jdk_32_method_2_code (2 : Nat) (Option.none : Option Jvm.ClassFile.FieldType)).before args0 about1 = true := code_word (m := ⟨13, 1⟩) (meth := k13m1) (c := k13c1) (by decide +kernel) rfl rfl rfl (by decide +kernel)
set_option maxRecDepth 65536 in
theorem w_c31 : (Jvm.Cond.code ({ cls := "java/util/Optional", name := "get", desc := "()Ljava/lang/Object;" } : Jvm.MethodName) jdk_32_method_5_code (1 : Nat) (Option.some (Jvm.ClassFile.FieldType.object "java/lang/Object"))).before args0 about1 = true := code_word (m := ⟨13, 3⟩) (meth := k13m3) (c := k13c3) (by decide +kernel) rfl rfl rfl (by decide +kernel)
def codes1 : List Jvm.Cond := [Jvm.Cond.code x code maxLocals ret, Jvm.Cond.code ({ cls := "com/example/lokit/lokit/password/PasswordAlphabetClassOfPinLaw", name := "punct", desc := "(I)C" } : Jvm.MethodName) method_2_code (2 : Nat) (Option.some Jvm.ClassFile.FieldType.char), Jvm.Cond.code ({ cls := "java/lang/String", name := "<init>", desc := "([C)V" } : Jvm.MethodName) jdk_42_method_3_code (2 : Nat) (Option.none : Option Jvm.ClassFile.FieldType), Jvm.Cond.code ({ cls := "java/lang/String", name := "<init>", desc := "([CIILjava/lang/Void;)V" } : Jvm.MethodName) jdk_42_method_149_code (6 : Nat) (Option.none : Option Jvm.ClassFile.FieldType), Jvm.Cond.code ({ cls := "java/lang/Object", name := "<init>", desc := "()V" } : Jvm.MethodName) object_method_1_code (1 : Nat) (Option.none : Option Jvm.ClassFile.FieldType), Jvm.Cond.code ({ cls := "java/lang/StringUTF16", name := "compress", desc := "([CII)[B" } : Jvm.MethodName) jdk_52_method_16_code (6 : Nat) (Option.some (Jvm.ClassFile.FieldType.array Jvm.ClassFile.FieldType.byte)), Jvm.Cond.code ({ cls := "java/lang/StringUTF16", name := "compress", desc := "([CI[BII)I" } : Jvm.MethodName) jdk_52_method_21_code (7 : Nat) (Option.some Jvm.ClassFile.FieldType.int), Jvm.Cond.code ({ cls := "java/lang/StringUTF16", name := "coderFromArrayLen", desc := "([BI)B" } : Jvm.MethodName) jdk_52_method_15_code (2 : Nat) (Option.some Jvm.ClassFile.FieldType.byte), Jvm.Cond.code ({ cls := "com/example/lokit/lokit/password/PasswordAlphabet", name := "<init>", desc := "(Ljava/lang/String;)V" } : Jvm.MethodName) prog_12_method_1_code (4 : Nat) (Option.none : Option Jvm.ClassFile.FieldType), Jvm.Cond.code ({ cls := "java/util/Objects", name := "requireNonNull", desc := "(Ljava/lang/Object;Ljava/lang/String;)Ljava/lang/Object;" } : Jvm.MethodName) jdk_31_method_11_code (2 : Nat) (Option.some (Jvm.ClassFile.FieldType.object "java/lang/Object")), Jvm.Cond.code ({ cls := "java/lang/String", name := "length", desc := "()I" } : Jvm.MethodName) jdk_42_method_54_code (1 : Nat) (Option.some Jvm.ClassFile.FieldType.int), Jvm.Cond.code ({ cls := "java/lang/String", name := "coder", desc := "()B" } : Jvm.MethodName) jdk_42_method_152_code (1 : Nat) (Option.some Jvm.ClassFile.FieldType.byte), Jvm.Cond.code ({ cls := "java/lang/String", name := "charAt", desc := "(I)C" } : Jvm.MethodName) jdk_42_method_56_code (2 : Nat) (Option.some Jvm.ClassFile.FieldType.char), Jvm.Cond.code ({ cls := "java/lang/String", name := "isLatin1", desc := "()Z" } : Jvm.MethodName) jdk_42_method_154_code (1 : Nat) (Option.some Jvm.ClassFile.FieldType.boolean), Jvm.Cond.code ({ cls := "java/lang/StringLatin1", name := "charAt", desc := "([BI)C" } : Jvm.MethodName) jdk_43_method_2_code (2 : Nat) (Option.some Jvm.ClassFile.FieldType.char), Jvm.Cond.code ({ cls := "java/lang/String", name := "checkIndex", desc := "(II)V" } : Jvm.MethodName) jdk_42_method_155_code (2 : Nat) (Option.none : Option Jvm.ClassFile.FieldType), Jvm.Cond.code ({ cls := "jdk/internal/util/Preconditions", name := "checkIndex", desc := "(IILjava/util/function/BiFunction;)I" } : Jvm.MethodName) jdk_41_method_11_code (3 : Nat) (Option.some Jvm.ClassFile.FieldType.int), Jvm.Cond.code ({ cls := "com/example/lokit/lokit/password/PasswordAlphabet", name := "letterOrDigitClassOf", desc := "(I)Ljava/util/Optional;" } : Jvm.MethodName) prog_12_method_3_code (1 : Nat) (Option.some (Jvm.ClassFile.FieldType.object "java/util/Optional")), Jvm.Cond.code ({ cls := "java/util/Optional", name := "empty", desc := "()Ljava/util/Optional;" } : Jvm.MethodName) jdk_32_method_1_code (1 : Nat) (Option.some (Jvm.ClassFile.FieldType.object "java/util/Optional")), Jvm.Cond.code ({ cls := "java/util/Optional", name := "isPresent", desc := "()Z" } : Jvm.MethodName) jdk_32_method_6_code (1 : Nat) (Option.some Jvm.ClassFile.FieldType.boolean), Jvm.Cond.code ({ cls := "com/example/lokit/lokit/password/PasswordAlphabet", name := "classOf", desc := "(I)Ljava/util/Optional;" } : Jvm.MethodName) prog_12_method_2_code (3 : Nat) (Option.some (Jvm.ClassFile.FieldType.object "java/util/Optional")), Jvm.Cond.code ({ cls := "java/lang/String", name := "indexOf", desc := "(I)I" } : Jvm.MethodName) jdk_42_method_79_code (2 : Nat) (Option.some Jvm.ClassFile.FieldType.int), Jvm.Cond.code ({ cls := "java/lang/String", name := "indexOf", desc := "(II)I" } : Jvm.MethodName) jdk_42_method_80_code (3 : Nat) (Option.some Jvm.ClassFile.FieldType.int), Jvm.Cond.code ({ cls := "java/lang/StringLatin1", name := "indexOf", desc := "([BIII)I" } : Jvm.MethodName) jdk_43_method_22_code (4 : Nat) (Option.some Jvm.ClassFile.FieldType.int), Jvm.Cond.code ({ cls := "java/lang/StringLatin1", name := "canEncode", desc := "(I)Z" } : Jvm.MethodName) jdk_43_method_4_code (1 : Nat) (Option.some Jvm.ClassFile.FieldType.boolean), Jvm.Cond.code ({ cls := "java/lang/Math", name := "max", desc := "(II)I" } : Jvm.MethodName) jdk_29_method_65_code (2 : Nat) (Option.some Jvm.ClassFile.FieldType.int), Jvm.Cond.code ({ cls := "java/lang/Math", name := "min", desc := "(II)I" } : Jvm.MethodName) jdk_29_method_69_code (2 : Nat) (Option.some Jvm.ClassFile.FieldType.int), Jvm.Cond.code ({ cls := "java/lang/StringLatin1", name := "indexOfChar", desc := "([BIII)I" } : Jvm.MethodName) jdk_43_method_23_code (6 : Nat) (Option.some Jvm.ClassFile.FieldType.int), Jvm.Cond.code ({ cls := "java/util/Optional", name := "of", desc := "(Ljava/lang/Object;)Ljava/util/Optional;" } : Jvm.MethodName) jdk_32_method_3_code (1 : Nat) (Option.some (Jvm.ClassFile.FieldType.object "java/util/Optional")), Jvm.Cond.code ({ cls := "java/util/Objects", name := "requireNonNull", desc := "(Ljava/lang/Object;)Ljava/lang/Object;" } : Jvm.MethodName) jdk_31_method_10_code (1 : Nat) (Option.some (Jvm.ClassFile.FieldType.object "java/lang/Object")), Jvm.Cond.code ({ cls := "java/util/Optional", name := "<init>", desc := "(Ljava/lang/Object;)V" } : Jvm.MethodName) jdk_32_method_2_code (2 : Nat) (Option.none : Option Jvm.ClassFile.FieldType), Jvm.Cond.code ({ cls := "java/util/Optional", name := "get", desc := "()Ljava/lang/Object;" } : Jvm.MethodName) jdk_32_method_5_code (1 : Nat) (Option.some (Jvm.ClassFile.FieldType.object "java/lang/Object"))]
set_option maxRecDepth 65536 in
theorem codes_eq : words1.filter isCode = codes1 := rfl
theorem w_codes : ∀ c ∈ words1.filter isCode, c.before args0 about1 = true := by
  rw [codes_eq]
  intro c hc
  simp only [codes1, List.mem_cons, List.not_mem_nil, or_false] at hc
  rcases hc with rfl | rfl | rfl | rfl | rfl | rfl | rfl | rfl | rfl | rfl | rfl | rfl | rfl | rfl | rfl | rfl | rfl | rfl | rfl | rfl | rfl | rfl | rfl | rfl | rfl | rfl | rfl | rfl | rfl | rfl | rfl | rfl
  · exact w_c0
  · exact w_c1
  · exact w_c2
  · exact w_c3
  · exact w_c4
  · exact w_c5
  · exact w_c6
  · exact w_c7
  · exact w_c8
  · exact w_c9
  · exact w_c10
  · exact w_c11
  · exact w_c12
  · exact w_c13
  · exact w_c14
  · exact w_c15
  · exact w_c16
  · exact w_c17
  · exact w_c18
  · exact w_c19
  · exact w_c20
  · exact w_c21
  · exact w_c22
  · exact w_c23
  · exact w_c24
  · exact w_c25
  · exact w_c26
  · exact w_c27
  · exact w_c28
  · exact w_c29
  · exact w_c30
  · exact w_c31
set_option maxRecDepth 65536 in
theorem w_t1 : (words1.take 24).all (fun c => isCode c || c.before args0 about1) = true := by decide +kernel
set_option maxRecDepth 65536 in
theorem w_t2 : ((words1.drop 24).take 24).all (fun c => isCode c || c.before args0 about1) = true := by decide +kernel
set_option maxRecDepth 65536 in
theorem w_t3 : (((words1.drop 24).drop 24).take 24).all (fun c => isCode c || c.before args0 about1) = true := by decide +kernel
set_option maxRecDepth 65536 in
theorem w_t4 : ((((words1.drop 24).drop 24).drop 24).take 24).all (fun c => isCode c || c.before args0 about1) = true := by decide +kernel
set_option maxRecDepth 65536 in
theorem w_t5 : (((((words1.drop 24).drop 24).drop 24).drop 24).take 24).all (fun c => isCode c || c.before args0 about1) = true := by decide +kernel
set_option maxRecDepth 65536 in
theorem w_t6 : ((((((words1.drop 24).drop 24).drop 24).drop 24).drop 24).take 24).all (fun c => isCode c || c.before args0 about1) = true := by decide +kernel
set_option maxRecDepth 65536 in
theorem w_t7 : ((((((words1.drop 24).drop 24).drop 24).drop 24).drop 24).drop 24).all (fun c => isCode c || c.before args0 about1) = true := by decide +kernel
theorem w_tables : (allAtoms (Jvm.Cond.code x code maxLocals ret :: tables_1)).before args0 about1 = true := by
  rw [allAtoms_all]
  show words1.all (fun c => c.before args0 about1) = true
  refine all_split ?_ w_codes
  rw [← List.take_append_drop 24 words1, List.all_append, w_t1, ← List.take_append_drop 24 (words1.drop 24), List.all_append, w_t2, ← List.take_append_drop 24 ((words1.drop 24).drop 24), List.all_append, w_t3, ← List.take_append_drop 24 (((words1.drop 24).drop 24).drop 24), List.all_append, w_t4, ← List.take_append_drop 24 ((((words1.drop 24).drop 24).drop 24).drop 24), List.all_append, w_t5, ← List.take_append_drop 24 (((((words1.drop 24).drop 24).drop 24).drop 24).drop 24), List.all_append, w_t6, w_t7]
  rfl
set_option maxRecDepth 65536 in
theorem w_rest : rest_1_c.before args0 about1 = true := by decide +kernel
set_option maxRecDepth 65536 in
theorem w_case : (Jvm.Cond.and given_1 narrow_1).before args0 about1 = true := by decide +kernel
set_option maxRecDepth 65536 in
theorem w_consts : constsHeld consts_1 about1 := Jvm.Lit.constsHeldB_iff.mp (by decide +kernel)
theorem w_applies : (headSpec (Jvm.Cond.code x code maxLocals ret :: tables_1) room_1).applies x e0.platform about1 = true :=
  (Spec.applies_iff w_frames).mpr ⟨w_running, w_runnable, w_alone, w_named, w_hears, w_ripe, w_room, w_tables⟩
theorem atStart : AtStart classFile x code maxLocals ret World_1 tables_1 room_1 Calls_1 rest_1 Pre_1 launch0 p0 e0 about1 theMethod args0 below0 :=
  ⟨lists_1, trivial, launch0.admits_env _ _ _, launch0.least_env, fairChoices_fair.cas, fairChoices_fair.clock, w_frames, w_args, w_heap, w_applies, ⟨w_consts, trivial⟩, w_rest, w_case⟩
end start1
theorem witness_1 : WitnessClaimed_1 := ⟨start1.p0, start1.e0, start1.about1, start1.theMethod, start1.args0, start1.below0, start1.atStart⟩
end Jvm.Pilot.@@N@@
