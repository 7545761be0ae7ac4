import JvmDerived
import JvmDerived.Pilot.@@N@@Statement
import JvmDerived.Pilot.@@N@@Code
set_option linter.unusedVariables false
set_option linter.unusedSimpArgs false
namespace Jvm.Pilot.@@N@@
open Jvm Jvm.ClassFile Sem Op Lib Jvm.Free Jvm.Stand Jvm.LawKit Jvm.RoadKit Bundle Jvm.Pilot.@@N@@.Jvm.D

section Layer
variable {p : Program} {l : Launch} {e : Env} {R : Room} {s : State} {m : MethodId} {args : Array Value} {below : List Frame} {meth : Method} {c : Code} {bytes : ByteArray} {mxl : Nat} {rt : Option FieldType} {Z : State} {a0 : Array Value} {EL : List (String × Nat)} {own : String} {n0 : Nat} {h0 : Heap} {ws : List Addr} {S0 : State} {V : Vm} {h : Heap} {cells slots pc pc' : Nat} {L : Array Slot} {st : List Value}
/-- where a walk stands: V the tables on which it is based, h its heap, g its frame -/
def Wk (p : Program) (l : Launch) (e : Env) (R : Room) (s : State) (m : MethodId) (args : Array Value) (below : List Frame) (meth : Method) (c : Code) (bytes : ByteArray) (mxl : Nat) (rt : Option FieldType) (Z : State) (a0 : Array Value) (EL : List (String × Nat)) (own : String) (n0 : Nat) (h0 : Heap) (ws : List Addr) (S0 : State) (V : Vm) (h : Heap) (cells slots : Nat) (g : JFrame) : Prop :=
  (p.tables.exec = Jvm.exec ∧ c.code = bytes ∧ c.maxLocals = mxl ∧ meth.sig.returnType = rt ∧ meth.locks = false ∧ EW Z a0 EL ∧ (∀ x ∈ ws, n0 ≤ x) ∧ n0 ≤ h0.size ∧ s.heap = h0 ∧ Old Z n0 h0) ∧
  (Z.Warmed39 V ∧ V.findClass own = some m.cls ∧ (∃ k, s.Since V k ∧ k ≤ h.size) ∧ Old Z n0 h ∧ CHr Z EL s.vm h0 V h ∧ Keep h0 h ws) ∧
  ∃ (T : State) (locs : List Loc), Stand p l e R (s.setVm V) m args below meth c T locs cells slots ∧ T.heap = h ∧ Fr n0 locs ∧ ∀ t, Steps p.tables e below (T.setTop g) t → Steps p.tables e below S0 t
theorem Wk.plain {g g' : JFrame} (W : Wk p l e R s m args below meth c bytes mxl rt Z a0 EL own n0 h0 ws S0 V h cells slots g) (f : ∀ (T : State), At T m c below → p.tables.exec = Jvm.exec → c.code = bytes → ∀ t, Steps p.tables e below (T.setTop g') t → Steps p.tables e below (T.setTop g) t) : Wk p l e R s m args below meth c bytes mxl rt Z a0 EL own n0 h0 ws S0 V h cells slots g' := by
  obtain ⟨a, b, T, locs, X, eT, N, k⟩ := W
  exact ⟨a, b, T, locs, X, eT, N, fun t q => k t (f T X.here a.1 a.2.1 t q)⟩
/-- a step that reads the tables and leaves the heap -/
theorem Wk.reads {g g' : JFrame} (W : Wk p l e R s m args below meth c bytes mxl rt Z a0 EL own n0 h0 ws S0 V h cells slots g) (f : ∀ (T : State) (locs : List Loc), Stand p l e R (s.setVm V) m args below meth c T locs cells slots → T.heap = h → p.tables.exec = Jvm.exec → c.code = bytes → Z.Warmed39 (s.setVm V).vm → (s.setVm V).vm.findClass own = some m.cls → ∃ T', Stand p l e R (s.setVm V) m args below meth c T' locs cells slots ∧ T'.heap = h ∧ ∀ t, Steps p.tables e below (T'.setTop g') t → Steps p.tables e below (T.setTop g) t) : Wk p l e R s m args below meth c bytes mxl rt Z a0 EL own n0 h0 ws S0 V h cells slots g' := by
  obtain ⟨a, b, T, locs, X, eT, N, k⟩ := W
  obtain ⟨T', X', eT', q⟩ := f T locs X eT a.1 a.2.1 b.1 b.2.1
  exact ⟨a, b, T', locs, X', eT', N, fun t z => k t (q t z)⟩
theorem Wk.cast {st' : List Value} (W : Wk p l e R s m args below meth c bytes mxl rt Z a0 EL own n0 h0 ws S0 V h cells slots (mkF m pc L st)) (q : st = st') : Wk p l e R s m args below meth c bytes mxl rt Z a0 EL own n0 h0 ws S0 V h cells slots (mkF m pc L st') := by subst q; exact W
theorem Wk.castL {L' : Array Slot} (W : Wk p l e R s m args below meth c bytes mxl rt Z a0 EL own n0 h0 ws S0 V h cells slots (mkF m pc L st)) (q : L = L') : Wk p l e R s m args below meth c bytes mxl rt Z a0 EL own n0 h0 ws S0 V h cells slots (mkF m pc L' st) := by subst q; exact W
theorem Wk.more {g : JFrame} {cells' slots' : Nat} (W : Wk p l e R s m args below meth c bytes mxl rt Z a0 EL own n0 h0 ws S0 V h cells slots g) (hc : cells ≤ cells') (hs : slots ≤ slots') : Wk p l e R s m args below meth c bytes mxl rt Z a0 EL own n0 h0 ws S0 V h cells' slots' g := by
  obtain ⟨a, b, T, locs, X, eT, N, k⟩ := W
  exact ⟨a, b, T, locs, X.mono hc hs, eT, N, k⟩
theorem Wk.alike {g : JFrame} (W : Wk p l e R s m args below meth c bytes mxl rt Z a0 EL own n0 h0 ws S0 V h cells slots g) : Z.vm.Alike V := W.2.1.1.alike
theorem Wk.old {g : JFrame} (W : Wk p l e R s m args below meth c bytes mxl rt Z a0 EL own n0 h0 ws S0 V h cells slots g) : Old Z n0 h := W.2.1.2.2.2.1
theorem Wk.n0le {g : JFrame} (W : Wk p l e R s m args below meth c bytes mxl rt Z a0 EL own n0 h0 ws S0 V h cells slots g) : n0 ≤ h.size := by have q := W.old; rw [← q.1]; exact q.2.1
theorem Wk.kept {g : JFrame} (W : Wk p l e R s m args below meth c bytes mxl rt Z a0 EL own n0 h0 ws S0 V h cells slots g) : Keep h0 h ws := W.2.1.2.2.2.2.2
theorem Wk.chv {g : JFrame} (W : Wk p l e R s m args below meth c bytes mxl rt Z a0 EL own n0 h0 ws S0 V h cells slots g) : CHv Z EL V h := W.2.1.2.2.2.2.1.1
theorem Wk.el {g : JFrame} (W : Wk p l e R s m args below meth c bytes mxl rt Z a0 EL own n0 h0 ws S0 V h cells slots g) : EW Z a0 EL := W.1.2.2.2.2.2.1
theorem Wk.sta {g : JFrame} (W : Wk p l e R s m args below meth c bytes mxl rt Z a0 EL own n0 h0 ws S0 V h cells slots g) {C n d : String} {v : Value} (S : Sta Z Z.heap C n d v) : Sta Z h C n d v := S.ext W.old.2
/-- an object of a class that no constant is of -/
theorem Wk.safeE {g : JFrame} (W : Wk p l e R s m args below meth c bytes mxl rt Z a0 EL own n0 h0 ws S0 V h cells slots g) {a : Addr} {C : String} (E : Exa Z h a C) (h1 : C ≠ "java/lang/String") (h2 : C ≠ "[B") : Safe Z EL V h a := Safe.exa W.alike E h1 h2
theorem Wk.safeA {g : JFrame} (W : Wk p l e R s m args below meth c bytes mxl rt Z a0 EL own n0 h0 ws S0 V h cells slots g) {a : Addr} {k : ClassId} {ty : FieldType} {z : Int32} {vs : List Value} {dv : Value} (A : Arv Z h a k ty z vs dv) (ht : ty ≠ .byte) : Safe Z EL V h a := Safe.arv W.alike A ht
/-- a write has been made at a -/
theorem Wk.wrote {g g' : JFrame} {h' : Heap} {a : Addr} {sl : Nat} {v : Value} {cells' slots' : Nat} (W : Wk p l e R s m args below meth c bytes mxl rt Z a0 EL own n0 h0 ws S0 V h cells slots g) (sf : Safe Z EL V h a) (q : a ∈ ws ∨ h0.size ≤ a) (f : ∀ (T : State) (locs : List Loc), Stand p l e R (s.setVm V) m args below meth c T locs cells slots → T.heap = h → p.tables.exec = Jvm.exec → c.code = bytes → Z.Warmed39 (s.setVm V).vm → (s.setVm V).vm.findClass own = some m.cls → ∃ T' h', Stand p l e R (s.setVm V) m args below meth c T' (locs ++ [⟨a, sl⟩]) cells slots ∧ T'.heap = h' ∧ Wr h h' a sl v ∧ ∀ t, Steps p.tables e below (T'.setTop g') t → Steps p.tables e below (T.setTop g) t) :
    ∃ h', Wk p l e R s m args below meth c bytes mxl rt Z a0 EL own n0 h0 ws S0 V h' cells slots g' ∧ Wr h h' a sl v ∧ ∀ x, Safe Z EL V h x → Safe Z EL V h' x := by
  obtain ⟨a1, b, T, locs, X, eT, N, k⟩ := W
  obtain ⟨T', h', X', eT', w, st⟩ := f T locs X eT a1.1 a1.2.1 b.1 b.2.1
  have hge : n0 ≤ a := q.elim (fun z => a1.2.2.2.2.2.2.1 a z) (fun z => Nat.le_trans a1.2.2.2.2.2.2.2.1 z)
  obtain ⟨k0, hS, hk⟩ := b.2.2.1
  have hsz : h.size ≤ h'.size := Nat.le_of_eq w.size.symm
  refine ⟨h', ⟨a1, ⟨b.1, b.2.1, ⟨k0, hS, Nat.le_trans hk hsz⟩, b.2.2.2.1.wr w hge, b.2.2.2.2.1.trans (CHr.wr w sf b.2.2.2.2.1.1), b.2.2.2.2.2.wr w q⟩, T', _, X', eT', Fr.snoc X' N hge, fun t z => k t (st t z)⟩, w, fun x sx => Safe.wr w sf b.2.2.2.2.1.1 sx⟩
/-- something has been made at the heap's end -/
theorem Wk.grew {g : JFrame} {G : Addr → JFrame} {cells' slots' : Nat} {Q : Heap → Prop} (W : Wk p l e R s m args below meth c bytes mxl rt Z a0 EL own n0 h0 ws S0 V h cells slots g) (f : ∀ (T : State) (locs : List Loc), Stand p l e R (s.setVm V) m args below meth c T locs cells slots → T.heap = h → p.tables.exec = Jvm.exec → c.code = bytes → Z.Warmed39 (s.setVm V).vm → (s.setVm V).vm.findClass own = some m.cls → ∃ T' h', Stand p l e R (s.setVm V) m args below meth c T' locs cells' slots' ∧ T'.heap = h' ∧ Ext h h' ∧ Q h' ∧ ∀ t, Steps p.tables e below (T'.setTop (G h.size)) t → Steps p.tables e below (T.setTop g) t) :
    ∃ h' a, Wk p l e R s m args below meth c bytes mxl rt Z a0 EL own n0 h0 ws S0 V h' cells' slots' (G a) ∧ Ext h h' ∧ a = h.size ∧ Q h' ∧ Safe Z EL V h' a ∧ ∀ x, Safe Z EL V h x → Safe Z EL V h' x := by
  obtain ⟨a1, b, T, locs, X, eT, N, k⟩ := W
  obtain ⟨T', h', X', eT', E, q, st⟩ := f T locs X eT a1.1 a1.2.1 b.1 b.2.1
  obtain ⟨k0, hS, hk⟩ := b.2.2.1
  have H := b.2.2.2.2.1.1
  exact ⟨h', h.size, ⟨a1, ⟨b.1, b.2.1, ⟨k0, hS, Nat.le_trans hk E.1⟩, b.2.2.2.1.ext E, b.2.2.2.2.1.trans (CHr.ext E H), b.2.2.2.2.2.ext E⟩, T', _, X', eT', N, fun t z => k t (st t z)⟩, E, rfl, q, Safe.ext E H (Safe.new (Nat.le_refl _)), fun x sx => Safe.ext E H sx⟩

theorem Wk.aloadN {k : Fin 4} {v : Value} (W : Wk p l e R s m args below meth c bytes mxl rt Z a0 EL own n0 h0 ws S0 V h cells slots (mkF m pc L st)) (hd : decode bytes pc = .ok (.aload_n k, 1)) (hl : L[k.val]? = some (.val v)) (hv : v.isRef = true) (hp : pc + 1 = pc') : Wk p l e R s m args below meth c bytes mxl rt Z a0 EL own n0 h0 ws S0 V h cells slots (mkF m pc' L (v :: st)) := by
  subst hp
  exact W.plain fun T hq hx hby t k => XS.aloadN hq hx rfl (hb hby hd) hl hv k
theorem Wk.aload {k : Nat} {v : Value} (W : Wk p l e R s m args below meth c bytes mxl rt Z a0 EL own n0 h0 ws S0 V h cells slots (mkF m pc L st)) (hd : decode bytes pc = .ok (.aload k, 2)) (hl : L[k]? = some (.val v)) (hv : v.isRef = true) (hp : pc + 2 = pc') : Wk p l e R s m args below meth c bytes mxl rt Z a0 EL own n0 h0 ws S0 V h cells slots (mkF m pc' L (v :: st)) := by
  subst hp
  exact W.plain fun T hq hx hby t k => XS.aload hq hx rfl (hb hby hd) hl hv k
theorem Wk.iloadN {k : Fin 4} {v : Int32} (W : Wk p l e R s m args below meth c bytes mxl rt Z a0 EL own n0 h0 ws S0 V h cells slots (mkF m pc L st)) (hd : decode bytes pc = .ok (.iload_n k, 1)) (hl : L[k.val]? = some (.val (.int v))) (hp : pc + 1 = pc') : Wk p l e R s m args below meth c bytes mxl rt Z a0 EL own n0 h0 ws S0 V h cells slots (mkF m pc' L (.int v :: st)) := by
  subst hp
  exact W.plain fun T hq hx hby t k => XS.iloadN hq hx rfl (hb hby hd) hl k
theorem Wk.iload {k : Nat} {v : Int32} (W : Wk p l e R s m args below meth c bytes mxl rt Z a0 EL own n0 h0 ws S0 V h cells slots (mkF m pc L st)) (hd : decode bytes pc = .ok (.iload k, 2)) (hl : L[k]? = some (.val (.int v))) (hp : pc + 2 = pc') : Wk p l e R s m args below meth c bytes mxl rt Z a0 EL own n0 h0 ws S0 V h cells slots (mkF m pc' L (.int v :: st)) := by
  subst hp
  exact W.plain fun T hq hx hby t k => XS.iload hq hx rfl (hb hby hd) hl k
theorem Wk.lloadN {k : Fin 4} {v : Int64} (W : Wk p l e R s m args below meth c bytes mxl rt Z a0 EL own n0 h0 ws S0 V h cells slots (mkF m pc L st)) (hd : decode bytes pc = .ok (.lload_n k, 1)) (hl : L[k.val]? = some (.val (.long v))) (hp : pc + 1 = pc') : Wk p l e R s m args below meth c bytes mxl rt Z a0 EL own n0 h0 ws S0 V h cells slots (mkF m pc' L (.long v :: st)) := by
  subst hp
  exact W.plain fun T hq hx hby t k => Jvm.Free.XT.lloadN hq hx rfl (hb hby hd) hl k
theorem Wk.lload {k : Nat} {v : Int64} (W : Wk p l e R s m args below meth c bytes mxl rt Z a0 EL own n0 h0 ws S0 V h cells slots (mkF m pc L st)) (hd : decode bytes pc = .ok (.lload k, 2)) (hl : L[k]? = some (.val (.long v))) (hp : pc + 2 = pc') : Wk p l e R s m args below meth c bytes mxl rt Z a0 EL own n0 h0 ws S0 V h cells slots (mkF m pc' L (.long v :: st)) := by
  subst hp
  exact W.plain fun T hq hx hby t k => Jvm.Free.XT.lload hq hx rfl (hb hby hd) hl k
theorem Wk.iconst {i : Int} {v : Int32} (W : Wk p l e R s m args below meth c bytes mxl rt Z a0 EL own n0 h0 ws S0 V h cells slots (mkF m pc L st)) (hd : decode bytes pc = .ok (.iconst i, 1)) (hv : Int32.ofInt i = v) (hp : pc + 1 = pc') : Wk p l e R s m args below meth c bytes mxl rt Z a0 EL own n0 h0 ws S0 V h cells slots (mkF m pc' L (.int v :: st)) := by
  subst hv hp
  exact W.plain fun T hq hx hby t k => XS.iconst hq hx rfl (hb hby hd)  k
theorem Wk.bipush {i : Int} {v : Int32} (W : Wk p l e R s m args below meth c bytes mxl rt Z a0 EL own n0 h0 ws S0 V h cells slots (mkF m pc L st)) (hd : decode bytes pc = .ok (.bipush i, 2)) (hv : (Int8.ofInt i).toInt32 = v) (hp : pc + 2 = pc') : Wk p l e R s m args below meth c bytes mxl rt Z a0 EL own n0 h0 ws S0 V h cells slots (mkF m pc' L (.int v :: st)) := by
  subst hv hp
  exact W.plain fun T hq hx hby t k => XS.bipush hq hx rfl (hb hby hd)  k
theorem Wk.sipush {i : Int} {v : Int32} (W : Wk p l e R s m args below meth c bytes mxl rt Z a0 EL own n0 h0 ws S0 V h cells slots (mkF m pc L st)) (hd : decode bytes pc = .ok (.sipush i, 3)) (hv : (Int16.ofInt i).toInt32 = v) (hp : pc + 3 = pc') : Wk p l e R s m args below meth c bytes mxl rt Z a0 EL own n0 h0 ws S0 V h cells slots (mkF m pc' L (.int v :: st)) := by
  subst hv hp
  exact W.plain fun T hq hx hby t k => XS.sipush hq hx rfl (hb hby hd)  k
theorem Wk.lconst {k : Fin 2} {v : Int64} (W : Wk p l e R s m args below meth c bytes mxl rt Z a0 EL own n0 h0 ws S0 V h cells slots (mkF m pc L st)) (hd : decode bytes pc = .ok (.lconst k, 1)) (hv : Int64.ofNat k = v) (hp : pc + 1 = pc') : Wk p l e R s m args below meth c bytes mxl rt Z a0 EL own n0 h0 ws S0 V h cells slots (mkF m pc' L (.long v :: st)) := by
  subst hv hp
  exact W.plain fun T hq hx hby t k => Jvm.Free.XT.lconst hq hx rfl (hb hby hd)  k
theorem Wk.aconstNull  (W : Wk p l e R s m args below meth c bytes mxl rt Z a0 EL own n0 h0 ws S0 V h cells slots (mkF m pc L st)) (hd : decode bytes pc = .ok (.aconst_null, 1))  (hp : pc + 1 = pc') : Wk p l e R s m args below meth c bytes mxl rt Z a0 EL own n0 h0 ws S0 V h cells slots (mkF m pc' L (.null :: st)) := by
  subst hp
  exact W.plain fun T hq hx hby t k => XS.aconstNull hq hx rfl (hb hby hd)  k
theorem Wk.iadd {x y v : Int32} (W : Wk p l e R s m args below meth c bytes mxl rt Z a0 EL own n0 h0 ws S0 V h cells slots (mkF m pc L (.int y :: .int x :: st))) (hd : decode bytes pc = .ok (.iadd, 1)) (hv : x + y = v) (hp : pc + 1 = pc') : Wk p l e R s m args below meth c bytes mxl rt Z a0 EL own n0 h0 ws S0 V h cells slots (mkF m pc' L (.int v :: st)) := by
  subst hv hp
  exact W.plain fun T hq hx hby t k => XS.iadd hq hx rfl (hb hby hd) rfl k
theorem Wk.isub {x y v : Int32} (W : Wk p l e R s m args below meth c bytes mxl rt Z a0 EL own n0 h0 ws S0 V h cells slots (mkF m pc L (.int y :: .int x :: st))) (hd : decode bytes pc = .ok (.isub, 1)) (hv : x - y = v) (hp : pc + 1 = pc') : Wk p l e R s m args below meth c bytes mxl rt Z a0 EL own n0 h0 ws S0 V h cells slots (mkF m pc' L (.int v :: st)) := by
  subst hv hp
  exact W.plain fun T hq hx hby t k => XS.isub hq hx rfl (hb hby hd) rfl k
theorem Wk.imul {x y v : Int32} (W : Wk p l e R s m args below meth c bytes mxl rt Z a0 EL own n0 h0 ws S0 V h cells slots (mkF m pc L (.int y :: .int x :: st))) (hd : decode bytes pc = .ok (.imul, 1)) (hv : x * y = v) (hp : pc + 1 = pc') : Wk p l e R s m args below meth c bytes mxl rt Z a0 EL own n0 h0 ws S0 V h cells slots (mkF m pc' L (.int v :: st)) := by
  subst hv hp
  exact W.plain fun T hq hx hby t k => XS.imul hq hx rfl (hb hby hd) rfl k
theorem Wk.iand {x y v : Int32} (W : Wk p l e R s m args below meth c bytes mxl rt Z a0 EL own n0 h0 ws S0 V h cells slots (mkF m pc L (.int y :: .int x :: st))) (hd : decode bytes pc = .ok (.iand, 1)) (hv : x &&& y = v) (hp : pc + 1 = pc') : Wk p l e R s m args below meth c bytes mxl rt Z a0 EL own n0 h0 ws S0 V h cells slots (mkF m pc' L (.int v :: st)) := by
  subst hv hp
  exact W.plain fun T hq hx hby t k => XS.iand hq hx rfl (hb hby hd) rfl k
theorem Wk.ior {x y v : Int32} (W : Wk p l e R s m args below meth c bytes mxl rt Z a0 EL own n0 h0 ws S0 V h cells slots (mkF m pc L (.int y :: .int x :: st))) (hd : decode bytes pc = .ok (.ior, 1)) (hv : x ||| y = v) (hp : pc + 1 = pc') : Wk p l e R s m args below meth c bytes mxl rt Z a0 EL own n0 h0 ws S0 V h cells slots (mkF m pc' L (.int v :: st)) := by
  subst hv hp
  exact W.plain fun T hq hx hby t k => Jvm.Free.XT.ior hq hx rfl (hb hby hd) rfl k
theorem Wk.ixor {x y v : Int32} (W : Wk p l e R s m args below meth c bytes mxl rt Z a0 EL own n0 h0 ws S0 V h cells slots (mkF m pc L (.int y :: .int x :: st))) (hd : decode bytes pc = .ok (.ixor, 1)) (hv : x ^^^ y = v) (hp : pc + 1 = pc') : Wk p l e R s m args below meth c bytes mxl rt Z a0 EL own n0 h0 ws S0 V h cells slots (mkF m pc' L (.int v :: st)) := by
  subst hv hp
  exact W.plain fun T hq hx hby t k => Jvm.Free.XT.ixor hq hx rfl (hb hby hd) rfl k
theorem Wk.ishl {x y v : Int32} (W : Wk p l e R s m args below meth c bytes mxl rt Z a0 EL own n0 h0 ws S0 V h cells slots (mkF m pc L (.int y :: .int x :: st))) (hd : decode bytes pc = .ok (.ishl, 1)) (hv : x <<< (y &&& 31) = v) (hp : pc + 1 = pc') : Wk p l e R s m args below meth c bytes mxl rt Z a0 EL own n0 h0 ws S0 V h cells slots (mkF m pc' L (.int v :: st)) := by
  subst hv hp
  exact W.plain fun T hq hx hby t k => Jvm.Free.XT.ishl hq hx rfl (hb hby hd) rfl k
theorem Wk.ishr {x y v : Int32} (W : Wk p l e R s m args below meth c bytes mxl rt Z a0 EL own n0 h0 ws S0 V h cells slots (mkF m pc L (.int y :: .int x :: st))) (hd : decode bytes pc = .ok (.ishr, 1)) (hv : x >>> (y &&& 31) = v) (hp : pc + 1 = pc') : Wk p l e R s m args below meth c bytes mxl rt Z a0 EL own n0 h0 ws S0 V h cells slots (mkF m pc' L (.int v :: st)) := by
  subst hv hp
  exact W.plain fun T hq hx hby t k => Jvm.Free.XT.ishr hq hx rfl (hb hby hd) rfl k
theorem Wk.iushr {x y v : Int32} (W : Wk p l e R s m args below meth c bytes mxl rt Z a0 EL own n0 h0 ws S0 V h cells slots (mkF m pc L (.int y :: .int x :: st))) (hd : decode bytes pc = .ok (.iushr, 1)) (hv : Jvm.Free.XT.ushr x y = v) (hp : pc + 1 = pc') : Wk p l e R s m args below meth c bytes mxl rt Z a0 EL own n0 h0 ws S0 V h cells slots (mkF m pc' L (.int v :: st)) := by
  subst hv hp
  exact W.plain fun T hq hx hby t k => Jvm.Free.XT.iushr hq hx rfl (hb hby hd) rfl k
theorem Wk.idiv {x y v : Int32} (W : Wk p l e R s m args below meth c bytes mxl rt Z a0 EL own n0 h0 ws S0 V h cells slots (mkF m pc L (.int y :: .int x :: st))) (hd : decode bytes pc = .ok (.idiv, 1)) (hy : y ≠ 0) (hv : x / y = v) (hp : pc + 1 = pc') : Wk p l e R s m args below meth c bytes mxl rt Z a0 EL own n0 h0 ws S0 V h cells slots (mkF m pc' L (.int v :: st)) := by
  subst hv hp
  exact W.plain fun T hq hx hby t k => XS.idiv hq hx rfl (hb hby hd) rfl hy k
theorem Wk.irem {x y v : Int32} (W : Wk p l e R s m args below meth c bytes mxl rt Z a0 EL own n0 h0 ws S0 V h cells slots (mkF m pc L (.int y :: .int x :: st))) (hd : decode bytes pc = .ok (.irem, 1)) (hy : y ≠ 0) (hv : x - (x / y) * y = v) (hp : pc + 1 = pc') : Wk p l e R s m args below meth c bytes mxl rt Z a0 EL own n0 h0 ws S0 V h cells slots (mkF m pc' L (.int v :: st)) := by
  subst hv hp
  exact W.plain fun T hq hx hby t k => XS.irem hq hx rfl (hb hby hd) rfl hy k
theorem Wk.ineg {x v : Int32} (W : Wk p l e R s m args below meth c bytes mxl rt Z a0 EL own n0 h0 ws S0 V h cells slots (mkF m pc L (.int x :: st))) (hd : decode bytes pc = .ok (.ineg, 1)) (hv : -x = v) (hp : pc + 1 = pc') : Wk p l e R s m args below meth c bytes mxl rt Z a0 EL own n0 h0 ws S0 V h cells slots (mkF m pc' L (.int v :: st)) := by
  subst hv hp
  exact W.plain fun T hq hx hby t k => XS.ineg hq hx rfl (hb hby hd) rfl k
theorem Wk.i2b {x v : Int32} (W : Wk p l e R s m args below meth c bytes mxl rt Z a0 EL own n0 h0 ws S0 V h cells slots (mkF m pc L (.int x :: st))) (hd : decode bytes pc = .ok (.i2b, 1)) (hv : x.toInt8.toInt32 = v) (hp : pc + 1 = pc') : Wk p l e R s m args below meth c bytes mxl rt Z a0 EL own n0 h0 ws S0 V h cells slots (mkF m pc' L (.int v :: st)) := by
  subst hv hp
  exact W.plain fun T hq hx hby t k => Jvm.Free.XT.i2b hq hx rfl (hb hby hd) rfl k
theorem Wk.i2c {x v : Int32} (W : Wk p l e R s m args below meth c bytes mxl rt Z a0 EL own n0 h0 ws S0 V h cells slots (mkF m pc L (.int x :: st))) (hd : decode bytes pc = .ok (.i2c, 1)) (hv : x.toUInt32.toUInt16.toUInt32.toInt32 = v) (hp : pc + 1 = pc') : Wk p l e R s m args below meth c bytes mxl rt Z a0 EL own n0 h0 ws S0 V h cells slots (mkF m pc' L (.int v :: st)) := by
  subst hv hp
  exact W.plain fun T hq hx hby t k => Jvm.Free.XT.i2c hq hx rfl (hb hby hd) rfl k
theorem Wk.i2s {x v : Int32} (W : Wk p l e R s m args below meth c bytes mxl rt Z a0 EL own n0 h0 ws S0 V h cells slots (mkF m pc L (.int x :: st))) (hd : decode bytes pc = .ok (.i2s, 1)) (hv : x.toInt16.toInt32 = v) (hp : pc + 1 = pc') : Wk p l e R s m args below meth c bytes mxl rt Z a0 EL own n0 h0 ws S0 V h cells slots (mkF m pc' L (.int v :: st)) := by
  subst hv hp
  exact W.plain fun T hq hx hby t k => Jvm.Free.XT.i2s hq hx rfl (hb hby hd) rfl k
theorem Wk.ladd {x y v : Int64} (W : Wk p l e R s m args below meth c bytes mxl rt Z a0 EL own n0 h0 ws S0 V h cells slots (mkF m pc L (.long y :: .long x :: st))) (hd : decode bytes pc = .ok (.ladd, 1)) (hv : x + y = v) (hp : pc + 1 = pc') : Wk p l e R s m args below meth c bytes mxl rt Z a0 EL own n0 h0 ws S0 V h cells slots (mkF m pc' L (.long v :: st)) := by
  subst hv hp
  exact W.plain fun T hq hx hby t k => Jvm.Free.XT.ladd hq hx rfl (hb hby hd) rfl k
theorem Wk.lsub {x y v : Int64} (W : Wk p l e R s m args below meth c bytes mxl rt Z a0 EL own n0 h0 ws S0 V h cells slots (mkF m pc L (.long y :: .long x :: st))) (hd : decode bytes pc = .ok (.lsub, 1)) (hv : x - y = v) (hp : pc + 1 = pc') : Wk p l e R s m args below meth c bytes mxl rt Z a0 EL own n0 h0 ws S0 V h cells slots (mkF m pc' L (.long v :: st)) := by
  subst hv hp
  exact W.plain fun T hq hx hby t k => Jvm.Free.XT.lsub hq hx rfl (hb hby hd) rfl k
theorem Wk.lmul {x y v : Int64} (W : Wk p l e R s m args below meth c bytes mxl rt Z a0 EL own n0 h0 ws S0 V h cells slots (mkF m pc L (.long y :: .long x :: st))) (hd : decode bytes pc = .ok (.lmul, 1)) (hv : x * y = v) (hp : pc + 1 = pc') : Wk p l e R s m args below meth c bytes mxl rt Z a0 EL own n0 h0 ws S0 V h cells slots (mkF m pc' L (.long v :: st)) := by
  subst hv hp
  exact W.plain fun T hq hx hby t k => Jvm.Free.XT.lmul hq hx rfl (hb hby hd) rfl k
theorem Wk.land {x y v : Int64} (W : Wk p l e R s m args below meth c bytes mxl rt Z a0 EL own n0 h0 ws S0 V h cells slots (mkF m pc L (.long y :: .long x :: st))) (hd : decode bytes pc = .ok (.land, 1)) (hv : x &&& y = v) (hp : pc + 1 = pc') : Wk p l e R s m args below meth c bytes mxl rt Z a0 EL own n0 h0 ws S0 V h cells slots (mkF m pc' L (.long v :: st)) := by
  subst hv hp
  exact W.plain fun T hq hx hby t k => Jvm.Free.XT.land hq hx rfl (hb hby hd) rfl k
theorem Wk.lor {x y v : Int64} (W : Wk p l e R s m args below meth c bytes mxl rt Z a0 EL own n0 h0 ws S0 V h cells slots (mkF m pc L (.long y :: .long x :: st))) (hd : decode bytes pc = .ok (.lor, 1)) (hv : x ||| y = v) (hp : pc + 1 = pc') : Wk p l e R s m args below meth c bytes mxl rt Z a0 EL own n0 h0 ws S0 V h cells slots (mkF m pc' L (.long v :: st)) := by
  subst hv hp
  exact W.plain fun T hq hx hby t k => Jvm.Free.XT.lor hq hx rfl (hb hby hd) rfl k
theorem Wk.lxor {x y v : Int64} (W : Wk p l e R s m args below meth c bytes mxl rt Z a0 EL own n0 h0 ws S0 V h cells slots (mkF m pc L (.long y :: .long x :: st))) (hd : decode bytes pc = .ok (.lxor, 1)) (hv : x ^^^ y = v) (hp : pc + 1 = pc') : Wk p l e R s m args below meth c bytes mxl rt Z a0 EL own n0 h0 ws S0 V h cells slots (mkF m pc' L (.long v :: st)) := by
  subst hv hp
  exact W.plain fun T hq hx hby t k => Jvm.Free.XT.lxor hq hx rfl (hb hby hd) rfl k
theorem Wk.ldiv {x y v : Int64} (W : Wk p l e R s m args below meth c bytes mxl rt Z a0 EL own n0 h0 ws S0 V h cells slots (mkF m pc L (.long y :: .long x :: st))) (hd : decode bytes pc = .ok (.ldiv, 1)) (hy : y ≠ 0) (hv : x / y = v) (hp : pc + 1 = pc') : Wk p l e R s m args below meth c bytes mxl rt Z a0 EL own n0 h0 ws S0 V h cells slots (mkF m pc' L (.long v :: st)) := by
  subst hv hp
  exact W.plain fun T hq hx hby t k => Jvm.Free.XT.ldiv hq hx rfl (hb hby hd) rfl hy k
theorem Wk.lrem {x y v : Int64} (W : Wk p l e R s m args below meth c bytes mxl rt Z a0 EL own n0 h0 ws S0 V h cells slots (mkF m pc L (.long y :: .long x :: st))) (hd : decode bytes pc = .ok (.lrem, 1)) (hy : y ≠ 0) (hv : x - (x / y) * y = v) (hp : pc + 1 = pc') : Wk p l e R s m args below meth c bytes mxl rt Z a0 EL own n0 h0 ws S0 V h cells slots (mkF m pc' L (.long v :: st)) := by
  subst hv hp
  exact W.plain fun T hq hx hby t k => Jvm.Free.XT.lrem hq hx rfl (hb hby hd) rfl hy k
theorem Wk.lshl {x v : Int64} {y : Int32} (W : Wk p l e R s m args below meth c bytes mxl rt Z a0 EL own n0 h0 ws S0 V h cells slots (mkF m pc L (.int y :: .long x :: st))) (hd : decode bytes pc = .ok (.lshl, 1)) (hv : x <<< (y.toInt64 &&& 63) = v) (hp : pc + 1 = pc') : Wk p l e R s m args below meth c bytes mxl rt Z a0 EL own n0 h0 ws S0 V h cells slots (mkF m pc' L (.long v :: st)) := by
  subst hv hp
  exact W.plain fun T hq hx hby t k => Jvm.Free.XT.lshl hq hx rfl (hb hby hd) rfl k
theorem Wk.lshr {x v : Int64} {y : Int32} (W : Wk p l e R s m args below meth c bytes mxl rt Z a0 EL own n0 h0 ws S0 V h cells slots (mkF m pc L (.int y :: .long x :: st))) (hd : decode bytes pc = .ok (.lshr, 1)) (hv : x >>> (y.toInt64 &&& 63) = v) (hp : pc + 1 = pc') : Wk p l e R s m args below meth c bytes mxl rt Z a0 EL own n0 h0 ws S0 V h cells slots (mkF m pc' L (.long v :: st)) := by
  subst hv hp
  exact W.plain fun T hq hx hby t k => Jvm.Free.XT.lshr hq hx rfl (hb hby hd) rfl k
theorem Wk.lushr {x v : Int64} {y : Int32} (W : Wk p l e R s m args below meth c bytes mxl rt Z a0 EL own n0 h0 ws S0 V h cells slots (mkF m pc L (.int y :: .long x :: st))) (hd : decode bytes pc = .ok (.lushr, 1)) (hv : Jvm.Free.XT.ushrL x y = v) (hp : pc + 1 = pc') : Wk p l e R s m args below meth c bytes mxl rt Z a0 EL own n0 h0 ws S0 V h cells slots (mkF m pc' L (.long v :: st)) := by
  subst hv hp
  exact W.plain fun T hq hx hby t k => Jvm.Free.XT.lushr hq hx rfl (hb hby hd) rfl k
theorem Wk.lneg {x v : Int64} (W : Wk p l e R s m args below meth c bytes mxl rt Z a0 EL own n0 h0 ws S0 V h cells slots (mkF m pc L (.long x :: st))) (hd : decode bytes pc = .ok (.lneg, 1)) (hv : -x = v) (hp : pc + 1 = pc') : Wk p l e R s m args below meth c bytes mxl rt Z a0 EL own n0 h0 ws S0 V h cells slots (mkF m pc' L (.long v :: st)) := by
  subst hv hp
  exact W.plain fun T hq hx hby t k => Jvm.Free.XT.lneg hq hx rfl (hb hby hd) rfl k
theorem Wk.i2l {x : Int32} {v : Int64} (W : Wk p l e R s m args below meth c bytes mxl rt Z a0 EL own n0 h0 ws S0 V h cells slots (mkF m pc L (.int x :: st))) (hd : decode bytes pc = .ok (.i2l, 1)) (hv : x.toInt64 = v) (hp : pc + 1 = pc') : Wk p l e R s m args below meth c bytes mxl rt Z a0 EL own n0 h0 ws S0 V h cells slots (mkF m pc' L (.long v :: st)) := by
  subst hv hp
  exact W.plain fun T hq hx hby t k => Jvm.Free.XT.i2l hq hx rfl (hb hby hd) rfl k
theorem Wk.l2i {x : Int64} {v : Int32} (W : Wk p l e R s m args below meth c bytes mxl rt Z a0 EL own n0 h0 ws S0 V h cells slots (mkF m pc L (.long x :: st))) (hd : decode bytes pc = .ok (.l2i, 1)) (hv : x.toInt32 = v) (hp : pc + 1 = pc') : Wk p l e R s m args below meth c bytes mxl rt Z a0 EL own n0 h0 ws S0 V h cells slots (mkF m pc' L (.int v :: st)) := by
  subst hv hp
  exact W.plain fun T hq hx hby t k => Jvm.Free.XT.l2i hq hx rfl (hb hby hd) rfl k
theorem Wk.lcmp {x y : Int64} {v : Int32} (W : Wk p l e R s m args below meth c bytes mxl rt Z a0 EL own n0 h0 ws S0 V h cells slots (mkF m pc L (.long y :: .long x :: st))) (hd : decode bytes pc = .ok (.lcmp, 1)) (hv : Jvm.Free.XT.cmpL x y = v) (hp : pc + 1 = pc') : Wk p l e R s m args below meth c bytes mxl rt Z a0 EL own n0 h0 ws S0 V h cells slots (mkF m pc' L (.int v :: st)) := by
  subst hv hp
  exact W.plain fun T hq hx hby t k => Jvm.Free.XT.lcmp hq hx rfl (hb hby hd) rfl k
theorem Wk.dup {x : Value} (W : Wk p l e R s m args below meth c bytes mxl rt Z a0 EL own n0 h0 ws S0 V h cells slots (mkF m pc L (x :: st))) (hd : decode bytes pc = .ok (.dup, 1)) (hc : x.category = 1) (hp : pc + 1 = pc') : Wk p l e R s m args below meth c bytes mxl rt Z a0 EL own n0 h0 ws S0 V h cells slots (mkF m pc' L (x :: x :: st)) := by
  subst hp
  exact W.plain fun T hq hx hby t k => XS.dup hq hx rfl (hb hby hd) rfl hc k
theorem Wk.pop {x : Value} (W : Wk p l e R s m args below meth c bytes mxl rt Z a0 EL own n0 h0 ws S0 V h cells slots (mkF m pc L (x :: st))) (hd : decode bytes pc = .ok (.pop, 1)) (hc : x.category = 1) (hp : pc + 1 = pc') : Wk p l e R s m args below meth c bytes mxl rt Z a0 EL own n0 h0 ws S0 V h cells slots (mkF m pc' L st) := by
  subst hp
  exact W.plain fun T hq hx hby t k => Jvm.Free.XT.pop hq hx rfl (hb hby hd) rfl hc k
theorem Wk.dupX1 {x y : Value} (W : Wk p l e R s m args below meth c bytes mxl rt Z a0 EL own n0 h0 ws S0 V h cells slots (mkF m pc L (x :: y :: st))) (hd : decode bytes pc = .ok (.dup_x1, 1)) (hc : x.category = 1) (hc' : y.category = 1) (hp : pc + 1 = pc') : Wk p l e R s m args below meth c bytes mxl rt Z a0 EL own n0 h0 ws S0 V h cells slots (mkF m pc' L (x :: y :: x :: st)) := by
  subst hp
  exact W.plain fun T hq hx hby t k => Jvm.Free.XT.dupX1 hq hx rfl (hb hby hd) rfl hc hc' k
theorem Wk.dup2 {x y : Value} (W : Wk p l e R s m args below meth c bytes mxl rt Z a0 EL own n0 h0 ws S0 V h cells slots (mkF m pc L (x :: y :: st))) (hd : decode bytes pc = .ok (.dup2, 1)) (hc : x.category = 1) (hc' : y.category = 1) (hp : pc + 1 = pc') : Wk p l e R s m args below meth c bytes mxl rt Z a0 EL own n0 h0 ws S0 V h cells slots (mkF m pc' L (x :: y :: x :: y :: st)) := by
  subst hp
  exact W.plain fun T hq hx hby t k => Jvm.Free.XT.dup2 hq hx rfl (hb hby hd) rfl hc hc' k
theorem Wk.dup2L {x : Int64} (W : Wk p l e R s m args below meth c bytes mxl rt Z a0 EL own n0 h0 ws S0 V h cells slots (mkF m pc L (.long x :: st))) (hd : decode bytes pc = .ok (.dup2, 1))  (hp : pc + 1 = pc') : Wk p l e R s m args below meth c bytes mxl rt Z a0 EL own n0 h0 ws S0 V h cells slots (mkF m pc' L (.long x :: .long x :: st)) := by
  subst hp
  exact W.plain fun T hq hx hby t k => Jvm.Free.XT.dup2L hq hx rfl (hb hby hd) rfl k
theorem Wk.istoreN {k : Fin 4} {x : Int32} {L' : Array Slot} (W : Wk p l e R s m args below meth c bytes mxl rt Z a0 EL own n0 h0 ws S0 V h cells slots (mkF m pc L (.int x :: st))) (hd : decode bytes pc = .ok (.istore_n k, 1)) (hl : storeLocals L k.val (.int x) = some L') (hp : pc + 1 = pc') : Wk p l e R s m args below meth c bytes mxl rt Z a0 EL own n0 h0 ws S0 V h cells slots (mkF m pc' L' st) := by
  subst hp
  exact W.plain fun T hq hx hby t k => XS.istoreN hq hx rfl (hb hby hd) rfl hl k
theorem Wk.istore {k : Nat} {x : Int32} {L' : Array Slot} (W : Wk p l e R s m args below meth c bytes mxl rt Z a0 EL own n0 h0 ws S0 V h cells slots (mkF m pc L (.int x :: st))) (hd : decode bytes pc = .ok (.istore k, 2)) (hl : storeLocals L k (.int x) = some L') (hp : pc + 2 = pc') : Wk p l e R s m args below meth c bytes mxl rt Z a0 EL own n0 h0 ws S0 V h cells slots (mkF m pc' L' st) := by
  subst hp
  exact W.plain fun T hq hx hby t k => XS.istore hq hx rfl (hb hby hd) rfl hl k
theorem Wk.astoreN {k : Fin 4} {x : Value} {L' : Array Slot} (W : Wk p l e R s m args below meth c bytes mxl rt Z a0 EL own n0 h0 ws S0 V h cells slots (mkF m pc L (x :: st))) (hd : decode bytes pc = .ok (.astore_n k, 1)) (hr : x.isRef = true) (hl : storeLocals L k.val x = some L') (hp : pc + 1 = pc') : Wk p l e R s m args below meth c bytes mxl rt Z a0 EL own n0 h0 ws S0 V h cells slots (mkF m pc' L' st) := by
  subst hp
  exact W.plain fun T hq hx hby t k => XS.astoreN hq hx rfl (hb hby hd) rfl hr hl k
theorem Wk.astore {k : Nat} {x : Value} {L' : Array Slot} (W : Wk p l e R s m args below meth c bytes mxl rt Z a0 EL own n0 h0 ws S0 V h cells slots (mkF m pc L (x :: st))) (hd : decode bytes pc = .ok (.astore k, 2)) (hr : x.isRef = true) (hl : storeLocals L k x = some L') (hp : pc + 2 = pc') : Wk p l e R s m args below meth c bytes mxl rt Z a0 EL own n0 h0 ws S0 V h cells slots (mkF m pc' L' st) := by
  subst hp
  exact W.plain fun T hq hx hby t k => XS.astore hq hx rfl (hb hby hd) rfl hr hl k
theorem Wk.lstoreN {k : Fin 4} {x : Int64} {L' : Array Slot} (W : Wk p l e R s m args below meth c bytes mxl rt Z a0 EL own n0 h0 ws S0 V h cells slots (mkF m pc L (.long x :: st))) (hd : decode bytes pc = .ok (.lstore_n k, 1)) (hl : storeLocals L k.val (.long x) = some L') (hp : pc + 1 = pc') : Wk p l e R s m args below meth c bytes mxl rt Z a0 EL own n0 h0 ws S0 V h cells slots (mkF m pc' L' st) := by
  subst hp
  exact W.plain fun T hq hx hby t k => Jvm.Free.XT.lstoreN hq hx rfl (hb hby hd) rfl hl k
theorem Wk.lstore {k : Nat} {x : Int64} {L' : Array Slot} (W : Wk p l e R s m args below meth c bytes mxl rt Z a0 EL own n0 h0 ws S0 V h cells slots (mkF m pc L (.long x :: st))) (hd : decode bytes pc = .ok (.lstore k, 2)) (hl : storeLocals L k (.long x) = some L') (hp : pc + 2 = pc') : Wk p l e R s m args below meth c bytes mxl rt Z a0 EL own n0 h0 ws S0 V h cells slots (mkF m pc' L' st) := by
  subst hp
  exact W.plain fun T hq hx hby t k => Jvm.Free.XT.lstore hq hx rfl (hb hby hd) rfl hl k
theorem Wk.iinc {k : Nat} {cst : Int} {x v : Int32} {L' : Array Slot} (W : Wk p l e R s m args below meth c bytes mxl rt Z a0 EL own n0 h0 ws S0 V h cells slots (mkF m pc L st)) (hd : decode bytes pc = .ok (.iinc k cst, 3)) (hl : L[k]? = some (.val (.int x))) (hv : x + Int32.ofInt cst = v) (hl' : storeLocals L k (.int v) = some L') (hp : pc + 3 = pc') : Wk p l e R s m args below meth c bytes mxl rt Z a0 EL own n0 h0 ws S0 V h cells slots (mkF m pc' L' st) := by
  subst hv hp
  exact W.plain fun T hq hx hby t k => XS.iinc hq hx rfl (hb hby hd) hl hl' k
theorem Wk.goto {o : Int} (W : Wk p l e R s m args below meth c bytes mxl rt Z a0 EL own n0 h0 ws S0 V h cells slots (mkF m pc L st)) (hd : decode bytes pc = .ok (.goto o, 3))  (ho : 0 ≤ (pc : Int) + o) (hp : ((pc : Int) + o).toNat = pc') : Wk p l e R s m args below meth c bytes mxl rt Z a0 EL own n0 h0 ws S0 V h cells slots (mkF m pc' L st) := by
  exact W.plain fun T hq hx hby t k => XS.goto hq hx rfl (pc0 := pc) rfl (hb hby hd)  ho hp k
theorem Wk.ifT {cd : ClassFile.Cond} {x : Int32} {o : Int} (W : Wk p l e R s m args below meth c bytes mxl rt Z a0 EL own n0 h0 ws S0 V h cells slots (mkF m pc L (.int x :: st))) (hd : decode bytes pc = .ok (.ifCond cd o, 3)) (hc : if_icmp.holds cd x 0 = true) (ho : 0 ≤ (pc : Int) + o) (hp : ((pc : Int) + o).toNat = pc') : Wk p l e R s m args below meth c bytes mxl rt Z a0 EL own n0 h0 ws S0 V h cells slots (mkF m pc' L st) := by
  exact W.plain fun T hq hx hby t k => XS.ifYes hq hx rfl (pc0 := pc) rfl (hb hby hd) rfl ((if0 cd x).trans hc) ho hp k
theorem Wk.ifF {cd : ClassFile.Cond} {x : Int32} {o : Int} (W : Wk p l e R s m args below meth c bytes mxl rt Z a0 EL own n0 h0 ws S0 V h cells slots (mkF m pc L (.int x :: st))) (hd : decode bytes pc = .ok (.ifCond cd o, 3)) (hc : if_icmp.holds cd x 0 = false) (hp : pc + 3 = pc') : Wk p l e R s m args below meth c bytes mxl rt Z a0 EL own n0 h0 ws S0 V h cells slots (mkF m pc' L st) := by
  subst hp
  exact W.plain fun T hq hx hby t k => XS.ifNo hq hx rfl (hb hby hd) rfl ((if0 cd x).trans hc) k
theorem Wk.icmpT {cd : ClassFile.Cond} {x y : Int32} {o : Int} (W : Wk p l e R s m args below meth c bytes mxl rt Z a0 EL own n0 h0 ws S0 V h cells slots (mkF m pc L (.int y :: .int x :: st))) (hd : decode bytes pc = .ok (.if_icmp cd o, 3)) (hc : if_icmp.holds cd x y = true) (ho : 0 ≤ (pc : Int) + o) (hp : ((pc : Int) + o).toNat = pc') : Wk p l e R s m args below meth c bytes mxl rt Z a0 EL own n0 h0 ws S0 V h cells slots (mkF m pc' L st) := by
  exact W.plain fun T hq hx hby t k => XS.icmpYes hq hx rfl (pc0 := pc) rfl (hb hby hd) rfl hc ho hp k
theorem Wk.icmpF {cd : ClassFile.Cond} {x y : Int32} {o : Int} (W : Wk p l e R s m args below meth c bytes mxl rt Z a0 EL own n0 h0 ws S0 V h cells slots (mkF m pc L (.int y :: .int x :: st))) (hd : decode bytes pc = .ok (.if_icmp cd o, 3)) (hc : if_icmp.holds cd x y = false) (hp : pc + 3 = pc') : Wk p l e R s m args below meth c bytes mxl rt Z a0 EL own n0 h0 ws S0 V h cells slots (mkF m pc' L st) := by
  subst hp
  exact W.plain fun T hq hx hby t k => XS.icmpNo hq hx rfl (hb hby hd) rfl hc k
theorem Wk.ifnullT {o : Int} (W : Wk p l e R s m args below meth c bytes mxl rt Z a0 EL own n0 h0 ws S0 V h cells slots (mkF m pc L (.null :: st))) (hd : decode bytes pc = .ok (.ifnull o, 3))  (ho : 0 ≤ (pc : Int) + o) (hp : ((pc : Int) + o).toNat = pc') : Wk p l e R s m args below meth c bytes mxl rt Z a0 EL own n0 h0 ws S0 V h cells slots (mkF m pc' L st) := by
  exact W.plain fun T hq hx hby t k => XS.ifnullYes hq hx rfl (pc0 := pc) rfl (hb hby hd) rfl ho hp k
theorem Wk.ifnullF {o : Int} {b : Addr} (W : Wk p l e R s m args below meth c bytes mxl rt Z a0 EL own n0 h0 ws S0 V h cells slots (mkF m pc L (.ref b :: st))) (hd : decode bytes pc = .ok (.ifnull o, 3))  (hp : pc + 3 = pc') : Wk p l e R s m args below meth c bytes mxl rt Z a0 EL own n0 h0 ws S0 V h cells slots (mkF m pc' L st) := by
  subst hp
  exact W.plain fun T hq hx hby t k => XS.ifnullNo hq hx rfl (hb hby hd) rfl k
theorem Wk.ifnonnullT {o : Int} {b : Addr} (W : Wk p l e R s m args below meth c bytes mxl rt Z a0 EL own n0 h0 ws S0 V h cells slots (mkF m pc L (.ref b :: st))) (hd : decode bytes pc = .ok (.ifnonnull o, 3))  (ho : 0 ≤ (pc : Int) + o) (hp : ((pc : Int) + o).toNat = pc') : Wk p l e R s m args below meth c bytes mxl rt Z a0 EL own n0 h0 ws S0 V h cells slots (mkF m pc' L st) := by
  exact W.plain fun T hq hx hby t k => Jvm.Free.XT.ifnonnullYes hq hx rfl (pc0 := pc) rfl (hb hby hd) rfl ho hp k
theorem Wk.ifnonnullF {o : Int} (W : Wk p l e R s m args below meth c bytes mxl rt Z a0 EL own n0 h0 ws S0 V h cells slots (mkF m pc L (.null :: st))) (hd : decode bytes pc = .ok (.ifnonnull o, 3))  (hp : pc + 3 = pc') : Wk p l e R s m args below meth c bytes mxl rt Z a0 EL own n0 h0 ws S0 V h cells slots (mkF m pc' L st) := by
  subst hp
  exact W.plain fun T hq hx hby t k => Jvm.Free.XT.ifnonnullNo hq hx rfl (hb hby hd) rfl k
theorem Wk.acmpT {cd : ClassFile.ACond} {x y : Value} {o : Int} (W : Wk p l e R s m args below meth c bytes mxl rt Z a0 EL own n0 h0 ws S0 V h cells slots (mkF m pc L (y :: x :: st))) (hd : decode bytes pc = .ok (.if_acmp cd o, 3)) (hx' : x.isRef = true) (hy' : y.isRef = true) (hc : Jvm.Free.XT.acmp cd x y = true) (ho : 0 ≤ (pc : Int) + o) (hp : ((pc : Int) + o).toNat = pc') : Wk p l e R s m args below meth c bytes mxl rt Z a0 EL own n0 h0 ws S0 V h cells slots (mkF m pc' L st) := by
  exact W.plain fun T hq hx hby t k => Jvm.Free.XT.acmpYes hq hx rfl (pc0 := pc) rfl (hb hby hd) rfl hx' hy' hc ho hp k
theorem Wk.acmpF {cd : ClassFile.ACond} {x y : Value} {o : Int} (W : Wk p l e R s m args below meth c bytes mxl rt Z a0 EL own n0 h0 ws S0 V h cells slots (mkF m pc L (y :: x :: st))) (hd : decode bytes pc = .ok (.if_acmp cd o, 3)) (hx' : x.isRef = true) (hy' : y.isRef = true) (hc : Jvm.Free.XT.acmp cd x y = false) (hp : pc + 3 = pc') : Wk p l e R s m args below meth c bytes mxl rt Z a0 EL own n0 h0 ws S0 V h cells slots (mkF m pc' L st) := by
  subst hp
  exact W.plain fun T hq hx hby t k => Jvm.Free.XT.acmpNo hq hx rfl (hb hby hd) rfl hx' hy' hc k
theorem Wk.new {C : String} {index n cells' slots' : Nat} (W : Wk p l e R s m args below meth c bytes mxl rt Z a0 EL own n0 h0 ws S0 V h cells slots (mkF m pc L st)) (hd : decode bytes pc = .ok (.new index, 3)) (w : (Jvm.Cond.classLink own index C).before a0 Z = true) (wi : (Jvm.Cond.instantiable C n).before a0 Z = true) (wz : (Jvm.Cond.initialized C).before a0 Z = true) (hp : pc + 3 = pc') (hc : cells + 1 = cells') (hs : slots + n = slots') (hc' : cells' ≤ R.cells) (hs' : slots' ≤ R.slots) :
    ∃ h' a, Wk p l e R s m args below meth c bytes mxl rt Z a0 EL own n0 h0 ws S0 V h' cells' slots' (mkF m pc' L (.ref a :: st)) ∧ Ext h h' ∧ a = h.size ∧ (Exa Z h' h.size C ∧ (∀ {O nm d : String} {ty : FieldType}, Laid Z a0 C O nm d → parseFieldDescriptor d = some ty → Fld Z h' h.size O nm d (defaultValue ty)) ∧ Unt h' h.size) ∧ Safe Z EL V h' a ∧ ∀ x, Safe Z EL V h x → Safe Z EL V h' x := by
  subst hp hc hs
  refine W.grew (G := fun a => mkF m (pc + 3) L (.ref a :: st)) (Q := fun h' => Exa Z h' h.size C ∧ (∀ {O nm d : String} {ty : FieldType}, Laid Z a0 C O nm d → parseFieldDescriptor d = some ty → Fld Z h' h.size O nm d (defaultValue ty)) ∧ Unt h' h.size) fun T locs X eT hx hby hZ hown => ?_
  obtain ⟨T', h', X', e', E, A, D, U, st'⟩ := newO X hx hZ hown w wi wz eT (g := mkF m pc L st) rfl (hb hby hd) hc' hs'
  exact ⟨T', h', X', e', E, ⟨A, D, U⟩, st'⟩
theorem Wk.newarr {aty : ArrayType} {z : Int32} {cap cells' slots' : Nat} (W : Wk p l e R s m args below meth c bytes mxl rt Z a0 EL own n0 h0 ws S0 V h cells slots (mkF m pc L (.int z :: st))) (hd : decode bytes pc = .ok (.newarray aty, 2)) (w : (Jvm.Cond.arrayClass (newarray.typeOf aty)).before a0 Z = true) (hn : ¬ z < 0) (hcap : z.toNatClampNeg ≤ cap) (hbig : cap * 8 ≤ 536870912) (hp : pc + 2 = pc') (hc : cells + 1 = cells') (hs : slots + cap = slots') (hc' : cells' ≤ R.cells) (hs' : slots' ≤ R.slots) :
    ∃ h' a, Wk p l e R s m args below meth c bytes mxl rt Z a0 EL own n0 h0 ws S0 V h' cells' slots' (mkF m pc' L (.ref a :: st)) ∧ Ext h h' ∧ a = h.size ∧ (∃ k, Arv Z h' h.size k (newarray.typeOf aty) z [] (defaultValue (newarray.typeOf aty))) ∧ Safe Z EL V h' a ∧ ∀ x, Safe Z EL V h x → Safe Z EL V h' x := by
  subst hp hc hs
  refine W.grew (G := fun a => mkF m (pc + 2) L (.ref a :: st)) (Q := fun h' => ∃ k, Arv Z h' h.size k (newarray.typeOf aty) z [] (defaultValue (newarray.typeOf aty))) fun T locs X eT hx hby hZ hown => ?_
  obtain ⟨T', h', k, X', e', E, A, st'⟩ := newP X hx hZ w eT (g := mkF m pc L (.int z :: st)) rfl (hb hby hd) rfl hn (cap := cap) hcap hbig hc' hs'
  exact ⟨T', h', X', e', E, ⟨k, Arv.new A hn⟩, st'⟩
theorem Wk.newarrE {aty : ArrayType} {z : Int32} {ad : String} {cap cells' slots' : Nat} (W : Wk p l e R s m args below meth c bytes mxl rt Z a0 EL own n0 h0 ws S0 V h cells slots (mkF m pc L (.int z :: st))) (hd : decode bytes pc = .ok (.newarray aty, 2)) (w : (Jvm.Cond.arrayClass (newarray.typeOf aty)).before a0 Z = true) (had : "[" ++ (newarray.typeOf aty).toString = ad) (hn : ¬ z < 0) (hcap : z.toNatClampNeg ≤ cap) (hbig : cap * 8 ≤ 536870912) (hp : pc + 2 = pc') (hc : cells + 1 = cells') (hs : slots + cap = slots') (hc' : cells' ≤ R.cells) (hs' : slots' ≤ R.slots) :
    ∃ h' a, Wk p l e R s m args below meth c bytes mxl rt Z a0 EL own n0 h0 ws S0 V h' cells' slots' (mkF m pc' L (.ref a :: st)) ∧ Ext h h' ∧ a = h.size ∧ ((∃ k, Arv Z h' h.size k (newarray.typeOf aty) z [] (defaultValue (newarray.typeOf aty))) ∧ Exa Z h' h.size ad) ∧ Safe Z EL V h' a ∧ ∀ x, Safe Z EL V h x → Safe Z EL V h' x := by
  subst hp hc hs
  refine W.grew (G := fun a => mkF m (pc + 2) L (.ref a :: st)) (Q := fun h' => (∃ k, Arv Z h' h.size k (newarray.typeOf aty) z [] (defaultValue (newarray.typeOf aty))) ∧ Exa Z h' h.size ad) fun T locs X eT hx hby hZ hown => ?_
  obtain ⟨T', h', k, X', e', E, A, B, st'⟩ := newPE X hx hZ w eT (g := mkF m pc L (.int z :: st)) rfl (hb hby hd) rfl hn (cap := cap) hcap hbig hc' hs' had
  exact ⟨T', h', X', e', E, ⟨⟨k, Arv.new A hn⟩, B⟩, st'⟩
theorem Wk.clone {index : Nat} {ad : String} {a : Addr} {k : ClassId} {ty : FieldType} {z : Int32} {vs : List Value} {dv : Value} {cap Wd cells' slots' : Nat} (W : Wk p l e R s m args below meth c bytes mxl rt Z a0 EL own n0 h0 ws S0 V h cells slots (mkF m pc L (.ref a :: st))) (hd : decode bytes pc = .ok (.invokevirtual index, 3)) (w1 : (Jvm.Cond.methodLink own index ⟨ad, "clone", "()Ljava/lang/Object;"⟩).before a0 Z = true) (w2 : (Jvm.Cond.sameMethod ad "java/lang/Object" "clone" "()Ljava/lang/Object;").before a0 Z = true) (w3 : (Jvm.Cond.native ⟨"java/lang/Object", "clone", "()Ljava/lang/Object;"⟩).before a0 Z = true) (w4 : (Jvm.Cond.instanceMethod ⟨"java/lang/Object", "clone", "()Ljava/lang/Object;"⟩).before a0 Z = true) (w5 : (Jvm.Cond.selects ad ⟨ad, "clone", "()Ljava/lang/Object;"⟩ ⟨"java/lang/Object", "clone", "()Ljava/lang/Object;"⟩).before a0 Z = true) (w6 : (Jvm.Cond.castable ad "java/lang/Cloneable").before a0 Z = true) (A : Arv Z h a k ty z vs dv) (E : Exa Z h a ad) (hL : L.size = mxl) (hW : (st.map fun v => v.category).sum = Wd) (hf : 1 ≤ R.frames) (hl : Wd + 14 ≤ R.locals) (hcap : z.toNatClampNeg ≤ cap) (hp : pc + 3 = pc') (hc : cells + 1 = cells') (hs : slots + cap = slots') (hc' : cells' ≤ R.cells) (hs' : slots' ≤ R.slots) :
    ∃ h' a, Wk p l e R s m args below meth c bytes mxl rt Z a0 EL own n0 h0 ws S0 V h' cells' slots' (mkF m pc' L (.ref a :: st)) ∧ Ext h h' ∧ a = h.size ∧ (Arv Z h' h.size k ty z vs dv ∧ Exa Z h' h.size ad) ∧ Safe Z EL V h' a ∧ ∀ x, Safe Z EL V h x → Safe Z EL V h' x := by
  subst hp hc hs hW
  have hml := W.1.2.2.1
  refine W.grew (G := fun b => mkF m (pc + 3) L (.ref b :: st)) (Q := fun h' => Arv Z h' h.size k ty z vs dv ∧ Exa Z h' h.size ad) fun T locs X eT hx hby hZ hown => ?_
  obtain ⟨T', h', X', e', E', ⟨c', B1, B2, B3, B4, B5, B6⟩, C, st'⟩ := cloneH X hx hZ hown w1 w2 w3 w4 w5 w6 eT (Arv.arh A) E (g := mkF m pc L (.ref a :: st)) rfl (hL.trans hml.symm) rfl (hb hby hd) hf (by show 2 * 0 + _ ≤ _; exact Nat.le_of_eq (Nat.zero_add _)) hl hcap hc' hs'
  exact ⟨T', h', X', e', E', ⟨⟨c', B1, B2, B3, B4, B5, B6⟩, C⟩, st'⟩
theorem Wk.getf {index : Nat} {R0 O n d : String} {a : Addr} {v : Value} (W : Wk p l e R s m args below meth c bytes mxl rt Z a0 EL own n0 h0 ws S0 V h cells slots (mkF m pc L (.ref a :: st))) (hd : decode bytes pc = .ok (.getfield index, 3)) (w : (Jvm.Cond.fieldLink own index R0 n d).before a0 Z = true) (via : Via Z R0 O n d) (F : Fld Z h a O n d v) (hp : pc + 3 = pc') : Wk p l e R s m args below meth c bytes mxl rt Z a0 EL own n0 h0 ws S0 V h cells slots (mkF m pc' L (v :: st)) := by
  subst hp
  exact W.reads fun T locs X eT hx hby hZ hown => getF X hx hZ hown (host := "") (Or.inl w) via eT F (g := mkF m pc L (.ref a :: st)) rfl rfl (hb hby hd)
theorem Wk.gets {index : Nat} {O n d : String} {v : Value} (W : Wk p l e R s m args below meth c bytes mxl rt Z a0 EL own n0 h0 ws S0 V h cells slots (mkF m pc L st)) (hd : decode bytes pc = .ok (.getstatic index, 3)) (w : (Jvm.Cond.fieldLink own index O n d).before a0 Z = true) (S : Sta Z Z.heap O n d v) (hp : pc + 3 = pc') : Wk p l e R s m args below meth c bytes mxl rt Z a0 EL own n0 h0 ws S0 V h cells slots (mkF m pc' L (v :: st)) := by
  subst hp
  have S' := W.sta S
  exact W.reads fun T locs X eT hx hby hZ hown => getS (host := "") X hx hZ hown w Via.refl eT S' (g := mkF m pc L st) rfl (hb hby hd)
theorem Wk.castY {index : Nat} {K : String} {a : Addr} (W : Wk p l e R s m args below meth c bytes mxl rt Z a0 EL own n0 h0 ws S0 V h cells slots (mkF m pc L (.ref a :: st))) (hd : decode bytes pc = .ok (.checkcast index, 3)) (w : (Jvm.Cond.classLink own index K).before a0 Z = true) (I : Ins Z h a K true) (hp : pc + 3 = pc') : Wk p l e R s m args below meth c bytes mxl rt Z a0 EL own n0 h0 ws S0 V h cells slots (mkF m pc' L (.ref a :: st)) := by
  subst hp
  exact W.reads fun T locs X eT hx hby hZ hown => Jvm.RoadKit.castY X hx hZ hown w eT I (g := mkF m pc L (.ref a :: st)) rfl rfl (hb hby hd)
theorem Wk.instY {index : Nat} {K : String} {a : Addr} (W : Wk p l e R s m args below meth c bytes mxl rt Z a0 EL own n0 h0 ws S0 V h cells slots (mkF m pc L (.ref a :: st))) (hd : decode bytes pc = .ok (.instanceof index, 3)) (w : (Jvm.Cond.classLink own index K).before a0 Z = true) (I : Ins Z h a K true) (hp : pc + 3 = pc') : Wk p l e R s m args below meth c bytes mxl rt Z a0 EL own n0 h0 ws S0 V h cells slots (mkF m pc' L (.int 1 :: st)) := by
  subst hp
  exact W.reads fun T locs X eT hx hby hZ hown => Jvm.RoadKit.instY X hx hZ hown w eT I (g := mkF m pc L (.ref a :: st)) rfl rfl (hb hby hd)
theorem Wk.putf {index kk : Nat} {R0 O n d C : String} {ty : FieldType} {a : Addr} {v old : Value} (W : Wk p l e R s m args below meth c bytes mxl rt Z a0 EL own n0 h0 ws S0 V h cells slots (mkF m pc L (v :: .ref a :: st))) (hd : decode bytes pc = .ok (.putfield index, 3)) (w : (Jvm.Cond.fieldLink own index R0 n d).before a0 Z = true) (via : Via Z R0 O n d) (F : Fld Z h a O n d old) (E : Exa Z h a C) (Lw : (Jvm.Cond.lays C O n d).before a0 Z = true ∨ ((Jvm.Cond.laysFinal C O n d).before a0 Z = true ∧ own = O ∧ meth.name = "<init>")) (wi : (Jvm.Cond.instantiable C kk).before a0 Z = true) (hty : parseFieldDescriptor d = some ty) (hn : narrow ty v = v) (hf : fits ty v = true) (sf : Safe Z EL V h a) (q : a ∈ ws ∨ h0.size ≤ a) (hp : pc + 3 = pc') :
    ∃ h', Wk p l e R s m args below meth c bytes mxl rt Z a0 EL own n0 h0 ws S0 V h' cells slots (mkF m pc' L st) ∧ Wr h h' a (Jvm.RoadKit.slotOf Z O n d) v ∧ ∀ x, Safe Z EL V h x → Safe Z EL V h' x := by
  subst hp
  exact W.wrote (cells' := 0) (slots' := 0) (h' := h) sf q fun T locs X eT hx hby hZ hown => putF X hx hZ hown (host := "") (Or.inl w) via eT F E Lw wi hty hn hf (g := mkF m pc L (v :: .ref a :: st)) rfl rfl (hb hby hd)
theorem Wk.initO {index : Nat} {a : Addr} {Wd : Nat} (W : Wk p l e R s m args below meth c bytes mxl rt Z a0 EL own n0 h0 ws S0 V h cells slots (mkF m pc L (.ref a :: st))) (hd : decode bytes pc = .ok (.invokespecial index, 3)) (w1 : (Jvm.Cond.methodLink own index Lib.objectInit).before a0 Z = true) (w2 : (Jvm.Cond.instanceMethod Lib.objectInit).before a0 Z = true) (w3 : (Jvm.Cond.code Lib.objectInit ⟨#[0xb1]⟩ 1 none).before a0 Z = true) (hL : L.size = mxl) (hW : (st.map fun v => v.category).sum = Wd) (hf : 1 ≤ R.frames) (hl : Wd + 12 ≤ R.locals) (hp : pc + 3 = pc') : Wk p l e R s m args below meth c bytes mxl rt Z a0 EL own n0 h0 ws S0 V h cells slots (mkF m pc' L st) := by
  subst hp hW
  have hml := W.1.2.2.1
  exact W.reads fun T locs X eT hx hby hZ hown => Jvm.RoadKit.initO X hx hZ hown w1 w2 w3 eT (g := mkF m pc L (.ref a :: st)) rfl (hL.trans hml.symm) rfl (hb hby hd) hf (by show 2 * 0 + _ ≤ _; exact Nat.le_of_eq (Nat.zero_add _)) hl
theorem Wk.ldcI {index : Nat} {v : Int32} (W : Wk p l e R s m args below meth c bytes mxl rt Z a0 EL own n0 h0 ws S0 V h cells slots (mkF m pc L st)) (hd : decode bytes pc = .ok (.ldc index, 2)) (w : (Jvm.Cond.constant own index v).before a0 Z = true) (hp : pc + 2 = pc') : Wk p l e R s m args below meth c bytes mxl rt Z a0 EL own n0 h0 ws S0 V h cells slots (mkF m pc' L (.int v :: st)) := by
  subst hp
  exact W.reads fun T locs X eT hx hby hZ hown => ⟨T, X, eT, X.ldcInt hx hown (mvT hZ w) (g := mkF m pc L st) rfl (hb hby hd)⟩
theorem Wk.ldc2 {index : Nat} {v : Int64} (W : Wk p l e R s m args below meth c bytes mxl rt Z a0 EL own n0 h0 ws S0 V h cells slots (mkF m pc L st)) (hd : decode bytes pc = .ok (.ldc2_w index, 3)) (w : (Jvm.Cond.constantLong own index v).before a0 Z = true) (hp : pc + 3 = pc') : Wk p l e R s m args below meth c bytes mxl rt Z a0 EL own n0 h0 ws S0 V h cells slots (mkF m pc' L (.long v :: st)) := by
  subst hp
  exact W.reads fun T locs X eT hx hby hZ hown => ⟨T, X, eT, X.ldc2Long hx hown (mvT hZ w) (g := mkF m pc L st) rfl (hb hby hd)⟩
section Arrays
variable {a : Addr} {k : ClassId} {z j : Int32} {vs : List Value} {dv w : Value} {ty : FieldType} {i : Nat}
theorem Wk.alen (W : Wk p l e R s m args below meth c bytes mxl rt Z a0 EL own n0 h0 ws S0 V h cells slots (mkF m pc L (.ref a :: st))) (hd : decode bytes pc = .ok (.arraylength, 1)) (A : Arv Z h a k ty z vs dv) (hp : pc + 1 = pc') : Wk p l e R s m args below meth c bytes mxl rt Z a0 EL own n0 h0 ws S0 V h cells slots (mkF m pc' L (.int z :: st)) := by
  subst hp
  obtain ⟨cl, A1, -, S, M, -, -⟩ := A
  exact W.reads fun T locs X eT hx hby hZ hown => ⟨T, X, eT, fun t q => X.arraylength hx (by rw [eT]; exact A1.1) (State.isArrayOf_alike hZ.alike A1.2.1) (g := mkF m pc L (.ref a :: st)) rfl rfl (hb hby hd) t (by rw [len_of S M]; exact q)⟩
theorem Wk.caload (W : Wk p l e R s m args below meth c bytes mxl rt Z a0 EL own n0 h0 ws S0 V h cells slots (mkF m pc L (.int j :: .ref a :: st))) (hd : decode bytes pc = .ok (.caload, 1)) (A : Arv Z h a k .char z vs dv) (hj : ¬ j < 0 ∧ j < z) (hv : vs.getD j.toNatClampNeg dv = w) (hp : pc + 1 = pc') : Wk p l e R s m args below meth c bytes mxl rt Z a0 EL own n0 h0 ws S0 V h cells slots (mkF m pc' L (w :: st)) := by
  subst hp
  obtain ⟨cl, A1, -, S, M, H, -⟩ := A
  have hin := inb_of S hj
  exact W.reads fun T locs X eT hx hby hZ hown => ⟨T, X, eT, X.caload hx (by rw [eT]; exact A1.1) (State.isArrayOf_alike hZ.alike A1.2.1) A1.2.2 hin (H.at hin hv) (g := mkF m pc L (.int j :: .ref a :: st)) rfl rfl (hb hby hd)⟩
theorem Wk.baload (W : Wk p l e R s m args below meth c bytes mxl rt Z a0 EL own n0 h0 ws S0 V h cells slots (mkF m pc L (.int j :: .ref a :: st))) (hd : decode bytes pc = .ok (.baload, 1)) (A : Arv Z h a k .byte z vs dv) (hj : ¬ j < 0 ∧ j < z) (hv : vs.getD j.toNatClampNeg dv = w) (hp : pc + 1 = pc') : Wk p l e R s m args below meth c bytes mxl rt Z a0 EL own n0 h0 ws S0 V h cells slots (mkF m pc' L (w :: st)) := by
  subst hp
  obtain ⟨cl, A1, -, S, M, H, -⟩ := A
  have hin := inb_of S hj
  exact W.reads fun T locs X eT hx hby hZ hown => ⟨T, X, eT, X.baloadBytes hx (by rw [eT]; exact A1.1) (State.isArrayOf_alike hZ.alike A1.2.1) A1.2.2 hin (H.at hin hv) (g := mkF m pc L (.int j :: .ref a :: st)) rfl rfl (hb hby hd)⟩
theorem Wk.iaload (W : Wk p l e R s m args below meth c bytes mxl rt Z a0 EL own n0 h0 ws S0 V h cells slots (mkF m pc L (.int j :: .ref a :: st))) (hd : decode bytes pc = .ok (.iaload, 1)) (A : Arv Z h a k .int z vs dv) (hj : ¬ j < 0 ∧ j < z) (hv : vs.getD j.toNatClampNeg dv = w) (hp : pc + 1 = pc') : Wk p l e R s m args below meth c bytes mxl rt Z a0 EL own n0 h0 ws S0 V h cells slots (mkF m pc' L (w :: st)) := by
  subst hp
  obtain ⟨cl, A1, -, S, M, H, -⟩ := A
  have hin := inb_of S hj
  exact W.reads fun T locs X eT hx hby hZ hown => ⟨T, X, eT, X.iaload hx (by rw [eT]; exact A1.1) (State.isArrayOf_alike hZ.alike A1.2.1) A1.2.2 hin (H.at hin hv) (g := mkF m pc L (.int j :: .ref a :: st)) rfl rfl (hb hby hd)⟩
theorem Wk.laload (W : Wk p l e R s m args below meth c bytes mxl rt Z a0 EL own n0 h0 ws S0 V h cells slots (mkF m pc L (.int j :: .ref a :: st))) (hd : decode bytes pc = .ok (.laload, 1)) (A : Arv Z h a k .long z vs dv) (hj : ¬ j < 0 ∧ j < z) (hv : vs.getD j.toNatClampNeg dv = w) (hp : pc + 1 = pc') : Wk p l e R s m args below meth c bytes mxl rt Z a0 EL own n0 h0 ws S0 V h cells slots (mkF m pc' L (w :: st)) := by
  subst hp
  obtain ⟨cl, A1, -, S, M, H, -⟩ := A
  have hin := inb_of S hj
  exact W.reads fun T locs X eT hx hby hZ hown => ⟨T, X, eT, X.laload hx (by rw [eT]; exact A1.1) (State.isArrayOf_alike hZ.alike A1.2.1) A1.2.2 hin (H.at hin hv) (g := mkF m pc L (.int j :: .ref a :: st)) rfl rfl (hb hby hd)⟩
theorem Wk.saload (W : Wk p l e R s m args below meth c bytes mxl rt Z a0 EL own n0 h0 ws S0 V h cells slots (mkF m pc L (.int j :: .ref a :: st))) (hd : decode bytes pc = .ok (.saload, 1)) (A : Arv Z h a k .short z vs dv) (hj : ¬ j < 0 ∧ j < z) (hv : vs.getD j.toNatClampNeg dv = w) (hp : pc + 1 = pc') : Wk p l e R s m args below meth c bytes mxl rt Z a0 EL own n0 h0 ws S0 V h cells slots (mkF m pc' L (w :: st)) := by
  subst hp
  obtain ⟨cl, A1, -, S, M, H, -⟩ := A
  have hin := inb_of S hj
  exact W.reads fun T locs X eT hx hby hZ hown => ⟨T, X, eT, X.saload hx (by rw [eT]; exact A1.1) (State.isArrayOf_alike hZ.alike A1.2.1) A1.2.2 hin (H.at hin hv) (g := mkF m pc L (.int j :: .ref a :: st)) rfl rfl (hb hby hd)⟩
theorem Wk.aaload (W : Wk p l e R s m args below meth c bytes mxl rt Z a0 EL own n0 h0 ws S0 V h cells slots (mkF m pc L (.int j :: .ref a :: st))) (hd : decode bytes pc = .ok (.aaload, 1)) (A : Arv Z h a k ty z vs dv) (ht : ty.isReference = true) (hj : ¬ j < 0 ∧ j < z) (hv : vs.getD j.toNatClampNeg dv = w) (hp : pc + 1 = pc') : Wk p l e R s m args below meth c bytes mxl rt Z a0 EL own n0 h0 ws S0 V h cells slots (mkF m pc' L (w :: st)) := by
  subst hp
  obtain ⟨cl, A1, -, S, M, H, -⟩ := A
  have hin := inb_of S hj
  exact W.reads fun T locs X eT hx hby hZ hown => ⟨T, X, eT, X.aaload hx (by rw [eT]; exact A1.1) (State.isArrayOf_alike hZ.alike A1.2.1) ht A1.2.2 hin (H.at hin hv) (g := mkF m pc L (.int j :: .ref a :: st)) rfl rfl (hb hby hd)⟩
theorem Wk.castore {x x' : Int32} (W : Wk p l e R s m args below meth c bytes mxl rt Z a0 EL own n0 h0 ws S0 V h cells slots (mkF m pc L (.int x :: .int j :: .ref a :: st))) (hd : decode bytes pc = .ok (.castore, 1)) (A : Arv Z h a k .char z vs dv) (hj : ¬ j < 0 ∧ j < z) (hi : j.toNatClampNeg = i) (hlt : i < vs.length) (hx' : nar .char x = x') (sf : Safe Z EL V h a) (q : a ∈ ws ∨ h0.size ≤ a) (hp : pc + 1 = pc') :
    ∃ h', Wk p l e R s m args below meth c bytes mxl rt Z a0 EL own n0 h0 ws S0 V h' cells slots (mkF m pc' L st) ∧ Wr h h' a j.toNatClampNeg (.int x') ∧ Arv Z h' a k .char z (vs.set i (.int x')) dv ∧ ∀ x, Safe Z EL V h x → Safe Z EL V h' x := by
  subst hp hx'
  obtain ⟨cl, A1, q1, S, M, H, G⟩ := A
  have hin := inb_of S hj
  obtain ⟨h', W', w', sf'⟩ := W.wrote (cells' := 0) (slots' := 0) (h' := h) sf q fun T locs X eT hx hby hZ hown => stC X hx hZ eT A1 hin (g := mkF m pc L (.int x :: .int j :: .ref a :: st)) rfl rfl (hb hby hd)
  exact ⟨h', W', w', Arv.set A1 q1 S M H G (fits_nar_char _) w' i hi hlt, sf'⟩
theorem Wk.bastore {x x' : Int32} (W : Wk p l e R s m args below meth c bytes mxl rt Z a0 EL own n0 h0 ws S0 V h cells slots (mkF m pc L (.int x :: .int j :: .ref a :: st))) (hd : decode bytes pc = .ok (.bastore, 1)) (A : Arv Z h a k .byte z vs dv) (hj : ¬ j < 0 ∧ j < z) (hi : j.toNatClampNeg = i) (hlt : i < vs.length) (hx' : nar .byte x = x') (sf : Safe Z EL V h a) (q : a ∈ ws ∨ h0.size ≤ a) (hp : pc + 1 = pc') :
    ∃ h', Wk p l e R s m args below meth c bytes mxl rt Z a0 EL own n0 h0 ws S0 V h' cells slots (mkF m pc' L st) ∧ Wr h h' a j.toNatClampNeg (.int x') ∧ Arv Z h' a k .byte z (vs.set i (.int x')) dv ∧ ∀ x, Safe Z EL V h x → Safe Z EL V h' x := by
  subst hp hx'
  obtain ⟨cl, A1, q1, S, M, H, G⟩ := A
  have hin := inb_of S hj
  obtain ⟨h', W', w', sf'⟩ := W.wrote (cells' := 0) (slots' := 0) (h' := h) sf q fun T locs X eT hx hby hZ hown => stB X hx hZ eT A1 hin (g := mkF m pc L (.int x :: .int j :: .ref a :: st)) rfl rfl (hb hby hd)
  exact ⟨h', W', w', Arv.set A1 q1 S M H G (fits_nar_byte _) w' i hi hlt, sf'⟩
theorem Wk.iastore {x x' : Int32} (W : Wk p l e R s m args below meth c bytes mxl rt Z a0 EL own n0 h0 ws S0 V h cells slots (mkF m pc L (.int x :: .int j :: .ref a :: st))) (hd : decode bytes pc = .ok (.iastore, 1)) (A : Arv Z h a k .int z vs dv) (hj : ¬ j < 0 ∧ j < z) (hi : j.toNatClampNeg = i) (hlt : i < vs.length) (hx' : x = x') (sf : Safe Z EL V h a) (q : a ∈ ws ∨ h0.size ≤ a) (hp : pc + 1 = pc') :
    ∃ h', Wk p l e R s m args below meth c bytes mxl rt Z a0 EL own n0 h0 ws S0 V h' cells slots (mkF m pc' L st) ∧ Wr h h' a j.toNatClampNeg (.int x') ∧ Arv Z h' a k .int z (vs.set i (.int x')) dv ∧ ∀ x, Safe Z EL V h x → Safe Z EL V h' x := by
  subst hp hx'
  obtain ⟨cl, A1, q1, S, M, H, G⟩ := A
  have hin := inb_of S hj
  obtain ⟨h', W', w', sf'⟩ := W.wrote (cells' := 0) (slots' := 0) (h' := h) sf q fun T locs X eT hx hby hZ hown => stI X hx hZ eT A1 hin (g := mkF m pc L (.int x :: .int j :: .ref a :: st)) rfl rfl (hb hby hd)
  exact ⟨h', W', w', Arv.set A1 q1 S M H G rfl w' i hi hlt, sf'⟩
theorem Wk.lastore {x x' : Int64} (W : Wk p l e R s m args below meth c bytes mxl rt Z a0 EL own n0 h0 ws S0 V h cells slots (mkF m pc L (.long x :: .int j :: .ref a :: st))) (hd : decode bytes pc = .ok (.lastore, 1)) (A : Arv Z h a k .long z vs dv) (hj : ¬ j < 0 ∧ j < z) (hi : j.toNatClampNeg = i) (hlt : i < vs.length) (hx' : x = x') (sf : Safe Z EL V h a) (q : a ∈ ws ∨ h0.size ≤ a) (hp : pc + 1 = pc') :
    ∃ h', Wk p l e R s m args below meth c bytes mxl rt Z a0 EL own n0 h0 ws S0 V h' cells slots (mkF m pc' L st) ∧ Wr h h' a j.toNatClampNeg (.long x') ∧ Arv Z h' a k .long z (vs.set i (.long x')) dv ∧ ∀ x, Safe Z EL V h x → Safe Z EL V h' x := by
  subst hp hx'
  obtain ⟨cl, A1, q1, S, M, H, G⟩ := A
  have hin := inb_of S hj
  obtain ⟨h', W', w', sf'⟩ := W.wrote (cells' := 0) (slots' := 0) (h' := h) sf q fun T locs X eT hx hby hZ hown => stJ X hx hZ eT A1 hin (g := mkF m pc L (.long x :: .int j :: .ref a :: st)) rfl rfl (hb hby hd)
  exact ⟨h', W', w', Arv.set A1 q1 S M H G rfl w' i hi hlt, sf'⟩
end Arrays

/-- what a walk owes at its end -/
def Done (p : Program) (e : Env) (below : List Frame) (S0 s : State) (Z : State) (EL : List (String × Nat)) (n0 : Nat) (h0 : Heap) (ws : List Addr) (R : Room) (Q : Option Value → Heap → Vm → Prop) : Prop :=
  ∃ s₂ o, Steps p.tables e below S0 s₂ ∧ s₂.status = .running ∧ Ended s₂ below o ∧ ∃ v L, o = .returned v ∧ (Fr n0 L ∧ Keep h0 s₂.heap ws ∧ Q v s₂.heap s₂.vm) ∧ CHr Z EL s.vm h0 s₂.vm s₂.heap ∧ ReturnedEndW s o s₂ L R.cells R.slots
theorem Wk.fin {g : JFrame} (W : Wk p l e R s m args below meth c bytes mxl rt Z a0 EL own n0 h0 ws S0 V h cells slots g) {v : Option Value} {Q : Option Value → Heap → Vm → Prop} (hv : rt = none → v = none) (hc : cells ≤ R.cells) (hs : slots ≤ R.slots) (hQ : ∀ V', (∀ x, x < h.size → Safe Z EL V h x → Safe Z EL V' h x) → Q v h V')
    (f : ∀ (T : State) (locs : List Loc) (fs : List Frame), Stand p l e R (s.setVm V) m args below meth c T locs cells slots → p.tables.exec = Jvm.exec → c.code = bytes → (∀ (f : JFrame) (acts : List Action), f.method = m → f.locked = none → f.entered = [] → (doReturn e (T.setTop f) acts v).1 = T.setFrames fs) → Steps p.tables e below (T.setTop g) (T.setFrames fs)) : Done p e below S0 s Z EL n0 h0 ws R Q := by
  obtain ⟨a1, b, T, locs, X, eT, N, k⟩ := W
  obtain ⟨k0, hS, hk⟩ := b.2.2.1
  obtain ⟨fs, hr, hrun, hended, r1, r2, r3, r4⟩ := X.leaveW hS (by rw [eT]; exact hk) (v := v) (fun z => hv (by rw [← a1.2.2.2.1]; exact z)) a1.2.2.2.2.1
  have hh : (T.setFrames fs).heap = h := eT
  have hC2 := CHv.at X b.1 a1.2.2.2.2.2.1 b.2.2.2.2.1.1
  have hC : CHr Z EL s.vm h0 (T.setFrames fs).vm (T.setFrames fs).heap := by
    rw [hh]
    exact b.2.2.2.2.1.trans hC2
  refine ⟨_, _, k _ (f T locs fs X a1.1 a1.2.1 hr), hrun, hended, v, locs, rfl, ⟨N, by rw [hh]; exact b.2.2.2.2.2, by rw [hh]; exact hQ _ fun x hx sx => hC2.safe hx sx⟩, hC, r1, r2, r3, r4.mono hc hs⟩
theorem Wk.vret (W : Wk p l e R s m args below meth c bytes mxl rt Z a0 EL own n0 h0 ws S0 V h cells slots (mkF m pc L [])) (hd : decode bytes pc = .ok (.return_, 1)) (hr : rt = none) {Q : Option Value → Heap → Vm → Prop} (hc : cells ≤ R.cells) (hs : slots ≤ R.slots) (hQ : ∀ V', (∀ x, x < h.size → Safe Z EL V h x → Safe Z EL V' h x) → Q none h V') : Done p e below S0 s Z EL n0 h0 ws R Q := by
  have hrt := W.1.2.2.2.1
  exact W.fin (v := none) (fun _ => rfl) hc hs hQ fun T locs fs X hx hby hr' => X.returnOut hx (hrt.trans hr) (hb hby hd) hr'
theorem Wk.aret {w : Value} {t : FieldType} (W : Wk p l e R s m args below meth c bytes mxl rt Z a0 EL own n0 h0 ws S0 V h cells slots (mkF m pc L (w :: st))) (hd : decode bytes pc = .ok (.areturn, 1)) (hr : rt = some t) (ht : t.isReference = true) (hw : w.isRef = true) (hn : narrow t w = w) {Q : Option Value → Heap → Vm → Prop} (hc : cells ≤ R.cells) (hs : slots ≤ R.slots) (hQ : ∀ V', (∀ x, x < h.size → Safe Z EL V h x → Safe Z EL V' h x) → Q (some w) h V') : Done p e below S0 s Z EL n0 h0 ws R Q := by
  have hrt := W.1.2.2.2.1
  exact W.fin (v := some w) (fun z => by rw [hr] at z; cases z) hc hs hQ fun T locs fs X hx hby hr' => retOut X hx (hrt.trans hr) hn (Or.inr (Or.inr (Or.inr (Or.inr ⟨rfl, ht, hw⟩)))) (hb hby hd) hr'
theorem Wk.iret {z : Int32} {t : FieldType} (W : Wk p l e R s m args below meth c bytes mxl rt Z a0 EL own n0 h0 ws S0 V h cells slots (mkF m pc L (.int z :: st))) (hd : decode bytes pc = .ok (.ireturn, 1)) (hr : rt = some t) (ht : t = .int ∨ t = .boolean ∨ t = .byte ∨ t = .char ∨ t = .short) (hn : narrow t (.int z) = .int z) {Q : Option Value → Heap → Vm → Prop} (hc : cells ≤ R.cells) (hs : slots ≤ R.slots) (hQ : ∀ V', (∀ x, x < h.size → Safe Z EL V h x → Safe Z EL V' h x) → Q (some (.int z)) h V') : Done p e below S0 s Z EL n0 h0 ws R Q := by
  have hrt := W.1.2.2.2.1
  exact W.fin (v := some (.int z)) (fun z => by rw [hr] at z; cases z) hc hs hQ fun T locs fs X hx hby hr' => retOut X hx (hrt.trans hr) hn (Or.inl ⟨rfl, ht, z, rfl⟩) (hb hby hd) hr'
theorem Wk.lret {z : Int64} (W : Wk p l e R s m args below meth c bytes mxl rt Z a0 EL own n0 h0 ws S0 V h cells slots (mkF m pc L (.long z :: st))) (hd : decode bytes pc = .ok (.lreturn, 1)) (hr : rt = some .long) {Q : Option Value → Heap → Vm → Prop} (hc : cells ≤ R.cells) (hs : slots ≤ R.slots) (hQ : ∀ V', (∀ x, x < h.size → Safe Z EL V h x → Safe Z EL V' h x) → Q (some (.long z)) h V') : Done p e below S0 s Z EL n0 h0 ws R Q := by
  have hrt := W.1.2.2.2.1
  exact W.fin (v := some (.long z)) (fun z => by rw [hr] at z; cases z) hc hs hQ fun T locs fs X hx hby hr' => retOut X hx (hrt.trans hr) rfl (Or.inr (Or.inl ⟨rfl, rfl, z, rfl⟩)) (hb hby hd) hr'
/-- a body's contract: called with as', on the heap h, it comes back; it has written at most the cells ws and new ones; Q holds of what it returned and of the heap -/
def Con (l : Launch) (Z : State) (EL : List (String × Nat)) (n0 : Nat) (y : MethodName) (bytes : ByteArray) (mxl : Nat) (rt : Option FieldType) (rm : Room) (as' : Array Value) (h : Heap) (ws : List Addr) (Q : Option Value → Heap → Vm → Prop) (wds : List Jvm.Cond) : Prop :=
  MetFree l y (head1 (Jvm.Cond.code y bytes mxl rt :: wds) rm) (fun a U => a = as' ∧ Z.Warmed39 U.vm ∧ U.heap = h ∧ CHv Z EL U.vm h ∧ ∀ x ∈ ws, Safe Z EL U.vm h x) (fun _ _ _ _ _ => True) (fun _ U o U' => ∃ v L, o = .returned v ∧ (Fr n0 L ∧ Keep h U'.heap ws ∧ Q v U'.heap U'.vm) ∧ CHr Z EL U.vm U.heap U'.vm U'.heap ∧ ReturnedEndW U o U' L rm.cells rm.slots)
theorem Con.of {y : MethodName} {rm : Room} {as' : Array Value} {Q : Option Value → Heap → Vm → Prop} {wds : List Jvm.Cond} {L0 : Array Slot} (hpn : plainFor y = true) (hef : ∀ m, entryFrame m as' mxl = mkF m 0 L0 []) (hws : ∀ x ∈ ws, n0 ≤ x) (hO : Old Z n0 h0) (hEL : EW Z a0 EL)
    (body : ∀ (p : Program) (e : Env) (s : State) (m : MethodId) (below : List Frame) (meth : Method) (c : Code) (S0 : State), meth.name = y.name → (∀ x ∈ ws, Safe Z EL s.vm h0 x) → Wk p l e rm s m as' below meth c bytes mxl rt Z a0 EL y.cls n0 h0 ws S0 s.vm h0 0 0 (mkF m 0 L0 []) → Done p e below S0 s Z EL n0 h0 ws rm Q) : Con l Z EL n0 y bytes mxl rt rm as' h0 ws Q wds := by
  refine MetFree.of_bodySF hpn hisR ?_
  intro p e s m args below meth c s₁ Bd hml hP hK
  obtain ⟨rfl, hZ, hh, hC, hsf⟩ := hP
  have hnm := (name_of_methodNamed Bd.named Bd.method).1
  have e0 : s₁.heap = h0 := by rw [← hh, Bd.state]; rfl
  have hn0 : n0 ≤ h0.size := by rw [← hO.1]; exact hO.2.1
  have X0 : Stand p l e rm (s.setVm s.vm) m args below meth c s₁ [] 0 0 := Stand.of_body Bd
  obtain ⟨s₂, o, g1, g2, g3, v, L, g4, g5, g6, g7⟩ := body p e s m below meth c (s₁.setTop (entryFrame m args mxl)) hnm hsf ⟨⟨Bd.exec, Bd.bytes, hml, Bd.returns, Bd.notSynchronized, hEL, hws, hn0, hh, hO⟩, ⟨hZ, findClass_of_methodNamed Bd.named, ⟨0, (State.WarmedH.refl s).since 0, Nat.zero_le _⟩, hO, CHr.refl hC, Keep.refl _ _⟩, s₁, [], X0, e0, Fr.nil n0, fun t k => castTop (hef m) k⟩
  exact ⟨s₂, o, g1, g2, g3, v, L, g4, g5, by rw [hh]; exact g6, g7⟩

theorem Con.back {y : MethodName} {bytes' : ByteArray} {mxl' : Nat} {rt' : Option FieldType} {rm : Room} {as' : Array Value} {ws' : List Addr} {Q : Option Value → Heap → Vm → Prop} {len Wd : Nat} (con : Con l Z EL n0 y bytes' mxl' rt' rm as' h ws' Q []) (hZ : Z.Warmed39 V) (wc : (Jvm.Cond.code y bytes' mxl' rt').before a0 Z = true) (wz : (Jvm.Cond.initialized y.cls).before a0 Z = true) (hf : rm.frames + 1 ≤ R.frames) (hl : Wd + (mxl' + 11) + rm.locals ≤ R.locals) (hEL : EW Z a0 EL) (H : CHv Z EL V h) (hsf : ∀ x ∈ ws', Safe Z EL V h x) :
    BackS l R p e below (s.setVm V) args y len Wd (fun A a => a = as' ∧ A.U.heap = h ∧ A.cells + rm.cells ≤ R.cells ∧ A.slots + rm.slots ≤ R.slots) (fun A _ v B => ∃ L, (Fr n0 L ∧ Keep h B.U.heap ws' ∧ Q v B.U.heap B.U.vm) ∧ B.locs = A.locs ++ L ∧ B.cells = A.cells + rm.cells ∧ B.slots = A.slots + rm.slots ∧ CHr Z EL V h B.U.vm B.U.heap) := by
  refine BackS.of_freeW (bytes := bytes') (maxL := mxl') (ret := rt') (E := fun _ first o t L k n => k = rm.cells ∧ n = rm.slots ∧ (∃ v, o = .returned v ∧ (Fr n0 L ∧ Keep h t.heap ws' ∧ Q v t.heap t.vm)) ∧ CHr Z EL first.vm first.heap t.vm t.heap) con hf hl ?_ ?_ (fun _ _ _ _ _ _ _ _ _ => trivial) ?_ ?_
  · intro m meth c A a Y hp
    have hU : Z.Warmed39 A.U.vm := wtrans (s := s.setVm V) hZ Y.warmed
    exact ⟨by show (Jvm.Cond.and _ .tt).before a A.U = true; rw [Cond.before_and, mv hU wc]; rfl, mv hU wc, mv hU wz, hp.2.2.1, hp.2.2.2⟩
  · intro m meth c A a g mk Y hp
    have q := CHv.at Y hZ hEL H
    exact ⟨hp.1, wtrans (s := s.setVm V) hZ Y.warmed, hp.2.1, q.1, fun x hx => (Nat.lt_or_ge x h.size).elim (fun z => q.safe z (hsf x hx)) (fun z => Safe.new z)⟩
  · rintro _ _ _ _ ⟨v, L, h1, h2, h3, h4⟩
    exact ⟨L, _, _, h4, rfl, rfl, ⟨v, h1, h2⟩, h3⟩
  · intro m meth c A a g mk v t L k n Y hp _ _ he
    obtain ⟨e1, e2, ⟨v', e3, e4⟩, e5⟩ := he
    cases e3; subst e1 e2
    exact ⟨L, e4, rfl, rfl, rfl, (CHv.at Y hZ hEL H).trans (by rw [← hp.2.1]; exact e5)⟩
theorem Wk.called {g : JFrame} {G : Option Value → JFrame} {rm : Room} {ws' : List Addr} {Q : Option Value → Heap → Vm → Prop} {cells' slots' : Nat} (W : Wk p l e R s m args below meth c bytes mxl rt Z a0 EL own n0 h0 ws S0 V h cells slots g) (hq : ∀ x ∈ ws', x ∈ ws ∨ h0.size ≤ x) (hc : cells + rm.cells = cells') (hs : slots + rm.slots = slots')
    (f : ∀ (T : State) (locs : List Loc), Stand p l e R (s.setVm V) m args below meth c T locs cells slots → T.heap = h → p.tables.exec = Jvm.exec → c.code = bytes → Z.Warmed39 (s.setVm V).vm → (s.setVm V).vm.findClass own = some m.cls → ∃ (v : Option Value) (vm₁ : Vm) (B : Pt), (s.setVm V).WarmedH vm₁ ∧ Stand p l e R ((s.setVm V).setVm B.U.vm) m args below meth c B.U B.locs B.cells B.slots ∧ (s.setVm V).Since B.U.vm B.U.heap.size ∧ T.heap.size ≤ B.U.heap.size ∧ (∃ L, (Fr n0 L ∧ Keep h B.U.heap ws' ∧ Q v B.U.heap B.U.vm) ∧ B.locs = locs ++ L ∧ B.cells = cells + rm.cells ∧ B.slots = slots + rm.slots ∧ CHr Z EL V h B.U.vm B.U.heap) ∧ Steps p.tables e below (T.setTop g) (B.U.setTop (G v))) :
    ∃ V' h' v, Wk p l e R s m args below meth c bytes mxl rt Z a0 EL own n0 h0 ws S0 V' h' cells' slots' (G v) ∧ Keep h h' ws' ∧ Q v h' V' ∧ ∀ x, x < h.size → Safe Z EL V h x → Safe Z EL V' h' x := by
  obtain ⟨a1, b, T, locs, X, eT, N, k⟩ := W
  obtain ⟨k0, hS, hk⟩ := b.2.2.1
  obtain ⟨v, vm₁, B, -, X', hS', hle, ⟨L', hQ, l1, l2, l3, hC⟩, stp⟩ := f T locs X eT a1.1 a1.2.1 b.1 b.2.1
  obtain ⟨X2, hS2, hZ2, hown2⟩ := rebS hS (by rw [eT]; exact hk) X' hS' hle b.1 b.2.1
  rw [l1, l2, l3, hc, hs] at X2
  have hge : ∀ x ∈ ws', n0 ≤ x := fun x hx => (hq x hx).elim (fun z => a1.2.2.2.2.2.2.1 x z) (fun z => Nat.le_trans a1.2.2.2.2.2.2.2.1 z)
  exact ⟨B.U.vm, B.U.heap, v, ⟨a1, ⟨hZ2, hown2, ⟨_, hS2, Nat.le_refl _⟩, b.2.2.2.1.keep hQ.2.1 hge, b.2.2.2.2.1.trans hC, b.2.2.2.2.2.trans hQ.2.1 hq⟩, B.U, _, X2, rfl, N.app hQ.1, fun t z => k t (stp.trans z)⟩, hQ.2.1, hQ.2.2, fun x hx sx => hC.safe hx sx⟩
section Calls
variable {y z : MethodName} {bytes' : ByteArray} {mxl' : Nat} {rt' : Option FieldType} {rm : Room} {ws' : List Addr} {Q : Option Value → Heap → Vm → Prop} {argsL rest stk : List Value} {index Wd cells' slots' : Nat}
theorem Wk.callS (W : Wk p l e R s m args below meth c bytes mxl rt Z a0 EL own n0 h0 ws S0 V h cells slots (mkF m pc L stk)) (hd : decode bytes pc = .ok (.invokestatic index, 3)) (con : Con l Z EL n0 y bytes' mxl' rt' rm argsL.toArray h ws' Q []) (w1 : (Jvm.Cond.methodLink own index y).before a0 Z = true) (w2 : (Jvm.Cond.static y).before a0 Z = true) (w3 : (Jvm.Cond.initialized y.cls).before a0 Z = true) (w4 : (Jvm.Cond.code y bytes' mxl' rt').before a0 Z = true) (hy : y.cls ≠ "java/lang/invoke/MethodHandle" ∧ y.cls ≠ "java/lang/invoke/VarHandle") (hlen : ∀ sig, parseMethodDescriptor y.desc = some sig → argsL.length = sig.parameters.length) (hstk : stk = argsL.reverse ++ rest) (hW : (rest.map fun v => v.category).sum = Wd) (hf : rm.frames + 1 ≤ R.frames) (hl : Wd + (mxl' + 11) + rm.locals ≤ R.locals) (hL : L.size = mxl) (hsf : ∀ x ∈ ws', Safe Z EL V h x) (hq : ∀ x ∈ ws', x ∈ ws ∨ h0.size ≤ x) (hp : pc + 3 = pc') (hc : cells + rm.cells = cells') (hs : slots + rm.slots = slots') (hc' : cells' ≤ R.cells) (hs' : slots' ≤ R.slots) :
    ∃ V' h' v, Wk p l e R s m args below meth c bytes mxl rt Z a0 EL own n0 h0 ws S0 V' h' cells' slots' (mkF m pc' L (v.toList ++ rest)) ∧ Keep h h' ws' ∧ Q v h' V' ∧ ∀ x, x < h.size → Safe Z EL V h x → Safe Z EL V' h' x := by
  subst hp
  have hml := W.1.2.2.1
  have hEL := W.el
  have H := W.chv
  refine W.called (G := fun v => mkF m (pc + 3) L (v.toList ++ rest)) hq hc hs fun T locs X eT hx hby hZ hown => ?_
  exact callSS X hx (y := y) hown (mvT hZ w1) (mvT hZ w2) (mvT hZ w3) (mvT hZ w4) hy (con.back hZ w4 w3 hf hl hEL H hsf) (g := mkF m pc L stk) rfl (hL.trans hml.symm) (argsL := argsL) (rest := rest) hlen hstk (by subst hW; show 2 * 0 + _ ≤ _; exact Nat.le_of_eq (Nat.zero_add _)) (hb hby hd) (fun _ _ => ⟨rfl, eT, by rw [← hc] at hc'; exact hc', by rw [← hs] at hs'; exact hs'⟩)
theorem Wk.callI {a : Addr} (W : Wk p l e R s m args below meth c bytes mxl rt Z a0 EL own n0 h0 ws S0 V h cells slots (mkF m pc L stk)) (hd : decode bytes pc = .ok (.invokespecial index, 3)) (con : Con l Z EL n0 y bytes' mxl' none rm (.ref a :: argsL).toArray h ws' Q []) (hy1 : y.name = "<init>") (w1 : (Jvm.Cond.methodLink own index y).before a0 Z = true) (w2 : (Jvm.Cond.instanceMethod y).before a0 Z = true) (w3 : (Jvm.Cond.initialized y.cls).before a0 Z = true) (w4 : (Jvm.Cond.code y bytes' mxl' none).before a0 Z = true) (hy : y.cls ≠ "java/lang/invoke/MethodHandle" ∧ y.cls ≠ "java/lang/invoke/VarHandle") (hlen : ∀ sig, parseMethodDescriptor y.desc = some sig → argsL.length = sig.parameters.length) (hstk : stk = argsL.reverse ++ .ref a :: rest) (hW : (rest.map fun v => v.category).sum = Wd) (hf : rm.frames + 1 ≤ R.frames) (hl : Wd + (mxl' + 11) + rm.locals ≤ R.locals) (hL : L.size = mxl) (hsf : ∀ x ∈ ws', Safe Z EL V h x) (hq : ∀ x ∈ ws', x ∈ ws ∨ h0.size ≤ x) (hp : pc + 3 = pc') (hc : cells + rm.cells = cells') (hs : slots + rm.slots = slots') (hc' : cells' ≤ R.cells) (hs' : slots' ≤ R.slots) :
    ∃ V' h' v, Wk p l e R s m args below meth c bytes mxl rt Z a0 EL own n0 h0 ws S0 V' h' cells' slots' (mkF m pc' L (v.toList ++ rest)) ∧ Keep h h' ws' ∧ Q v h' V' ∧ ∀ x, x < h.size → Safe Z EL V h x → Safe Z EL V' h' x := by
  subst hp
  have hml := W.1.2.2.1
  have hEL := W.el
  have H := W.chv
  refine W.called (G := fun v => mkF m (pc + 3) L (v.toList ++ rest)) hq hc hs fun T locs X eT hx hby hZ hown => ?_
  exact X.specialBackS hx (y := y) hy1 hown (mvT hZ w1) (mvT hZ w2) (mvT hZ w4) hy (con.back hZ w4 w3 hf hl hEL H hsf) (g := mkF m pc L stk) rfl (hL.trans hml.symm) (Steps.refl _) (a := a) (argsL := argsL) (rest := rest) hlen hstk (by subst hW; show 2 * 0 + _ ≤ _; exact Nat.le_of_eq (Nat.zero_add _)) (hb hby hd) (fun _ _ => ⟨rfl, eT, by rw [← hc] at hc'; exact hc', by rw [← hs] at hs'; exact hs'⟩)
theorem Wk.callV {a : Addr} {C : String} (W : Wk p l e R s m args below meth c bytes mxl rt Z a0 EL own n0 h0 ws S0 V h cells slots (mkF m pc L stk)) (hd : decode bytes pc = .ok (.invokevirtual index, 3)) (con : Con l Z EL n0 z bytes' mxl' rt' rm (.ref a :: argsL).toArray h ws' Q []) (E : Exa Z h a C) (w1 : (Jvm.Cond.methodLink own index y).before a0 Z = true) (wd : (Jvm.Cond.declares y).before a0 Z = true) (wn : (Jvm.Cond.selects C y y).before a0 Z = true ∨ ∃ S, (Jvm.Cond.superclass y.cls S).before a0 Z = true) (ws1 : (Jvm.Cond.selects C y z).before a0 Z = true) (w2 : (Jvm.Cond.instanceMethod z).before a0 Z = true) (w3 : (Jvm.Cond.initialized z.cls).before a0 Z = true) (w4 : (Jvm.Cond.code z bytes' mxl' rt').before a0 Z = true) (hy : y.cls ≠ "java/lang/invoke/MethodHandle" ∧ y.cls ≠ "java/lang/invoke/VarHandle") (hlen : ∀ sig, parseMethodDescriptor y.desc = some sig → argsL.length = sig.parameters.length) (hstk : stk = argsL.reverse ++ .ref a :: rest) (hW : (rest.map fun v => v.category).sum = Wd) (hf : rm.frames + 1 ≤ R.frames) (hl : Wd + (mxl' + 11) + rm.locals ≤ R.locals) (hL : L.size = mxl) (hsf : ∀ x ∈ ws', Safe Z EL V h x) (hq : ∀ x ∈ ws', x ∈ ws ∨ h0.size ≤ x) (hp : pc + 3 = pc') (hc : cells + rm.cells = cells') (hs : slots + rm.slots = slots') (hc' : cells' ≤ R.cells) (hs' : slots' ≤ R.slots) :
    ∃ V' h' v, Wk p l e R s m args below meth c bytes mxl rt Z a0 EL own n0 h0 ws S0 V' h' cells' slots' (mkF m pc' L (v.toList ++ rest)) ∧ Keep h h' ws' ∧ Q v h' V' ∧ ∀ x, x < h.size → Safe Z EL V h x → Safe Z EL V' h' x := by
  subst hp
  have hml := W.1.2.2.1
  have hEL := W.el
  have H := W.chv
  refine W.called (G := fun v => mkF m (pc + 3) L (v.toList ++ rest)) hq hc hs fun T locs X eT hx hby hZ hown => ?_
  obtain ⟨cB, kB, q1, q2, q3⟩ := isOf hZ eT E
  have hnf : NotFace (s.setVm V) y := wn.elim (fun w => notFace_of_selects (args := #[]) (mvT hZ w)) (fun ⟨S, w⟩ => nf_super (args := #[]) (mvT hZ w))
  exact X.virtualBackS hx (y := y) (z := z) hown (mvT hZ w1) (mvT hZ wd) hnf (mvT hZ ws1) (mvT hZ w2) hy (con.back hZ w4 w3 hf hl hEL H hsf) q1 q3 (g := mkF m pc L stk) rfl (hL.trans hml.symm) (Steps.refl _) (argsL := argsL) (rest := rest) hlen hstk (by subst hW; show 2 * 0 + _ ≤ _; exact Nat.le_of_eq (Nat.zero_add _)) (hb hby hd) (fun _ _ => ⟨rfl, eT, by rw [← hc] at hc'; exact hc', by rw [← hs] at hs'; exact hs'⟩)
/-- a private method, called by invokevirtual -/
theorem Wk.callP {a : Addr} {C : String} (W : Wk p l e R s m args below meth c bytes mxl rt Z a0 EL own n0 h0 ws S0 V h cells slots (mkF m pc L stk)) (hd : decode bytes pc = .ok (.invokevirtual index, 3)) (con : Con l Z EL n0 y bytes' mxl' rt' rm (.ref a :: argsL).toArray h ws' Q []) (E : Exa Z h a C) (w1 : (Jvm.Cond.methodLink own index y).before a0 Z = true) (w2 : (Jvm.Cond.instanceMethod y).before a0 Z = true) (ws1 : (Jvm.Cond.selects y.cls y y).before a0 Z = true) (wp : (Jvm.Cond.privateMethod y).before a0 Z = true) (w3 : (Jvm.Cond.initialized y.cls).before a0 Z = true) (w4 : (Jvm.Cond.code y bytes' mxl' rt').before a0 Z = true) (hy : y.cls ≠ "java/lang/invoke/MethodHandle" ∧ y.cls ≠ "java/lang/invoke/VarHandle") (hlen : ∀ sig, parseMethodDescriptor y.desc = some sig → argsL.length = sig.parameters.length) (hstk : stk = argsL.reverse ++ .ref a :: rest) (hW : (rest.map fun v => v.category).sum = Wd) (hf : rm.frames + 1 ≤ R.frames) (hl : Wd + (mxl' + 11) + rm.locals ≤ R.locals) (hL : L.size = mxl) (hsf : ∀ x ∈ ws', Safe Z EL V h x) (hq : ∀ x ∈ ws', x ∈ ws ∨ h0.size ≤ x) (hp : pc + 3 = pc') (hc : cells + rm.cells = cells') (hs : slots + rm.slots = slots') (hc' : cells' ≤ R.cells) (hs' : slots' ≤ R.slots) :
    ∃ V' h' v, Wk p l e R s m args below meth c bytes mxl rt Z a0 EL own n0 h0 ws S0 V' h' cells' slots' (mkF m pc' L (v.toList ++ rest)) ∧ Keep h h' ws' ∧ Q v h' V' ∧ ∀ x, x < h.size → Safe Z EL V h x → Safe Z EL V' h' x := by
  subst hp
  have hml := W.1.2.2.1
  have hEL := W.el
  have H := W.chv
  refine W.called (G := fun v => mkF m (pc + 3) L (v.toList ++ rest)) hq hc hs fun T locs X eT hx hby hZ hown => ?_
  obtain ⟨cl, q1, q2⟩ := (Ins.self E).cell
  exact X.privateBackS hx (y := y) hown (mvT hZ w1) (mvT hZ w2) (mvT hZ ws1) (Cond.privateMethod_at (mvP hZ wp (args := #[]))) (mvT hZ w4) hy (con.back hZ w4 w3 hf hl hEL H hsf) (g := mkF m pc L stk) rfl (hL.trans hml.symm) (Steps.refl _) (a := a) (by rw [eT]; exact q1) q2 (argsL := argsL) (rest := rest) hlen hstk (by subst hW; show 2 * 0 + _ ≤ _; exact Nat.le_of_eq (Nat.zero_add _)) (hb hby hd) (fun _ _ => ⟨rfl, eT, by rw [← hc] at hc'; exact hc', by rw [← hs] at hs'; exact hs'⟩)
/-- .. the entry names a subclass of the declaring one -/
theorem Wk.callU {a : Addr} {C owner : String} (W : Wk p l e R s m args below meth c bytes mxl rt Z a0 EL own n0 h0 ws S0 V h cells slots (mkF m pc L stk)) (hd : decode bytes pc = .ok (.invokevirtual index, 3)) (con : Con l Z EL n0 z bytes' mxl' rt' rm (.ref a :: argsL).toArray h ws' Q []) (E : Exa Z h a C) (w1 : (Jvm.Cond.methodLink own index y).before a0 Z = true) (wsm : (Jvm.Cond.sameMethod y.cls owner y.name y.desc).before a0 Z = true) (wd : (Jvm.Cond.declares ⟨owner, y.name, y.desc⟩).before a0 Z = true) (how : owner ≠ "java/lang/invoke/MethodHandle" ∧ owner ≠ "java/lang/invoke/VarHandle") (ws1 : (Jvm.Cond.selects C y z).before a0 Z = true) (w2 : (Jvm.Cond.instanceMethod z).before a0 Z = true) (w3 : (Jvm.Cond.initialized z.cls).before a0 Z = true) (w4 : (Jvm.Cond.code z bytes' mxl' rt').before a0 Z = true) (hlen : ∀ sig, parseMethodDescriptor y.desc = some sig → argsL.length = sig.parameters.length) (hstk : stk = argsL.reverse ++ .ref a :: rest) (hW : (rest.map fun v => v.category).sum = Wd) (hf : rm.frames + 1 ≤ R.frames) (hl : Wd + (mxl' + 11) + rm.locals ≤ R.locals) (hL : L.size = mxl) (hsf : ∀ x ∈ ws', Safe Z EL V h x) (hq : ∀ x ∈ ws', x ∈ ws ∨ h0.size ≤ x) (hp : pc + 3 = pc') (hc : cells + rm.cells = cells') (hs : slots + rm.slots = slots') (hc' : cells' ≤ R.cells) (hs' : slots' ≤ R.slots) :
    ∃ V' h' v, Wk p l e R s m args below meth c bytes mxl rt Z a0 EL own n0 h0 ws S0 V' h' cells' slots' (mkF m pc' L (v.toList ++ rest)) ∧ Keep h h' ws' ∧ Q v h' V' ∧ ∀ x, x < h.size → Safe Z EL V h x → Safe Z EL V' h' x := by
  subst hp
  have hml := W.1.2.2.1
  have hEL := W.el
  have H := W.chv
  refine W.called (G := fun v => mkF m (pc + 3) L (v.toList ++ rest)) hq hc hs fun T locs X eT hx hby hZ hown => ?_
  obtain ⟨cB, kB, q1, q2, q3⟩ := isOf hZ eT E
  exact X.virtualBackUpS hx (x := y) (y := z) hown (mvT hZ w1) (mvT hZ wsm) (mvT hZ wd) how (mvT hZ ws1) (mvT hZ w2) (con.back hZ w4 w3 hf hl hEL H hsf) q1 q3 (g := mkF m pc L stk) rfl (hL.trans hml.symm) (Steps.refl _) (argsL := argsL) (rest := rest) hlen hstk (by subst hW; show 2 * 0 + _ ≤ _; exact Nat.le_of_eq (Nat.zero_add _)) (hb hby hd) (fun _ _ => ⟨rfl, eT, by rw [← hc] at hc'; exact hc', by rw [← hs] at hs'; exact hs'⟩)
end Calls

/-- 'ldc' of a String constant of EL, its text read -/
theorem Wk.ldcT {index : Nat} {text : String} {vs : List Value} {z : Int32} {n cells' slots' : Nat} (W : Wk p l e R s m args below meth c bytes mxl rt Z a0 EL own n0 h0 ws S0 V h cells slots (mkF m pc L st)) (hd : decode bytes pc = .ok (.ldc index, 2)) (w : (Jvm.Cond.stringLink own index text).before a0 Z = true) (wS : ∀ a ∈ Bundle.stringAtoms, a.before a0 Z = true) (hmem : (own, index) ∈ EL) (ht : (∀ c ∈ text.toList, c.toNat < 256) ∧ text.toList.map (fun c => Value.int (Jvm.Lit.byteI c.toNat.toUInt16)) = vs) (hz : ¬ z < 0) (hl : z.toNatClampNeg = vs.length) (hn : 4 * text.toList.length ≤ n) (hbig : n ≤ 536870912) (hp : pc + 2 = pc') (hc : cells + 2 = cells') (hs : slots + (n + 4) = slots') (hc' : cells' ≤ R.cells) (hs' : slots' ≤ R.slots) :
    ∃ V' h' a b k, Wk p l e R s m args below meth c bytes mxl rt Z a0 EL own n0 h0 ws S0 V' h' cells' slots' (mkF m pc' L (.ref a :: st)) ∧ Ext h h' ∧ Exa Z h' a "java/lang/String" ∧ Fld Z h' a "java/lang/String" "coder" "B" (.int 0) ∧ Fld Z h' a "java/lang/String" "value" "[B" (.ref b) ∧ Arv Z h' b k .byte z vs (.int 0) ∧ Lit (s.setVm V') own index a ∧ (∀ x, Safe Z EL V' h' x → x ≠ a ∧ x ≠ b) ∧ ∀ x, x < h.size → Safe Z EL V h x → Safe Z EL V' h' x := by
  subst hp hc hs
  obtain ⟨a1, b, T, locs, X, eT, N, k⟩ := W
  obtain ⟨k0, hS, hk⟩ := b.2.2.1
  obtain ⟨a, T', h', k1, bb, kk, X', eT', E, hS', hk', hZ', hown', A1, A2, A3, A4, -, -, hC, hL, hne, stp⟩ := ldcCH X a1.1 b.1 b.2.1 w wS eT hS hk a1.2.2.2.2.2.1 hmem b.2.2.2.2.1.1 ht hz hl (g := mkF m pc L st) rfl (hb a1.2.1 hd) hn hbig hc' hs'
  exact ⟨T'.vm, h', a, bb, kk, ⟨a1, ⟨hZ', hown', ⟨k1, hS', hk'⟩, b.2.2.2.1.ext E, b.2.2.2.2.1.trans hC, b.2.2.2.2.2.ext E⟩, T', locs, X', eT', N, fun t q => k t (stp t q)⟩, E, A1, A2, A3, A4, hL, hne, fun x hx sx => hC.safe hx sx⟩
/-- 'ldc' of any String constant, handed on unread -/
theorem Wk.ldcO {index : Nat} {text : String} {n cells' slots' : Nat} (W : Wk p l e R s m args below meth c bytes mxl rt Z a0 EL own n0 h0 ws S0 V h cells slots (mkF m pc L st)) (hd : decode bytes pc = .ok (.ldc index, 2)) (w : (Jvm.Cond.stringLink own index text).before a0 Z = true) (wS : ∀ a ∈ Bundle.stringAtoms, a.before a0 Z = true) (hn : 4 * text.toList.length ≤ n) (hbig : n ≤ 536870912) (hp : pc + 2 = pc') (hc : cells + 2 = cells') (hs : slots + (n + 4) = slots') (hc' : cells' ≤ R.cells) (hs' : slots' ≤ R.slots) :
    ∃ V' h' a, Wk p l e R s m args below meth c bytes mxl rt Z a0 EL own n0 h0 ws S0 V' h' cells' slots' (mkF m pc' L (.ref a :: st)) ∧ Ext h h' ∧ Lit (s.setVm V') own index a ∧ ∀ x, x < h.size → Safe Z EL V h x → Safe Z EL V' h' x := by
  subst hp hc hs
  obtain ⟨a1, b, T, locs, X, eT, N, k⟩ := W
  obtain ⟨k0, hS, hk⟩ := b.2.2.1
  obtain ⟨a, T', h', k1, X', eT', E, hS', hk', hZ', hown', hC, hL, stp⟩ := ldcOH X a1.1 b.1 b.2.1 w wS eT hS hk a1.2.2.2.2.2.1 b.2.2.2.2.1.1 (g := mkF m pc L st) rfl (hb a1.2.1 hd) hn hbig hc' hs'
  exact ⟨T'.vm, h', a, ⟨a1, ⟨hZ', hown', ⟨k1, hS', hk'⟩, b.2.2.2.1.ext E, b.2.2.2.2.1.trans hC, b.2.2.2.2.2.ext E⟩, T', locs, X', eT', N, fun t q => k t (stp t q)⟩, E, hL, fun x hx sx => hC.safe hx sx⟩
/-- the same entry again, the tables' base being the same -/
theorem Wk.ldcA {index : Nat} {text : String} {a : Addr} (W : Wk p l e R s m args below meth c bytes mxl rt Z a0 EL own n0 h0 ws S0 V h cells slots (mkF m pc L st)) (hd : decode bytes pc = .ok (.ldc index, 2)) (w : (Jvm.Cond.stringLink own index text).before a0 Z = true) (hL : Lit (s.setVm V) own index a) (hp : pc + 2 = pc') : Wk p l e R s m args below meth c bytes mxl rt Z a0 EL own n0 h0 ws S0 V h cells slots (mkF m pc' L (.ref a :: st)) := by
  subst hp
  exact W.reads fun T locs X eT hx hby hZ hown => ⟨T, X, eT, ldcAgain X hx hZ hown w hL (g := mkF m pc L st) rfl (hb hby hd)⟩
/-- a String whose value is not yet set is no constant's -/
theorem safeNull {V : Vm} {a : Addr} (hal : Z.vm.Alike V) (E : Exa Z h a "java/lang/String") (F : Fld Z h a "java/lang/String" "value" "[B" .null) : Safe Z EL V h a := fun B => by
  obtain ⟨cell, cf, k, i, f, h1, h2, h3, h4, h5, h6, h7⟩ := F
  obtain ⟨p, -, u, b, -, q, -, G, e1 | e1⟩ := B
  · subst e1
    cases (show h[q.sa]? = some q.sC from G.ha).symm.trans h1
    obtain ⟨cS, ⟨⟨-, -, -, ⟨c1, k1, i1, f1, -⟩, -, -, -, v1, -⟩, -⟩, -⟩ := G
    obtain ⟨k', f2, -⟩ := State.fieldFound?_setVm (s := Z) hal h2
    have f2' : (Wst Z V h).fieldFound? "java/lang/String" "value" "[B" = some (cf, k', i, f) := f2
    have e4 := f2'.symm.trans f1
    simp only [Option.some.injEq, Prod.mk.injEq] at e4
    rw [e4.2.2.2, v1] at h7
    cases h7
  · subst e1
    obtain ⟨cell2, k2, e1, e2, -⟩ := E
    cases (show h[q.sd]? = some q.SA from G.hd).symm.trans e1
    obtain ⟨cS, -, -, f1, -⟩ := G
    have f1 : V.findClass "[B" = some q.SA.cls := f1
    rw [hal.findClass] at f1
    obtain ⟨k3, q1, q2⟩ := Vm.findClass_spec f1
    obtain ⟨k4, q3, q4⟩ := Vm.findClass_spec e2
    cases q1.symm.trans q3
    exact absurd (q2.symm.trans q4) (by decide)
end Layer
theorem safe0 {Z : State} {h : Heap} {V : Vm} {a : Addr} : Safe Z [] V h a := fun B => by obtain ⟨p, hp, -⟩ := B; cases hp


theorem own_small {c : Int32} (h0 : ¬ c < 0) (h1 : ¬ (255 : Int32) < c) : ∃ k : Fin 256, c = Int32.ofNat k.val := by
  rw [Int32.lt_iff_toInt_lt] at h0 h1
  have e1 : (255 : Int32).toInt = 255 := rfl
  have e0 : (0 : Int32).toInt = 0 := rfl
  refine ⟨⟨c.toInt.toNat, by omega⟩, ?_⟩
  apply Int32.toInt_inj.mp
  show c.toInt = (Int32.ofNat c.toInt.toNat).toInt
  rw [Int32.toInt_ofNat_of_lt (by omega)]
  omega
theorem own_narb (x : Int32) : nar .byte (x.toInt8.toInt32) = x.toInt8.toInt32 := by
  show (x.toInt8.toInt32).toInt8.toInt32 = x.toInt8.toInt32
  simp
theorem own_narc {c : Int32} (h : ¬ c < 0 ∧ ¬ (65535 : Int32) < c) : nar .char c = c := by
  show c.toUInt32.toUInt16.toUInt32.toInt32 = c
  have h0 := h.1
  have h1 := h.2
  rw [Int32.lt_iff_toInt_lt] at h0 h1
  have e1 : (65535 : Int32).toInt = 65535 := rfl
  have e0 : (0 : Int32).toInt = 0 := rfl
  obtain ⟨q1, q2, q3⟩ := c_i2c c
  apply Int32.toInt_inj.mp
  omega
theorem own_up {c : Int32} (h : ¬ c < 0 ∧ ¬ (255 : Int32) < c) : ¬ c < 0 ∧ ¬ (65535 : Int32) < c := by
  refine ⟨h.1, fun q => h.2 ?_⟩
  rw [Int32.lt_iff_toInt_lt] at q ⊢
  have e1 : (65535 : Int32).toInt = 65535 := rfl
  have e0 : (255 : Int32).toInt = 255 := rfl
  omega
theorem own_narrow_char {c : Int32} (h : ¬ c < 0 ∧ ¬ (65535 : Int32) < c) : narrow .char (.int c) = .int c := congrArg Value.int (own_narc h)
theorem own_and255 (x : Int32) : ¬ (x &&& (255 : Int32)) < 0 ∧ ¬ (255 : Int32) < (x &&& (255 : Int32)) := by
  obtain ⟨q1, q2⟩ := c_and x 255 (by decide)
  rw [Int32.lt_iff_toInt_lt, Int32.lt_iff_toInt_lt]
  have e1 : (255 : Int32).toInt = 255 := rfl
  have e0 : (0 : Int32).toInt = 0 := rfl
  omega
theorem own_fits_ref {t : FieldType} {v : Value} (h : v.isRef = true) (ht : t.isReference = true) : fits t v = true := by
  rcases ref_cases h with rfl | ⟨a, rfl⟩ <;> cases t <;> simp_all [fits, FieldType.isReference]
theorem own_nar_ref {t : FieldType} {v : Value} (h : v.isRef = true) (ht : t.isReference = true) : narrow t v = v := by
  rcases ref_cases h with rfl | ⟨a, rfl⟩ <;> cases t <;> simp_all [narrow, FieldType.isReference]

def lst (n : Nat) (g : Nat → Int32) : List Value := (List.range n).map fun i => Value.int (g i)
def zf : Nat → Int32 := fun _ => 0
def upd (g : Nat → Int32) (i : Nat) (v : Int32) : Nat → Int32 := fun j => if j = i then v else g j
def gl (L : List Int32) : Nat → Int32 := fun i => L.getD i 0
theorem own_lst_set (n : Nat) (g : Nat → Int32) (i : Nat) (v : Int32) : (lst n g).set i (.int v) = lst n (upd g i v) := by
  refine List.ext_getElem (by simp [lst]) fun j h1 h2 => ?_
  simp only [lst, upd, List.getElem_set, List.getElem_map, List.getElem_range]
  by_cases q : i = j
  · subst q; simp
  · have q' : ¬ j = i := fun z => q z.symm
    simp [q, q']
theorem own_lst_get {n i : Nat} {g : Nat → Int32} {dv : Value} (h : i < n) : (lst n g).getD i dv = .int (g i) := by
  simp [lst, List.getD, h]
theorem own_lst_len (n : Nat) (g : Nat → Int32) : (lst n g).length = n := by simp [lst]
theorem own_lst_z (n i : Nat) : (lst n zf).getD i (.int (0 : Int32)) = ([] : List Value).getD i (.int (0 : Int32)) := by
  by_cases h : i < n
  · rw [own_lst_get h]; rfl
  · simp [lst, List.getD, h]
theorem own_lst0 {Z : State} {h : Heap} {a : Addr} {k : ClassId} {ty : FieldType} {z : Int32} {n : Nat} (A : Arv Z h a k ty z [] (.int (0 : Int32))) : Arv Z h a k ty z (lst n zf) (.int (0 : Int32)) := A.pad (own_lst_z n)
theorem own_cg {Z : State} {h : Heap} {a : Addr} {k : ClassId} {ty : FieldType} {z : Int32} {n : Nat} {g g' : Nat → Int32} {dv : Value} (A : Arv Z h a k ty z (lst n g) dv) (q : ∀ i, i < n → g i = g' i) : Arv Z h a k ty z (lst n g') dv := by
  have e : lst n g = lst n g' := List.map_congr_left fun i hi => by rw [q i (List.mem_range.mp hi)]
  rw [← e]; exact A
theorem own_irr (x : Int32) : ¬ x < x := by rw [Int32.lt_iff_toInt_lt]; omega
theorem own_toInt {X : Nat} (h : X < 2147483648) : (Int32.ofNat X).toInt = X := Int32.toInt_ofNat_of_lt (by omega)
theorem own_lt {X Y : Nat} (hX : X < 2147483648) (hY : Y < 2147483648) (h : X < Y) : Int32.ofNat X < Int32.ofNat Y := by
  rw [Int32.lt_iff_toInt_lt, own_toInt hX, own_toInt hY]; omega
theorem own_nlt {X Y : Nat} (hX : X < 2147483648) (hY : Y < 2147483648) (h : Y ≤ X) : ¬ Int32.ofNat X < Int32.ofNat Y := by
  rw [Int32.lt_iff_toInt_lt, own_toInt hX, own_toInt hY]; omega
theorem own_ofNat_inj {X Y : Nat} (hX : X < 2147483648) (hY : Y < 2147483648) (h : Int32.ofNat X = Int32.ofNat Y) : X = Y := by
  have q := congrArg Int32.toInt h
  rw [own_toInt hX, own_toInt hY] at q; omega
theorem own_ne {X Y : Nat} (hX : X < 2147483648) (hY : Y < 2147483648) (h : ¬ X = Y) : ¬ Int32.ofNat X = Int32.ofNat Y := fun q => h (own_ofNat_inj hX hY q)
theorem own_nn {X : Nat} (hX : X < 2147483648) : ¬ Int32.ofNat X < (0 : Int32) := own_nlt (Y := 0) hX (by omega) (by omega)
theorem own_add1 (X : Nat) : Int32.ofNat X + (1 : Int32) = Int32.ofNat (X + 1) := by rw [Int32.ofNat_add]; rfl
theorem own_clamp {X : Nat} (h : X < 2147483648) : (Int32.ofNat X).toNatClampNeg = X := by
  show (Int32.ofNat X).toInt.toNat = X
  rw [own_toInt h]; omega
theorem own_shr0 (c : Int32) : (c >>> ((0 : Int32) &&& 31)) = c := by
  apply Int32.toInt_inj.mp
  rw [c_ishr c 0 0 (by decide)]
  simp
theorem own_subself (c : Int32) : c - c = (0 : Int32) := by simp
/-- a name's char -/
def NCh (c : Int32) : Prop := (¬ c < 97 ∧ ¬ (122 : Int32) < c) ∨ (¬ c < 65 ∧ ¬ (90 : Int32) < c) ∨ (¬ c < 48 ∧ ¬ (57 : Int32) < c) ∨ c = 95 ∨ c = 45 ∨ c = 46
instance (c : Int32) : Decidable (NCh c) := by unfold NCh; infer_instance
theorem nch_rng {c : Int32} (h : NCh c) : ∃ k : Fin 128, c = Int32.ofNat k.val := by
  have q : 0 ≤ c.toInt ∧ c.toInt < 128 := by
    unfold NCh at h
    simp only [Int32.lt_iff_toInt_lt] at h
    have e1 : (97 : Int32).toInt = 97 := rfl
    have e2 : (122 : Int32).toInt = 122 := rfl
    have e3 : (65 : Int32).toInt = 65 := rfl
    have e4 : (90 : Int32).toInt = 90 := rfl
    have e5 : (48 : Int32).toInt = 48 := rfl
    have e6 : (57 : Int32).toInt = 57 := rfl
    rcases h with h | h | h | rfl | rfl | rfl
    · omega
    · omega
    · omega
    · decide
    · decide
    · decide
  refine ⟨⟨c.toInt.toNat, by omega⟩, ?_⟩
  apply Int32.toInt_inj.mp
  show c.toInt = (Int32.ofNat c.toInt.toNat).toInt
  rw [Int32.toInt_ofNat_of_lt (by omega)]
  omega
theorem nch_255 {c : Int32} (h : NCh c) : ¬ (255 : Int32) < c := by obtain ⟨k, rfl⟩ := nch_rng h; revert k; decide +kernel
theorem nch_i2b {c : Int32} (h : NCh c) : c.toInt8.toInt32 = c := by obtain ⟨k, rfl⟩ := nch_rng h; clear h; revert k; decide +kernel
theorem nch_narb {c : Int32} (h : NCh c) : nar .byte c = c := nch_i2b h
theorem nch_i2c {c : Int32} (h : NCh c) : c.toUInt32.toUInt16.toUInt32.toInt32 = c := by obtain ⟨k, rfl⟩ := nch_rng h; clear h; revert k; decide +kernel
theorem nch_narc {c : Int32} (h : NCh c) : nar .char c = c := nch_i2c h
theorem nch_nchar {c : Int32} (h : NCh c) : narrow .char (.int c) = .int c := congrArg Value.int (nch_i2c h)
theorem nch_and {c : Int32} (h : NCh c) : c &&& (255 : Int32) = c := by obtain ⟨k, rfl⟩ := nch_rng h; clear h; revert k; decide +kernel
def pf (g : Nat → Int32) (t : Nat) : Nat → Int32 := fun i => if i < t then g i else 0
theorem own_pf0 {g : Nat → Int32} {N : Nat} : ∀ i, i < N → upd zf 0 (g 0) i = pf g 1 i := fun i _ => by
  unfold upd zf pf
  by_cases q : i = 0
  · subst q; simp
  · rw [if_neg q, if_neg (by omega)]
theorem own_pfS {g : Nat → Int32} {N t : Nat} : ∀ i, i < N → upd (pf g t) t (g t) i = pf g (t + 1) i := fun i _ => by
  unfold upd pf
  by_cases q : i = t
  · subst q; simp
  · rw [if_neg q]
    by_cases q2 : i < t
    · rw [if_pos q2, if_pos (by omega)]
    · rw [if_neg q2, if_neg (by omega)]
theorem own_pfN {g : Nat → Int32} {N : Nat} : ∀ i, i < N → pf g N i = g i := fun i h => if_pos h
def lowf (c : Int32) : Int32 := if c < 65 then c else if (90 : Int32) < c then c else c + 32
def hf (g : Nat → Int32) : Nat → Int32
  | 0 => 0
  | t + 1 => (31 : Int32) * hf g t + lowf (g t)
theorem own_addsub (a b : Int32) : a + b - a = b := by
  rw [Int32.add_comm, Int32.add_sub_cancel]
theorem own_div {X m : Nat} (hX : X < 2147483648) (hm : 0 < m) (hm' : m < 2147483648) : Int32.ofNat X / Int32.ofNat m = Int32.ofNat (X / m) := by
  apply Int32.toInt_inj.mp
  have hq : X / m ≤ X := Nat.div_le_self _ _
  rw [Int32.toInt_div, own_toInt hX, own_toInt hm', own_toInt (by omega)]
  have e : ((X : Int).tdiv (m : Int)) = ((X / m : Nat) : Int) := by
    rw [Int.tdiv_eq_ediv_of_nonneg (by omega)]; rfl
  rw [e]
  have h1 : ((X / m : Nat) : Int) ≤ X := by exact_mod_cast hq
  have h2 : (0 : Int) ≤ ((X / m : Nat) : Int) := Int.natCast_nonneg _
  generalize ((X / m : Nat) : Int) = y at *
  rw [Int.bmod_eq_of_le (by omega) (by omega)]
theorem own_masked (a : Int32) : ∃ X : Nat, X < 2147483648 ∧ (a &&& (2147483647 : Int32)) = Int32.ofNat X := by
  obtain ⟨q1, q2⟩ := c_and a 2147483647 (by decide)
  have e1 : (2147483647 : Int32).toInt = 2147483647 := rfl
  refine ⟨(a &&& 2147483647).toInt.toNat, by omega, ?_⟩
  apply Int32.toInt_inj.mp
  rw [own_toInt (by omega)]
  omega
theorem own_rem {a : Int32} {m : Nat} (hm : 0 < m) (hm' : m < 2147483648) : ∃ r : Nat, r < m ∧ (a &&& (2147483647 : Int32)) - (a &&& (2147483647 : Int32)) / Int32.ofNat m * Int32.ofNat m = Int32.ofNat r := by
  obtain ⟨X, hX, eX⟩ := own_masked a
  rw [eX]
  refine ⟨X % m, Nat.mod_lt _ hm, ?_⟩
  rw [own_div hX hm hm', ← Int32.ofNat_mul]
  have hs : X = X / m * m + X % m := by rw [Nat.mul_comm]; exact (Nat.div_add_mod X m).symm
  have e2 : Int32.ofNat X = Int32.ofNat (X / m * m) + Int32.ofNat (X % m) := by rw [← Int32.ofNat_add, ← hs]
  rw [e2, own_addsub]

theorem own_rem65 (a : Int32) : ∃ i : Fin 65, ((a &&& (2147483647 : Int32)) - ((a &&& (2147483647 : Int32)) / (65 : Int32)) * (65 : Int32)) = Int32.ofNat i.val := by
  obtain ⟨r, hr, e⟩ := own_rem (a := a) (m := 65) (by omega) (by omega)
  exact ⟨⟨r, hr⟩, e⟩
theorem pick_1 : ∀ i : Fin 65, (Int32.ofNat i.val) < (26 : Int32) → NCh (((97 : Int32) + (Int32.ofNat i.val)).toUInt32.toUInt16.toUInt32.toInt32) := by decide +kernel
theorem pick_2 : ∀ i : Fin 65, ¬ (Int32.ofNat i.val) < (26 : Int32) → (Int32.ofNat i.val) < (52 : Int32) → NCh (((65 : Int32) + ((Int32.ofNat i.val) - (26 : Int32))).toUInt32.toUInt16.toUInt32.toInt32) := by decide +kernel
theorem pick_3 : ∀ i : Fin 65, ¬ (Int32.ofNat i.val) < (52 : Int32) → (Int32.ofNat i.val) < (62 : Int32) → NCh (((48 : Int32) + ((Int32.ofNat i.val) - (52 : Int32))).toUInt32.toUInt16.toUInt32.toInt32) := by decide +kernel
theorem own_h1 (c0 : Int32) : hf (gl [c0]) 1 = lowf c0 := by
  show (31 : Int32) * 0 + lowf c0 = _
  simp
theorem own_h2 (c0 c1 : Int32) : hf (gl [c0, c1]) 2 = (lowf c0 * (31 : Int32)) + lowf c1 := by
  show (31 : Int32) * (31 * 0 + lowf c0) + lowf c1 = _
  generalize lowf c0 = l0; generalize lowf c1 = l1
  grind
theorem own_h3 (c0 c1 c2 : Int32) : hf (gl [c0, c1, c2]) 3 = ((lowf c0 * (31 : Int32)) + lowf c1) * (31 : Int32) + lowf c2 := by
  show (31 : Int32) * (31 * (31 * 0 + lowf c0) + lowf c1) + lowf c2 = _
  generalize lowf c0 = l0; generalize lowf c1 = l1; generalize lowf c2 = l2
  grind
theorem own_q4 (h l0 l1 l2 l3 : Int32) : (31 : Int32) * (31 * (31 * (31 * h + l0) + l1) + l2) + l3 = 923521 * h + ((((l0 * 31 + l1) * 31) + l2) * 31 + l3) := by grind
theorem own_h4 (c0 c1 c2 c3 : Int32) : hf (gl [c0, c1, c2, c3]) 4 = (((lowf c0 * (31 : Int32)) + lowf c1) * (31 : Int32) + lowf c2) * (31 : Int32) + lowf c3 := by
  show (31 : Int32) * (31 * (31 * (31 * 0 + lowf c0) + lowf c1) + lowf c2) + lowf c3 = _
  rw [own_q4]; simp
def AllN (L : List Int32) : Prop := ∀ x ∈ L, NCh x
theorem own_all0 : AllN [] := fun _ h => by cases h
theorem own_allS {x : Int32} {L : List Int32} (h : NCh x) (q : AllN L) : AllN (x :: L) := fun y hy => by
  rcases List.mem_cons.mp hy with rfl | h'
  · exact h
  · exact q y h'
theorem own_gl {L : List Int32} (h : AllN L) : ∀ i, i < L.length → NCh (gl L i) := fun i hi => by
  have e : gl L i = L[i] := by simp [gl, List.getD, hi]
  rw [e]; exact h _ (List.getElem_mem hi)
theorem own_step (q S : Int32) : 923521 * (q * S) + q = q * (923521 * S + 1) := by grind
theorem own_h32 (c0 c1 c2 c3 : Int32) : hf (gl [c0, c1, c2, c3, c0, c1, c2, c3, c0, c1, c2, c3, c0, c1, c2, c3, c0, c1, c2, c3, c0, c1, c2, c3, c0, c1, c2, c3, c0, c1, c2, c3]) 32 = ((((lowf c0 * (31 : Int32)) + lowf c1) * (31 : Int32) + lowf c2) * (31 : Int32) + lowf c3) * (-1919380984 : Int32) := by
  have s4 : ∀ t, gl [c0, c1, c2, c3, c0, c1, c2, c3, c0, c1, c2, c3, c0, c1, c2, c3, c0, c1, c2, c3, c0, c1, c2, c3, c0, c1, c2, c3, c0, c1, c2, c3] t = c0 → gl [c0, c1, c2, c3, c0, c1, c2, c3, c0, c1, c2, c3, c0, c1, c2, c3, c0, c1, c2, c3, c0, c1, c2, c3, c0, c1, c2, c3, c0, c1, c2, c3] (t + 1) = c1 → gl [c0, c1, c2, c3, c0, c1, c2, c3, c0, c1, c2, c3, c0, c1, c2, c3, c0, c1, c2, c3, c0, c1, c2, c3, c0, c1, c2, c3, c0, c1, c2, c3] (t + 2) = c2 → gl [c0, c1, c2, c3, c0, c1, c2, c3, c0, c1, c2, c3, c0, c1, c2, c3, c0, c1, c2, c3, c0, c1, c2, c3, c0, c1, c2, c3, c0, c1, c2, c3] (t + 3) = c3 → hf (gl [c0, c1, c2, c3, c0, c1, c2, c3, c0, c1, c2, c3, c0, c1, c2, c3, c0, c1, c2, c3, c0, c1, c2, c3, c0, c1, c2, c3, c0, c1, c2, c3]) (t + 4) = 923521 * hf (gl [c0, c1, c2, c3, c0, c1, c2, c3, c0, c1, c2, c3, c0, c1, c2, c3, c0, c1, c2, c3, c0, c1, c2, c3, c0, c1, c2, c3, c0, c1, c2, c3]) t + ((((lowf c0 * 31 + lowf c1) * 31) + lowf c2) * 31 + lowf c3) := by
    intro t h0 h1 h2 h3
    show (31 : Int32) * (31 * (31 * (31 * hf (gl [c0, c1, c2, c3, c0, c1, c2, c3, c0, c1, c2, c3, c0, c1, c2, c3, c0, c1, c2, c3, c0, c1, c2, c3, c0, c1, c2, c3, c0, c1, c2, c3]) t + lowf (gl [c0, c1, c2, c3, c0, c1, c2, c3, c0, c1, c2, c3, c0, c1, c2, c3, c0, c1, c2, c3, c0, c1, c2, c3, c0, c1, c2, c3, c0, c1, c2, c3] t)) + lowf (gl [c0, c1, c2, c3, c0, c1, c2, c3, c0, c1, c2, c3, c0, c1, c2, c3, c0, c1, c2, c3, c0, c1, c2, c3, c0, c1, c2, c3, c0, c1, c2, c3] (t + 1))) + lowf (gl [c0, c1, c2, c3, c0, c1, c2, c3, c0, c1, c2, c3, c0, c1, c2, c3, c0, c1, c2, c3, c0, c1, c2, c3, c0, c1, c2, c3, c0, c1, c2, c3] (t + 2))) + lowf (gl [c0, c1, c2, c3, c0, c1, c2, c3, c0, c1, c2, c3, c0, c1, c2, c3, c0, c1, c2, c3, c0, c1, c2, c3, c0, c1, c2, c3, c0, c1, c2, c3] (t + 3)) = _
    rw [h0, h1, h2, h3, own_q4]
  generalize ((((lowf c0 * (31 : Int32)) + lowf c1) * (31 : Int32)) + lowf c2) * (31 : Int32) + lowf c3 = q at s4 ⊢
  have e4 : hf (gl [c0, c1, c2, c3, c0, c1, c2, c3, c0, c1, c2, c3, c0, c1, c2, c3, c0, c1, c2, c3, c0, c1, c2, c3, c0, c1, c2, c3, c0, c1, c2, c3]) 4 = q * (1 : Int32) := by rw [s4 0 rfl rfl rfl rfl]; show 923521 * (0 : Int32) + q = _; simp
  have e8 : hf (gl [c0, c1, c2, c3, c0, c1, c2, c3, c0, c1, c2, c3, c0, c1, c2, c3, c0, c1, c2, c3, c0, c1, c2, c3, c0, c1, c2, c3, c0, c1, c2, c3]) 8 = q * (923522 : Int32) := by rw [s4 4 rfl rfl rfl rfl, e4, own_step]; rfl
  have e12 : hf (gl [c0, c1, c2, c3, c0, c1, c2, c3, c0, c1, c2, c3, c0, c1, c2, c3, c0, c1, c2, c3, c0, c1, c2, c3, c0, c1, c2, c3, c0, c1, c2, c3]) 12 = q * (-1806530941 : Int32) := by rw [s4 8 rfl rfl rfl rfl, e8, own_step]; rfl
  have e16 : hf (gl [c0, c1, c2, c3, c0, c1, c2, c3, c0, c1, c2, c3, c0, c1, c2, c3, c0, c1, c2, c3, c0, c1, c2, c3, c0, c1, c2, c3, c0, c1, c2, c3]) 16 = q * (-2099933948 : Int32) := by rw [s4 12 rfl rfl rfl rfl, e12, own_step]; rfl
  have e20 : hf (gl [c0, c1, c2, c3, c0, c1, c2, c3, c0, c1, c2, c3, c0, c1, c2, c3, c0, c1, c2, c3, c0, c1, c2, c3, c0, c1, c2, c3, c0, c1, c2, c3]) 20 = q * (-746624251 : Int32) := by rw [s4 16 rfl rfl rfl rfl, e16, own_step]; rfl
  have e24 : hf (gl [c0, c1, c2, c3, c0, c1, c2, c3, c0, c1, c2, c3, c0, c1, c2, c3, c0, c1, c2, c3, c0, c1, c2, c3, c0, c1, c2, c3, c0, c1, c2, c3]) 24 = q * (-535273338 : Int32) := by rw [s4 20 rfl rfl rfl rfl, e20, own_step]; rfl
  have e28 : hf (gl [c0, c1, c2, c3, c0, c1, c2, c3, c0, c1, c2, c3, c0, c1, c2, c3, c0, c1, c2, c3, c0, c1, c2, c3, c0, c1, c2, c3, c0, c1, c2, c3]) 28 = q * (1682484615 : Int32) := by rw [s4 24 rfl rfl rfl rfl, e24, own_step]; rfl
  have e32 : hf (gl [c0, c1, c2, c3, c0, c1, c2, c3, c0, c1, c2, c3, c0, c1, c2, c3, c0, c1, c2, c3, c0, c1, c2, c3, c0, c1, c2, c3, c0, c1, c2, c3]) 32 = q * (-1919380984 : Int32) := by rw [s4 28 rfl rfl rfl rfl, e28, own_step]; rfl
  exact e32

theorem tw0 {Z : State} {a0 : Array Value} (hw : ∀ d ∈ tables_1, d.before a0 Z = true) : (Jvm.Cond.methodLink "com/example/letters_between_tasks/lettersbetweentasks/model/NameOfPinLaw" (8 : Nat) ({ cls := "com/example/letters_between_tasks/lettersbetweentasks/model/NameOfPinLaw", name := "pick", desc := "(I)C" } : Jvm.MethodName)).before a0 Z = true := hw _ (List.mem_of_getElem? (i := 0) rfl)
theorem tw1 {Z : State} {a0 : Array Value} (hw : ∀ d ∈ tables_1, d.before a0 Z = true) : (Jvm.Cond.static ({ cls := "com/example/letters_between_tasks/lettersbetweentasks/model/NameOfPinLaw", name := "pick", desc := "(I)C" } : Jvm.MethodName)).before a0 Z = true := hw _ (List.mem_of_getElem? (i := 1) rfl)
theorem tw2 {Z : State} {a0 : Array Value} (hw : ∀ d ∈ tables_1, d.before a0 Z = true) : (Jvm.Cond.initialized "com/example/letters_between_tasks/lettersbetweentasks/model/NameOfPinLaw").before a0 Z = true := hw _ (List.mem_of_getElem? (i := 2) rfl)
theorem tw3 {Z : State} {a0 : Array Value} (hw : ∀ d ∈ tables_1, d.before a0 Z = true) : (Jvm.Cond.code ({ cls := "com/example/letters_between_tasks/lettersbetweentasks/model/NameOfPinLaw", name := "pick", desc := "(I)C" } : Jvm.MethodName) method_2_code (2 : Nat) (Option.some Jvm.ClassFile.FieldType.char)).before a0 Z = true := hw _ (List.mem_of_getElem? (i := 3) rfl)
theorem tw4 {Z : State} {a0 : Array Value} (hw : ∀ d ∈ tables_1, d.before a0 Z = true) : (Jvm.Cond.constant "com/example/letters_between_tasks/lettersbetweentasks/model/NameOfPinLaw" (7 : Nat) (2147483647 : Int32)).before a0 Z = true := hw _ (List.mem_of_getElem? (i := 4) rfl)
theorem tw5 {Z : State} {a0 : Array Value} (hw : ∀ d ∈ tables_1, d.before a0 Z = true) : (Jvm.Cond.methodLink "com/example/letters_between_tasks/lettersbetweentasks/model/NameOfPinLaw" (14 : Nat) ({ cls := "com/example/letters_between_tasks/lettersbetweentasks/model/NameOfPinLaw", name := "low", desc := "(C)I" } : Jvm.MethodName)).before a0 Z = true := hw _ (List.mem_of_getElem? (i := 5) rfl)
theorem tw6 {Z : State} {a0 : Array Value} (hw : ∀ d ∈ tables_1, d.before a0 Z = true) : (Jvm.Cond.static ({ cls := "com/example/letters_between_tasks/lettersbetweentasks/model/NameOfPinLaw", name := "low", desc := "(C)I" } : Jvm.MethodName)).before a0 Z = true := hw _ (List.mem_of_getElem? (i := 6) rfl)
theorem tw7 {Z : State} {a0 : Array Value} (hw : ∀ d ∈ tables_1, d.before a0 Z = true) : (Jvm.Cond.code ({ cls := "com/example/letters_between_tasks/lettersbetweentasks/model/NameOfPinLaw", name := "low", desc := "(C)I" } : Jvm.MethodName) method_3_code (1 : Nat) (Option.some Jvm.ClassFile.FieldType.int)).before a0 Z = true := hw _ (List.mem_of_getElem? (i := 7) rfl)
theorem tw8 {Z : State} {a0 : Array Value} (hw : ∀ d ∈ tables_1, d.before a0 Z = true) : (Jvm.Cond.arrayClass Jvm.ClassFile.FieldType.char).before a0 Z = true := hw _ (List.mem_of_getElem? (i := 8) rfl)
theorem tw9 {Z : State} {a0 : Array Value} (hw : ∀ d ∈ tables_1, d.before a0 Z = true) : (Jvm.Cond.classLink "com/example/letters_between_tasks/lettersbetweentasks/model/NameOfPinLaw" (19 : Nat) "java/lang/String").before a0 Z = true := hw _ (List.mem_of_getElem? (i := 9) rfl)
theorem tw10 {Z : State} {a0 : Array Value} (hw : ∀ d ∈ tables_1, d.before a0 Z = true) : (Jvm.Cond.instantiable "java/lang/String" (4 : Nat)).before a0 Z = true := hw _ (List.mem_of_getElem? (i := 10) rfl)
theorem tw11 {Z : State} {a0 : Array Value} (hw : ∀ d ∈ tables_1, d.before a0 Z = true) : (Jvm.Cond.initialized "java/lang/String").before a0 Z = true := hw _ (List.mem_of_getElem? (i := 11) rfl)
theorem tw12 {Z : State} {a0 : Array Value} (hw : ∀ d ∈ tables_1, d.before a0 Z = true) : (Jvm.Cond.methodLink "com/example/letters_between_tasks/lettersbetweentasks/model/NameOfPinLaw" (21 : Nat) ({ cls := "java/lang/String", name := "<init>", desc := "([C)V" } : Jvm.MethodName)).before a0 Z = true := hw _ (List.mem_of_getElem? (i := 12) rfl)
theorem tw13 {Z : State} {a0 : Array Value} (hw : ∀ d ∈ tables_1, d.before a0 Z = true) : (Jvm.Cond.instanceMethod ({ cls := "java/lang/String", name := "<init>", desc := "([C)V" } : Jvm.MethodName)).before a0 Z = true := hw _ (List.mem_of_getElem? (i := 13) rfl)
theorem tw14 {Z : State} {a0 : Array Value} (hw : ∀ d ∈ tables_1, d.before a0 Z = true) : (Jvm.Cond.code ({ cls := "java/lang/String", name := "<init>", desc := "([C)V" } : Jvm.MethodName) jdk_42_method_3_code (2 : Nat) (Option.none : Option Jvm.ClassFile.FieldType)).before a0 Z = true := hw _ (List.mem_of_getElem? (i := 14) rfl)
theorem tw15 {Z : State} {a0 : Array Value} (hw : ∀ d ∈ tables_1, d.before a0 Z = true) : (Jvm.Cond.methodLink "java/lang/String" (27 : Nat) ({ cls := "java/lang/String", name := "<init>", desc := "([CIILjava/lang/Void;)V" } : Jvm.MethodName)).before a0 Z = true := hw _ (List.mem_of_getElem? (i := 15) rfl)
theorem tw16 {Z : State} {a0 : Array Value} (hw : ∀ d ∈ tables_1, d.before a0 Z = true) : (Jvm.Cond.instanceMethod ({ cls := "java/lang/String", name := "<init>", desc := "([CIILjava/lang/Void;)V" } : Jvm.MethodName)).before a0 Z = true := hw _ (List.mem_of_getElem? (i := 16) rfl)
theorem tw18 {Z : State} {a0 : Array Value} (hw : ∀ d ∈ tables_1, d.before a0 Z = true) : (Jvm.Cond.code ({ cls := "java/lang/String", name := "<init>", desc := "([CIILjava/lang/Void;)V" } : Jvm.MethodName) jdk_42_method_149_code (6 : Nat) (Option.none : Option Jvm.ClassFile.FieldType)).before a0 Z = true := hw _ (List.mem_of_getElem? (i := 18) rfl)
theorem tw19 {Z : State} {a0 : Array Value} (hw : ∀ d ∈ tables_1, d.before a0 Z = true) : (Jvm.Cond.methodLink "java/lang/String" (1 : Nat) ({ cls := "java/lang/Object", name := "<init>", desc := "()V" } : Jvm.MethodName)).before a0 Z = true := hw _ (List.mem_of_getElem? (i := 19) rfl)
theorem tw20 {Z : State} {a0 : Array Value} (hw : ∀ d ∈ tables_1, d.before a0 Z = true) : (Jvm.Cond.instanceMethod ({ cls := "java/lang/Object", name := "<init>", desc := "()V" } : Jvm.MethodName)).before a0 Z = true := hw _ (List.mem_of_getElem? (i := 20) rfl)
theorem tw21 {Z : State} {a0 : Array Value} (hw : ∀ d ∈ tables_1, d.before a0 Z = true) : (Jvm.Cond.code ({ cls := "java/lang/Object", name := "<init>", desc := "()V" } : Jvm.MethodName) object_method_1_code (1 : Nat) (Option.none : Option Jvm.ClassFile.FieldType)).before a0 Z = true := hw _ (List.mem_of_getElem? (i := 21) rfl)
theorem tw22 {Z : State} {a0 : Array Value} (hw : ∀ d ∈ tables_1, d.before a0 Z = true) : (Jvm.Cond.fieldLink "java/lang/String" (38 : Nat) "java/lang/String" "COMPACT_STRINGS" "Z").before a0 Z = true := hw _ (List.mem_of_getElem? (i := 22) rfl)
theorem tw23 {Z : State} {a0 : Array Value} (hw : ∀ d ∈ tables_1, d.before a0 Z = true) : (Jvm.Cond.methodLink "java/lang/String" (177 : Nat) ({ cls := "java/lang/StringUTF16", name := "compress", desc := "([CII)[B" } : Jvm.MethodName)).before a0 Z = true := hw _ (List.mem_of_getElem? (i := 23) rfl)
theorem tw24 {Z : State} {a0 : Array Value} (hw : ∀ d ∈ tables_1, d.before a0 Z = true) : (Jvm.Cond.static ({ cls := "java/lang/StringUTF16", name := "compress", desc := "([CII)[B" } : Jvm.MethodName)).before a0 Z = true := hw _ (List.mem_of_getElem? (i := 24) rfl)
theorem tw25 {Z : State} {a0 : Array Value} (hw : ∀ d ∈ tables_1, d.before a0 Z = true) : (Jvm.Cond.initialized "java/lang/StringUTF16").before a0 Z = true := hw _ (List.mem_of_getElem? (i := 25) rfl)
theorem tw26 {Z : State} {a0 : Array Value} (hw : ∀ d ∈ tables_1, d.before a0 Z = true) : (Jvm.Cond.code ({ cls := "java/lang/StringUTF16", name := "compress", desc := "([CII)[B" } : Jvm.MethodName) jdk_52_method_16_code (6 : Nat) (Option.some (Jvm.ClassFile.FieldType.array Jvm.ClassFile.FieldType.byte))).before a0 Z = true := hw _ (List.mem_of_getElem? (i := 26) rfl)
theorem tw27 {Z : State} {a0 : Array Value} (hw : ∀ d ∈ tables_1, d.before a0 Z = true) : (Jvm.Cond.arrayClass Jvm.ClassFile.FieldType.byte).before a0 Z = true := hw _ (List.mem_of_getElem? (i := 27) rfl)
theorem tw28 {Z : State} {a0 : Array Value} (hw : ∀ d ∈ tables_1, d.before a0 Z = true) : (Jvm.Cond.methodLink "java/lang/StringUTF16" (115 : Nat) ({ cls := "java/lang/StringUTF16", name := "compress", desc := "([CI[BII)I" } : Jvm.MethodName)).before a0 Z = true := hw _ (List.mem_of_getElem? (i := 28) rfl)
theorem tw29 {Z : State} {a0 : Array Value} (hw : ∀ d ∈ tables_1, d.before a0 Z = true) : (Jvm.Cond.static ({ cls := "java/lang/StringUTF16", name := "compress", desc := "([CI[BII)I" } : Jvm.MethodName)).before a0 Z = true := hw _ (List.mem_of_getElem? (i := 29) rfl)
theorem tw30 {Z : State} {a0 : Array Value} (hw : ∀ d ∈ tables_1, d.before a0 Z = true) : (Jvm.Cond.code ({ cls := "java/lang/StringUTF16", name := "compress", desc := "([CI[BII)I" } : Jvm.MethodName) jdk_52_method_21_code (7 : Nat) (Option.some Jvm.ClassFile.FieldType.int)).before a0 Z = true := hw _ (List.mem_of_getElem? (i := 30) rfl)
theorem tw31 {Z : State} {a0 : Array Value} (hw : ∀ d ∈ tables_1, d.before a0 Z = true) : (Jvm.Cond.methodLink "java/lang/String" (47 : Nat) ({ cls := "java/lang/StringUTF16", name := "coderFromArrayLen", desc := "([BI)B" } : Jvm.MethodName)).before a0 Z = true := hw _ (List.mem_of_getElem? (i := 31) rfl)
theorem tw32 {Z : State} {a0 : Array Value} (hw : ∀ d ∈ tables_1, d.before a0 Z = true) : (Jvm.Cond.static ({ cls := "java/lang/StringUTF16", name := "coderFromArrayLen", desc := "([BI)B" } : Jvm.MethodName)).before a0 Z = true := hw _ (List.mem_of_getElem? (i := 32) rfl)
theorem tw33 {Z : State} {a0 : Array Value} (hw : ∀ d ∈ tables_1, d.before a0 Z = true) : (Jvm.Cond.code ({ cls := "java/lang/StringUTF16", name := "coderFromArrayLen", desc := "([BI)B" } : Jvm.MethodName) jdk_52_method_15_code (2 : Nat) (Option.some Jvm.ClassFile.FieldType.byte)).before a0 Z = true := hw _ (List.mem_of_getElem? (i := 33) rfl)
theorem tw34 {Z : State} {a0 : Array Value} (hw : ∀ d ∈ tables_1, d.before a0 Z = true) : (Jvm.Cond.fieldLink "java/lang/String" (15 : Nat) "java/lang/String" "coder" "B").before a0 Z = true := hw _ (List.mem_of_getElem? (i := 34) rfl)
theorem tw35 {Z : State} {a0 : Array Value} (hw : ∀ d ∈ tables_1, d.before a0 Z = true) : (Jvm.Cond.laysFinal "java/lang/String" "java/lang/String" "coder" "B").before a0 Z = true := hw _ (List.mem_of_getElem? (i := 35) rfl)
theorem tw36 {Z : State} {a0 : Array Value} (hw : ∀ d ∈ tables_1, d.before a0 Z = true) : (Jvm.Cond.fieldLink "java/lang/String" (9 : Nat) "java/lang/String" "value" "[B").before a0 Z = true := hw _ (List.mem_of_getElem? (i := 36) rfl)
theorem tw37 {Z : State} {a0 : Array Value} (hw : ∀ d ∈ tables_1, d.before a0 Z = true) : (Jvm.Cond.laysFinal "java/lang/String" "java/lang/String" "value" "[B").before a0 Z = true := hw _ (List.mem_of_getElem? (i := 37) rfl)
theorem tw38 {Z : State} {a0 : Array Value} (hw : ∀ d ∈ tables_1, d.before a0 Z = true) : (Jvm.Cond.methodLink "com/example/letters_between_tasks/lettersbetweentasks/model/NameOfPinLaw" (24 : Nat) ({ cls := "com/example/letters_between_tasks/lettersbetweentasks/model/Name", name := "of", desc := "(Ljava/lang/String;)Lcom/example/letters_between_tasks/lettersbetweentasks/model/Name;" } : Jvm.MethodName)).before a0 Z = true := hw _ (List.mem_of_getElem? (i := 38) rfl)
theorem tw39 {Z : State} {a0 : Array Value} (hw : ∀ d ∈ tables_1, d.before a0 Z = true) : (Jvm.Cond.static ({ cls := "com/example/letters_between_tasks/lettersbetweentasks/model/Name", name := "of", desc := "(Ljava/lang/String;)Lcom/example/letters_between_tasks/lettersbetweentasks/model/Name;" } : Jvm.MethodName)).before a0 Z = true := hw _ (List.mem_of_getElem? (i := 39) rfl)
theorem tw40 {Z : State} {a0 : Array Value} (hw : ∀ d ∈ tables_1, d.before a0 Z = true) : (Jvm.Cond.initialized "com/example/letters_between_tasks/lettersbetweentasks/model/Name").before a0 Z = true := hw _ (List.mem_of_getElem? (i := 40) rfl)
theorem tw41 {Z : State} {a0 : Array Value} (hw : ∀ d ∈ tables_1, d.before a0 Z = true) : (Jvm.Cond.code ({ cls := "com/example/letters_between_tasks/lettersbetweentasks/model/Name", name := "of", desc := "(Ljava/lang/String;)Lcom/example/letters_between_tasks/lettersbetweentasks/model/Name;" } : Jvm.MethodName) prog_12_method_2_code (4 : Nat) (Option.some (Jvm.ClassFile.FieldType.object "com/example/letters_between_tasks/lettersbetweentasks/model/Name"))).before a0 Z = true := hw _ (List.mem_of_getElem? (i := 41) rfl)
theorem tw42 {Z : State} {a0 : Array Value} (hw : ∀ d ∈ tables_1, d.before a0 Z = true) : (Jvm.Cond.stringLink "com/example/letters_between_tasks/lettersbetweentasks/model/Name" (17 : Nat) "text").before a0 Z = true := hw _ (List.mem_of_getElem? (i := 42) rfl)
theorem tw45 {Z : State} {a0 : Array Value} (hw : ∀ d ∈ tables_1, d.before a0 Z = true) : (Jvm.Cond.methodLink "com/example/letters_between_tasks/lettersbetweentasks/model/Name" (18 : Nat) ({ cls := "java/util/Objects", name := "requireNonNull", desc := "(Ljava/lang/Object;Ljava/lang/String;)Ljava/lang/Object;" } : Jvm.MethodName)).before a0 Z = true := hw _ (List.mem_of_getElem? (i := 45) rfl)
theorem tw46 {Z : State} {a0 : Array Value} (hw : ∀ d ∈ tables_1, d.before a0 Z = true) : (Jvm.Cond.static ({ cls := "java/util/Objects", name := "requireNonNull", desc := "(Ljava/lang/Object;Ljava/lang/String;)Ljava/lang/Object;" } : Jvm.MethodName)).before a0 Z = true := hw _ (List.mem_of_getElem? (i := 46) rfl)
theorem tw47 {Z : State} {a0 : Array Value} (hw : ∀ d ∈ tables_1, d.before a0 Z = true) : (Jvm.Cond.initialized "java/util/Objects").before a0 Z = true := hw _ (List.mem_of_getElem? (i := 47) rfl)
theorem tw48 {Z : State} {a0 : Array Value} (hw : ∀ d ∈ tables_1, d.before a0 Z = true) : (Jvm.Cond.code ({ cls := "java/util/Objects", name := "requireNonNull", desc := "(Ljava/lang/Object;Ljava/lang/String;)Ljava/lang/Object;" } : Jvm.MethodName) jdk_31_method_11_code (2 : Nat) (Option.some (Jvm.ClassFile.FieldType.object "java/lang/Object"))).before a0 Z = true := hw _ (List.mem_of_getElem? (i := 48) rfl)
theorem tw49 {Z : State} {a0 : Array Value} (hw : ∀ d ∈ tables_1, d.before a0 Z = true) : (Jvm.Cond.methodLink "com/example/letters_between_tasks/lettersbetweentasks/model/Name" (24 : Nat) ({ cls := "java/lang/String", name := "isEmpty", desc := "()Z" } : Jvm.MethodName)).before a0 Z = true := hw _ (List.mem_of_getElem? (i := 49) rfl)
theorem tw50 {Z : State} {a0 : Array Value} (hw : ∀ d ∈ tables_1, d.before a0 Z = true) : (Jvm.Cond.declares ({ cls := "java/lang/String", name := "isEmpty", desc := "()Z" } : Jvm.MethodName)).before a0 Z = true := hw _ (List.mem_of_getElem? (i := 50) rfl)
theorem tw51 {Z : State} {a0 : Array Value} (hw : ∀ d ∈ tables_1, d.before a0 Z = true) : (Jvm.Cond.instanceMethod ({ cls := "java/lang/String", name := "isEmpty", desc := "()Z" } : Jvm.MethodName)).before a0 Z = true := hw _ (List.mem_of_getElem? (i := 51) rfl)
theorem tw52 {Z : State} {a0 : Array Value} (hw : ∀ d ∈ tables_1, d.before a0 Z = true) : (Jvm.Cond.selects "java/lang/String" ({ cls := "java/lang/String", name := "isEmpty", desc := "()Z" } : Jvm.MethodName) ({ cls := "java/lang/String", name := "isEmpty", desc := "()Z" } : Jvm.MethodName)).before a0 Z = true := hw _ (List.mem_of_getElem? (i := 52) rfl)
theorem tw53 {Z : State} {a0 : Array Value} (hw : ∀ d ∈ tables_1, d.before a0 Z = true) : (Jvm.Cond.code ({ cls := "java/lang/String", name := "isEmpty", desc := "()Z" } : Jvm.MethodName) jdk_42_method_55_code (1 : Nat) (Option.some Jvm.ClassFile.FieldType.boolean)).before a0 Z = true := hw _ (List.mem_of_getElem? (i := 53) rfl)
theorem tw54 {Z : State} {a0 : Array Value} (hw : ∀ d ∈ tables_1, d.before a0 Z = true) : (Jvm.Cond.methodLink "com/example/letters_between_tasks/lettersbetweentasks/model/Name" (30 : Nat) ({ cls := "java/lang/String", name := "length", desc := "()I" } : Jvm.MethodName)).before a0 Z = true := hw _ (List.mem_of_getElem? (i := 54) rfl)
theorem tw55 {Z : State} {a0 : Array Value} (hw : ∀ d ∈ tables_1, d.before a0 Z = true) : (Jvm.Cond.declares ({ cls := "java/lang/String", name := "length", desc := "()I" } : Jvm.MethodName)).before a0 Z = true := hw _ (List.mem_of_getElem? (i := 55) rfl)
theorem tw56 {Z : State} {a0 : Array Value} (hw : ∀ d ∈ tables_1, d.before a0 Z = true) : (Jvm.Cond.instanceMethod ({ cls := "java/lang/String", name := "length", desc := "()I" } : Jvm.MethodName)).before a0 Z = true := hw _ (List.mem_of_getElem? (i := 56) rfl)
theorem tw57 {Z : State} {a0 : Array Value} (hw : ∀ d ∈ tables_1, d.before a0 Z = true) : (Jvm.Cond.selects "java/lang/String" ({ cls := "java/lang/String", name := "length", desc := "()I" } : Jvm.MethodName) ({ cls := "java/lang/String", name := "length", desc := "()I" } : Jvm.MethodName)).before a0 Z = true := hw _ (List.mem_of_getElem? (i := 57) rfl)
theorem tw58 {Z : State} {a0 : Array Value} (hw : ∀ d ∈ tables_1, d.before a0 Z = true) : (Jvm.Cond.code ({ cls := "java/lang/String", name := "length", desc := "()I" } : Jvm.MethodName) jdk_42_method_54_code (1 : Nat) (Option.some Jvm.ClassFile.FieldType.int)).before a0 Z = true := hw _ (List.mem_of_getElem? (i := 58) rfl)
theorem tw59 {Z : State} {a0 : Array Value} (hw : ∀ d ∈ tables_1, d.before a0 Z = true) : (Jvm.Cond.methodLink "java/lang/String" (335 : Nat) ({ cls := "java/lang/String", name := "coder", desc := "()B" } : Jvm.MethodName)).before a0 Z = true := hw _ (List.mem_of_getElem? (i := 59) rfl)
theorem tw60 {Z : State} {a0 : Array Value} (hw : ∀ d ∈ tables_1, d.before a0 Z = true) : (Jvm.Cond.declares ({ cls := "java/lang/String", name := "coder", desc := "()B" } : Jvm.MethodName)).before a0 Z = true := hw _ (List.mem_of_getElem? (i := 60) rfl)
theorem tw61 {Z : State} {a0 : Array Value} (hw : ∀ d ∈ tables_1, d.before a0 Z = true) : (Jvm.Cond.instanceMethod ({ cls := "java/lang/String", name := "coder", desc := "()B" } : Jvm.MethodName)).before a0 Z = true := hw _ (List.mem_of_getElem? (i := 61) rfl)
theorem tw62 {Z : State} {a0 : Array Value} (hw : ∀ d ∈ tables_1, d.before a0 Z = true) : (Jvm.Cond.selects "java/lang/String" ({ cls := "java/lang/String", name := "coder", desc := "()B" } : Jvm.MethodName) ({ cls := "java/lang/String", name := "coder", desc := "()B" } : Jvm.MethodName)).before a0 Z = true := hw _ (List.mem_of_getElem? (i := 62) rfl)
theorem tw63 {Z : State} {a0 : Array Value} (hw : ∀ d ∈ tables_1, d.before a0 Z = true) : (Jvm.Cond.code ({ cls := "java/lang/String", name := "coder", desc := "()B" } : Jvm.MethodName) jdk_42_method_152_code (1 : Nat) (Option.some Jvm.ClassFile.FieldType.byte)).before a0 Z = true := hw _ (List.mem_of_getElem? (i := 63) rfl)
theorem tw64 {Z : State} {a0 : Array Value} (hw : ∀ d ∈ tables_1, d.before a0 Z = true) : (Jvm.Cond.methodLink "com/example/letters_between_tasks/lettersbetweentasks/model/Name" (43 : Nat) ({ cls := "java/lang/String", name := "charAt", desc := "(I)C" } : Jvm.MethodName)).before a0 Z = true := hw _ (List.mem_of_getElem? (i := 64) rfl)
theorem tw65 {Z : State} {a0 : Array Value} (hw : ∀ d ∈ tables_1, d.before a0 Z = true) : (Jvm.Cond.declares ({ cls := "java/lang/String", name := "charAt", desc := "(I)C" } : Jvm.MethodName)).before a0 Z = true := hw _ (List.mem_of_getElem? (i := 65) rfl)
theorem tw66 {Z : State} {a0 : Array Value} (hw : ∀ d ∈ tables_1, d.before a0 Z = true) : (Jvm.Cond.instanceMethod ({ cls := "java/lang/String", name := "charAt", desc := "(I)C" } : Jvm.MethodName)).before a0 Z = true := hw _ (List.mem_of_getElem? (i := 66) rfl)
theorem tw67 {Z : State} {a0 : Array Value} (hw : ∀ d ∈ tables_1, d.before a0 Z = true) : (Jvm.Cond.selects "java/lang/String" ({ cls := "java/lang/String", name := "charAt", desc := "(I)C" } : Jvm.MethodName) ({ cls := "java/lang/String", name := "charAt", desc := "(I)C" } : Jvm.MethodName)).before a0 Z = true := hw _ (List.mem_of_getElem? (i := 67) rfl)
theorem tw68 {Z : State} {a0 : Array Value} (hw : ∀ d ∈ tables_1, d.before a0 Z = true) : (Jvm.Cond.code ({ cls := "java/lang/String", name := "charAt", desc := "(I)C" } : Jvm.MethodName) jdk_42_method_56_code (2 : Nat) (Option.some Jvm.ClassFile.FieldType.char)).before a0 Z = true := hw _ (List.mem_of_getElem? (i := 68) rfl)
theorem tw69 {Z : State} {a0 : Array Value} (hw : ∀ d ∈ tables_1, d.before a0 Z = true) : (Jvm.Cond.methodLink "java/lang/String" (492 : Nat) ({ cls := "java/lang/String", name := "isLatin1", desc := "()Z" } : Jvm.MethodName)).before a0 Z = true := hw _ (List.mem_of_getElem? (i := 69) rfl)
theorem tw70 {Z : State} {a0 : Array Value} (hw : ∀ d ∈ tables_1, d.before a0 Z = true) : (Jvm.Cond.declares ({ cls := "java/lang/String", name := "isLatin1", desc := "()Z" } : Jvm.MethodName)).before a0 Z = true := hw _ (List.mem_of_getElem? (i := 70) rfl)
theorem tw71 {Z : State} {a0 : Array Value} (hw : ∀ d ∈ tables_1, d.before a0 Z = true) : (Jvm.Cond.instanceMethod ({ cls := "java/lang/String", name := "isLatin1", desc := "()Z" } : Jvm.MethodName)).before a0 Z = true := hw _ (List.mem_of_getElem? (i := 71) rfl)
theorem tw72 {Z : State} {a0 : Array Value} (hw : ∀ d ∈ tables_1, d.before a0 Z = true) : (Jvm.Cond.selects "java/lang/String" ({ cls := "java/lang/String", name := "isLatin1", desc := "()Z" } : Jvm.MethodName) ({ cls := "java/lang/String", name := "isLatin1", desc := "()Z" } : Jvm.MethodName)).before a0 Z = true := hw _ (List.mem_of_getElem? (i := 72) rfl)
theorem tw73 {Z : State} {a0 : Array Value} (hw : ∀ d ∈ tables_1, d.before a0 Z = true) : (Jvm.Cond.code ({ cls := "java/lang/String", name := "isLatin1", desc := "()Z" } : Jvm.MethodName) jdk_42_method_154_code (1 : Nat) (Option.some Jvm.ClassFile.FieldType.boolean)).before a0 Z = true := hw _ (List.mem_of_getElem? (i := 73) rfl)
theorem tw74 {Z : State} {a0 : Array Value} (hw : ∀ d ∈ tables_1, d.before a0 Z = true) : (Jvm.Cond.methodLink "java/lang/String" (495 : Nat) ({ cls := "java/lang/StringLatin1", name := "charAt", desc := "([BI)C" } : Jvm.MethodName)).before a0 Z = true := hw _ (List.mem_of_getElem? (i := 74) rfl)
theorem tw75 {Z : State} {a0 : Array Value} (hw : ∀ d ∈ tables_1, d.before a0 Z = true) : (Jvm.Cond.static ({ cls := "java/lang/StringLatin1", name := "charAt", desc := "([BI)C" } : Jvm.MethodName)).before a0 Z = true := hw _ (List.mem_of_getElem? (i := 75) rfl)
theorem tw76 {Z : State} {a0 : Array Value} (hw : ∀ d ∈ tables_1, d.before a0 Z = true) : (Jvm.Cond.initialized "java/lang/StringLatin1").before a0 Z = true := hw _ (List.mem_of_getElem? (i := 76) rfl)
theorem tw77 {Z : State} {a0 : Array Value} (hw : ∀ d ∈ tables_1, d.before a0 Z = true) : (Jvm.Cond.code ({ cls := "java/lang/StringLatin1", name := "charAt", desc := "([BI)C" } : Jvm.MethodName) jdk_43_method_2_code (2 : Nat) (Option.some Jvm.ClassFile.FieldType.char)).before a0 Z = true := hw _ (List.mem_of_getElem? (i := 77) rfl)
theorem tw78 {Z : State} {a0 : Array Value} (hw : ∀ d ∈ tables_1, d.before a0 Z = true) : (Jvm.Cond.methodLink "java/lang/StringLatin1" (9 : Nat) ({ cls := "java/lang/String", name := "checkIndex", desc := "(II)V" } : Jvm.MethodName)).before a0 Z = true := hw _ (List.mem_of_getElem? (i := 78) rfl)
theorem tw79 {Z : State} {a0 : Array Value} (hw : ∀ d ∈ tables_1, d.before a0 Z = true) : (Jvm.Cond.static ({ cls := "java/lang/String", name := "checkIndex", desc := "(II)V" } : Jvm.MethodName)).before a0 Z = true := hw _ (List.mem_of_getElem? (i := 79) rfl)
theorem tw80 {Z : State} {a0 : Array Value} (hw : ∀ d ∈ tables_1, d.before a0 Z = true) : (Jvm.Cond.code ({ cls := "java/lang/String", name := "checkIndex", desc := "(II)V" } : Jvm.MethodName) jdk_42_method_155_code (2 : Nat) (Option.none : Option Jvm.ClassFile.FieldType)).before a0 Z = true := hw _ (List.mem_of_getElem? (i := 80) rfl)
theorem tw81 {Z : State} {a0 : Array Value} (hw : ∀ d ∈ tables_1, d.before a0 Z = true) : (Jvm.Cond.fieldLink "java/lang/String" (1053 : Nat) "jdk/internal/util/Preconditions" "SIOOBE_FORMATTER" "Ljava/util/function/BiFunction;").before a0 Z = true := hw _ (List.mem_of_getElem? (i := 81) rfl)
theorem tw82 {Z : State} {a0 : Array Value} (hw : ∀ d ∈ tables_1, d.before a0 Z = true) : (Jvm.Cond.initialized "jdk/internal/util/Preconditions").before a0 Z = true := hw _ (List.mem_of_getElem? (i := 82) rfl)
theorem tw83 {Z : State} {a0 : Array Value} (hw : ∀ d ∈ tables_1, d.before a0 Z = true) : (Jvm.Cond.methodLink "java/lang/String" (1059 : Nat) ({ cls := "jdk/internal/util/Preconditions", name := "checkIndex", desc := "(IILjava/util/function/BiFunction;)I" } : Jvm.MethodName)).before a0 Z = true := hw _ (List.mem_of_getElem? (i := 83) rfl)
theorem tw84 {Z : State} {a0 : Array Value} (hw : ∀ d ∈ tables_1, d.before a0 Z = true) : (Jvm.Cond.static ({ cls := "jdk/internal/util/Preconditions", name := "checkIndex", desc := "(IILjava/util/function/BiFunction;)I" } : Jvm.MethodName)).before a0 Z = true := hw _ (List.mem_of_getElem? (i := 84) rfl)
theorem tw85 {Z : State} {a0 : Array Value} (hw : ∀ d ∈ tables_1, d.before a0 Z = true) : (Jvm.Cond.code ({ cls := "jdk/internal/util/Preconditions", name := "checkIndex", desc := "(IILjava/util/function/BiFunction;)I" } : Jvm.MethodName) jdk_41_method_11_code (3 : Nat) (Option.some Jvm.ClassFile.FieldType.int)).before a0 Z = true := hw _ (List.mem_of_getElem? (i := 85) rfl)
theorem tw86 {Z : State} {a0 : Array Value} (hw : ∀ d ∈ tables_1, d.before a0 Z = true) : (Jvm.Cond.methodLink "com/example/letters_between_tasks/lettersbetweentasks/model/Name" (47 : Nat) ({ cls := "com/example/letters_between_tasks/lettersbetweentasks/model/Name", name := "isNameCharacter", desc := "(C)Z" } : Jvm.MethodName)).before a0 Z = true := hw _ (List.mem_of_getElem? (i := 86) rfl)
theorem tw87 {Z : State} {a0 : Array Value} (hw : ∀ d ∈ tables_1, d.before a0 Z = true) : (Jvm.Cond.static ({ cls := "com/example/letters_between_tasks/lettersbetweentasks/model/Name", name := "isNameCharacter", desc := "(C)Z" } : Jvm.MethodName)).before a0 Z = true := hw _ (List.mem_of_getElem? (i := 87) rfl)
theorem tw88 {Z : State} {a0 : Array Value} (hw : ∀ d ∈ tables_1, d.before a0 Z = true) : (Jvm.Cond.code ({ cls := "com/example/letters_between_tasks/lettersbetweentasks/model/Name", name := "isNameCharacter", desc := "(C)Z" } : Jvm.MethodName) prog_12_method_4_code (1 : Nat) (Option.some Jvm.ClassFile.FieldType.boolean)).before a0 Z = true := hw _ (List.mem_of_getElem? (i := 88) rfl)
theorem tw89 {Z : State} {a0 : Array Value} (hw : ∀ d ∈ tables_1, d.before a0 Z = true) : (Jvm.Cond.classLink "com/example/letters_between_tasks/lettersbetweentasks/model/Name" (8 : Nat) "com/example/letters_between_tasks/lettersbetweentasks/model/Name").before a0 Z = true := hw _ (List.mem_of_getElem? (i := 89) rfl)
theorem tw90 {Z : State} {a0 : Array Value} (hw : ∀ d ∈ tables_1, d.before a0 Z = true) : (Jvm.Cond.instantiable "com/example/letters_between_tasks/lettersbetweentasks/model/Name" (2 : Nat)).before a0 Z = true := hw _ (List.mem_of_getElem? (i := 90) rfl)
theorem tw91 {Z : State} {a0 : Array Value} (hw : ∀ d ∈ tables_1, d.before a0 Z = true) : (Jvm.Cond.methodLink "com/example/letters_between_tasks/lettersbetweentasks/model/Name" (63 : Nat) ({ cls := "com/example/letters_between_tasks/lettersbetweentasks/model/Name", name := "<init>", desc := "(Ljava/lang/String;I)V" } : Jvm.MethodName)).before a0 Z = true := hw _ (List.mem_of_getElem? (i := 91) rfl)
theorem tw92 {Z : State} {a0 : Array Value} (hw : ∀ d ∈ tables_1, d.before a0 Z = true) : (Jvm.Cond.instanceMethod ({ cls := "com/example/letters_between_tasks/lettersbetweentasks/model/Name", name := "<init>", desc := "(Ljava/lang/String;I)V" } : Jvm.MethodName)).before a0 Z = true := hw _ (List.mem_of_getElem? (i := 92) rfl)
theorem tw93 {Z : State} {a0 : Array Value} (hw : ∀ d ∈ tables_1, d.before a0 Z = true) : (Jvm.Cond.code ({ cls := "com/example/letters_between_tasks/lettersbetweentasks/model/Name", name := "<init>", desc := "(Ljava/lang/String;I)V" } : Jvm.MethodName) prog_12_method_1_code (3 : Nat) (Option.none : Option Jvm.ClassFile.FieldType)).before a0 Z = true := hw _ (List.mem_of_getElem? (i := 93) rfl)
theorem tw94 {Z : State} {a0 : Array Value} (hw : ∀ d ∈ tables_1, d.before a0 Z = true) : (Jvm.Cond.methodLink "com/example/letters_between_tasks/lettersbetweentasks/model/Name" (1 : Nat) ({ cls := "java/lang/Object", name := "<init>", desc := "()V" } : Jvm.MethodName)).before a0 Z = true := hw _ (List.mem_of_getElem? (i := 94) rfl)
theorem tw95 {Z : State} {a0 : Array Value} (hw : ∀ d ∈ tables_1, d.before a0 Z = true) : (Jvm.Cond.fieldLink "com/example/letters_between_tasks/lettersbetweentasks/model/Name" (7 : Nat) "com/example/letters_between_tasks/lettersbetweentasks/model/Name" "text" "Ljava/lang/String;").before a0 Z = true := hw _ (List.mem_of_getElem? (i := 95) rfl)
theorem tw96 {Z : State} {a0 : Array Value} (hw : ∀ d ∈ tables_1, d.before a0 Z = true) : (Jvm.Cond.laysFinal "com/example/letters_between_tasks/lettersbetweentasks/model/Name" "com/example/letters_between_tasks/lettersbetweentasks/model/Name" "text" "Ljava/lang/String;").before a0 Z = true := hw _ (List.mem_of_getElem? (i := 96) rfl)
theorem tw97 {Z : State} {a0 : Array Value} (hw : ∀ d ∈ tables_1, d.before a0 Z = true) : (Jvm.Cond.fieldLink "com/example/letters_between_tasks/lettersbetweentasks/model/Name" (13 : Nat) "com/example/letters_between_tasks/lettersbetweentasks/model/Name" "hash" "I").before a0 Z = true := hw _ (List.mem_of_getElem? (i := 97) rfl)
theorem tw98 {Z : State} {a0 : Array Value} (hw : ∀ d ∈ tables_1, d.before a0 Z = true) : (Jvm.Cond.laysFinal "com/example/letters_between_tasks/lettersbetweentasks/model/Name" "com/example/letters_between_tasks/lettersbetweentasks/model/Name" "hash" "I").before a0 Z = true := hw _ (List.mem_of_getElem? (i := 98) rfl)
theorem tw99 {Z : State} {a0 : Array Value} (hw : ∀ d ∈ tables_1, d.before a0 Z = true) : (Jvm.Cond.methodLink "com/example/letters_between_tasks/lettersbetweentasks/model/NameOfPinLaw" (30 : Nat) ({ cls := "com/example/letters_between_tasks/lettersbetweentasks/model/Name", name := "text", desc := "()Ljava/lang/String;" } : Jvm.MethodName)).before a0 Z = true := hw _ (List.mem_of_getElem? (i := 99) rfl)
theorem tw100 {Z : State} {a0 : Array Value} (hw : ∀ d ∈ tables_1, d.before a0 Z = true) : (Jvm.Cond.declares ({ cls := "com/example/letters_between_tasks/lettersbetweentasks/model/Name", name := "text", desc := "()Ljava/lang/String;" } : Jvm.MethodName)).before a0 Z = true := hw _ (List.mem_of_getElem? (i := 100) rfl)
theorem tw101 {Z : State} {a0 : Array Value} (hw : ∀ d ∈ tables_1, d.before a0 Z = true) : (Jvm.Cond.instanceMethod ({ cls := "com/example/letters_between_tasks/lettersbetweentasks/model/Name", name := "text", desc := "()Ljava/lang/String;" } : Jvm.MethodName)).before a0 Z = true := hw _ (List.mem_of_getElem? (i := 101) rfl)
theorem tw102 {Z : State} {a0 : Array Value} (hw : ∀ d ∈ tables_1, d.before a0 Z = true) : (Jvm.Cond.selects "com/example/letters_between_tasks/lettersbetweentasks/model/Name" ({ cls := "com/example/letters_between_tasks/lettersbetweentasks/model/Name", name := "text", desc := "()Ljava/lang/String;" } : Jvm.MethodName) ({ cls := "com/example/letters_between_tasks/lettersbetweentasks/model/Name", name := "text", desc := "()Ljava/lang/String;" } : Jvm.MethodName)).before a0 Z = true := hw _ (List.mem_of_getElem? (i := 102) rfl)
theorem tw103 {Z : State} {a0 : Array Value} (hw : ∀ d ∈ tables_1, d.before a0 Z = true) : (Jvm.Cond.code ({ cls := "com/example/letters_between_tasks/lettersbetweentasks/model/Name", name := "text", desc := "()Ljava/lang/String;" } : Jvm.MethodName) prog_12_method_3_code (1 : Nat) (Option.some (Jvm.ClassFile.FieldType.object "java/lang/String"))).before a0 Z = true := hw _ (List.mem_of_getElem? (i := 103) rfl)
theorem tw104 {Z : State} {a0 : Array Value} (hw : ∀ d ∈ tables_1, d.before a0 Z = true) : (Jvm.Cond.methodLink "com/example/letters_between_tasks/lettersbetweentasks/model/NameOfPinLaw" (34 : Nat) ({ cls := "java/lang/String", name := "equals", desc := "(Ljava/lang/Object;)Z" } : Jvm.MethodName)).before a0 Z = true := hw _ (List.mem_of_getElem? (i := 104) rfl)
theorem tw105 {Z : State} {a0 : Array Value} (hw : ∀ d ∈ tables_1, d.before a0 Z = true) : (Jvm.Cond.declares ({ cls := "java/lang/String", name := "equals", desc := "(Ljava/lang/Object;)Z" } : Jvm.MethodName)).before a0 Z = true := hw _ (List.mem_of_getElem? (i := 105) rfl)
theorem tw106 {Z : State} {a0 : Array Value} (hw : ∀ d ∈ tables_1, d.before a0 Z = true) : (Jvm.Cond.instanceMethod ({ cls := "java/lang/String", name := "equals", desc := "(Ljava/lang/Object;)Z" } : Jvm.MethodName)).before a0 Z = true := hw _ (List.mem_of_getElem? (i := 106) rfl)
theorem tw107 {Z : State} {a0 : Array Value} (hw : ∀ d ∈ tables_1, d.before a0 Z = true) : (Jvm.Cond.selects "java/lang/String" ({ cls := "java/lang/String", name := "equals", desc := "(Ljava/lang/Object;)Z" } : Jvm.MethodName) ({ cls := "java/lang/String", name := "equals", desc := "(Ljava/lang/Object;)Z" } : Jvm.MethodName)).before a0 Z = true := hw _ (List.mem_of_getElem? (i := 107) rfl)
theorem tw108 {Z : State} {a0 : Array Value} (hw : ∀ d ∈ tables_1, d.before a0 Z = true) : (Jvm.Cond.code ({ cls := "java/lang/String", name := "equals", desc := "(Ljava/lang/Object;)Z" } : Jvm.MethodName) jdk_42_method_66_code (3 : Nat) (Option.some Jvm.ClassFile.FieldType.boolean)).before a0 Z = true := hw _ (List.mem_of_getElem? (i := 108) rfl)
theorem tw109 {Z : State} {a0 : Array Value} (hw : ∀ d ∈ tables_1, d.before a0 Z = true) : (Jvm.Cond.methodLink "com/example/letters_between_tasks/lettersbetweentasks/model/NameOfPinLaw" (38 : Nat) ({ cls := "com/example/letters_between_tasks/lettersbetweentasks/model/Name", name := "toString", desc := "()Ljava/lang/String;" } : Jvm.MethodName)).before a0 Z = true := hw _ (List.mem_of_getElem? (i := 109) rfl)
theorem tw110 {Z : State} {a0 : Array Value} (hw : ∀ d ∈ tables_1, d.before a0 Z = true) : (Jvm.Cond.declares ({ cls := "com/example/letters_between_tasks/lettersbetweentasks/model/Name", name := "toString", desc := "()Ljava/lang/String;" } : Jvm.MethodName)).before a0 Z = true := hw _ (List.mem_of_getElem? (i := 110) rfl)
theorem tw111 {Z : State} {a0 : Array Value} (hw : ∀ d ∈ tables_1, d.before a0 Z = true) : (Jvm.Cond.instanceMethod ({ cls := "com/example/letters_between_tasks/lettersbetweentasks/model/Name", name := "toString", desc := "()Ljava/lang/String;" } : Jvm.MethodName)).before a0 Z = true := hw _ (List.mem_of_getElem? (i := 111) rfl)
theorem tw112 {Z : State} {a0 : Array Value} (hw : ∀ d ∈ tables_1, d.before a0 Z = true) : (Jvm.Cond.selects "com/example/letters_between_tasks/lettersbetweentasks/model/Name" ({ cls := "com/example/letters_between_tasks/lettersbetweentasks/model/Name", name := "toString", desc := "()Ljava/lang/String;" } : Jvm.MethodName) ({ cls := "com/example/letters_between_tasks/lettersbetweentasks/model/Name", name := "toString", desc := "()Ljava/lang/String;" } : Jvm.MethodName)).before a0 Z = true := hw _ (List.mem_of_getElem? (i := 112) rfl)
theorem tw113 {Z : State} {a0 : Array Value} (hw : ∀ d ∈ tables_1, d.before a0 Z = true) : (Jvm.Cond.code ({ cls := "com/example/letters_between_tasks/lettersbetweentasks/model/Name", name := "toString", desc := "()Ljava/lang/String;" } : Jvm.MethodName) prog_12_method_8_code (1 : Nat) (Option.some (Jvm.ClassFile.FieldType.object "java/lang/String"))).before a0 Z = true := hw _ (List.mem_of_getElem? (i := 113) rfl)
theorem tw114 {Z : State} {a0 : Array Value} (hw : ∀ d ∈ tables_1, d.before a0 Z = true) : (Jvm.Cond.methodLink "com/example/letters_between_tasks/lettersbetweentasks/model/NameOfPinLaw" (41 : Nat) ({ cls := "com/example/letters_between_tasks/lettersbetweentasks/model/Name", name := "hashCode", desc := "()I" } : Jvm.MethodName)).before a0 Z = true := hw _ (List.mem_of_getElem? (i := 114) rfl)
theorem tw115 {Z : State} {a0 : Array Value} (hw : ∀ d ∈ tables_1, d.before a0 Z = true) : (Jvm.Cond.declares ({ cls := "com/example/letters_between_tasks/lettersbetweentasks/model/Name", name := "hashCode", desc := "()I" } : Jvm.MethodName)).before a0 Z = true := hw _ (List.mem_of_getElem? (i := 115) rfl)
theorem tw116 {Z : State} {a0 : Array Value} (hw : ∀ d ∈ tables_1, d.before a0 Z = true) : (Jvm.Cond.instanceMethod ({ cls := "com/example/letters_between_tasks/lettersbetweentasks/model/Name", name := "hashCode", desc := "()I" } : Jvm.MethodName)).before a0 Z = true := hw _ (List.mem_of_getElem? (i := 116) rfl)
theorem tw117 {Z : State} {a0 : Array Value} (hw : ∀ d ∈ tables_1, d.before a0 Z = true) : (Jvm.Cond.selects "com/example/letters_between_tasks/lettersbetweentasks/model/Name" ({ cls := "com/example/letters_between_tasks/lettersbetweentasks/model/Name", name := "hashCode", desc := "()I" } : Jvm.MethodName) ({ cls := "com/example/letters_between_tasks/lettersbetweentasks/model/Name", name := "hashCode", desc := "()I" } : Jvm.MethodName)).before a0 Z = true := hw _ (List.mem_of_getElem? (i := 117) rfl)
theorem tw118 {Z : State} {a0 : Array Value} (hw : ∀ d ∈ tables_1, d.before a0 Z = true) : (Jvm.Cond.code ({ cls := "com/example/letters_between_tasks/lettersbetweentasks/model/Name", name := "hashCode", desc := "()I" } : Jvm.MethodName) prog_12_method_7_code (1 : Nat) (Option.some Jvm.ClassFile.FieldType.int)).before a0 Z = true := hw _ (List.mem_of_getElem? (i := 118) rfl)
theorem tw119 {Z : State} {a0 : Array Value} (hw : ∀ d ∈ tables_1, d.before a0 Z = true) : (Jvm.Cond.constant "com/example/letters_between_tasks/lettersbetweentasks/model/NameOfPinLaw" (18 : Nat) (923521 : Int32)).before a0 Z = true := hw _ (List.mem_of_getElem? (i := 119) rfl)
theorem pd0 : parseMethodDescriptor "([CI[BII)I" = some ⟨[(.array .char), .int, (.array .byte), .int, .int], some .int⟩ := by decide +kernel
theorem pd1 : parseMethodDescriptor "([CII)[B" = some ⟨[(.array .char), .int, .int], some (.array .byte)⟩ := by decide +kernel
theorem pd2 : parseMethodDescriptor "([BI)B" = some ⟨[(.array .byte), .int], some .byte⟩ := by decide +kernel
theorem pd3 : parseMethodDescriptor "([CIILjava/lang/Void;)V" = some ⟨[(.array .char), .int, .int, (.object "java/lang/Void")], none⟩ := by decide +kernel
theorem pd4 : parseMethodDescriptor "()B" = some ⟨[], some .byte⟩ := by decide +kernel
theorem pd5 : parseMethodDescriptor "(IILjava/util/function/BiFunction;)I" = some ⟨[.int, .int, (.object "java/util/function/BiFunction")], some .int⟩ := by decide +kernel
theorem pd6 : parseMethodDescriptor "(II)V" = some ⟨[.int, .int], none⟩ := by decide +kernel
theorem pd7 : parseMethodDescriptor "()Z" = some ⟨[], some .boolean⟩ := by decide +kernel
theorem pd8 : parseMethodDescriptor "([BI)C" = some ⟨[(.array .byte), .int], some .char⟩ := by decide +kernel
theorem pd9 : parseMethodDescriptor "()I" = some ⟨[], some .int⟩ := by decide +kernel
theorem pd10 : parseMethodDescriptor "(Ljava/lang/String;I)V" = some ⟨[(.object "java/lang/String"), .int], none⟩ := by decide +kernel
theorem pd11 : parseMethodDescriptor "(I)C" = some ⟨[.int], some .char⟩ := by decide +kernel
theorem pd12 : parseMethodDescriptor "(C)Z" = some ⟨[.char], some .boolean⟩ := by decide +kernel
theorem pd13 : parseMethodDescriptor "(Ljava/lang/Object;Ljava/lang/String;)Ljava/lang/Object;" = some ⟨[(.object "java/lang/Object"), (.object "java/lang/String")], some (.object "java/lang/Object")⟩ := by decide +kernel
theorem pd14 : parseMethodDescriptor "(C)I" = some ⟨[.char], some .int⟩ := by decide +kernel
theorem pd15 : parseMethodDescriptor "([C)V" = some ⟨[(.array .char)], none⟩ := by decide +kernel
theorem pd16 : parseMethodDescriptor "(Ljava/lang/String;)Lcom/example/letters_between_tasks/lettersbetweentasks/model/Name;" = some ⟨[(.object "java/lang/String")], some (.object "com/example/letters_between_tasks/lettersbetweentasks/model/Name")⟩ := by decide +kernel
theorem pd17 : parseMethodDescriptor "()Ljava/lang/String;" = some ⟨[], some (.object "java/lang/String")⟩ := by decide +kernel
theorem pd18 : parseMethodDescriptor "(Ljava/lang/Object;)Z" = some ⟨[(.object "java/lang/Object")], some .boolean⟩ := by decide +kernel
theorem djdk_52_21_3 : decode jdk_52_method_21_code 3 = .ok (.iload 5, 2) := by decide +kernel
theorem djdk_52_21_5 : decode jdk_52_method_21_code 5 = .ok (.iload 4, 2) := by decide +kernel
theorem djdk_52_21_7 : decode jdk_52_method_21_code 7 = .ok (.if_icmp .ge 37, 3) := by decide +kernel
theorem djdk_52_21_44 : decode jdk_52_method_21_code 44 = .ok (.iload 4, 2) := by decide +kernel
theorem djdk_52_21_46 : decode jdk_52_method_21_code 46 = .ok (.ireturn, 1) := by decide +kernel
theorem djdk_52_21_10 : decode jdk_52_method_21_code 10 = .ok (.aload_n 0, 1) := by decide +kernel
theorem djdk_52_21_11 : decode jdk_52_method_21_code 11 = .ok (.iload_n 1, 1) := by decide +kernel
theorem djdk_52_21_12 : decode jdk_52_method_21_code 12 = .ok (.caload, 1) := by decide +kernel
theorem djdk_52_21_13 : decode jdk_52_method_21_code 13 = .ok (.istore 6, 2) := by decide +kernel
theorem djdk_52_21_15 : decode jdk_52_method_21_code 15 = .ok (.iload 6, 2) := by decide +kernel
theorem djdk_52_21_17 : decode jdk_52_method_21_code 17 = .ok (.sipush 255, 3) := by decide +kernel
theorem djdk_52_21_20 : decode jdk_52_method_21_code 20 = .ok (.if_icmp .le 6, 3) := by decide +kernel
theorem djdk_52_21_26 : decode jdk_52_method_21_code 26 = .ok (.aload_n 2, 1) := by decide +kernel
theorem djdk_52_21_27 : decode jdk_52_method_21_code 27 = .ok (.iload_n 3, 1) := by decide +kernel
theorem djdk_52_21_28 : decode jdk_52_method_21_code 28 = .ok (.iload 6, 2) := by decide +kernel
theorem djdk_52_21_30 : decode jdk_52_method_21_code 30 = .ok (.i2b, 1) := by decide +kernel
theorem djdk_52_21_31 : decode jdk_52_method_21_code 31 = .ok (.bastore, 1) := by decide +kernel
theorem djdk_52_21_32 : decode jdk_52_method_21_code 32 = .ok (.iinc 1 1, 3) := by decide +kernel
theorem djdk_52_21_35 : decode jdk_52_method_21_code 35 = .ok (.iinc 3 1, 3) := by decide +kernel
theorem djdk_52_21_38 : decode jdk_52_method_21_code 38 = .ok (.iinc 5 1, 3) := by decide +kernel
theorem djdk_52_21_41 : decode jdk_52_method_21_code 41 = .ok (.goto (-38), 3) := by decide +kernel
theorem djdk_52_21_0 : decode jdk_52_method_21_code 0 = .ok (.iconst 0, 1) := by decide +kernel
theorem djdk_52_21_1 : decode jdk_52_method_21_code 1 = .ok (.istore 5, 2) := by decide +kernel
theorem djdk_52_16_0 : decode jdk_52_method_16_code 0 = .ok (.iload_n 2, 1) := by decide +kernel
theorem djdk_52_16_1 : decode jdk_52_method_16_code 1 = .ok (.newarray .byte, 2) := by decide +kernel
theorem djdk_52_16_3 : decode jdk_52_method_16_code 3 = .ok (.astore_n 3, 1) := by decide +kernel
theorem djdk_52_16_4 : decode jdk_52_method_16_code 4 = .ok (.aload_n 0, 1) := by decide +kernel
theorem djdk_52_16_5 : decode jdk_52_method_16_code 5 = .ok (.iload_n 1, 1) := by decide +kernel
theorem djdk_52_16_6 : decode jdk_52_method_16_code 6 = .ok (.aload_n 3, 1) := by decide +kernel
theorem djdk_52_16_7 : decode jdk_52_method_16_code 7 = .ok (.iconst 0, 1) := by decide +kernel
theorem djdk_52_16_8 : decode jdk_52_method_16_code 8 = .ok (.iload_n 2, 1) := by decide +kernel
theorem djdk_52_16_9 : decode jdk_52_method_16_code 9 = .ok (.invokestatic 115, 3) := by decide +kernel
theorem djdk_52_16_12 : decode jdk_52_method_16_code 12 = .ok (.istore 4, 2) := by decide +kernel
theorem djdk_52_16_14 : decode jdk_52_method_16_code 14 = .ok (.iload 4, 2) := by decide +kernel
theorem djdk_52_16_16 : decode jdk_52_method_16_code 16 = .ok (.iload_n 2, 1) := by decide +kernel
theorem djdk_52_16_17 : decode jdk_52_method_16_code 17 = .ok (.if_icmp .eq 40, 3) := by decide +kernel
theorem djdk_52_16_57 : decode jdk_52_method_16_code 57 = .ok (.aload_n 3, 1) := by decide +kernel
theorem djdk_52_16_58 : decode jdk_52_method_16_code 58 = .ok (.areturn, 1) := by decide +kernel
theorem djdk_52_15_0 : decode jdk_52_method_15_code 0 = .ok (.iload_n 1, 1) := by decide +kernel
theorem djdk_52_15_1 : decode jdk_52_method_15_code 1 = .ok (.aload_n 0, 1) := by decide +kernel
theorem djdk_52_15_2 : decode jdk_52_method_15_code 2 = .ok (.arraylength, 1) := by decide +kernel
theorem djdk_52_15_3 : decode jdk_52_method_15_code 3 = .ok (.isub, 1) := by decide +kernel
theorem djdk_52_15_4 : decode jdk_52_method_15_code 4 = .ok (.bipush 31, 2) := by decide +kernel
theorem djdk_52_15_6 : decode jdk_52_method_15_code 6 = .ok (.iushr, 1) := by decide +kernel
theorem djdk_52_15_7 : decode jdk_52_method_15_code 7 = .ok (.i2b, 1) := by decide +kernel
theorem djdk_52_15_8 : decode jdk_52_method_15_code 8 = .ok (.ireturn, 1) := by decide +kernel
theorem djdk_42_149_0 : decode jdk_42_method_149_code 0 = .ok (.aload_n 0, 1) := by decide +kernel
theorem djdk_42_149_1 : decode jdk_42_method_149_code 1 = .ok (.invokespecial 1, 3) := by decide +kernel
theorem djdk_42_149_4 : decode jdk_42_method_149_code 4 = .ok (.iload_n 3, 1) := by decide +kernel
theorem djdk_42_149_5 : decode jdk_42_method_149_code 5 = .ok (.ifCond .ne 22, 3) := by decide +kernel
theorem djdk_42_149_27 : decode jdk_42_method_149_code 27 = .ok (.getstatic 38, 3) := by decide +kernel
theorem djdk_42_149_30 : decode jdk_42_method_149_code 30 = .ok (.ifCond .eq 28, 3) := by decide +kernel
theorem djdk_42_149_33 : decode jdk_42_method_149_code 33 = .ok (.aload_n 1, 1) := by decide +kernel
theorem djdk_42_149_34 : decode jdk_42_method_149_code 34 = .ok (.iload_n 2, 1) := by decide +kernel
theorem djdk_42_149_35 : decode jdk_42_method_149_code 35 = .ok (.iload_n 3, 1) := by decide +kernel
theorem djdk_42_149_36 : decode jdk_42_method_149_code 36 = .ok (.invokestatic 177, 3) := by decide +kernel
theorem djdk_42_149_39 : decode jdk_42_method_149_code 39 = .ok (.astore 5, 2) := by decide +kernel
theorem djdk_42_149_41 : decode jdk_42_method_149_code 41 = .ok (.aload_n 0, 1) := by decide +kernel
theorem djdk_42_149_42 : decode jdk_42_method_149_code 42 = .ok (.aload 5, 2) := by decide +kernel
theorem djdk_42_149_44 : decode jdk_42_method_149_code 44 = .ok (.iload_n 3, 1) := by decide +kernel
theorem djdk_42_149_45 : decode jdk_42_method_149_code 45 = .ok (.invokestatic 47, 3) := by decide +kernel
theorem djdk_42_149_48 : decode jdk_42_method_149_code 48 = .ok (.putfield 15, 3) := by decide +kernel
theorem djdk_42_149_51 : decode jdk_42_method_149_code 51 = .ok (.aload_n 0, 1) := by decide +kernel
theorem djdk_42_149_52 : decode jdk_42_method_149_code 52 = .ok (.aload 5, 2) := by decide +kernel
theorem djdk_42_149_54 : decode jdk_42_method_149_code 54 = .ok (.putfield 9, 3) := by decide +kernel
theorem djdk_42_149_57 : decode jdk_42_method_149_code 57 = .ok (.return_, 1) := by decide +kernel
theorem djdk_42_3_0 : decode jdk_42_method_3_code 0 = .ok (.aload_n 0, 1) := by decide +kernel
theorem djdk_42_3_1 : decode jdk_42_method_3_code 1 = .ok (.aload_n 1, 1) := by decide +kernel
theorem djdk_42_3_2 : decode jdk_42_method_3_code 2 = .ok (.iconst 0, 1) := by decide +kernel
theorem djdk_42_3_3 : decode jdk_42_method_3_code 3 = .ok (.aload_n 1, 1) := by decide +kernel
theorem djdk_42_3_4 : decode jdk_42_method_3_code 4 = .ok (.arraylength, 1) := by decide +kernel
theorem djdk_42_3_5 : decode jdk_42_method_3_code 5 = .ok (.aconst_null, 1) := by decide +kernel
theorem djdk_42_3_6 : decode jdk_42_method_3_code 6 = .ok (.invokespecial 27, 3) := by decide +kernel
theorem djdk_42_3_9 : decode jdk_42_method_3_code 9 = .ok (.return_, 1) := by decide +kernel
theorem djdk_31_11_0 : decode jdk_31_method_11_code 0 = .ok (.aload_n 0, 1) := by decide +kernel
theorem djdk_31_11_1 : decode jdk_31_method_11_code 1 = .ok (.ifnonnull 12, 3) := by decide +kernel
theorem djdk_31_11_13 : decode jdk_31_method_11_code 13 = .ok (.aload_n 0, 1) := by decide +kernel
theorem djdk_31_11_14 : decode jdk_31_method_11_code 14 = .ok (.areturn, 1) := by decide +kernel
theorem djdk_42_55_0 : decode jdk_42_method_55_code 0 = .ok (.aload_n 0, 1) := by decide +kernel
theorem djdk_42_55_1 : decode jdk_42_method_55_code 1 = .ok (.getfield 9, 3) := by decide +kernel
theorem djdk_42_55_4 : decode jdk_42_method_55_code 4 = .ok (.arraylength, 1) := by decide +kernel
theorem djdk_42_55_5 : decode jdk_42_method_55_code 5 = .ok (.ifCond .ne 7, 3) := by decide +kernel
theorem djdk_42_55_12 : decode jdk_42_method_55_code 12 = .ok (.iconst 0, 1) := by decide +kernel
theorem djdk_42_55_13 : decode jdk_42_method_55_code 13 = .ok (.ireturn, 1) := by decide +kernel
theorem djdk_42_152_0 : decode jdk_42_method_152_code 0 = .ok (.getstatic 38, 3) := by decide +kernel
theorem djdk_42_152_3 : decode jdk_42_method_152_code 3 = .ok (.ifCond .eq 10, 3) := by decide +kernel
theorem djdk_42_152_6 : decode jdk_42_method_152_code 6 = .ok (.aload_n 0, 1) := by decide +kernel
theorem djdk_42_152_7 : decode jdk_42_method_152_code 7 = .ok (.getfield 15, 3) := by decide +kernel
theorem djdk_42_152_10 : decode jdk_42_method_152_code 10 = .ok (.goto 4, 3) := by decide +kernel
theorem djdk_42_152_14 : decode jdk_42_method_152_code 14 = .ok (.ireturn, 1) := by decide +kernel
theorem djdk_42_54_0 : decode jdk_42_method_54_code 0 = .ok (.aload_n 0, 1) := by decide +kernel
theorem djdk_42_54_1 : decode jdk_42_method_54_code 1 = .ok (.getfield 9, 3) := by decide +kernel
theorem djdk_42_54_4 : decode jdk_42_method_54_code 4 = .ok (.arraylength, 1) := by decide +kernel
theorem djdk_42_54_5 : decode jdk_42_method_54_code 5 = .ok (.aload_n 0, 1) := by decide +kernel
theorem djdk_42_54_6 : decode jdk_42_method_54_code 6 = .ok (.invokevirtual 335, 3) := by decide +kernel
theorem djdk_42_54_9 : decode jdk_42_method_54_code 9 = .ok (.ishr, 1) := by decide +kernel
theorem djdk_42_54_10 : decode jdk_42_method_54_code 10 = .ok (.ireturn, 1) := by decide +kernel
theorem djdk_42_154_0 : decode jdk_42_method_154_code 0 = .ok (.getstatic 38, 3) := by decide +kernel
theorem djdk_42_154_3 : decode jdk_42_method_154_code 3 = .ok (.ifCond .eq 14, 3) := by decide +kernel
theorem djdk_42_154_6 : decode jdk_42_method_154_code 6 = .ok (.aload_n 0, 1) := by decide +kernel
theorem djdk_42_154_7 : decode jdk_42_method_154_code 7 = .ok (.getfield 15, 3) := by decide +kernel
theorem djdk_42_154_10 : decode jdk_42_method_154_code 10 = .ok (.ifCond .ne 7, 3) := by decide +kernel
theorem djdk_42_154_13 : decode jdk_42_method_154_code 13 = .ok (.iconst 1, 1) := by decide +kernel
theorem djdk_42_154_14 : decode jdk_42_method_154_code 14 = .ok (.goto 4, 3) := by decide +kernel
theorem djdk_42_154_18 : decode jdk_42_method_154_code 18 = .ok (.ireturn, 1) := by decide +kernel
theorem djdk_41_11_0 : decode jdk_41_method_11_code 0 = .ok (.iload_n 0, 1) := by decide +kernel
theorem djdk_41_11_1 : decode jdk_41_method_11_code 1 = .ok (.ifCond .lt 8, 3) := by decide +kernel
theorem djdk_41_11_4 : decode jdk_41_method_11_code 4 = .ok (.iload_n 0, 1) := by decide +kernel
theorem djdk_41_11_5 : decode jdk_41_method_11_code 5 = .ok (.iload_n 1, 1) := by decide +kernel
theorem djdk_41_11_6 : decode jdk_41_method_11_code 6 = .ok (.if_icmp .lt 10, 3) := by decide +kernel
theorem djdk_41_11_16 : decode jdk_41_method_11_code 16 = .ok (.iload_n 0, 1) := by decide +kernel
theorem djdk_41_11_17 : decode jdk_41_method_11_code 17 = .ok (.ireturn, 1) := by decide +kernel
theorem djdk_42_155_0 : decode jdk_42_method_155_code 0 = .ok (.iload_n 0, 1) := by decide +kernel
theorem djdk_42_155_1 : decode jdk_42_method_155_code 1 = .ok (.iload_n 1, 1) := by decide +kernel
theorem djdk_42_155_2 : decode jdk_42_method_155_code 2 = .ok (.getstatic 1053, 3) := by decide +kernel
theorem djdk_42_155_5 : decode jdk_42_method_155_code 5 = .ok (.invokestatic 1059, 3) := by decide +kernel
theorem djdk_42_155_8 : decode jdk_42_method_155_code 8 = .ok (.pop, 1) := by decide +kernel
theorem djdk_42_155_9 : decode jdk_42_method_155_code 9 = .ok (.return_, 1) := by decide +kernel
theorem djdk_43_2_0 : decode jdk_43_method_2_code 0 = .ok (.iload_n 1, 1) := by decide +kernel
theorem djdk_43_2_1 : decode jdk_43_method_2_code 1 = .ok (.aload_n 0, 1) := by decide +kernel
theorem djdk_43_2_2 : decode jdk_43_method_2_code 2 = .ok (.arraylength, 1) := by decide +kernel
theorem djdk_43_2_3 : decode jdk_43_method_2_code 3 = .ok (.invokestatic 9, 3) := by decide +kernel
theorem djdk_43_2_6 : decode jdk_43_method_2_code 6 = .ok (.aload_n 0, 1) := by decide +kernel
theorem djdk_43_2_7 : decode jdk_43_method_2_code 7 = .ok (.iload_n 1, 1) := by decide +kernel
theorem djdk_43_2_8 : decode jdk_43_method_2_code 8 = .ok (.baload, 1) := by decide +kernel
theorem djdk_43_2_9 : decode jdk_43_method_2_code 9 = .ok (.sipush 255, 3) := by decide +kernel
theorem djdk_43_2_12 : decode jdk_43_method_2_code 12 = .ok (.iand, 1) := by decide +kernel
theorem djdk_43_2_13 : decode jdk_43_method_2_code 13 = .ok (.i2c, 1) := by decide +kernel
theorem djdk_43_2_14 : decode jdk_43_method_2_code 14 = .ok (.ireturn, 1) := by decide +kernel
theorem djdk_42_56_0 : decode jdk_42_method_56_code 0 = .ok (.aload_n 0, 1) := by decide +kernel
theorem djdk_42_56_1 : decode jdk_42_method_56_code 1 = .ok (.invokevirtual 492, 3) := by decide +kernel
theorem djdk_42_56_4 : decode jdk_42_method_56_code 4 = .ok (.ifCond .eq 12, 3) := by decide +kernel
theorem djdk_42_56_7 : decode jdk_42_method_56_code 7 = .ok (.aload_n 0, 1) := by decide +kernel
theorem djdk_42_56_8 : decode jdk_42_method_56_code 8 = .ok (.getfield 9, 3) := by decide +kernel
theorem djdk_42_56_11 : decode jdk_42_method_56_code 11 = .ok (.iload_n 1, 1) := by decide +kernel
theorem djdk_42_56_12 : decode jdk_42_method_56_code 12 = .ok (.invokestatic 495, 3) := by decide +kernel
theorem djdk_42_56_15 : decode jdk_42_method_56_code 15 = .ok (.ireturn, 1) := by decide +kernel
theorem dprog_12_4_0 : decode prog_12_method_4_code 0 = .ok (.iload_n 0, 1) := by decide +kernel
theorem dprog_12_4_1 : decode prog_12_method_4_code 1 = .ok (.bipush 97, 2) := by decide +kernel
theorem dprog_12_4_3 : decode prog_12_method_4_code 3 = .ok (.if_icmp .lt 9, 3) := by decide +kernel
theorem dprog_12_4_12 : decode prog_12_method_4_code 12 = .ok (.iload_n 0, 1) := by decide +kernel
theorem dprog_12_4_13 : decode prog_12_method_4_code 13 = .ok (.bipush 65, 2) := by decide +kernel
theorem dprog_12_4_15 : decode prog_12_method_4_code 15 = .ok (.if_icmp .lt 9, 3) := by decide +kernel
theorem dprog_12_4_24 : decode prog_12_method_4_code 24 = .ok (.iload_n 0, 1) := by decide +kernel
theorem dprog_12_4_25 : decode prog_12_method_4_code 25 = .ok (.bipush 48, 2) := by decide +kernel
theorem dprog_12_4_27 : decode prog_12_method_4_code 27 = .ok (.if_icmp .lt 9, 3) := by decide +kernel
theorem dprog_12_4_36 : decode prog_12_method_4_code 36 = .ok (.iload_n 0, 1) := by decide +kernel
theorem dprog_12_4_37 : decode prog_12_method_4_code 37 = .ok (.bipush 95, 2) := by decide +kernel
theorem dprog_12_4_39 : decode prog_12_method_4_code 39 = .ok (.if_icmp .eq 15, 3) := by decide +kernel
theorem dprog_12_4_54 : decode prog_12_method_4_code 54 = .ok (.iconst 1, 1) := by decide +kernel
theorem dprog_12_4_55 : decode prog_12_method_4_code 55 = .ok (.goto 4, 3) := by decide +kernel
theorem dprog_12_4_59 : decode prog_12_method_4_code 59 = .ok (.ireturn, 1) := by decide +kernel
theorem dprog_12_4_42 : decode prog_12_method_4_code 42 = .ok (.iload_n 0, 1) := by decide +kernel
theorem dprog_12_4_43 : decode prog_12_method_4_code 43 = .ok (.bipush 45, 2) := by decide +kernel
theorem dprog_12_4_45 : decode prog_12_method_4_code 45 = .ok (.if_icmp .eq 9, 3) := by decide +kernel
theorem dprog_12_4_48 : decode prog_12_method_4_code 48 = .ok (.iload_n 0, 1) := by decide +kernel
theorem dprog_12_4_49 : decode prog_12_method_4_code 49 = .ok (.bipush 46, 2) := by decide +kernel
theorem dprog_12_4_51 : decode prog_12_method_4_code 51 = .ok (.if_icmp .ne 7, 3) := by decide +kernel
theorem dprog_12_4_30 : decode prog_12_method_4_code 30 = .ok (.iload_n 0, 1) := by decide +kernel
theorem dprog_12_4_31 : decode prog_12_method_4_code 31 = .ok (.bipush 57, 2) := by decide +kernel
theorem dprog_12_4_33 : decode prog_12_method_4_code 33 = .ok (.if_icmp .le 21, 3) := by decide +kernel
theorem dprog_12_4_18 : decode prog_12_method_4_code 18 = .ok (.iload_n 0, 1) := by decide +kernel
theorem dprog_12_4_19 : decode prog_12_method_4_code 19 = .ok (.bipush 90, 2) := by decide +kernel
theorem dprog_12_4_21 : decode prog_12_method_4_code 21 = .ok (.if_icmp .le 33, 3) := by decide +kernel
theorem dprog_12_4_6 : decode prog_12_method_4_code 6 = .ok (.iload_n 0, 1) := by decide +kernel
theorem dprog_12_4_7 : decode prog_12_method_4_code 7 = .ok (.bipush 122, 2) := by decide +kernel
theorem dprog_12_4_9 : decode prog_12_method_4_code 9 = .ok (.if_icmp .le 45, 3) := by decide +kernel
theorem dprog_12_1_0 : decode prog_12_method_1_code 0 = .ok (.aload_n 0, 1) := by decide +kernel
theorem dprog_12_1_1 : decode prog_12_method_1_code 1 = .ok (.invokespecial 1, 3) := by decide +kernel
theorem dprog_12_1_4 : decode prog_12_method_1_code 4 = .ok (.aload_n 0, 1) := by decide +kernel
theorem dprog_12_1_5 : decode prog_12_method_1_code 5 = .ok (.aload_n 1, 1) := by decide +kernel
theorem dprog_12_1_6 : decode prog_12_method_1_code 6 = .ok (.putfield 7, 3) := by decide +kernel
theorem dprog_12_1_9 : decode prog_12_method_1_code 9 = .ok (.aload_n 0, 1) := by decide +kernel
theorem dprog_12_1_10 : decode prog_12_method_1_code 10 = .ok (.iload_n 2, 1) := by decide +kernel
theorem dprog_12_1_11 : decode prog_12_method_1_code 11 = .ok (.putfield 13, 3) := by decide +kernel
theorem dprog_12_1_14 : decode prog_12_method_1_code 14 = .ok (.return_, 1) := by decide +kernel
theorem dprog_12_3_0 : decode prog_12_method_3_code 0 = .ok (.aload_n 0, 1) := by decide +kernel
theorem dprog_12_3_1 : decode prog_12_method_3_code 1 = .ok (.getfield 7, 3) := by decide +kernel
theorem dprog_12_3_4 : decode prog_12_method_3_code 4 = .ok (.areturn, 1) := by decide +kernel
theorem dprog_12_8_0 : decode prog_12_method_8_code 0 = .ok (.aload_n 0, 1) := by decide +kernel
theorem dprog_12_8_1 : decode prog_12_method_8_code 1 = .ok (.getfield 7, 3) := by decide +kernel
theorem dprog_12_8_4 : decode prog_12_method_8_code 4 = .ok (.areturn, 1) := by decide +kernel
theorem dprog_12_7_0 : decode prog_12_method_7_code 0 = .ok (.aload_n 0, 1) := by decide +kernel
theorem dprog_12_7_1 : decode prog_12_method_7_code 1 = .ok (.getfield 13, 3) := by decide +kernel
theorem dprog_12_7_4 : decode prog_12_method_7_code 4 = .ok (.ireturn, 1) := by decide +kernel
theorem djdk_42_66_0 : decode jdk_42_method_66_code 0 = .ok (.aload_n 0, 1) := by decide +kernel
theorem djdk_42_66_1 : decode jdk_42_method_66_code 1 = .ok (.aload_n 1, 1) := by decide +kernel
theorem djdk_42_66_2 : decode jdk_42_method_66_code 2 = .ok (.if_acmp .ne 5, 3) := by decide +kernel
theorem djdk_42_66_5 : decode jdk_42_method_66_code 5 = .ok (.iconst 1, 1) := by decide +kernel
theorem djdk_42_66_6 : decode jdk_42_method_66_code 6 = .ok (.ireturn, 1) := by decide +kernel
theorem dprog_12_2_44 : decode prog_12_method_2_code 44 = .ok (.iload_n 2, 1) := by decide +kernel
theorem dprog_12_2_45 : decode prog_12_method_2_code 45 = .ok (.aload_n 0, 1) := by decide +kernel
theorem dprog_12_2_46 : decode prog_12_method_2_code 46 = .ok (.invokevirtual 30, 3) := by decide +kernel
theorem dprog_12_2_49 : decode prog_12_method_2_code 49 = .ok (.if_icmp .ge 79, 3) := by decide +kernel
theorem dprog_12_2_128 : decode prog_12_method_2_code 128 = .ok (.new 8, 3) := by decide +kernel
theorem dprog_12_2_131 : decode prog_12_method_2_code 131 = .ok (.dup, 1) := by decide +kernel
theorem dprog_12_2_132 : decode prog_12_method_2_code 132 = .ok (.aload_n 0, 1) := by decide +kernel
theorem dprog_12_2_133 : decode prog_12_method_2_code 133 = .ok (.iload_n 1, 1) := by decide +kernel
theorem dprog_12_2_134 : decode prog_12_method_2_code 134 = .ok (.invokespecial 63, 3) := by decide +kernel
theorem dprog_12_2_137 : decode prog_12_method_2_code 137 = .ok (.areturn, 1) := by decide +kernel
theorem dprog_12_2_52 : decode prog_12_method_2_code 52 = .ok (.aload_n 0, 1) := by decide +kernel
theorem dprog_12_2_53 : decode prog_12_method_2_code 53 = .ok (.iload_n 2, 1) := by decide +kernel
theorem dprog_12_2_54 : decode prog_12_method_2_code 54 = .ok (.invokevirtual 43, 3) := by decide +kernel
theorem dprog_12_2_57 : decode prog_12_method_2_code 57 = .ok (.istore_n 3, 1) := by decide +kernel
theorem dprog_12_2_58 : decode prog_12_method_2_code 58 = .ok (.iload_n 3, 1) := by decide +kernel
theorem dprog_12_2_59 : decode prog_12_method_2_code 59 = .ok (.invokestatic 47, 3) := by decide +kernel
theorem dprog_12_2_62 : decode prog_12_method_2_code 62 = .ok (.ifCond .ne 34, 3) := by decide +kernel
theorem dprog_12_2_96 : decode prog_12_method_2_code 96 = .ok (.bipush 31, 2) := by decide +kernel
theorem dprog_12_2_98 : decode prog_12_method_2_code 98 = .ok (.iload_n 1, 1) := by decide +kernel
theorem dprog_12_2_99 : decode prog_12_method_2_code 99 = .ok (.imul, 1) := by decide +kernel
theorem dprog_12_2_100 : decode prog_12_method_2_code 100 = .ok (.iload_n 3, 1) := by decide +kernel
theorem dprog_12_2_101 : decode prog_12_method_2_code 101 = .ok (.bipush 65, 2) := by decide +kernel
theorem dprog_12_2_103 : decode prog_12_method_2_code 103 = .ok (.if_icmp .lt 16, 3) := by decide +kernel
theorem dprog_12_2_119 : decode prog_12_method_2_code 119 = .ok (.iload_n 3, 1) := by decide +kernel
theorem dprog_12_2_120 : decode prog_12_method_2_code 120 = .ok (.iadd, 1) := by decide +kernel
theorem dprog_12_2_121 : decode prog_12_method_2_code 121 = .ok (.istore_n 1, 1) := by decide +kernel
theorem dprog_12_2_122 : decode prog_12_method_2_code 122 = .ok (.iinc 2 1, 3) := by decide +kernel
theorem dprog_12_2_125 : decode prog_12_method_2_code 125 = .ok (.goto (-81), 3) := by decide +kernel
theorem dprog_12_2_106 : decode prog_12_method_2_code 106 = .ok (.iload_n 3, 1) := by decide +kernel
theorem dprog_12_2_107 : decode prog_12_method_2_code 107 = .ok (.bipush 90, 2) := by decide +kernel
theorem dprog_12_2_109 : decode prog_12_method_2_code 109 = .ok (.if_icmp .gt 10, 3) := by decide +kernel
theorem dprog_12_2_112 : decode prog_12_method_2_code 112 = .ok (.iload_n 3, 1) := by decide +kernel
theorem dprog_12_2_113 : decode prog_12_method_2_code 113 = .ok (.bipush 32, 2) := by decide +kernel
theorem dprog_12_2_115 : decode prog_12_method_2_code 115 = .ok (.iadd, 1) := by decide +kernel
theorem dprog_12_2_116 : decode prog_12_method_2_code 116 = .ok (.goto 4, 3) := by decide +kernel
theorem dprog_12_2_0 : decode prog_12_method_2_code 0 = .ok (.aload_n 0, 1) := by decide +kernel
theorem dprog_12_2_1 : decode prog_12_method_2_code 1 = .ok (.ldc 17, 2) := by decide +kernel
theorem dprog_12_2_3 : decode prog_12_method_2_code 3 = .ok (.invokestatic 18, 3) := by decide +kernel
theorem dprog_12_2_6 : decode prog_12_method_2_code 6 = .ok (.pop, 1) := by decide +kernel
theorem dprog_12_2_7 : decode prog_12_method_2_code 7 = .ok (.aload_n 0, 1) := by decide +kernel
theorem dprog_12_2_8 : decode prog_12_method_2_code 8 = .ok (.invokevirtual 24, 3) := by decide +kernel
theorem dprog_12_2_11 : decode prog_12_method_2_code 11 = .ok (.ifCond .ne 12, 3) := by decide +kernel
theorem dprog_12_2_14 : decode prog_12_method_2_code 14 = .ok (.aload_n 0, 1) := by decide +kernel
theorem dprog_12_2_15 : decode prog_12_method_2_code 15 = .ok (.invokevirtual 30, 3) := by decide +kernel
theorem dprog_12_2_18 : decode prog_12_method_2_code 18 = .ok (.bipush 32, 2) := by decide +kernel
theorem dprog_12_2_20 : decode prog_12_method_2_code 20 = .ok (.if_icmp .le 20, 3) := by decide +kernel
theorem dprog_12_2_40 : decode prog_12_method_2_code 40 = .ok (.iconst 0, 1) := by decide +kernel
theorem dprog_12_2_41 : decode prog_12_method_2_code 41 = .ok (.istore_n 1, 1) := by decide +kernel
theorem dprog_12_2_42 : decode prog_12_method_2_code 42 = .ok (.iconst 0, 1) := by decide +kernel
theorem dprog_12_2_43 : decode prog_12_method_2_code 43 = .ok (.istore_n 2, 1) := by decide +kernel
theorem dm_2_0 : decode method_2_code 0 = .ok (.iload_n 0, 1) := by decide +kernel
theorem dm_2_1 : decode method_2_code 1 = .ok (.ldc 7, 2) := by decide +kernel
theorem dm_2_3 : decode method_2_code 3 = .ok (.iand, 1) := by decide +kernel
theorem dm_2_4 : decode method_2_code 4 = .ok (.bipush 65, 2) := by decide +kernel
theorem dm_2_6 : decode method_2_code 6 = .ok (.irem, 1) := by decide +kernel
theorem dm_2_7 : decode method_2_code 7 = .ok (.istore_n 1, 1) := by decide +kernel
theorem dm_2_8 : decode method_2_code 8 = .ok (.iload_n 1, 1) := by decide +kernel
theorem dm_2_9 : decode method_2_code 9 = .ok (.bipush 26, 2) := by decide +kernel
theorem dm_2_11 : decode method_2_code 11 = .ok (.if_icmp .ge 9, 3) := by decide +kernel
theorem dm_2_14 : decode method_2_code 14 = .ok (.bipush 97, 2) := by decide +kernel
theorem dm_2_16 : decode method_2_code 16 = .ok (.iload_n 1, 1) := by decide +kernel
theorem dm_2_17 : decode method_2_code 17 = .ok (.iadd, 1) := by decide +kernel
theorem dm_2_18 : decode method_2_code 18 = .ok (.i2c, 1) := by decide +kernel
theorem dm_2_19 : decode method_2_code 19 = .ok (.ireturn, 1) := by decide +kernel
theorem dm_2_20 : decode method_2_code 20 = .ok (.iload_n 1, 1) := by decide +kernel
theorem dm_2_21 : decode method_2_code 21 = .ok (.bipush 52, 2) := by decide +kernel
theorem dm_2_23 : decode method_2_code 23 = .ok (.if_icmp .ge 12, 3) := by decide +kernel
theorem dm_2_26 : decode method_2_code 26 = .ok (.bipush 65, 2) := by decide +kernel
theorem dm_2_28 : decode method_2_code 28 = .ok (.iload_n 1, 1) := by decide +kernel
theorem dm_2_29 : decode method_2_code 29 = .ok (.bipush 26, 2) := by decide +kernel
theorem dm_2_31 : decode method_2_code 31 = .ok (.isub, 1) := by decide +kernel
theorem dm_2_32 : decode method_2_code 32 = .ok (.iadd, 1) := by decide +kernel
theorem dm_2_33 : decode method_2_code 33 = .ok (.i2c, 1) := by decide +kernel
theorem dm_2_34 : decode method_2_code 34 = .ok (.ireturn, 1) := by decide +kernel
theorem dm_2_35 : decode method_2_code 35 = .ok (.iload_n 1, 1) := by decide +kernel
theorem dm_2_36 : decode method_2_code 36 = .ok (.bipush 62, 2) := by decide +kernel
theorem dm_2_38 : decode method_2_code 38 = .ok (.if_icmp .ge 12, 3) := by decide +kernel
theorem dm_2_41 : decode method_2_code 41 = .ok (.bipush 48, 2) := by decide +kernel
theorem dm_2_43 : decode method_2_code 43 = .ok (.iload_n 1, 1) := by decide +kernel
theorem dm_2_44 : decode method_2_code 44 = .ok (.bipush 52, 2) := by decide +kernel
theorem dm_2_46 : decode method_2_code 46 = .ok (.isub, 1) := by decide +kernel
theorem dm_2_47 : decode method_2_code 47 = .ok (.iadd, 1) := by decide +kernel
theorem dm_2_48 : decode method_2_code 48 = .ok (.i2c, 1) := by decide +kernel
theorem dm_2_49 : decode method_2_code 49 = .ok (.ireturn, 1) := by decide +kernel
theorem dm_2_50 : decode method_2_code 50 = .ok (.iload_n 1, 1) := by decide +kernel
theorem dm_2_51 : decode method_2_code 51 = .ok (.bipush 62, 2) := by decide +kernel
theorem dm_2_53 : decode method_2_code 53 = .ok (.if_icmp .ne 6, 3) := by decide +kernel
theorem dm_2_56 : decode method_2_code 56 = .ok (.bipush 95, 2) := by decide +kernel
theorem dm_2_58 : decode method_2_code 58 = .ok (.ireturn, 1) := by decide +kernel
theorem dm_2_59 : decode method_2_code 59 = .ok (.iload_n 1, 1) := by decide +kernel
theorem dm_2_60 : decode method_2_code 60 = .ok (.bipush 63, 2) := by decide +kernel
theorem dm_2_62 : decode method_2_code 62 = .ok (.if_icmp .ne 6, 3) := by decide +kernel
theorem dm_2_65 : decode method_2_code 65 = .ok (.bipush 45, 2) := by decide +kernel
theorem dm_2_67 : decode method_2_code 67 = .ok (.ireturn, 1) := by decide +kernel
theorem dm_2_68 : decode method_2_code 68 = .ok (.bipush 46, 2) := by decide +kernel
theorem dm_2_70 : decode method_2_code 70 = .ok (.ireturn, 1) := by decide +kernel
theorem dm_3_0 : decode method_3_code 0 = .ok (.iload_n 0, 1) := by decide +kernel
theorem dm_3_1 : decode method_3_code 1 = .ok (.bipush 65, 2) := by decide +kernel
theorem dm_3_3 : decode method_3_code 3 = .ok (.if_icmp .lt 14, 3) := by decide +kernel
theorem dm_3_17 : decode method_3_code 17 = .ok (.iload_n 0, 1) := by decide +kernel
theorem dm_3_18 : decode method_3_code 18 = .ok (.ireturn, 1) := by decide +kernel
theorem dm_3_6 : decode method_3_code 6 = .ok (.iload_n 0, 1) := by decide +kernel
theorem dm_3_7 : decode method_3_code 7 = .ok (.bipush 90, 2) := by decide +kernel
theorem dm_3_9 : decode method_3_code 9 = .ok (.if_icmp .gt 8, 3) := by decide +kernel
theorem dm_3_12 : decode method_3_code 12 = .ok (.iload_n 0, 1) := by decide +kernel
theorem dm_3_13 : decode method_3_code 13 = .ok (.bipush 32, 2) := by decide +kernel
theorem dm_3_15 : decode method_3_code 15 = .ok (.iadd, 1) := by decide +kernel
theorem dm_3_16 : decode method_3_code 16 = .ok (.ireturn, 1) := by decide +kernel
theorem pf0 : plainFor (⟨"java/lang/StringUTF16", "compress", "([CI[BII)I"⟩ : MethodName) = true := by first | exact plainFor_of_name (by first | (simp [plainName, overriddenIn]; done) | decide +kernel) | decide +kernel
theorem pf1 : plainFor (⟨"java/lang/StringUTF16", "compress", "([CII)[B"⟩ : MethodName) = true := by first | exact plainFor_of_name (by first | (simp [plainName, overriddenIn]; done) | decide +kernel) | decide +kernel
theorem pf2 : plainFor (⟨"java/lang/StringUTF16", "coderFromArrayLen", "([BI)B"⟩ : MethodName) = true := by first | exact plainFor_of_name (by first | (simp [plainName, overriddenIn]; done) | decide +kernel) | decide +kernel
theorem pf3 : plainFor (⟨"java/lang/String", "<init>", "([CIILjava/lang/Void;)V"⟩ : MethodName) = true := by first | exact plainFor_of_name (by first | (simp [plainName, overriddenIn]; done) | decide +kernel) | decide +kernel
theorem pf4 : plainFor (⟨"java/lang/String", "<init>", "([C)V"⟩ : MethodName) = true := by first | exact plainFor_of_name (by first | (simp [plainName, overriddenIn]; done) | decide +kernel) | decide +kernel
theorem pf5 : plainFor (⟨"java/util/Objects", "requireNonNull", "(Ljava/lang/Object;Ljava/lang/String;)Ljava/lang/Object;"⟩ : MethodName) = true := by first | exact plainFor_of_name (by first | (simp [plainName, overriddenIn]; done) | decide +kernel) | decide +kernel
theorem pf6 : plainFor (⟨"java/lang/String", "isEmpty", "()Z"⟩ : MethodName) = true := by first | exact plainFor_of_name (by first | (simp [plainName, overriddenIn]; done) | decide +kernel) | decide +kernel
theorem pf7 : plainFor (⟨"java/lang/String", "coder", "()B"⟩ : MethodName) = true := by first | exact plainFor_of_name (by first | (simp [plainName, overriddenIn]; done) | decide +kernel) | decide +kernel
theorem pf8 : plainFor (⟨"java/lang/String", "length", "()I"⟩ : MethodName) = true := by first | exact plainFor_of_name (by first | (simp [plainName, overriddenIn]; done) | decide +kernel) | decide +kernel
theorem pf9 : plainFor (⟨"java/lang/String", "isLatin1", "()Z"⟩ : MethodName) = true := by first | exact plainFor_of_name (by first | (simp [plainName, overriddenIn]; done) | decide +kernel) | decide +kernel
theorem pf10 : plainFor (⟨"jdk/internal/util/Preconditions", "checkIndex", "(IILjava/util/function/BiFunction;)I"⟩ : MethodName) = true := by first | exact plainFor_of_name (by first | (simp [plainName, overriddenIn]; done) | decide +kernel) | decide +kernel
theorem pf11 : plainFor (⟨"java/lang/String", "checkIndex", "(II)V"⟩ : MethodName) = true := by first | exact plainFor_of_name (by first | (simp [plainName, overriddenIn]; done) | decide +kernel) | decide +kernel
theorem pf12 : plainFor (⟨"java/lang/StringLatin1", "charAt", "([BI)C"⟩ : MethodName) = true := by first | exact plainFor_of_name (by first | (simp [plainName, overriddenIn]; done) | decide +kernel) | decide +kernel
theorem pf13 : plainFor (⟨"java/lang/String", "charAt", "(I)C"⟩ : MethodName) = true := by first | exact plainFor_of_name (by first | (simp [plainName, overriddenIn]; done) | decide +kernel) | decide +kernel
theorem pf14 : plainFor (⟨"com/example/letters_between_tasks/lettersbetweentasks/model/Name", "isNameCharacter", "(C)Z"⟩ : MethodName) = true := by first | exact plainFor_of_name (by first | (simp [plainName, overriddenIn]; done) | decide +kernel) | decide +kernel
theorem pf15 : plainFor (⟨"com/example/letters_between_tasks/lettersbetweentasks/model/Name", "<init>", "(Ljava/lang/String;I)V"⟩ : MethodName) = true := by first | exact plainFor_of_name (by first | (simp [plainName, overriddenIn]; done) | decide +kernel) | decide +kernel
theorem pf16 : plainFor (⟨"com/example/letters_between_tasks/lettersbetweentasks/model/Name", "text", "()Ljava/lang/String;"⟩ : MethodName) = true := by first | exact plainFor_of_name (by first | (simp [plainName, overriddenIn]; done) | decide +kernel) | decide +kernel
theorem pf17 : plainFor (⟨"com/example/letters_between_tasks/lettersbetweentasks/model/Name", "toString", "()Ljava/lang/String;"⟩ : MethodName) = true := by first | exact plainFor_of_name (by first | (simp [plainName, overriddenIn]; done) | decide +kernel) | decide +kernel
theorem pf18 : plainFor (⟨"com/example/letters_between_tasks/lettersbetweentasks/model/Name", "hashCode", "()I"⟩ : MethodName) = true := by first | exact plainFor_of_name (by first | (simp [plainName, overriddenIn]; done) | decide +kernel) | decide +kernel
theorem pf19 : plainFor (⟨"java/lang/String", "equals", "(Ljava/lang/Object;)Z"⟩ : MethodName) = true := by first | exact plainFor_of_name (by first | (simp [plainName, overriddenIn]; done) | decide +kernel) | decide +kernel
theorem pf20 : plainFor (⟨"com/example/letters_between_tasks/lettersbetweentasks/model/Name", "of", "(Ljava/lang/String;)Lcom/example/letters_between_tasks/lettersbetweentasks/model/Name;"⟩ : MethodName) = true := by first | exact plainFor_of_name (by first | (simp [plainName, overriddenIn]; done) | decide +kernel) | decide +kernel
theorem pf21 : plainFor (⟨"com/example/letters_between_tasks/lettersbetweentasks/model/NameOfPinLaw", "pick", "(I)C"⟩ : MethodName) = true := by first | exact plainFor_of_name (by first | (simp [plainName, overriddenIn]; done) | decide +kernel) | decide +kernel
theorem pf22 : plainFor (⟨"com/example/letters_between_tasks/lettersbetweentasks/model/NameOfPinLaw", "low", "(C)I"⟩ : MethodName) = true := by first | exact plainFor_of_name (by first | (simp [plainName, overriddenIn]; done) | decide +kernel) | decide +kernel
theorem pf23 : plainFor (⟨"com/example/letters_between_tasks/lettersbetweentasks/model/NameOfPinLaw", "law", "(IIIII)Z"⟩ : MethodName) = true := by first | exact plainFor_of_name (by first | (simp [plainName, overriddenIn]; done) | decide +kernel) | decide +kernel
theorem hSA {Z : State} {a0 : Array Value} (hw : ∀ d ∈ tables_1, d.before a0 Z = true) : ∀ a ∈ Bundle.stringAtoms, a.before a0 Z = true := fun d hd => hw d ((by decide +kernel : ∀ d ∈ Bundle.stringAtoms, d ∈ tables_1) d hd)
set_option maxRecDepth 65536 in
set_option maxHeartbeats 40000000 in
theorem cp_lp (l : Launch) (Z : State) (a0 : Array Value) (n0 : Nat) (hw : ∀ d ∈ tables_1, d.before a0 Z = true) (hEL : EW Z a0 []) (G1 : Int32) (O1 : Sta Z Z.heap "java/lang/String" "COMPACT_STRINGS" "Z" (.int G1)) (P1 : ¬ (G1 = (0 : Int32))) (G3 : Value) (O3 : Sta Z Z.heap "jdk/internal/util/Preconditions" "SIOOBE_FORMATTER" "Ljava/util/function/BiFunction;" G3) (rG3 : G3.isRef = true) (ca : Addr) (kc : ClassId) (ba : Addr) (kb : ClassId) (N : Nat) (g : Nat → Int32) (t : Nat) (xv : Int32) (p : Program) (e : Env) (s : State) (m : MethodId) (below : List Frame) (meth : Method) (c : Code) (S0 : State) (V : Vm) (h0 h : Heap) (hO0 : Old Z n0 h0) (V_ca : Arv Z h ca kc .char (Int32.ofNat N) (lst N g) (.int (0 : Int32))) (V_ba : Arv Z h ba kb .byte (Int32.ofNat N) (lst N (pf g t)) (.int (0 : Int32))) (N_ca_ba : ca ≠ ba) (hN : N ≤ 32) (hg : ∀ i, i < N → NCh (g i)) (hge1 : 1 ≤ t) (ht : t ≤ N) (g_ba : n0 ≤ ba) (hnm : meth.name = "compress") (W : Wk p l e ({ frames := 0, cells := 0, slots := 0, locals := 0 } : Room) s m #[(.ref ca), (.int (0 : Int32)), (.ref ba), (.int (0 : Int32)), (.int (Int32.ofNat N))] below meth c jdk_52_method_21_code 7 (some .int) Z a0 [] "java/lang/StringUTF16" n0 h0 [ba] S0 V h 0 0 (mkF m 3 #[.val (.ref ca), .val (.int (Int32.ofNat t)), .val (.ref ba), .val (.int (Int32.ofNat t)), .val (.int (Int32.ofNat N)), .val (.int (Int32.ofNat t)), .val (.int xv)] [])) : Done p e below S0 s Z [] n0 h0 [ba] ({ frames := 0, cells := 0, slots := 0, locals := 0 } : Room) (fun v h V' => v = some (.int (Int32.ofNat N)) ∧ Arv Z h ba kb .byte (Int32.ofNat N) (lst N g) (.int (0 : Int32))) := by
  have z0 : h0.size ≤ h.size := W.kept.1
  clear z0
  obtain ⟨d, hd⟩ : ∃ d, t + d = N := ⟨_, Nat.add_sub_of_le ht⟩
  clear ht
  induction d generalizing t xv V h with
  | zero =>
    have htN : t = N := hd
    subst htN
    have z0 : h0.size ≤ h.size := W.kept.1
    replace W := W.iload (pc' := 5) djdk_52_21_3 rfl rfl
    replace W := W.iload (pc' := 7) djdk_52_21_5 rfl rfl
    replace W := W.icmpT (pc' := 44) djdk_52_21_7 (flt (own_irr _)).2.1 (by decide) (by decide)
    replace W := W.iload (pc' := 46) djdk_52_21_44 rfl rfl
    exact W.iret (t := .int) djdk_52_21_46 rfl (by simp) rfl (by decide) (by decide) (fun V' cv => ⟨rfl, (own_cg V_ba own_pfN)⟩)
  | succ d ih =>
    have z0 : h0.size ≤ h.size := W.kept.1
    replace W := W.iload (pc' := 5) djdk_52_21_3 rfl rfl
    replace W := W.iload (pc' := 7) djdk_52_21_5 rfl rfl
    replace W := W.icmpF (pc' := 10) djdk_52_21_7 (tlt (own_lt (by omega) (by omega) (by omega))).2.1 rfl
    replace W := W.aloadN (pc' := 11) djdk_52_21_10 rfl rfl rfl
    replace W := W.iloadN (pc' := 12) djdk_52_21_11 rfl rfl
    replace W := W.caload (pc' := 13) (w := (.int (g t))) djdk_52_21_12 V_ca ⟨own_nn (by omega), own_lt (by omega) (by omega) (by omega)⟩ (by rw [own_clamp (by omega), own_lst_get (by omega)]) rfl
    replace W := W.istore (pc' := 15) (L' := #[.val (.ref ca), .val (.int (Int32.ofNat t)), .val (.ref ba), .val (.int (Int32.ofNat t)), .val (.int (Int32.ofNat N)), .val (.int (Int32.ofNat t)), .val (.int (g t))]) djdk_52_21_13 rfl rfl
    replace W := W.iload (pc' := 17) djdk_52_21_15 rfl rfl
    replace W := W.sipush (pc' := 20) (v := (255 : Int32)) djdk_52_21_17 rfl rfl
    replace W := W.icmpT (pc' := 26) djdk_52_21_20 (flt (nch_255 (hg _ (by omega)))).2.2.2 (by decide) (by decide)
    replace W := W.aloadN (pc' := 27) djdk_52_21_26 rfl rfl rfl
    replace W := W.iloadN (pc' := 28) djdk_52_21_27 rfl rfl
    replace W := W.iload (pc' := 30) djdk_52_21_28 rfl rfl
    replace W := W.i2b (pc' := 31) (v := (g t)) djdk_52_21_30 (nch_i2b (hg _ (by omega))) rfl
    obtain ⟨h1, W1, w1, A1, SF1⟩ := W.bastore (pc' := 32) (i := t) (x' := (g t)) djdk_52_21_31 V_ba ⟨own_nn (by omega), own_lt (by omega) (by omega) (by omega)⟩ (own_clamp (by omega)) (by rw [own_lst_len]; omega) (nch_narb (hg _ (by omega))) safe0 (Or.inl (List.mem_of_getElem? (i := 0) rfl)) rfl
    clear W
    have z1 : h.size ≤ h1.size := Nat.le_of_eq w1.size.symm
    have v1 : Arv Z h1 ba kb .byte (Int32.ofNat N) (lst N (upd (pf g t) t (g t))) (.int (0 : Int32)) := (by rw [← own_lst_set]; exact A1)
    replace W1 := W1.iinc (pc' := 35) (v := (Int32.ofNat (t + 1))) (L' := #[.val (.ref ca), .val (.int (Int32.ofNat (t + 1))), .val (.ref ba), .val (.int (Int32.ofNat t)), .val (.int (Int32.ofNat N)), .val (.int (Int32.ofNat t)), .val (.int (g t))]) djdk_52_21_32 rfl (own_add1 _) rfl rfl
    replace W1 := W1.iinc (pc' := 38) (v := (Int32.ofNat (t + 1))) (L' := #[.val (.ref ca), .val (.int (Int32.ofNat (t + 1))), .val (.ref ba), .val (.int (Int32.ofNat (t + 1))), .val (.int (Int32.ofNat N)), .val (.int (Int32.ofNat t)), .val (.int (g t))]) djdk_52_21_35 rfl (own_add1 _) rfl rfl
    replace W1 := W1.iinc (pc' := 41) (v := (Int32.ofNat (t + 1))) (L' := #[.val (.ref ca), .val (.int (Int32.ofNat (t + 1))), .val (.ref ba), .val (.int (Int32.ofNat (t + 1))), .val (.int (Int32.ofNat N)), .val (.int (Int32.ofNat (t + 1))), .val (.int (g t))]) djdk_52_21_38 rfl (own_add1 _) rfl rfl
    replace W1 := W1.goto (pc' := 3) djdk_52_21_41 (by decide) (by decide)
    have v2 := own_cg v1 own_pfS
    have v3 := (V_ca.other w1 N_ca_ba)
    exact ih (t + 1) _ _ _ v3 v2 (by omega) W1 (by omega)
theorem ef_cmp5 (m : MethodId) (ca : Addr) (kc : ClassId) (ba : Addr) (kb : ClassId) (N : Nat) (g : Nat → Int32) : entryFrame m #[(.ref ca), (.int (0 : Int32)), (.ref ba), (.int (0 : Int32)), (.int (Int32.ofNat N))] 7 = mkF m 0 #[.val (.ref ca), .val (.int (0 : Int32)), .val (.ref ba), .val (.int (0 : Int32)), .val (.int (Int32.ofNat N)), .unset, .unset] [] := by first | (simp [entryFrame, mkF, argsToLocals, Value.category]; done) | rfl
set_option maxRecDepth 65536 in
set_option maxHeartbeats 40000000 in
theorem cmp5 (l : Launch) (Z : State) (a0 : Array Value) (n0 : Nat) (hw : ∀ d ∈ tables_1, d.before a0 Z = true) (hEL : EW Z a0 []) (G1 : Int32) (O1 : Sta Z Z.heap "java/lang/String" "COMPACT_STRINGS" "Z" (.int G1)) (P1 : ¬ (G1 = (0 : Int32))) (G3 : Value) (O3 : Sta Z Z.heap "jdk/internal/util/Preconditions" "SIOOBE_FORMATTER" "Ljava/util/function/BiFunction;" G3) (rG3 : G3.isRef = true) (ca : Addr) (kc : ClassId) (ba : Addr) (kb : ClassId) (N : Nat) (g : Nat → Int32) (h0 : Heap) (hO : Old Z n0 h0) (V_ca : Arv Z h0 ca kc .char (Int32.ofNat N) (lst N g) (.int (0 : Int32))) (V_ba : Arv Z h0 ba kb .byte (Int32.ofNat N) (lst N zf) (.int (0 : Int32))) (N_ca_ba : ca ≠ ba) (hN : N ≤ 32) (hge1 : 1 ≤ N) (hg : ∀ i, i < N → NCh (g i)) (g_ba : n0 ≤ ba) :
    Con l Z [] n0 (⟨"java/lang/StringUTF16", "compress", "([CI[BII)I"⟩ : MethodName) jdk_52_method_21_code 7 (some .int) ({ frames := 0, cells := 0, slots := 0, locals := 0 } : Room) #[(.ref ca), (.int (0 : Int32)), (.ref ba), (.int (0 : Int32)), (.int (Int32.ofNat N))] h0 [ba] (fun v h V' => v = some (.int (Int32.ofNat N)) ∧ Arv Z h ba kb .byte (Int32.ofNat N) (lst N g) (.int (0 : Int32))) [] := by
  refine Con.of (a0 := a0) pf0 (fun m => ef_cmp5 m ca kc ba kb N g) (allS g_ba all0) hO hEL ?_
  intro p e s m below meth c S0 hnm hsf W
  replace W := W.iconst (pc' := 1) (v := (0 : Int32)) djdk_52_21_0 rfl rfl
  replace W := W.istore (pc' := 3) (L' := #[.val (.ref ca), .val (.int (0 : Int32)), .val (.ref ba), .val (.int (0 : Int32)), .val (.int (Int32.ofNat N)), .val (.int (0 : Int32)), .unset]) djdk_52_21_1 rfl rfl
  replace W := W.iload (pc' := 5) djdk_52_21_3 rfl rfl
  replace W := W.iload (pc' := 7) djdk_52_21_5 rfl rfl
  replace W := W.icmpF (pc' := 10) djdk_52_21_7 (tlt (own_lt (X := 0) (by omega) (by omega) (by omega))).2.1 rfl
  replace W := W.aloadN (pc' := 11) djdk_52_21_10 rfl rfl rfl
  replace W := W.iloadN (pc' := 12) djdk_52_21_11 rfl rfl
  replace W := W.caload (pc' := 13) (w := (.int (g 0))) djdk_52_21_12 V_ca ⟨by decide, own_lt (X := 0) (by omega) (by omega) (by omega)⟩ (own_lst_get (i := 0) (by omega)) rfl
  replace W := W.istore (pc' := 15) (L' := #[.val (.ref ca), .val (.int (0 : Int32)), .val (.ref ba), .val (.int (0 : Int32)), .val (.int (Int32.ofNat N)), .val (.int (0 : Int32)), .val (.int (g 0))]) djdk_52_21_13 rfl rfl
  replace W := W.iload (pc' := 17) djdk_52_21_15 rfl rfl
  replace W := W.sipush (pc' := 20) (v := (255 : Int32)) djdk_52_21_17 rfl rfl
  replace W := W.icmpT (pc' := 26) djdk_52_21_20 (flt (nch_255 (hg _ (by omega)))).2.2.2 (by decide) (by decide)
  replace W := W.aloadN (pc' := 27) djdk_52_21_26 rfl rfl rfl
  replace W := W.iloadN (pc' := 28) djdk_52_21_27 rfl rfl
  replace W := W.iload (pc' := 30) djdk_52_21_28 rfl rfl
  replace W := W.i2b (pc' := 31) (v := (g 0)) djdk_52_21_30 (nch_i2b (hg _ (by omega))) rfl
  obtain ⟨h1, W1, w1, A1, SF1⟩ := W.bastore (pc' := 32) (i := 0) (x' := (g 0)) djdk_52_21_31 V_ba ⟨by decide, own_lt (X := 0) (by omega) (by omega) (by omega)⟩ rfl (by rw [own_lst_len]; omega) (nch_narb (hg _ (by omega))) safe0 (Or.inl (List.mem_of_getElem? (i := 0) rfl)) rfl
  clear W
  have z1 : h0.size ≤ h1.size := Nat.le_of_eq w1.size.symm
  have v1 : Arv Z h1 ba kb .byte (Int32.ofNat N) (lst N (upd zf 0 (g 0))) (.int (0 : Int32)) := (by rw [← own_lst_set]; exact A1)
  replace W1 := W1.iinc (pc' := 35) (v := (1 : Int32)) (L' := #[.val (.ref ca), .val (.int (1 : Int32)), .val (.ref ba), .val (.int (0 : Int32)), .val (.int (Int32.ofNat N)), .val (.int (0 : Int32)), .val (.int (g 0))]) djdk_52_21_32 rfl (by decide) rfl rfl
  replace W1 := W1.iinc (pc' := 38) (v := (1 : Int32)) (L' := #[.val (.ref ca), .val (.int (1 : Int32)), .val (.ref ba), .val (.int (1 : Int32)), .val (.int (Int32.ofNat N)), .val (.int (0 : Int32)), .val (.int (g 0))]) djdk_52_21_35 rfl (by decide) rfl rfl
  replace W1 := W1.iinc (pc' := 41) (v := (1 : Int32)) (L' := #[.val (.ref ca), .val (.int (1 : Int32)), .val (.ref ba), .val (.int (1 : Int32)), .val (.int (Int32.ofNat N)), .val (.int (1 : Int32)), .val (.int (g 0))]) djdk_52_21_38 rfl (by decide) rfl rfl
  replace W1 := W1.goto (pc' := 3) djdk_52_21_41 (by decide) (by decide)
  replace W1 := W1.castL (L' := #[.val (.ref ca), .val (.int (Int32.ofNat 1)), .val (.ref ba), .val (.int (Int32.ofNat 1)), .val (.int (Int32.ofNat N)), .val (.int (Int32.ofNat 1)), .val (.int (g 0))]) rfl
  have v2 := own_cg v1 own_pf0
  have v3 := (V_ca.other w1 N_ca_ba)
  exact cp_lp l Z a0 n0 hw hEL G1 O1 P1 G3 O3 rG3 ca kc ba kb N g 1 (g 0) p e s m below meth c S0 s.vm h0 h1 hO v3 v2 N_ca_ba hN hg (by omega) hge1 g_ba hnm W1
theorem ef_cmp3 (m : MethodId) (ca : Addr) (kc : ClassId) (N : Nat) (g : Nat → Int32) : entryFrame m #[(.ref ca), (.int (0 : Int32)), (.int (Int32.ofNat N))] 6 = mkF m 0 #[.val (.ref ca), .val (.int (0 : Int32)), .val (.int (Int32.ofNat N)), .unset, .unset, .unset] [] := by first | (simp [entryFrame, mkF, argsToLocals, Value.category]; done) | rfl
set_option maxRecDepth 65536 in
set_option maxHeartbeats 40000000 in
theorem cmp3 (l : Launch) (Z : State) (a0 : Array Value) (n0 : Nat) (hw : ∀ d ∈ tables_1, d.before a0 Z = true) (hEL : EW Z a0 []) (G1 : Int32) (O1 : Sta Z Z.heap "java/lang/String" "COMPACT_STRINGS" "Z" (.int G1)) (P1 : ¬ (G1 = (0 : Int32))) (G3 : Value) (O3 : Sta Z Z.heap "jdk/internal/util/Preconditions" "SIOOBE_FORMATTER" "Ljava/util/function/BiFunction;" G3) (rG3 : G3.isRef = true) (ca : Addr) (kc : ClassId) (N : Nat) (g : Nat → Int32) (h0 : Heap) (hO : Old Z n0 h0) (V_ca : Arv Z h0 ca kc .char (Int32.ofNat N) (lst N g) (.int (0 : Int32))) (hN : N ≤ 32) (hge1 : 1 ≤ N) (hg : ∀ i, i < N → NCh (g i)) :
    Con l Z [] n0 (⟨"java/lang/StringUTF16", "compress", "([CII)[B"⟩ : MethodName) jdk_52_method_16_code 6 (some (.array .byte)) ({ frames := 1, cells := 1, slots := 32, locals := 18 } : Room) #[(.ref ca), (.int (0 : Int32)), (.int (Int32.ofNat N))] h0 [] (fun v h V' => ∃ (r : Addr) (kb : ClassId), v = some (.ref r) ∧ Arv Z h r kb .byte (Int32.ofNat N) (lst N g) (.int (0 : Int32)) ∧ h0.size ≤ r) [] := by
  refine Con.of (a0 := a0) pf1 (fun m => ef_cmp3 m ca kc N g) all0 hO hEL ?_
  intro p e s m below meth c S0 hnm hsf W
  replace W := W.iloadN (pc' := 1) djdk_52_16_0 rfl rfl
  obtain ⟨h1, a1, W1, E1, g1, ⟨⟨k1, A1⟩, B1⟩, sf1, SF1⟩ := W.newarrE (pc' := 3) (ad := "[B") (cap := 32) (cells' := 1) (slots' := 32) djdk_52_16_1 (tw27 hw) (by decide) (own_nn (by omega)) (by rw [own_clamp (by omega)]; omega) (by decide) rfl rfl rfl (by decide) (by decide)
  clear W
  rw [← g1] at A1 B1
  have z1 : h0.size ≤ h1.size := E1.1
  have v1 : Arv Z h1 a1 k1 .byte (Int32.ofNat N) (lst N zf) (.int (0 : Int32)) := own_lst0 A1
  replace W1 := W1.astoreN (pc' := 4) (L' := #[.val (.ref ca), .val (.int (0 : Int32)), .val (.int (Int32.ofNat N)), .val (.ref a1), .unset, .unset]) djdk_52_16_3 rfl rfl rfl
  replace W1 := W1.aloadN (pc' := 5) djdk_52_16_4 rfl rfl rfl
  replace W1 := W1.iloadN (pc' := 6) djdk_52_16_5 rfl rfl
  replace W1 := W1.aloadN (pc' := 7) djdk_52_16_6 rfl rfl rfl
  replace W1 := W1.iconst (pc' := 8) (v := (0 : Int32)) djdk_52_16_7 rfl rfl
  replace W1 := W1.iloadN (pc' := 9) djdk_52_16_8 rfl rfl
  have v2 := (V_ca.ext E1)
  obtain ⟨V3, h3, r3, W3, K3, hQ3, SF3⟩ := W1.callS (pc' := 12) (argsL := [(.ref ca), (.int (0 : Int32)), (.ref a1), (.int (0 : Int32)), (.int (Int32.ofNat N))]) (rest := []) (Wd := 0) (cells' := 1) (slots' := 32) (y := (⟨"java/lang/StringUTF16", "compress", "([CI[BII)I"⟩ : MethodName)) djdk_52_16_9 (cmp5 l Z a0 n0 hw hEL G1 O1 P1 G3 O3 rG3 ca kc a1 k1 N g h1 W1.old v2 v1 (Nat.ne_of_lt (Nat.lt_of_lt_of_le V_ca.lt (Nat.le_of_eq g1.symm))) (by omega) (by omega) hg (Nat.le_trans W1.1.2.2.2.2.2.2.2.1 (Nat.le_of_eq g1.symm))) (tw28 hw) (tw29 hw) (tw25 hw) (tw30 hw) (by decide) (lenOf pd0 rfl) rfl rfl (by decide) (by decide) rfl (sfS safe0 sf0) (allS (Or.inr (Nat.le_of_eq g1.symm)) all0) rfl rfl rfl (by decide) (by decide)
  clear W1
  obtain ⟨rfl, q3_1⟩ := hQ3
  have z3 : h1.size ≤ h3.size := K3.1
  replace W3 := W3.cast (st' := [(.int (Int32.ofNat N))]) rfl
  replace W3 := W3.istore (pc' := 14) (L' := #[.val (.ref ca), .val (.int (0 : Int32)), .val (.int (Int32.ofNat N)), .val (.ref a1), .val (.int (Int32.ofNat N)), .unset]) djdk_52_16_12 rfl rfl
  replace W3 := W3.iload (pc' := 16) djdk_52_16_14 rfl rfl
  replace W3 := W3.iloadN (pc' := 17) djdk_52_16_16 rfl rfl
  replace W3 := W3.icmpT (pc' := 57) djdk_52_16_17 (teq rfl).1 (by decide) (by decide)
  replace W3 := W3.aloadN (pc' := 58) djdk_52_16_57 rfl rfl rfl
  exact W3.aret (t := (.array .byte)) djdk_52_16_58 rfl rfl rfl rfl (by decide) (by decide) (fun V' cv => ⟨a1, k1, rfl, q3_1, (Nat.le_of_eq g1.symm)⟩)
theorem ef_codl (m : MethodId) (ba : Addr) (kb : ClassId) (N : Nat) (g : Nat → Int32) : entryFrame m #[(.ref ba), (.int (Int32.ofNat N))] 2 = mkF m 0 #[.val (.ref ba), .val (.int (Int32.ofNat N))] [] := by first | (simp [entryFrame, mkF, argsToLocals, Value.category]; done) | rfl
set_option maxRecDepth 65536 in
set_option maxHeartbeats 40000000 in
theorem codl (l : Launch) (Z : State) (a0 : Array Value) (n0 : Nat) (hw : ∀ d ∈ tables_1, d.before a0 Z = true) (hEL : EW Z a0 []) (G1 : Int32) (O1 : Sta Z Z.heap "java/lang/String" "COMPACT_STRINGS" "Z" (.int G1)) (P1 : ¬ (G1 = (0 : Int32))) (G3 : Value) (O3 : Sta Z Z.heap "jdk/internal/util/Preconditions" "SIOOBE_FORMATTER" "Ljava/util/function/BiFunction;" G3) (rG3 : G3.isRef = true) (ba : Addr) (kb : ClassId) (N : Nat) (g : Nat → Int32) (h0 : Heap) (hO : Old Z n0 h0) (V_ba : Arv Z h0 ba kb .byte (Int32.ofNat N) (lst N g) (.int (0 : Int32))) :
    Con l Z [] n0 (⟨"java/lang/StringUTF16", "coderFromArrayLen", "([BI)B"⟩ : MethodName) jdk_52_method_15_code 2 (some .byte) ({ frames := 0, cells := 0, slots := 0, locals := 0 } : Room) #[(.ref ba), (.int (Int32.ofNat N))] h0 [] (fun v h V' => v = some (.int (0 : Int32)) ∧ h0 = h) [] := by
  refine Con.of (a0 := a0) pf2 (fun m => ef_codl m ba kb N g) all0 hO hEL ?_
  intro p e s m below meth c S0 hnm hsf W
  replace W := W.iloadN (pc' := 1) djdk_52_15_0 rfl rfl
  replace W := W.aloadN (pc' := 2) djdk_52_15_1 rfl rfl rfl
  replace W := W.alen (pc' := 3) djdk_52_15_2 V_ba rfl
  replace W := W.isub (pc' := 4) (v := (0 : Int32)) djdk_52_15_3 (own_subself _) rfl
  replace W := W.bipush (pc' := 6) (v := (31 : Int32)) djdk_52_15_4 rfl rfl
  replace W := W.iushr (pc' := 7) (v := (0 : Int32)) djdk_52_15_6 (by decide) rfl
  replace W := W.i2b (pc' := 8) (v := (0 : Int32)) djdk_52_15_7 (by decide) rfl
  exact W.iret (t := .byte) djdk_52_15_8 rfl (by simp) (by decide) (by decide) (by decide) (fun V' cv => ⟨rfl, rfl⟩)
theorem ef_new4 (m : MethodId) (xa : Addr) (ca : Addr) (kc : ClassId) (N : Nat) (g : Nat → Int32) : entryFrame m #[(.ref xa), (.ref ca), (.int (0 : Int32)), (.int (Int32.ofNat N)), .null] 6 = mkF m 0 #[.val (.ref xa), .val (.ref ca), .val (.int (0 : Int32)), .val (.int (Int32.ofNat N)), .val .null, .unset] [] := by first | (simp [entryFrame, mkF, argsToLocals, Value.category]; done) | rfl
set_option maxRecDepth 65536 in
set_option maxHeartbeats 40000000 in
theorem new4 (l : Launch) (Z : State) (a0 : Array Value) (n0 : Nat) (hw : ∀ d ∈ tables_1, d.before a0 Z = true) (hEL : EW Z a0 []) (G1 : Int32) (O1 : Sta Z Z.heap "java/lang/String" "COMPACT_STRINGS" "Z" (.int G1)) (P1 : ¬ (G1 = (0 : Int32))) (G3 : Value) (O3 : Sta Z Z.heap "jdk/internal/util/Preconditions" "SIOOBE_FORMATTER" "Ljava/util/function/BiFunction;" G3) (rG3 : G3.isRef = true) (xa : Addr) (ca : Addr) (kc : ClassId) (N : Nat) (g : Nat → Int32) (h0 : Heap) (hO : Old Z n0 h0) (E_xa : Exa Z h0 xa "java/lang/String") (F_xa_value : Fld Z h0 xa "java/lang/String" "value" "[B" .null) (F_xa_coder : Fld Z h0 xa "java/lang/String" "coder" "B" (.int (0 : Int32))) (V_ca : Arv Z h0 ca kc .char (Int32.ofNat N) (lst N g) (.int (0 : Int32))) (hN : N ≤ 32) (hge1 : 1 ≤ N) (hg : ∀ i, i < N → NCh (g i)) (g_xa : n0 ≤ xa) :
    Con l Z [] n0 (⟨"java/lang/String", "<init>", "([CIILjava/lang/Void;)V"⟩ : MethodName) jdk_42_method_149_code 6 none ({ frames := 2, cells := 1, slots := 32, locals := 35 } : Room) #[(.ref xa), (.ref ca), (.int (0 : Int32)), (.int (Int32.ofNat N)), .null] h0 [xa] (fun v h V' => ∃ (ba : Addr) (kb : ClassId), v = none ∧ Exa Z h xa "java/lang/String" ∧ Fld Z h xa "java/lang/String" "coder" "B" (.int (0 : Int32)) ∧ Fld Z h xa "java/lang/String" "value" "[B" (.ref ba) ∧ Arv Z h ba kb .byte (Int32.ofNat N) (lst N g) (.int (0 : Int32))) [] := by
  refine Con.of (a0 := a0) pf3 (fun m => ef_new4 m xa ca kc N g) (allS g_xa all0) hO hEL ?_
  intro p e s m below meth c S0 hnm hsf W
  replace W := W.aloadN (pc' := 1) djdk_42_149_0 rfl rfl rfl
  replace W := W.initO (pc' := 4) (Wd := 0) djdk_42_149_1 (tw19 hw) (tw20 hw) (tw21 hw) rfl rfl (by decide) (by decide) rfl
  replace W := W.iloadN (pc' := 5) djdk_42_149_4 rfl rfl
  replace W := W.ifT (pc' := 27) djdk_42_149_5 (feq (own_ne (Y := 0) (by omega) (by omega) (by omega))).2 (by decide) (by decide)
  replace W := W.gets (pc' := 30) djdk_42_149_27 (tw22 hw) O1 rfl
  replace W := W.ifF (pc' := 33) djdk_42_149_30 (feq P1).1 rfl
  replace W := W.aloadN (pc' := 34) djdk_42_149_33 rfl rfl rfl
  replace W := W.iloadN (pc' := 35) djdk_42_149_34 rfl rfl
  replace W := W.iloadN (pc' := 36) djdk_42_149_35 rfl rfl
  obtain ⟨V1, h1, r1, W1, K1, hQ1, SF1⟩ := W.callS (pc' := 39) (argsL := [(.ref ca), (.int (0 : Int32)), (.int (Int32.ofNat N))]) (rest := []) (Wd := 0) (cells' := 1) (slots' := 32) (y := (⟨"java/lang/StringUTF16", "compress", "([CII)[B"⟩ : MethodName)) djdk_42_149_36 (cmp3 l Z a0 n0 hw hEL G1 O1 P1 G3 O3 rG3 ca kc N g h0 W.old V_ca (by omega) (by omega) hg) (tw23 hw) (tw24 hw) (tw25 hw) (tw26 hw) (by decide) (lenOf pd1 rfl) rfl rfl (by decide) (by decide) rfl sf0 all0 rfl rfl rfl (by decide) (by decide)
  clear W
  obtain ⟨r1, kb1, rfl, q1_1, q1_2⟩ := hQ1
  have z1 : h0.size ≤ h1.size := K1.1
  replace W1 := W1.cast (st' := [(.ref r1)]) rfl
  replace W1 := W1.astore (pc' := 41) (L' := #[.val (.ref xa), .val (.ref ca), .val (.int (0 : Int32)), .val (.int (Int32.ofNat N)), .val .null, .val (.ref r1)]) djdk_42_149_39 rfl rfl rfl
  replace W1 := W1.aloadN (pc' := 42) djdk_42_149_41 rfl rfl rfl
  replace W1 := W1.aload (pc' := 44) djdk_42_149_42 rfl rfl rfl
  replace W1 := W1.iloadN (pc' := 45) djdk_42_149_44 rfl rfl
  obtain ⟨V2, h2, r2, W2, K2, hQ2, SF2⟩ := W1.callS (pc' := 48) (argsL := [(.ref r1), (.int (Int32.ofNat N))]) (rest := [(.ref xa)]) (Wd := 1) (cells' := 1) (slots' := 32) (y := (⟨"java/lang/StringUTF16", "coderFromArrayLen", "([BI)B"⟩ : MethodName)) djdk_42_149_45 (codl l Z a0 n0 hw hEL G1 O1 P1 G3 O3 rG3 r1 kb1 N g h1 W1.old q1_1) (tw31 hw) (tw32 hw) (tw25 hw) (tw33 hw) (by decide) (lenOf pd2 rfl) rfl rfl (by decide) (by decide) rfl sf0 all0 rfl rfl rfl (by decide) (by decide)
  clear W1
  obtain ⟨rfl, hs2⟩ := hQ2
  subst hs2
  replace W2 := W2.cast (st' := [(.int (0 : Int32)), (.ref xa)]) rfl
  have f3 := (F_xa_coder.keep K1 nin0)
  have e4 := (E_xa.keep K1)
  obtain ⟨h5, W5, w5, SF5⟩ := W2.putf (pc' := 51) (ty := .byte) djdk_42_149_48 (tw34 hw) Via.refl f3 e4 (Or.inr ⟨(tw35 hw), rfl, hnm⟩) (tw10 hw) (by decide) rfl rfl safe0 (Or.inl (List.mem_of_getElem? (i := 0) rfl)) rfl
  clear W2
  have z5 : h1.size ≤ h5.size := Nat.le_of_eq w5.size.symm
  have f5 := f3.same w5
  replace W5 := W5.aloadN (pc' := 52) djdk_42_149_51 rfl rfl rfl
  replace W5 := W5.aload (pc' := 54) djdk_42_149_52 rfl rfl rfl
  have f6 := ((F_xa_value.keep K1 nin0).other w5 (Or.inr (slot_ne (C := "java/lang/String") (Or.inr (tw37 hw)) (Or.inr (tw35 hw)) (by decide) (t := (.array .byte)) (t' := .byte) (by decide) (by decide))))
  have e7 := (e4.wr w5)
  obtain ⟨h8, W8, w8, SF8⟩ := W5.putf (pc' := 57) (ty := (.array .byte)) djdk_42_149_54 (tw36 hw) Via.refl f6 e7 (Or.inr ⟨(tw37 hw), rfl, hnm⟩) (tw10 hw) (by decide) rfl rfl safe0 (Or.inl (List.mem_of_getElem? (i := 0) rfl)) rfl
  clear W5
  have z8 : h5.size ≤ h8.size := Nat.le_of_eq w8.size.symm
  have f8 := f6.same w8
  have e9 := (e7.wr w8)
  have f10 := (f5.other w8 (Or.inr (slot_ne (C := "java/lang/String") (Or.inr (tw35 hw)) (Or.inr (tw37 hw)) (by decide) (t := .byte) (t' := (.array .byte)) (by decide) (by decide))))
  have v11 := ((q1_1.other w5 (Nat.ne_of_gt (Nat.lt_of_lt_of_le E_xa.lt q1_2))).other w8 (Nat.ne_of_gt (Nat.lt_of_lt_of_le E_xa.lt q1_2)))
  exact W8.vret djdk_42_149_57 rfl (by decide) (by decide) (fun V' cv => ⟨r1, kb1, rfl, e9, f10, f8, v11⟩)
theorem ef_new1 (m : MethodId) (xa : Addr) (ca : Addr) (kc : ClassId) (N : Nat) (g : Nat → Int32) : entryFrame m #[(.ref xa), (.ref ca)] 2 = mkF m 0 #[.val (.ref xa), .val (.ref ca)] [] := by first | (simp [entryFrame, mkF, argsToLocals, Value.category]; done) | rfl
set_option maxRecDepth 65536 in
set_option maxHeartbeats 40000000 in
theorem new1 (l : Launch) (Z : State) (a0 : Array Value) (n0 : Nat) (hw : ∀ d ∈ tables_1, d.before a0 Z = true) (hEL : EW Z a0 []) (G1 : Int32) (O1 : Sta Z Z.heap "java/lang/String" "COMPACT_STRINGS" "Z" (.int G1)) (P1 : ¬ (G1 = (0 : Int32))) (G3 : Value) (O3 : Sta Z Z.heap "jdk/internal/util/Preconditions" "SIOOBE_FORMATTER" "Ljava/util/function/BiFunction;" G3) (rG3 : G3.isRef = true) (xa : Addr) (ca : Addr) (kc : ClassId) (N : Nat) (g : Nat → Int32) (h0 : Heap) (hO : Old Z n0 h0) (E_xa : Exa Z h0 xa "java/lang/String") (F_xa_value : Fld Z h0 xa "java/lang/String" "value" "[B" .null) (F_xa_coder : Fld Z h0 xa "java/lang/String" "coder" "B" (.int (0 : Int32))) (V_ca : Arv Z h0 ca kc .char (Int32.ofNat N) (lst N g) (.int (0 : Int32))) (hN : N ≤ 32) (hge1 : 1 ≤ N) (hg : ∀ i, i < N → NCh (g i)) (g_xa : n0 ≤ xa) :
    Con l Z [] n0 (⟨"java/lang/String", "<init>", "([C)V"⟩ : MethodName) jdk_42_method_3_code 2 none ({ frames := 3, cells := 1, slots := 32, locals := 52 } : Room) #[(.ref xa), (.ref ca)] h0 [xa] (fun v h V' => ∃ (ba : Addr) (kb : ClassId), v = none ∧ Exa Z h xa "java/lang/String" ∧ Fld Z h xa "java/lang/String" "coder" "B" (.int (0 : Int32)) ∧ Fld Z h xa "java/lang/String" "value" "[B" (.ref ba) ∧ Arv Z h ba kb .byte (Int32.ofNat N) (lst N g) (.int (0 : Int32))) [] := by
  refine Con.of (a0 := a0) pf4 (fun m => ef_new1 m xa ca kc N g) (allS g_xa all0) hO hEL ?_
  intro p e s m below meth c S0 hnm hsf W
  replace W := W.aloadN (pc' := 1) djdk_42_3_0 rfl rfl rfl
  replace W := W.aloadN (pc' := 2) djdk_42_3_1 rfl rfl rfl
  replace W := W.iconst (pc' := 3) (v := (0 : Int32)) djdk_42_3_2 rfl rfl
  replace W := W.aloadN (pc' := 4) djdk_42_3_3 rfl rfl rfl
  replace W := W.alen (pc' := 5) djdk_42_3_4 V_ca rfl
  replace W := W.aconstNull (pc' := 6) djdk_42_3_5 rfl
  obtain ⟨V1, h1, r1, W1, K1, hQ1, SF1⟩ := W.callI (pc' := 9) (argsL := [(.ref ca), (.int (0 : Int32)), (.int (Int32.ofNat N)), .null]) (rest := []) (Wd := 0) (cells' := 1) (slots' := 32) (a := xa) (y := (⟨"java/lang/String", "<init>", "([CIILjava/lang/Void;)V"⟩ : MethodName)) djdk_42_3_6 (new4 l Z a0 n0 hw hEL G1 O1 P1 G3 O3 rG3 xa ca kc N g h0 W.old E_xa F_xa_value F_xa_coder V_ca (by omega) (by omega) hg g_xa) rfl (tw15 hw) (tw16 hw) (tw11 hw) (tw18 hw) (by decide) (lenOf pd3 rfl) rfl rfl (by decide) (by decide) rfl (sfS safe0 sf0) (allS (Or.inl (List.mem_of_getElem? (i := 0) rfl)) all0) rfl rfl rfl (by decide) (by decide)
  clear W
  obtain ⟨ba1, kb1, rfl, q1_1, q1_2, q1_3, q1_4⟩ := hQ1
  have z1 : h0.size ≤ h1.size := K1.1
  replace W1 := W1.cast (st' := []) rfl
  exact W1.vret djdk_42_3_9 rfl (by decide) (by decide) (fun V' cv => ⟨ba1, kb1, rfl, q1_1, q1_2, q1_3, q1_4⟩)
theorem ef_rnn2 (m : MethodId) (oa : Addr) (ma : Addr) : entryFrame m #[(.ref oa), (.ref ma)] 2 = mkF m 0 #[.val (.ref oa), .val (.ref ma)] [] := by first | (simp [entryFrame, mkF, argsToLocals, Value.category]; done) | rfl
set_option maxRecDepth 65536 in
set_option maxHeartbeats 40000000 in
theorem rnn2 (l : Launch) (Z : State) (a0 : Array Value) (n0 : Nat) (hw : ∀ d ∈ tables_1, d.before a0 Z = true) (hEL : EW Z a0 []) (G1 : Int32) (O1 : Sta Z Z.heap "java/lang/String" "COMPACT_STRINGS" "Z" (.int G1)) (P1 : ¬ (G1 = (0 : Int32))) (G3 : Value) (O3 : Sta Z Z.heap "jdk/internal/util/Preconditions" "SIOOBE_FORMATTER" "Ljava/util/function/BiFunction;" G3) (rG3 : G3.isRef = true) (oa : Addr) (ma : Addr) (h0 : Heap) (hO : Old Z n0 h0)  :
    Con l Z [] n0 (⟨"java/util/Objects", "requireNonNull", "(Ljava/lang/Object;Ljava/lang/String;)Ljava/lang/Object;"⟩ : MethodName) jdk_31_method_11_code 2 (some (.object "java/lang/Object")) ({ frames := 0, cells := 0, slots := 0, locals := 0 } : Room) #[(.ref oa), (.ref ma)] h0 [] (fun v h V' => v = some (.ref oa) ∧ h0 = h) [] := by
  refine Con.of (a0 := a0) pf5 (fun m => ef_rnn2 m oa ma) all0 hO hEL ?_
  intro p e s m below meth c S0 hnm hsf W
  replace W := W.aloadN (pc' := 1) djdk_31_11_0 rfl rfl rfl
  replace W := W.ifnonnullT (pc' := 13) djdk_31_11_1 (by decide) (by decide)
  replace W := W.aloadN (pc' := 14) djdk_31_11_13 rfl rfl rfl
  exact W.aret (t := (.object "java/lang/Object")) djdk_31_11_14 rfl rfl rfl rfl (by decide) (by decide) (fun V' cv => ⟨rfl, rfl⟩)
theorem ef_isemp (m : MethodId) (xa : Addr) (ba : Addr) (kb : ClassId) (N : Nat) (g : Nat → Int32) : entryFrame m #[(.ref xa)] 1 = mkF m 0 #[.val (.ref xa)] [] := by first | (simp [entryFrame, mkF, argsToLocals, Value.category]; done) | rfl
set_option maxRecDepth 65536 in
set_option maxHeartbeats 40000000 in
theorem isemp (l : Launch) (Z : State) (a0 : Array Value) (n0 : Nat) (hw : ∀ d ∈ tables_1, d.before a0 Z = true) (hEL : EW Z a0 []) (G1 : Int32) (O1 : Sta Z Z.heap "java/lang/String" "COMPACT_STRINGS" "Z" (.int G1)) (P1 : ¬ (G1 = (0 : Int32))) (G3 : Value) (O3 : Sta Z Z.heap "jdk/internal/util/Preconditions" "SIOOBE_FORMATTER" "Ljava/util/function/BiFunction;" G3) (rG3 : G3.isRef = true) (xa : Addr) (ba : Addr) (kb : ClassId) (N : Nat) (g : Nat → Int32) (h0 : Heap) (hO : Old Z n0 h0) (E_xa : Exa Z h0 xa "java/lang/String") (F_xa_coder : Fld Z h0 xa "java/lang/String" "coder" "B" (.int (0 : Int32))) (F_xa_value : Fld Z h0 xa "java/lang/String" "value" "[B" (.ref ba)) (V_ba : Arv Z h0 ba kb .byte (Int32.ofNat N) (lst N g) (.int (0 : Int32))) (hN : N ≤ 32) (hge1 : 1 ≤ N) :
    Con l Z [] n0 (⟨"java/lang/String", "isEmpty", "()Z"⟩ : MethodName) jdk_42_method_55_code 1 (some .boolean) ({ frames := 0, cells := 0, slots := 0, locals := 0 } : Room) #[(.ref xa)] h0 [] (fun v h V' => v = some (.int (0 : Int32)) ∧ h0 = h) [] := by
  refine Con.of (a0 := a0) pf6 (fun m => ef_isemp m xa ba kb N g) all0 hO hEL ?_
  intro p e s m below meth c S0 hnm hsf W
  replace W := W.aloadN (pc' := 1) djdk_42_55_0 rfl rfl rfl
  replace W := W.getf (pc' := 4) djdk_42_55_1 (tw36 hw) Via.refl F_xa_value rfl
  replace W := W.alen (pc' := 5) djdk_42_55_4 V_ba rfl
  replace W := W.ifT (pc' := 12) djdk_42_55_5 (feq (own_ne (Y := 0) (by omega) (by omega) (by omega))).2 (by decide) (by decide)
  replace W := W.iconst (pc' := 13) (v := (0 : Int32)) djdk_42_55_12 rfl rfl
  exact W.iret (t := .boolean) djdk_42_55_13 rfl (by simp) (by decide) (by decide) (by decide) (fun V' cv => ⟨rfl, rfl⟩)
theorem ef_coder_c (m : MethodId) (xa : Addr) : entryFrame m #[(.ref xa)] 1 = mkF m 0 #[.val (.ref xa)] [] := by first | (simp [entryFrame, mkF, argsToLocals, Value.category]; done) | rfl
set_option maxRecDepth 65536 in
set_option maxHeartbeats 40000000 in
theorem coder_c (l : Launch) (Z : State) (a0 : Array Value) (n0 : Nat) (hw : ∀ d ∈ tables_1, d.before a0 Z = true) (hEL : EW Z a0 []) (G1 : Int32) (O1 : Sta Z Z.heap "java/lang/String" "COMPACT_STRINGS" "Z" (.int G1)) (P1 : ¬ (G1 = (0 : Int32))) (G3 : Value) (O3 : Sta Z Z.heap "jdk/internal/util/Preconditions" "SIOOBE_FORMATTER" "Ljava/util/function/BiFunction;" G3) (rG3 : G3.isRef = true) (xa : Addr) (h0 : Heap) (hO : Old Z n0 h0) (F_xa_coder : Fld Z h0 xa "java/lang/String" "coder" "B" (.int (0 : Int32))) :
    Con l Z [] n0 (⟨"java/lang/String", "coder", "()B"⟩ : MethodName) jdk_42_method_152_code 1 (some .byte) ({ frames := 0, cells := 0, slots := 0, locals := 0 } : Room) #[(.ref xa)] h0 [] (fun v h V' => v = some (.int (0 : Int32)) ∧ h0 = h) [] := by
  refine Con.of (a0 := a0) pf7 (fun m => ef_coder_c m xa) all0 hO hEL ?_
  intro p e s m below meth c S0 hnm hsf W
  replace W := W.gets (pc' := 3) djdk_42_152_0 (tw22 hw) O1 rfl
  replace W := W.ifF (pc' := 6) djdk_42_152_3 (feq P1).1 rfl
  replace W := W.aloadN (pc' := 7) djdk_42_152_6 rfl rfl rfl
  replace W := W.getf (pc' := 10) djdk_42_152_7 (tw34 hw) Via.refl F_xa_coder rfl
  replace W := W.goto (pc' := 14) djdk_42_152_10 (by decide) (by decide)
  exact W.iret (t := .byte) djdk_42_152_14 rfl (by simp) (by decide) (by decide) (by decide) (fun V' cv => ⟨rfl, rfl⟩)
theorem ef_len_c (m : MethodId) (xa : Addr) (ba : Addr) (kb : ClassId) (N : Nat) (g : Nat → Int32) : entryFrame m #[(.ref xa)] 1 = mkF m 0 #[.val (.ref xa)] [] := by first | (simp [entryFrame, mkF, argsToLocals, Value.category]; done) | rfl
set_option maxRecDepth 65536 in
set_option maxHeartbeats 40000000 in
theorem len_c (l : Launch) (Z : State) (a0 : Array Value) (n0 : Nat) (hw : ∀ d ∈ tables_1, d.before a0 Z = true) (hEL : EW Z a0 []) (G1 : Int32) (O1 : Sta Z Z.heap "java/lang/String" "COMPACT_STRINGS" "Z" (.int G1)) (P1 : ¬ (G1 = (0 : Int32))) (G3 : Value) (O3 : Sta Z Z.heap "jdk/internal/util/Preconditions" "SIOOBE_FORMATTER" "Ljava/util/function/BiFunction;" G3) (rG3 : G3.isRef = true) (xa : Addr) (ba : Addr) (kb : ClassId) (N : Nat) (g : Nat → Int32) (h0 : Heap) (hO : Old Z n0 h0) (E_xa : Exa Z h0 xa "java/lang/String") (F_xa_coder : Fld Z h0 xa "java/lang/String" "coder" "B" (.int (0 : Int32))) (F_xa_value : Fld Z h0 xa "java/lang/String" "value" "[B" (.ref ba)) (V_ba : Arv Z h0 ba kb .byte (Int32.ofNat N) (lst N g) (.int (0 : Int32))) :
    Con l Z [] n0 (⟨"java/lang/String", "length", "()I"⟩ : MethodName) jdk_42_method_54_code 1 (some .int) ({ frames := 1, cells := 0, slots := 0, locals := 13 } : Room) #[(.ref xa)] h0 [] (fun v h V' => v = some (.int (Int32.ofNat N)) ∧ h0 = h) [] := by
  refine Con.of (a0 := a0) pf8 (fun m => ef_len_c m xa ba kb N g) all0 hO hEL ?_
  intro p e s m below meth c S0 hnm hsf W
  replace W := W.aloadN (pc' := 1) djdk_42_54_0 rfl rfl rfl
  replace W := W.getf (pc' := 4) djdk_42_54_1 (tw36 hw) Via.refl F_xa_value rfl
  replace W := W.alen (pc' := 5) djdk_42_54_4 V_ba rfl
  replace W := W.aloadN (pc' := 6) djdk_42_54_5 rfl rfl rfl
  obtain ⟨V1, h1, r1, W1, K1, hQ1, SF1⟩ := W.callV (pc' := 9) (argsL := []) (rest := [(.int (Int32.ofNat N))]) (Wd := 1) (cells' := 0) (slots' := 0) (a := xa) (C := "java/lang/String") (y := (⟨"java/lang/String", "coder", "()B"⟩ : MethodName)) (z := (⟨"java/lang/String", "coder", "()B"⟩ : MethodName)) djdk_42_54_6 (coder_c l Z a0 n0 hw hEL G1 O1 P1 G3 O3 rG3 xa h0 W.old F_xa_coder) E_xa (tw59 hw) (tw60 hw) (Or.inl (tw62 hw)) (tw62 hw) (tw61 hw) (tw11 hw) (tw63 hw) (by decide) (lenOf pd4 rfl) rfl rfl (by decide) (by decide) rfl sf0 all0 rfl rfl rfl (by decide) (by decide)
  clear W
  obtain ⟨rfl, hs1⟩ := hQ1
  subst hs1
  replace W1 := W1.cast (st' := [(.int (0 : Int32)), (.int (Int32.ofNat N))]) rfl
  replace W1 := W1.ishr (pc' := 10) (v := (Int32.ofNat N)) djdk_42_54_9 (own_shr0 _) rfl
  exact W1.iret (t := .int) djdk_42_54_10 rfl (by simp) rfl (by decide) (by decide) (fun V' cv => ⟨rfl, rfl⟩)
theorem ef_islat (m : MethodId) (xa : Addr) : entryFrame m #[(.ref xa)] 1 = mkF m 0 #[.val (.ref xa)] [] := by first | (simp [entryFrame, mkF, argsToLocals, Value.category]; done) | rfl
set_option maxRecDepth 65536 in
set_option maxHeartbeats 40000000 in
theorem islat (l : Launch) (Z : State) (a0 : Array Value) (n0 : Nat) (hw : ∀ d ∈ tables_1, d.before a0 Z = true) (hEL : EW Z a0 []) (G1 : Int32) (O1 : Sta Z Z.heap "java/lang/String" "COMPACT_STRINGS" "Z" (.int G1)) (P1 : ¬ (G1 = (0 : Int32))) (G3 : Value) (O3 : Sta Z Z.heap "jdk/internal/util/Preconditions" "SIOOBE_FORMATTER" "Ljava/util/function/BiFunction;" G3) (rG3 : G3.isRef = true) (xa : Addr) (h0 : Heap) (hO : Old Z n0 h0) (F_xa_coder : Fld Z h0 xa "java/lang/String" "coder" "B" (.int (0 : Int32))) :
    Con l Z [] n0 (⟨"java/lang/String", "isLatin1", "()Z"⟩ : MethodName) jdk_42_method_154_code 1 (some .boolean) ({ frames := 0, cells := 0, slots := 0, locals := 0 } : Room) #[(.ref xa)] h0 [] (fun v h V' => v = some (.int (1 : Int32)) ∧ h0 = h) [] := by
  refine Con.of (a0 := a0) pf9 (fun m => ef_islat m xa) all0 hO hEL ?_
  intro p e s m below meth c S0 hnm hsf W
  replace W := W.gets (pc' := 3) djdk_42_154_0 (tw22 hw) O1 rfl
  replace W := W.ifF (pc' := 6) djdk_42_154_3 (feq P1).1 rfl
  replace W := W.aloadN (pc' := 7) djdk_42_154_6 rfl rfl rfl
  replace W := W.getf (pc' := 10) djdk_42_154_7 (tw34 hw) Via.refl F_xa_coder rfl
  replace W := W.ifF (pc' := 13) djdk_42_154_10 (teq (by decide : (0 : Int32) = (0 : Int32))).2 rfl
  replace W := W.iconst (pc' := 14) (v := (1 : Int32)) djdk_42_154_13 rfl rfl
  replace W := W.goto (pc' := 18) djdk_42_154_14 (by decide) (by decide)
  exact W.iret (t := .boolean) djdk_42_154_18 rfl (by simp) (by decide) (by decide) (by decide) (fun V' cv => ⟨rfl, rfl⟩)
theorem ef_pci (m : MethodId) (j : Nat) (N : Nat) (fm : Value) (rf : fm.isRef = true) : entryFrame m #[(.int (Int32.ofNat j)), (.int (Int32.ofNat N)), fm] 3 = mkF m 0 #[.val (.int (Int32.ofNat j)), .val (.int (Int32.ofNat N)), .val fm] [] := by rcases ref_cases rf with rfl | ⟨q, rfl⟩ <;> first | (simp [entryFrame, mkF, argsToLocals, Value.category]; done) | rfl
set_option maxRecDepth 65536 in
set_option maxHeartbeats 40000000 in
theorem pci (l : Launch) (Z : State) (a0 : Array Value) (n0 : Nat) (hw : ∀ d ∈ tables_1, d.before a0 Z = true) (hEL : EW Z a0 []) (G1 : Int32) (O1 : Sta Z Z.heap "java/lang/String" "COMPACT_STRINGS" "Z" (.int G1)) (P1 : ¬ (G1 = (0 : Int32))) (G3 : Value) (O3 : Sta Z Z.heap "jdk/internal/util/Preconditions" "SIOOBE_FORMATTER" "Ljava/util/function/BiFunction;" G3) (rG3 : G3.isRef = true) (j : Nat) (N : Nat) (fm : Value) (rf : fm.isRef = true) (h0 : Heap) (hO : Old Z n0 h0) (hj : j < N) (hN : N ≤ 32) :
    Con l Z [] n0 (⟨"jdk/internal/util/Preconditions", "checkIndex", "(IILjava/util/function/BiFunction;)I"⟩ : MethodName) jdk_41_method_11_code 3 (some .int) ({ frames := 0, cells := 0, slots := 0, locals := 0 } : Room) #[(.int (Int32.ofNat j)), (.int (Int32.ofNat N)), fm] h0 [] (fun v h V' => v = some (.int (Int32.ofNat j)) ∧ h0 = h) [] := by
  refine Con.of (a0 := a0) pf10 (fun m => ef_pci m j N fm rf) all0 hO hEL ?_
  intro p e s m below meth c S0 hnm hsf W
  replace W := W.iloadN (pc' := 1) djdk_41_11_0 rfl rfl
  replace W := W.ifF (pc' := 4) djdk_41_11_1 (flt (own_nn (by omega))).1 rfl
  replace W := W.iloadN (pc' := 5) djdk_41_11_4 rfl rfl
  replace W := W.iloadN (pc' := 6) djdk_41_11_5 rfl rfl
  replace W := W.icmpT (pc' := 16) djdk_41_11_6 (tlt (own_lt (by omega) (by omega) (by omega))).1 (by decide) (by decide)
  replace W := W.iloadN (pc' := 17) djdk_41_11_16 rfl rfl
  exact W.iret (t := .int) djdk_41_11_17 rfl (by simp) rfl (by decide) (by decide) (fun V' cv => ⟨rfl, rfl⟩)
theorem ef_sci (m : MethodId) (j : Nat) (N : Nat) : entryFrame m #[(.int (Int32.ofNat j)), (.int (Int32.ofNat N))] 2 = mkF m 0 #[.val (.int (Int32.ofNat j)), .val (.int (Int32.ofNat N))] [] := by first | (simp [entryFrame, mkF, argsToLocals, Value.category]; done) | rfl
set_option maxRecDepth 65536 in
set_option maxHeartbeats 40000000 in
theorem sci (l : Launch) (Z : State) (a0 : Array Value) (n0 : Nat) (hw : ∀ d ∈ tables_1, d.before a0 Z = true) (hEL : EW Z a0 []) (G1 : Int32) (O1 : Sta Z Z.heap "java/lang/String" "COMPACT_STRINGS" "Z" (.int G1)) (P1 : ¬ (G1 = (0 : Int32))) (G3 : Value) (O3 : Sta Z Z.heap "jdk/internal/util/Preconditions" "SIOOBE_FORMATTER" "Ljava/util/function/BiFunction;" G3) (rG3 : G3.isRef = true) (j : Nat) (N : Nat) (h0 : Heap) (hO : Old Z n0 h0) (hj : j < N) (hN : N ≤ 32) :
    Con l Z [] n0 (⟨"java/lang/String", "checkIndex", "(II)V"⟩ : MethodName) jdk_42_method_155_code 2 none ({ frames := 1, cells := 0, slots := 0, locals := 14 } : Room) #[(.int (Int32.ofNat j)), (.int (Int32.ofNat N))] h0 [] (fun v h V' => v = none ∧ h0 = h) [] := by
  refine Con.of (a0 := a0) pf11 (fun m => ef_sci m j N) all0 hO hEL ?_
  intro p e s m below meth c S0 hnm hsf W
  replace W := W.iloadN (pc' := 1) djdk_42_155_0 rfl rfl
  replace W := W.iloadN (pc' := 2) djdk_42_155_1 rfl rfl
  replace W := W.gets (pc' := 5) djdk_42_155_2 (tw81 hw) O3 rfl
  obtain ⟨V1, h1, r1, W1, K1, hQ1, SF1⟩ := W.callS (pc' := 8) (argsL := [(.int (Int32.ofNat j)), (.int (Int32.ofNat N)), G3]) (rest := []) (Wd := 0) (cells' := 0) (slots' := 0) (y := (⟨"jdk/internal/util/Preconditions", "checkIndex", "(IILjava/util/function/BiFunction;)I"⟩ : MethodName)) djdk_42_155_5 (pci l Z a0 n0 hw hEL G1 O1 P1 G3 O3 rG3 j N G3 rG3 h0 W.old (by omega) (by omega)) (tw83 hw) (tw84 hw) (tw82 hw) (tw85 hw) (by decide) (lenOf pd5 rfl) rfl rfl (by decide) (by decide) rfl sf0 all0 rfl rfl rfl (by decide) (by decide)
  clear W
  obtain ⟨rfl, hs1⟩ := hQ1
  subst hs1
  replace W1 := W1.cast (st' := [(.int (Int32.ofNat j))]) rfl
  replace W1 := W1.pop (pc' := 9) djdk_42_155_8 rfl rfl
  exact W1.vret djdk_42_155_9 rfl (by decide) (by decide) (fun V' cv => ⟨rfl, rfl⟩)
theorem ef_lca (m : MethodId) (ba : Addr) (kb : ClassId) (N : Nat) (g : Nat → Int32) (j : Nat) : entryFrame m #[(.ref ba), (.int (Int32.ofNat j))] 2 = mkF m 0 #[.val (.ref ba), .val (.int (Int32.ofNat j))] [] := by first | (simp [entryFrame, mkF, argsToLocals, Value.category]; done) | rfl
set_option maxRecDepth 65536 in
set_option maxHeartbeats 40000000 in
theorem lca (l : Launch) (Z : State) (a0 : Array Value) (n0 : Nat) (hw : ∀ d ∈ tables_1, d.before a0 Z = true) (hEL : EW Z a0 []) (G1 : Int32) (O1 : Sta Z Z.heap "java/lang/String" "COMPACT_STRINGS" "Z" (.int G1)) (P1 : ¬ (G1 = (0 : Int32))) (G3 : Value) (O3 : Sta Z Z.heap "jdk/internal/util/Preconditions" "SIOOBE_FORMATTER" "Ljava/util/function/BiFunction;" G3) (rG3 : G3.isRef = true) (ba : Addr) (kb : ClassId) (N : Nat) (g : Nat → Int32) (j : Nat) (h0 : Heap) (hO : Old Z n0 h0) (V_ba : Arv Z h0 ba kb .byte (Int32.ofNat N) (lst N g) (.int (0 : Int32))) (hj : j < N) (hN : N ≤ 32) (hg : ∀ i, i < N → NCh (g i)) :
    Con l Z [] n0 (⟨"java/lang/StringLatin1", "charAt", "([BI)C"⟩ : MethodName) jdk_43_method_2_code 2 (some .char) ({ frames := 2, cells := 0, slots := 0, locals := 27 } : Room) #[(.ref ba), (.int (Int32.ofNat j))] h0 [] (fun v h V' => v = some (.int (g j)) ∧ h0 = h) [] := by
  refine Con.of (a0 := a0) pf12 (fun m => ef_lca m ba kb N g j) all0 hO hEL ?_
  intro p e s m below meth c S0 hnm hsf W
  replace W := W.iloadN (pc' := 1) djdk_43_2_0 rfl rfl
  replace W := W.aloadN (pc' := 2) djdk_43_2_1 rfl rfl rfl
  replace W := W.alen (pc' := 3) djdk_43_2_2 V_ba rfl
  obtain ⟨V1, h1, r1, W1, K1, hQ1, SF1⟩ := W.callS (pc' := 6) (argsL := [(.int (Int32.ofNat j)), (.int (Int32.ofNat N))]) (rest := []) (Wd := 0) (cells' := 0) (slots' := 0) (y := (⟨"java/lang/String", "checkIndex", "(II)V"⟩ : MethodName)) djdk_43_2_3 (sci l Z a0 n0 hw hEL G1 O1 P1 G3 O3 rG3 j N h0 W.old (by omega) (by omega)) (tw78 hw) (tw79 hw) (tw11 hw) (tw80 hw) (by decide) (lenOf pd6 rfl) rfl rfl (by decide) (by decide) rfl sf0 all0 rfl rfl rfl (by decide) (by decide)
  clear W
  obtain ⟨rfl, hs1⟩ := hQ1
  subst hs1
  replace W1 := W1.cast (st' := []) rfl
  replace W1 := W1.aloadN (pc' := 7) djdk_43_2_6 rfl rfl rfl
  replace W1 := W1.iloadN (pc' := 8) djdk_43_2_7 rfl rfl
  replace W1 := W1.baload (pc' := 9) (w := (.int (g j))) djdk_43_2_8 V_ba ⟨own_nn (by omega), own_lt (by omega) (by omega) (by omega)⟩ (by rw [own_clamp (by omega), own_lst_get (by omega)]) rfl
  replace W1 := W1.sipush (pc' := 12) (v := (255 : Int32)) djdk_43_2_9 rfl rfl
  replace W1 := W1.iand (pc' := 13) (v := (g j)) djdk_43_2_12 (nch_and (hg _ (by omega))) rfl
  replace W1 := W1.i2c (pc' := 14) (v := (g j)) djdk_43_2_13 (nch_i2c (hg _ (by omega))) rfl
  exact W1.iret (t := .char) djdk_43_2_14 rfl (by simp) (nch_nchar (hg _ (by omega))) (by decide) (by decide) (fun V' cv => ⟨rfl, rfl⟩)
theorem ef_cat_c (m : MethodId) (xa : Addr) (ba : Addr) (kb : ClassId) (N : Nat) (g : Nat → Int32) (j : Nat) : entryFrame m #[(.ref xa), (.int (Int32.ofNat j))] 2 = mkF m 0 #[.val (.ref xa), .val (.int (Int32.ofNat j))] [] := by first | (simp [entryFrame, mkF, argsToLocals, Value.category]; done) | rfl
set_option maxRecDepth 65536 in
set_option maxHeartbeats 40000000 in
theorem cat_c (l : Launch) (Z : State) (a0 : Array Value) (n0 : Nat) (hw : ∀ d ∈ tables_1, d.before a0 Z = true) (hEL : EW Z a0 []) (G1 : Int32) (O1 : Sta Z Z.heap "java/lang/String" "COMPACT_STRINGS" "Z" (.int G1)) (P1 : ¬ (G1 = (0 : Int32))) (G3 : Value) (O3 : Sta Z Z.heap "jdk/internal/util/Preconditions" "SIOOBE_FORMATTER" "Ljava/util/function/BiFunction;" G3) (rG3 : G3.isRef = true) (xa : Addr) (ba : Addr) (kb : ClassId) (N : Nat) (g : Nat → Int32) (j : Nat) (h0 : Heap) (hO : Old Z n0 h0) (E_xa : Exa Z h0 xa "java/lang/String") (F_xa_coder : Fld Z h0 xa "java/lang/String" "coder" "B" (.int (0 : Int32))) (F_xa_value : Fld Z h0 xa "java/lang/String" "value" "[B" (.ref ba)) (V_ba : Arv Z h0 ba kb .byte (Int32.ofNat N) (lst N g) (.int (0 : Int32))) (hj : j < N) (hN : N ≤ 32) (hg : ∀ i, i < N → NCh (g i)) :
    Con l Z [] n0 (⟨"java/lang/String", "charAt", "(I)C"⟩ : MethodName) jdk_42_method_56_code 2 (some .char) ({ frames := 3, cells := 0, slots := 0, locals := 40 } : Room) #[(.ref xa), (.int (Int32.ofNat j))] h0 [] (fun v h V' => v = some (.int (g j)) ∧ h0 = h) [] := by
  refine Con.of (a0 := a0) pf13 (fun m => ef_cat_c m xa ba kb N g j) all0 hO hEL ?_
  intro p e s m below meth c S0 hnm hsf W
  replace W := W.aloadN (pc' := 1) djdk_42_56_0 rfl rfl rfl
  obtain ⟨V1, h1, r1, W1, K1, hQ1, SF1⟩ := W.callV (pc' := 4) (argsL := []) (rest := []) (Wd := 0) (cells' := 0) (slots' := 0) (a := xa) (C := "java/lang/String") (y := (⟨"java/lang/String", "isLatin1", "()Z"⟩ : MethodName)) (z := (⟨"java/lang/String", "isLatin1", "()Z"⟩ : MethodName)) djdk_42_56_1 (islat l Z a0 n0 hw hEL G1 O1 P1 G3 O3 rG3 xa h0 W.old F_xa_coder) E_xa (tw69 hw) (tw70 hw) (Or.inl (tw72 hw)) (tw72 hw) (tw71 hw) (tw11 hw) (tw73 hw) (by decide) (lenOf pd7 rfl) rfl rfl (by decide) (by decide) rfl sf0 all0 rfl rfl rfl (by decide) (by decide)
  clear W
  obtain ⟨rfl, hs1⟩ := hQ1
  subst hs1
  replace W1 := W1.cast (st' := [(.int (1 : Int32))]) rfl
  replace W1 := W1.ifF (pc' := 7) djdk_42_56_4 (feq (by decide : ¬ ((1 : Int32) = (0 : Int32)))).1 rfl
  replace W1 := W1.aloadN (pc' := 8) djdk_42_56_7 rfl rfl rfl
  replace W1 := W1.getf (pc' := 11) djdk_42_56_8 (tw36 hw) Via.refl F_xa_value rfl
  replace W1 := W1.iloadN (pc' := 12) djdk_42_56_11 rfl rfl
  obtain ⟨V2, h2, r2, W2, K2, hQ2, SF2⟩ := W1.callS (pc' := 15) (argsL := [(.ref ba), (.int (Int32.ofNat j))]) (rest := []) (Wd := 0) (cells' := 0) (slots' := 0) (y := (⟨"java/lang/StringLatin1", "charAt", "([BI)C"⟩ : MethodName)) djdk_42_56_12 (lca l Z a0 n0 hw hEL G1 O1 P1 G3 O3 rG3 ba kb N g j h0 W1.old V_ba (by omega) (by omega) hg) (tw74 hw) (tw75 hw) (tw76 hw) (tw77 hw) (by decide) (lenOf pd8 rfl) rfl rfl (by decide) (by decide) rfl sf0 all0 rfl rfl rfl (by decide) (by decide)
  clear W1
  obtain ⟨rfl, hs2⟩ := hQ2
  subst hs2
  replace W2 := W2.cast (st' := [(.int (g j))]) rfl
  exact W2.iret (t := .char) djdk_42_56_15 rfl (by simp) (nch_nchar (hg _ (by omega))) (by decide) (by decide) (fun V' cv => ⟨rfl, rfl⟩)
theorem ef_isnc (m : MethodId) (cc : Int32) : entryFrame m #[(.int cc)] 1 = mkF m 0 #[.val (.int cc)] [] := by first | (simp [entryFrame, mkF, argsToLocals, Value.category]; done) | rfl
set_option maxRecDepth 65536 in
set_option maxHeartbeats 40000000 in
theorem isnc (l : Launch) (Z : State) (a0 : Array Value) (n0 : Nat) (hw : ∀ d ∈ tables_1, d.before a0 Z = true) (hEL : EW Z a0 []) (G1 : Int32) (O1 : Sta Z Z.heap "java/lang/String" "COMPACT_STRINGS" "Z" (.int G1)) (P1 : ¬ (G1 = (0 : Int32))) (G3 : Value) (O3 : Sta Z Z.heap "jdk/internal/util/Preconditions" "SIOOBE_FORMATTER" "Ljava/util/function/BiFunction;" G3) (rG3 : G3.isRef = true) (cc : Int32) (h0 : Heap) (hO : Old Z n0 h0) (hc : NCh cc) :
    Con l Z [] n0 (⟨"com/example/letters_between_tasks/lettersbetweentasks/model/Name", "isNameCharacter", "(C)Z"⟩ : MethodName) prog_12_method_4_code 1 (some .boolean) ({ frames := 0, cells := 0, slots := 0, locals := 0 } : Room) #[(.int cc)] h0 [] (fun v h V' => v = some (.int (1 : Int32)) ∧ h0 = h) [] := by
  refine Con.of (a0 := a0) pf14 (fun m => ef_isnc m cc) all0 hO hEL ?_
  intro p e s m below meth c S0 hnm hsf W
  replace W := W.iloadN (pc' := 1) dprog_12_4_0 rfl rfl
  replace W := W.bipush (pc' := 3) (v := (97 : Int32)) dprog_12_4_1 rfl rfl
  by_cases hc1 : cc < (97 : Int32)
  · replace W := W.icmpT (pc' := 12) dprog_12_4_3 (tlt hc1).1 (by decide) (by decide)
    replace W := W.iloadN (pc' := 13) dprog_12_4_12 rfl rfl
    replace W := W.bipush (pc' := 15) (v := (65 : Int32)) dprog_12_4_13 rfl rfl
    by_cases hc2 : cc < (65 : Int32)
    · replace W := W.icmpT (pc' := 24) dprog_12_4_15 (tlt hc2).1 (by decide) (by decide)
      replace W := W.iloadN (pc' := 25) dprog_12_4_24 rfl rfl
      replace W := W.bipush (pc' := 27) (v := (48 : Int32)) dprog_12_4_25 rfl rfl
      by_cases hc3 : cc < (48 : Int32)
      · replace W := W.icmpT (pc' := 36) dprog_12_4_27 (tlt hc3).1 (by decide) (by decide)
        replace W := W.iloadN (pc' := 37) dprog_12_4_36 rfl rfl
        replace W := W.bipush (pc' := 39) (v := (95 : Int32)) dprog_12_4_37 rfl rfl
        by_cases hc4 : cc = (95 : Int32)
        · replace W := W.icmpT (pc' := 54) dprog_12_4_39 (teq hc4).1 (by decide) (by decide)
          replace W := W.iconst (pc' := 55) (v := (1 : Int32)) dprog_12_4_54 rfl rfl
          replace W := W.goto (pc' := 59) dprog_12_4_55 (by decide) (by decide)
          exact W.iret (t := .boolean) dprog_12_4_59 rfl (by simp) (by decide) (by decide) (by decide) (fun V' cv => ⟨rfl, rfl⟩)
        · replace W := W.icmpF (pc' := 42) dprog_12_4_39 (feq hc4).1 rfl
          replace W := W.iloadN (pc' := 43) dprog_12_4_42 rfl rfl
          replace W := W.bipush (pc' := 45) (v := (45 : Int32)) dprog_12_4_43 rfl rfl
          by_cases hc5 : cc = (45 : Int32)
          · replace W := W.icmpT (pc' := 54) dprog_12_4_45 (teq hc5).1 (by decide) (by decide)
            replace W := W.iconst (pc' := 55) (v := (1 : Int32)) dprog_12_4_54 rfl rfl
            replace W := W.goto (pc' := 59) dprog_12_4_55 (by decide) (by decide)
            exact W.iret (t := .boolean) dprog_12_4_59 rfl (by simp) (by decide) (by decide) (by decide) (fun V' cv => ⟨rfl, rfl⟩)
          · replace W := W.icmpF (pc' := 48) dprog_12_4_45 (feq hc5).1 rfl
            replace W := W.iloadN (pc' := 49) dprog_12_4_48 rfl rfl
            replace W := W.bipush (pc' := 51) (v := (46 : Int32)) dprog_12_4_49 rfl rfl
            by_cases hc6 : cc = (46 : Int32)
            · replace W := W.icmpF (pc' := 54) dprog_12_4_51 (teq hc6).2 rfl
              replace W := W.iconst (pc' := 55) (v := (1 : Int32)) dprog_12_4_54 rfl rfl
              replace W := W.goto (pc' := 59) dprog_12_4_55 (by decide) (by decide)
              exact W.iret (t := .boolean) dprog_12_4_59 rfl (by simp) (by decide) (by decide) (by decide) (fun V' cv => ⟨rfl, rfl⟩)
            · replace W := W.icmpT (pc' := 58) dprog_12_4_51 (feq hc6).2 (by decide) (by decide)
              exfalso
              unfold NCh at hc
              simp [hc1, hc2, hc3, hc4, hc5, hc6] at hc
      · replace W := W.icmpF (pc' := 30) dprog_12_4_27 (flt hc3).1 rfl
        replace W := W.iloadN (pc' := 31) dprog_12_4_30 rfl rfl
        replace W := W.bipush (pc' := 33) (v := (57 : Int32)) dprog_12_4_31 rfl rfl
        by_cases hc7 : (57 : Int32) < cc
        · replace W := W.icmpF (pc' := 36) dprog_12_4_33 (tlt hc7).2.2.2 rfl
          replace W := W.iloadN (pc' := 37) dprog_12_4_36 rfl rfl
          replace W := W.bipush (pc' := 39) (v := (95 : Int32)) dprog_12_4_37 rfl rfl
          by_cases hc8 : cc = (95 : Int32)
          · replace W := W.icmpT (pc' := 54) dprog_12_4_39 (teq hc8).1 (by decide) (by decide)
            replace W := W.iconst (pc' := 55) (v := (1 : Int32)) dprog_12_4_54 rfl rfl
            replace W := W.goto (pc' := 59) dprog_12_4_55 (by decide) (by decide)
            exact W.iret (t := .boolean) dprog_12_4_59 rfl (by simp) (by decide) (by decide) (by decide) (fun V' cv => ⟨rfl, rfl⟩)
          · replace W := W.icmpF (pc' := 42) dprog_12_4_39 (feq hc8).1 rfl
            replace W := W.iloadN (pc' := 43) dprog_12_4_42 rfl rfl
            replace W := W.bipush (pc' := 45) (v := (45 : Int32)) dprog_12_4_43 rfl rfl
            by_cases hc9 : cc = (45 : Int32)
            · replace W := W.icmpT (pc' := 54) dprog_12_4_45 (teq hc9).1 (by decide) (by decide)
              replace W := W.iconst (pc' := 55) (v := (1 : Int32)) dprog_12_4_54 rfl rfl
              replace W := W.goto (pc' := 59) dprog_12_4_55 (by decide) (by decide)
              exact W.iret (t := .boolean) dprog_12_4_59 rfl (by simp) (by decide) (by decide) (by decide) (fun V' cv => ⟨rfl, rfl⟩)
            · replace W := W.icmpF (pc' := 48) dprog_12_4_45 (feq hc9).1 rfl
              replace W := W.iloadN (pc' := 49) dprog_12_4_48 rfl rfl
              replace W := W.bipush (pc' := 51) (v := (46 : Int32)) dprog_12_4_49 rfl rfl
              by_cases hc10 : cc = (46 : Int32)
              · replace W := W.icmpF (pc' := 54) dprog_12_4_51 (teq hc10).2 rfl
                replace W := W.iconst (pc' := 55) (v := (1 : Int32)) dprog_12_4_54 rfl rfl
                replace W := W.goto (pc' := 59) dprog_12_4_55 (by decide) (by decide)
                exact W.iret (t := .boolean) dprog_12_4_59 rfl (by simp) (by decide) (by decide) (by decide) (fun V' cv => ⟨rfl, rfl⟩)
              · replace W := W.icmpT (pc' := 58) dprog_12_4_51 (feq hc10).2 (by decide) (by decide)
                exfalso
                unfold NCh at hc
                simp [hc1, hc2, hc3, hc7, hc8, hc9, hc10] at hc
        · replace W := W.icmpT (pc' := 54) dprog_12_4_33 (flt hc7).2.2.2 (by decide) (by decide)
          replace W := W.iconst (pc' := 55) (v := (1 : Int32)) dprog_12_4_54 rfl rfl
          replace W := W.goto (pc' := 59) dprog_12_4_55 (by decide) (by decide)
          exact W.iret (t := .boolean) dprog_12_4_59 rfl (by simp) (by decide) (by decide) (by decide) (fun V' cv => ⟨rfl, rfl⟩)
    · replace W := W.icmpF (pc' := 18) dprog_12_4_15 (flt hc2).1 rfl
      replace W := W.iloadN (pc' := 19) dprog_12_4_18 rfl rfl
      replace W := W.bipush (pc' := 21) (v := (90 : Int32)) dprog_12_4_19 rfl rfl
      by_cases hc11 : (90 : Int32) < cc
      · replace W := W.icmpF (pc' := 24) dprog_12_4_21 (tlt hc11).2.2.2 rfl
        replace W := W.iloadN (pc' := 25) dprog_12_4_24 rfl rfl
        replace W := W.bipush (pc' := 27) (v := (48 : Int32)) dprog_12_4_25 rfl rfl
        by_cases hc12 : cc < (48 : Int32)
        · replace W := W.icmpT (pc' := 36) dprog_12_4_27 (tlt hc12).1 (by decide) (by decide)
          replace W := W.iloadN (pc' := 37) dprog_12_4_36 rfl rfl
          replace W := W.bipush (pc' := 39) (v := (95 : Int32)) dprog_12_4_37 rfl rfl
          by_cases hc13 : cc = (95 : Int32)
          · replace W := W.icmpT (pc' := 54) dprog_12_4_39 (teq hc13).1 (by decide) (by decide)
            replace W := W.iconst (pc' := 55) (v := (1 : Int32)) dprog_12_4_54 rfl rfl
            replace W := W.goto (pc' := 59) dprog_12_4_55 (by decide) (by decide)
            exact W.iret (t := .boolean) dprog_12_4_59 rfl (by simp) (by decide) (by decide) (by decide) (fun V' cv => ⟨rfl, rfl⟩)
          · replace W := W.icmpF (pc' := 42) dprog_12_4_39 (feq hc13).1 rfl
            replace W := W.iloadN (pc' := 43) dprog_12_4_42 rfl rfl
            replace W := W.bipush (pc' := 45) (v := (45 : Int32)) dprog_12_4_43 rfl rfl
            by_cases hc14 : cc = (45 : Int32)
            · replace W := W.icmpT (pc' := 54) dprog_12_4_45 (teq hc14).1 (by decide) (by decide)
              replace W := W.iconst (pc' := 55) (v := (1 : Int32)) dprog_12_4_54 rfl rfl
              replace W := W.goto (pc' := 59) dprog_12_4_55 (by decide) (by decide)
              exact W.iret (t := .boolean) dprog_12_4_59 rfl (by simp) (by decide) (by decide) (by decide) (fun V' cv => ⟨rfl, rfl⟩)
            · replace W := W.icmpF (pc' := 48) dprog_12_4_45 (feq hc14).1 rfl
              replace W := W.iloadN (pc' := 49) dprog_12_4_48 rfl rfl
              replace W := W.bipush (pc' := 51) (v := (46 : Int32)) dprog_12_4_49 rfl rfl
              by_cases hc15 : cc = (46 : Int32)
              · replace W := W.icmpF (pc' := 54) dprog_12_4_51 (teq hc15).2 rfl
                replace W := W.iconst (pc' := 55) (v := (1 : Int32)) dprog_12_4_54 rfl rfl
                replace W := W.goto (pc' := 59) dprog_12_4_55 (by decide) (by decide)
                exact W.iret (t := .boolean) dprog_12_4_59 rfl (by simp) (by decide) (by decide) (by decide) (fun V' cv => ⟨rfl, rfl⟩)
              · replace W := W.icmpT (pc' := 58) dprog_12_4_51 (feq hc15).2 (by decide) (by decide)
                exfalso
                unfold NCh at hc
                simp [hc1, hc2, hc11, hc12, hc13, hc14, hc15] at hc
        · replace W := W.icmpF (pc' := 30) dprog_12_4_27 (flt hc12).1 rfl
          replace W := W.iloadN (pc' := 31) dprog_12_4_30 rfl rfl
          replace W := W.bipush (pc' := 33) (v := (57 : Int32)) dprog_12_4_31 rfl rfl
          by_cases hc16 : (57 : Int32) < cc
          · replace W := W.icmpF (pc' := 36) dprog_12_4_33 (tlt hc16).2.2.2 rfl
            replace W := W.iloadN (pc' := 37) dprog_12_4_36 rfl rfl
            replace W := W.bipush (pc' := 39) (v := (95 : Int32)) dprog_12_4_37 rfl rfl
            by_cases hc17 : cc = (95 : Int32)
            · replace W := W.icmpT (pc' := 54) dprog_12_4_39 (teq hc17).1 (by decide) (by decide)
              replace W := W.iconst (pc' := 55) (v := (1 : Int32)) dprog_12_4_54 rfl rfl
              replace W := W.goto (pc' := 59) dprog_12_4_55 (by decide) (by decide)
              exact W.iret (t := .boolean) dprog_12_4_59 rfl (by simp) (by decide) (by decide) (by decide) (fun V' cv => ⟨rfl, rfl⟩)
            · replace W := W.icmpF (pc' := 42) dprog_12_4_39 (feq hc17).1 rfl
              replace W := W.iloadN (pc' := 43) dprog_12_4_42 rfl rfl
              replace W := W.bipush (pc' := 45) (v := (45 : Int32)) dprog_12_4_43 rfl rfl
              by_cases hc18 : cc = (45 : Int32)
              · replace W := W.icmpT (pc' := 54) dprog_12_4_45 (teq hc18).1 (by decide) (by decide)
                replace W := W.iconst (pc' := 55) (v := (1 : Int32)) dprog_12_4_54 rfl rfl
                replace W := W.goto (pc' := 59) dprog_12_4_55 (by decide) (by decide)
                exact W.iret (t := .boolean) dprog_12_4_59 rfl (by simp) (by decide) (by decide) (by decide) (fun V' cv => ⟨rfl, rfl⟩)
              · replace W := W.icmpF (pc' := 48) dprog_12_4_45 (feq hc18).1 rfl
                replace W := W.iloadN (pc' := 49) dprog_12_4_48 rfl rfl
                replace W := W.bipush (pc' := 51) (v := (46 : Int32)) dprog_12_4_49 rfl rfl
                by_cases hc19 : cc = (46 : Int32)
                · replace W := W.icmpF (pc' := 54) dprog_12_4_51 (teq hc19).2 rfl
                  replace W := W.iconst (pc' := 55) (v := (1 : Int32)) dprog_12_4_54 rfl rfl
                  replace W := W.goto (pc' := 59) dprog_12_4_55 (by decide) (by decide)
                  exact W.iret (t := .boolean) dprog_12_4_59 rfl (by simp) (by decide) (by decide) (by decide) (fun V' cv => ⟨rfl, rfl⟩)
                · replace W := W.icmpT (pc' := 58) dprog_12_4_51 (feq hc19).2 (by decide) (by decide)
                  exfalso
                  unfold NCh at hc
                  simp [hc1, hc2, hc11, hc12, hc16, hc17, hc18, hc19] at hc
          · replace W := W.icmpT (pc' := 54) dprog_12_4_33 (flt hc16).2.2.2 (by decide) (by decide)
            replace W := W.iconst (pc' := 55) (v := (1 : Int32)) dprog_12_4_54 rfl rfl
            replace W := W.goto (pc' := 59) dprog_12_4_55 (by decide) (by decide)
            exact W.iret (t := .boolean) dprog_12_4_59 rfl (by simp) (by decide) (by decide) (by decide) (fun V' cv => ⟨rfl, rfl⟩)
      · replace W := W.icmpT (pc' := 54) dprog_12_4_21 (flt hc11).2.2.2 (by decide) (by decide)
        replace W := W.iconst (pc' := 55) (v := (1 : Int32)) dprog_12_4_54 rfl rfl
        replace W := W.goto (pc' := 59) dprog_12_4_55 (by decide) (by decide)
        exact W.iret (t := .boolean) dprog_12_4_59 rfl (by simp) (by decide) (by decide) (by decide) (fun V' cv => ⟨rfl, rfl⟩)
  · replace W := W.icmpF (pc' := 6) dprog_12_4_3 (flt hc1).1 rfl
    replace W := W.iloadN (pc' := 7) dprog_12_4_6 rfl rfl
    replace W := W.bipush (pc' := 9) (v := (122 : Int32)) dprog_12_4_7 rfl rfl
    by_cases hc20 : (122 : Int32) < cc
    · replace W := W.icmpF (pc' := 12) dprog_12_4_9 (tlt hc20).2.2.2 rfl
      replace W := W.iloadN (pc' := 13) dprog_12_4_12 rfl rfl
      replace W := W.bipush (pc' := 15) (v := (65 : Int32)) dprog_12_4_13 rfl rfl
      by_cases hc21 : cc < (65 : Int32)
      · replace W := W.icmpT (pc' := 24) dprog_12_4_15 (tlt hc21).1 (by decide) (by decide)
        replace W := W.iloadN (pc' := 25) dprog_12_4_24 rfl rfl
        replace W := W.bipush (pc' := 27) (v := (48 : Int32)) dprog_12_4_25 rfl rfl
        by_cases hc22 : cc < (48 : Int32)
        · replace W := W.icmpT (pc' := 36) dprog_12_4_27 (tlt hc22).1 (by decide) (by decide)
          replace W := W.iloadN (pc' := 37) dprog_12_4_36 rfl rfl
          replace W := W.bipush (pc' := 39) (v := (95 : Int32)) dprog_12_4_37 rfl rfl
          by_cases hc23 : cc = (95 : Int32)
          · replace W := W.icmpT (pc' := 54) dprog_12_4_39 (teq hc23).1 (by decide) (by decide)
            replace W := W.iconst (pc' := 55) (v := (1 : Int32)) dprog_12_4_54 rfl rfl
            replace W := W.goto (pc' := 59) dprog_12_4_55 (by decide) (by decide)
            exact W.iret (t := .boolean) dprog_12_4_59 rfl (by simp) (by decide) (by decide) (by decide) (fun V' cv => ⟨rfl, rfl⟩)
          · replace W := W.icmpF (pc' := 42) dprog_12_4_39 (feq hc23).1 rfl
            replace W := W.iloadN (pc' := 43) dprog_12_4_42 rfl rfl
            replace W := W.bipush (pc' := 45) (v := (45 : Int32)) dprog_12_4_43 rfl rfl
            by_cases hc24 : cc = (45 : Int32)
            · replace W := W.icmpT (pc' := 54) dprog_12_4_45 (teq hc24).1 (by decide) (by decide)
              replace W := W.iconst (pc' := 55) (v := (1 : Int32)) dprog_12_4_54 rfl rfl
              replace W := W.goto (pc' := 59) dprog_12_4_55 (by decide) (by decide)
              exact W.iret (t := .boolean) dprog_12_4_59 rfl (by simp) (by decide) (by decide) (by decide) (fun V' cv => ⟨rfl, rfl⟩)
            · replace W := W.icmpF (pc' := 48) dprog_12_4_45 (feq hc24).1 rfl
              replace W := W.iloadN (pc' := 49) dprog_12_4_48 rfl rfl
              replace W := W.bipush (pc' := 51) (v := (46 : Int32)) dprog_12_4_49 rfl rfl
              by_cases hc25 : cc = (46 : Int32)
              · replace W := W.icmpF (pc' := 54) dprog_12_4_51 (teq hc25).2 rfl
                replace W := W.iconst (pc' := 55) (v := (1 : Int32)) dprog_12_4_54 rfl rfl
                replace W := W.goto (pc' := 59) dprog_12_4_55 (by decide) (by decide)
                exact W.iret (t := .boolean) dprog_12_4_59 rfl (by simp) (by decide) (by decide) (by decide) (fun V' cv => ⟨rfl, rfl⟩)
              · replace W := W.icmpT (pc' := 58) dprog_12_4_51 (feq hc25).2 (by decide) (by decide)
                exfalso
                unfold NCh at hc
                simp [hc1, hc20, hc21, hc22, hc23, hc24, hc25] at hc
        · replace W := W.icmpF (pc' := 30) dprog_12_4_27 (flt hc22).1 rfl
          replace W := W.iloadN (pc' := 31) dprog_12_4_30 rfl rfl
          replace W := W.bipush (pc' := 33) (v := (57 : Int32)) dprog_12_4_31 rfl rfl
          by_cases hc26 : (57 : Int32) < cc
          · replace W := W.icmpF (pc' := 36) dprog_12_4_33 (tlt hc26).2.2.2 rfl
            replace W := W.iloadN (pc' := 37) dprog_12_4_36 rfl rfl
            replace W := W.bipush (pc' := 39) (v := (95 : Int32)) dprog_12_4_37 rfl rfl
            by_cases hc27 : cc = (95 : Int32)
            · replace W := W.icmpT (pc' := 54) dprog_12_4_39 (teq hc27).1 (by decide) (by decide)
              replace W := W.iconst (pc' := 55) (v := (1 : Int32)) dprog_12_4_54 rfl rfl
              replace W := W.goto (pc' := 59) dprog_12_4_55 (by decide) (by decide)
              exact W.iret (t := .boolean) dprog_12_4_59 rfl (by simp) (by decide) (by decide) (by decide) (fun V' cv => ⟨rfl, rfl⟩)
            · replace W := W.icmpF (pc' := 42) dprog_12_4_39 (feq hc27).1 rfl
              replace W := W.iloadN (pc' := 43) dprog_12_4_42 rfl rfl
              replace W := W.bipush (pc' := 45) (v := (45 : Int32)) dprog_12_4_43 rfl rfl
              by_cases hc28 : cc = (45 : Int32)
              · replace W := W.icmpT (pc' := 54) dprog_12_4_45 (teq hc28).1 (by decide) (by decide)
                replace W := W.iconst (pc' := 55) (v := (1 : Int32)) dprog_12_4_54 rfl rfl
                replace W := W.goto (pc' := 59) dprog_12_4_55 (by decide) (by decide)
                exact W.iret (t := .boolean) dprog_12_4_59 rfl (by simp) (by decide) (by decide) (by decide) (fun V' cv => ⟨rfl, rfl⟩)
              · replace W := W.icmpF (pc' := 48) dprog_12_4_45 (feq hc28).1 rfl
                replace W := W.iloadN (pc' := 49) dprog_12_4_48 rfl rfl
                replace W := W.bipush (pc' := 51) (v := (46 : Int32)) dprog_12_4_49 rfl rfl
                by_cases hc29 : cc = (46 : Int32)
                · replace W := W.icmpF (pc' := 54) dprog_12_4_51 (teq hc29).2 rfl
                  replace W := W.iconst (pc' := 55) (v := (1 : Int32)) dprog_12_4_54 rfl rfl
                  replace W := W.goto (pc' := 59) dprog_12_4_55 (by decide) (by decide)
                  exact W.iret (t := .boolean) dprog_12_4_59 rfl (by simp) (by decide) (by decide) (by decide) (fun V' cv => ⟨rfl, rfl⟩)
                · replace W := W.icmpT (pc' := 58) dprog_12_4_51 (feq hc29).2 (by decide) (by decide)
                  exfalso
                  unfold NCh at hc
                  simp [hc1, hc20, hc21, hc22, hc26, hc27, hc28, hc29] at hc
          · replace W := W.icmpT (pc' := 54) dprog_12_4_33 (flt hc26).2.2.2 (by decide) (by decide)
            replace W := W.iconst (pc' := 55) (v := (1 : Int32)) dprog_12_4_54 rfl rfl
            replace W := W.goto (pc' := 59) dprog_12_4_55 (by decide) (by decide)
            exact W.iret (t := .boolean) dprog_12_4_59 rfl (by simp) (by decide) (by decide) (by decide) (fun V' cv => ⟨rfl, rfl⟩)
      · replace W := W.icmpF (pc' := 18) dprog_12_4_15 (flt hc21).1 rfl
        replace W := W.iloadN (pc' := 19) dprog_12_4_18 rfl rfl
        replace W := W.bipush (pc' := 21) (v := (90 : Int32)) dprog_12_4_19 rfl rfl
        by_cases hc30 : (90 : Int32) < cc
        · replace W := W.icmpF (pc' := 24) dprog_12_4_21 (tlt hc30).2.2.2 rfl
          replace W := W.iloadN (pc' := 25) dprog_12_4_24 rfl rfl
          replace W := W.bipush (pc' := 27) (v := (48 : Int32)) dprog_12_4_25 rfl rfl
          by_cases hc31 : cc < (48 : Int32)
          · replace W := W.icmpT (pc' := 36) dprog_12_4_27 (tlt hc31).1 (by decide) (by decide)
            replace W := W.iloadN (pc' := 37) dprog_12_4_36 rfl rfl
            replace W := W.bipush (pc' := 39) (v := (95 : Int32)) dprog_12_4_37 rfl rfl
            by_cases hc32 : cc = (95 : Int32)
            · replace W := W.icmpT (pc' := 54) dprog_12_4_39 (teq hc32).1 (by decide) (by decide)
              replace W := W.iconst (pc' := 55) (v := (1 : Int32)) dprog_12_4_54 rfl rfl
              replace W := W.goto (pc' := 59) dprog_12_4_55 (by decide) (by decide)
              exact W.iret (t := .boolean) dprog_12_4_59 rfl (by simp) (by decide) (by decide) (by decide) (fun V' cv => ⟨rfl, rfl⟩)
            · replace W := W.icmpF (pc' := 42) dprog_12_4_39 (feq hc32).1 rfl
              replace W := W.iloadN (pc' := 43) dprog_12_4_42 rfl rfl
              replace W := W.bipush (pc' := 45) (v := (45 : Int32)) dprog_12_4_43 rfl rfl
              by_cases hc33 : cc = (45 : Int32)
              · replace W := W.icmpT (pc' := 54) dprog_12_4_45 (teq hc33).1 (by decide) (by decide)
                replace W := W.iconst (pc' := 55) (v := (1 : Int32)) dprog_12_4_54 rfl rfl
                replace W := W.goto (pc' := 59) dprog_12_4_55 (by decide) (by decide)
                exact W.iret (t := .boolean) dprog_12_4_59 rfl (by simp) (by decide) (by decide) (by decide) (fun V' cv => ⟨rfl, rfl⟩)
              · replace W := W.icmpF (pc' := 48) dprog_12_4_45 (feq hc33).1 rfl
                replace W := W.iloadN (pc' := 49) dprog_12_4_48 rfl rfl
                replace W := W.bipush (pc' := 51) (v := (46 : Int32)) dprog_12_4_49 rfl rfl
                by_cases hc34 : cc = (46 : Int32)
                · replace W := W.icmpF (pc' := 54) dprog_12_4_51 (teq hc34).2 rfl
                  replace W := W.iconst (pc' := 55) (v := (1 : Int32)) dprog_12_4_54 rfl rfl
                  replace W := W.goto (pc' := 59) dprog_12_4_55 (by decide) (by decide)
                  exact W.iret (t := .boolean) dprog_12_4_59 rfl (by simp) (by decide) (by decide) (by decide) (fun V' cv => ⟨rfl, rfl⟩)
                · replace W := W.icmpT (pc' := 58) dprog_12_4_51 (feq hc34).2 (by decide) (by decide)
                  exfalso
                  unfold NCh at hc
                  simp [hc1, hc20, hc21, hc30, hc31, hc32, hc33, hc34] at hc
          · replace W := W.icmpF (pc' := 30) dprog_12_4_27 (flt hc31).1 rfl
            replace W := W.iloadN (pc' := 31) dprog_12_4_30 rfl rfl
            replace W := W.bipush (pc' := 33) (v := (57 : Int32)) dprog_12_4_31 rfl rfl
            by_cases hc35 : (57 : Int32) < cc
            · replace W := W.icmpF (pc' := 36) dprog_12_4_33 (tlt hc35).2.2.2 rfl
              replace W := W.iloadN (pc' := 37) dprog_12_4_36 rfl rfl
              replace W := W.bipush (pc' := 39) (v := (95 : Int32)) dprog_12_4_37 rfl rfl
              by_cases hc36 : cc = (95 : Int32)
              · replace W := W.icmpT (pc' := 54) dprog_12_4_39 (teq hc36).1 (by decide) (by decide)
                replace W := W.iconst (pc' := 55) (v := (1 : Int32)) dprog_12_4_54 rfl rfl
                replace W := W.goto (pc' := 59) dprog_12_4_55 (by decide) (by decide)
                exact W.iret (t := .boolean) dprog_12_4_59 rfl (by simp) (by decide) (by decide) (by decide) (fun V' cv => ⟨rfl, rfl⟩)
              · replace W := W.icmpF (pc' := 42) dprog_12_4_39 (feq hc36).1 rfl
                replace W := W.iloadN (pc' := 43) dprog_12_4_42 rfl rfl
                replace W := W.bipush (pc' := 45) (v := (45 : Int32)) dprog_12_4_43 rfl rfl
                by_cases hc37 : cc = (45 : Int32)
                · replace W := W.icmpT (pc' := 54) dprog_12_4_45 (teq hc37).1 (by decide) (by decide)
                  replace W := W.iconst (pc' := 55) (v := (1 : Int32)) dprog_12_4_54 rfl rfl
                  replace W := W.goto (pc' := 59) dprog_12_4_55 (by decide) (by decide)
                  exact W.iret (t := .boolean) dprog_12_4_59 rfl (by simp) (by decide) (by decide) (by decide) (fun V' cv => ⟨rfl, rfl⟩)
                · replace W := W.icmpF (pc' := 48) dprog_12_4_45 (feq hc37).1 rfl
                  replace W := W.iloadN (pc' := 49) dprog_12_4_48 rfl rfl
                  replace W := W.bipush (pc' := 51) (v := (46 : Int32)) dprog_12_4_49 rfl rfl
                  by_cases hc38 : cc = (46 : Int32)
                  · replace W := W.icmpF (pc' := 54) dprog_12_4_51 (teq hc38).2 rfl
                    replace W := W.iconst (pc' := 55) (v := (1 : Int32)) dprog_12_4_54 rfl rfl
                    replace W := W.goto (pc' := 59) dprog_12_4_55 (by decide) (by decide)
                    exact W.iret (t := .boolean) dprog_12_4_59 rfl (by simp) (by decide) (by decide) (by decide) (fun V' cv => ⟨rfl, rfl⟩)
                  · replace W := W.icmpT (pc' := 58) dprog_12_4_51 (feq hc38).2 (by decide) (by decide)
                    exfalso
                    unfold NCh at hc
                    simp [hc1, hc20, hc21, hc30, hc31, hc35, hc36, hc37, hc38] at hc
            · replace W := W.icmpT (pc' := 54) dprog_12_4_33 (flt hc35).2.2.2 (by decide) (by decide)
              replace W := W.iconst (pc' := 55) (v := (1 : Int32)) dprog_12_4_54 rfl rfl
              replace W := W.goto (pc' := 59) dprog_12_4_55 (by decide) (by decide)
              exact W.iret (t := .boolean) dprog_12_4_59 rfl (by simp) (by decide) (by decide) (by decide) (fun V' cv => ⟨rfl, rfl⟩)
        · replace W := W.icmpT (pc' := 54) dprog_12_4_21 (flt hc30).2.2.2 (by decide) (by decide)
          replace W := W.iconst (pc' := 55) (v := (1 : Int32)) dprog_12_4_54 rfl rfl
          replace W := W.goto (pc' := 59) dprog_12_4_55 (by decide) (by decide)
          exact W.iret (t := .boolean) dprog_12_4_59 rfl (by simp) (by decide) (by decide) (by decide) (fun V' cv => ⟨rfl, rfl⟩)
    · replace W := W.icmpT (pc' := 54) dprog_12_4_9 (flt hc20).2.2.2 (by decide) (by decide)
      replace W := W.iconst (pc' := 55) (v := (1 : Int32)) dprog_12_4_54 rfl rfl
      replace W := W.goto (pc' := 59) dprog_12_4_55 (by decide) (by decide)
      exact W.iret (t := .boolean) dprog_12_4_59 rfl (by simp) (by decide) (by decide) (by decide) (fun V' cv => ⟨rfl, rfl⟩)
theorem ef_nin (m : MethodId) (na : Addr) (xa : Addr) (hh : Int32) : entryFrame m #[(.ref na), (.ref xa), (.int hh)] 3 = mkF m 0 #[.val (.ref na), .val (.ref xa), .val (.int hh)] [] := by first | (simp [entryFrame, mkF, argsToLocals, Value.category]; done) | rfl
set_option maxRecDepth 65536 in
set_option maxHeartbeats 40000000 in
theorem nin (l : Launch) (Z : State) (a0 : Array Value) (n0 : Nat) (hw : ∀ d ∈ tables_1, d.before a0 Z = true) (hEL : EW Z a0 []) (G1 : Int32) (O1 : Sta Z Z.heap "java/lang/String" "COMPACT_STRINGS" "Z" (.int G1)) (P1 : ¬ (G1 = (0 : Int32))) (G3 : Value) (O3 : Sta Z Z.heap "jdk/internal/util/Preconditions" "SIOOBE_FORMATTER" "Ljava/util/function/BiFunction;" G3) (rG3 : G3.isRef = true) (na : Addr) (xa : Addr) (hh : Int32) (h0 : Heap) (hO : Old Z n0 h0) (E_na : Exa Z h0 na "com/example/letters_between_tasks/lettersbetweentasks/model/Name") (F_na_text : Fld Z h0 na "com/example/letters_between_tasks/lettersbetweentasks/model/Name" "text" "Ljava/lang/String;" .null) (F_na_hash : Fld Z h0 na "com/example/letters_between_tasks/lettersbetweentasks/model/Name" "hash" "I" (.int (0 : Int32))) (g_na : n0 ≤ na) :
    Con l Z [] n0 (⟨"com/example/letters_between_tasks/lettersbetweentasks/model/Name", "<init>", "(Ljava/lang/String;I)V"⟩ : MethodName) prog_12_method_1_code 3 none ({ frames := 1, cells := 0, slots := 0, locals := 12 } : Room) #[(.ref na), (.ref xa), (.int hh)] h0 [na] (fun v h V' => v = none ∧ Exa Z h na "com/example/letters_between_tasks/lettersbetweentasks/model/Name" ∧ Fld Z h na "com/example/letters_between_tasks/lettersbetweentasks/model/Name" "text" "Ljava/lang/String;" (.ref xa) ∧ Fld Z h na "com/example/letters_between_tasks/lettersbetweentasks/model/Name" "hash" "I" (.int hh)) [] := by
  refine Con.of (a0 := a0) pf15 (fun m => ef_nin m na xa hh) (allS g_na all0) hO hEL ?_
  intro p e s m below meth c S0 hnm hsf W
  replace W := W.aloadN (pc' := 1) dprog_12_1_0 rfl rfl rfl
  replace W := W.initO (pc' := 4) (Wd := 0) dprog_12_1_1 (tw94 hw) (tw20 hw) (tw21 hw) rfl rfl (by decide) (by decide) rfl
  replace W := W.aloadN (pc' := 5) dprog_12_1_4 rfl rfl rfl
  replace W := W.aloadN (pc' := 6) dprog_12_1_5 rfl rfl rfl
  obtain ⟨h1, W1, w1, SF1⟩ := W.putf (pc' := 9) (ty := (.object "java/lang/String")) dprog_12_1_6 (tw95 hw) Via.refl F_na_text E_na (Or.inr ⟨(tw96 hw), rfl, hnm⟩) (tw90 hw) (by decide) rfl rfl safe0 (Or.inl (List.mem_of_getElem? (i := 0) rfl)) rfl
  clear W
  have z1 : h0.size ≤ h1.size := Nat.le_of_eq w1.size.symm
  have f1 := F_na_text.same w1
  replace W1 := W1.aloadN (pc' := 10) dprog_12_1_9 rfl rfl rfl
  replace W1 := W1.iloadN (pc' := 11) dprog_12_1_10 rfl rfl
  have f2 := (F_na_hash.other w1 (Or.inr (slot_ne (C := "com/example/letters_between_tasks/lettersbetweentasks/model/Name") (Or.inr (tw98 hw)) (Or.inr (tw96 hw)) (by decide) (t := .int) (t' := (.object "java/lang/String")) (by decide) (by decide))))
  have e3 := (E_na.wr w1)
  obtain ⟨h4, W4, w4, SF4⟩ := W1.putf (pc' := 14) (ty := .int) dprog_12_1_11 (tw97 hw) Via.refl f2 e3 (Or.inr ⟨(tw98 hw), rfl, hnm⟩) (tw90 hw) (by decide) rfl rfl safe0 (Or.inl (List.mem_of_getElem? (i := 0) rfl)) rfl
  clear W1
  have z4 : h1.size ≤ h4.size := Nat.le_of_eq w4.size.symm
  have f4 := f2.same w4
  have e5 := (e3.wr w4)
  have f6 := (f1.other w4 (Or.inr (slot_ne (C := "com/example/letters_between_tasks/lettersbetweentasks/model/Name") (Or.inr (tw96 hw)) (Or.inr (tw98 hw)) (by decide) (t := (.object "java/lang/String")) (t' := .int) (by decide) (by decide))))
  exact W4.vret dprog_12_1_14 rfl (by decide) (by decide) (fun V' cv => ⟨rfl, e5, f6, f4⟩)
theorem ef_ntext (m : MethodId) (na : Addr) (xa : Addr) : entryFrame m #[(.ref na)] 1 = mkF m 0 #[.val (.ref na)] [] := by first | (simp [entryFrame, mkF, argsToLocals, Value.category]; done) | rfl
set_option maxRecDepth 65536 in
set_option maxHeartbeats 40000000 in
theorem ntext (l : Launch) (Z : State) (a0 : Array Value) (n0 : Nat) (hw : ∀ d ∈ tables_1, d.before a0 Z = true) (hEL : EW Z a0 []) (G1 : Int32) (O1 : Sta Z Z.heap "java/lang/String" "COMPACT_STRINGS" "Z" (.int G1)) (P1 : ¬ (G1 = (0 : Int32))) (G3 : Value) (O3 : Sta Z Z.heap "jdk/internal/util/Preconditions" "SIOOBE_FORMATTER" "Ljava/util/function/BiFunction;" G3) (rG3 : G3.isRef = true) (na : Addr) (xa : Addr) (h0 : Heap) (hO : Old Z n0 h0) (F_na_text : Fld Z h0 na "com/example/letters_between_tasks/lettersbetweentasks/model/Name" "text" "Ljava/lang/String;" (.ref xa)) :
    Con l Z [] n0 (⟨"com/example/letters_between_tasks/lettersbetweentasks/model/Name", "text", "()Ljava/lang/String;"⟩ : MethodName) prog_12_method_3_code 1 (some (.object "java/lang/String")) ({ frames := 0, cells := 0, slots := 0, locals := 0 } : Room) #[(.ref na)] h0 [] (fun v h V' => v = some (.ref xa) ∧ h0 = h) [] := by
  refine Con.of (a0 := a0) pf16 (fun m => ef_ntext m na xa) all0 hO hEL ?_
  intro p e s m below meth c S0 hnm hsf W
  replace W := W.aloadN (pc' := 1) dprog_12_3_0 rfl rfl rfl
  replace W := W.getf (pc' := 4) dprog_12_3_1 (tw95 hw) Via.refl F_na_text rfl
  exact W.aret (t := (.object "java/lang/String")) dprog_12_3_4 rfl rfl rfl rfl (by decide) (by decide) (fun V' cv => ⟨rfl, rfl⟩)
theorem ef_nstr (m : MethodId) (na : Addr) (xa : Addr) : entryFrame m #[(.ref na)] 1 = mkF m 0 #[.val (.ref na)] [] := by first | (simp [entryFrame, mkF, argsToLocals, Value.category]; done) | rfl
set_option maxRecDepth 65536 in
set_option maxHeartbeats 40000000 in
theorem nstr (l : Launch) (Z : State) (a0 : Array Value) (n0 : Nat) (hw : ∀ d ∈ tables_1, d.before a0 Z = true) (hEL : EW Z a0 []) (G1 : Int32) (O1 : Sta Z Z.heap "java/lang/String" "COMPACT_STRINGS" "Z" (.int G1)) (P1 : ¬ (G1 = (0 : Int32))) (G3 : Value) (O3 : Sta Z Z.heap "jdk/internal/util/Preconditions" "SIOOBE_FORMATTER" "Ljava/util/function/BiFunction;" G3) (rG3 : G3.isRef = true) (na : Addr) (xa : Addr) (h0 : Heap) (hO : Old Z n0 h0) (F_na_text : Fld Z h0 na "com/example/letters_between_tasks/lettersbetweentasks/model/Name" "text" "Ljava/lang/String;" (.ref xa)) :
    Con l Z [] n0 (⟨"com/example/letters_between_tasks/lettersbetweentasks/model/Name", "toString", "()Ljava/lang/String;"⟩ : MethodName) prog_12_method_8_code 1 (some (.object "java/lang/String")) ({ frames := 0, cells := 0, slots := 0, locals := 0 } : Room) #[(.ref na)] h0 [] (fun v h V' => v = some (.ref xa) ∧ h0 = h) [] := by
  refine Con.of (a0 := a0) pf17 (fun m => ef_nstr m na xa) all0 hO hEL ?_
  intro p e s m below meth c S0 hnm hsf W
  replace W := W.aloadN (pc' := 1) dprog_12_8_0 rfl rfl rfl
  replace W := W.getf (pc' := 4) dprog_12_8_1 (tw95 hw) Via.refl F_na_text rfl
  exact W.aret (t := (.object "java/lang/String")) dprog_12_8_4 rfl rfl rfl rfl (by decide) (by decide) (fun V' cv => ⟨rfl, rfl⟩)
theorem ef_nhash (m : MethodId) (na : Addr) (hh : Int32) : entryFrame m #[(.ref na)] 1 = mkF m 0 #[.val (.ref na)] [] := by first | (simp [entryFrame, mkF, argsToLocals, Value.category]; done) | rfl
set_option maxRecDepth 65536 in
set_option maxHeartbeats 40000000 in
theorem nhash (l : Launch) (Z : State) (a0 : Array Value) (n0 : Nat) (hw : ∀ d ∈ tables_1, d.before a0 Z = true) (hEL : EW Z a0 []) (G1 : Int32) (O1 : Sta Z Z.heap "java/lang/String" "COMPACT_STRINGS" "Z" (.int G1)) (P1 : ¬ (G1 = (0 : Int32))) (G3 : Value) (O3 : Sta Z Z.heap "jdk/internal/util/Preconditions" "SIOOBE_FORMATTER" "Ljava/util/function/BiFunction;" G3) (rG3 : G3.isRef = true) (na : Addr) (hh : Int32) (h0 : Heap) (hO : Old Z n0 h0) (F_na_hash : Fld Z h0 na "com/example/letters_between_tasks/lettersbetweentasks/model/Name" "hash" "I" (.int hh)) :
    Con l Z [] n0 (⟨"com/example/letters_between_tasks/lettersbetweentasks/model/Name", "hashCode", "()I"⟩ : MethodName) prog_12_method_7_code 1 (some .int) ({ frames := 0, cells := 0, slots := 0, locals := 0 } : Room) #[(.ref na)] h0 [] (fun v h V' => v = some (.int hh) ∧ h0 = h) [] := by
  refine Con.of (a0 := a0) pf18 (fun m => ef_nhash m na hh) all0 hO hEL ?_
  intro p e s m below meth c S0 hnm hsf W
  replace W := W.aloadN (pc' := 1) dprog_12_7_0 rfl rfl rfl
  replace W := W.getf (pc' := 4) dprog_12_7_1 (tw97 hw) Via.refl F_na_hash rfl
  exact W.iret (t := .int) dprog_12_7_4 rfl (by simp) rfl (by decide) (by decide) (fun V' cv => ⟨rfl, rfl⟩)
theorem ef_eq_self (m : MethodId) (xa : Addr) : entryFrame m #[(.ref xa), (.ref xa)] 3 = mkF m 0 #[.val (.ref xa), .val (.ref xa), .unset] [] := by first | (simp [entryFrame, mkF, argsToLocals, Value.category]; done) | rfl
set_option maxRecDepth 65536 in
set_option maxHeartbeats 40000000 in
theorem eq_self (l : Launch) (Z : State) (a0 : Array Value) (n0 : Nat) (hw : ∀ d ∈ tables_1, d.before a0 Z = true) (hEL : EW Z a0 []) (G1 : Int32) (O1 : Sta Z Z.heap "java/lang/String" "COMPACT_STRINGS" "Z" (.int G1)) (P1 : ¬ (G1 = (0 : Int32))) (G3 : Value) (O3 : Sta Z Z.heap "jdk/internal/util/Preconditions" "SIOOBE_FORMATTER" "Ljava/util/function/BiFunction;" G3) (rG3 : G3.isRef = true) (xa : Addr) (h0 : Heap) (hO : Old Z n0 h0)  :
    Con l Z [] n0 (⟨"java/lang/String", "equals", "(Ljava/lang/Object;)Z"⟩ : MethodName) jdk_42_method_66_code 3 (some .boolean) ({ frames := 0, cells := 0, slots := 0, locals := 0 } : Room) #[(.ref xa), (.ref xa)] h0 [] (fun v h V' => v = some (.int (1 : Int32)) ∧ h0 = h) [] := by
  refine Con.of (a0 := a0) pf19 (fun m => ef_eq_self m xa) all0 hO hEL ?_
  intro p e s m below meth c S0 hnm hsf W
  replace W := W.aloadN (pc' := 1) djdk_42_66_0 rfl rfl rfl
  replace W := W.aloadN (pc' := 2) djdk_42_66_1 rfl rfl rfl
  replace W := W.acmpF (pc' := 5) djdk_42_66_2 rfl rfl (by simp [Jvm.Free.XT.acmp]) rfl
  replace W := W.iconst (pc' := 6) (v := (1 : Int32)) djdk_42_66_5 rfl rfl
  exact W.iret (t := .boolean) djdk_42_66_6 rfl (by simp) (by decide) (by decide) (by decide) (fun V' cv => ⟨rfl, rfl⟩)
set_option maxRecDepth 65536 in
set_option maxHeartbeats 40000000 in
theorem of_lp (l : Launch) (Z : State) (a0 : Array Value) (n0 : Nat) (hw : ∀ d ∈ tables_1, d.before a0 Z = true) (hEL : EW Z a0 []) (G1 : Int32) (O1 : Sta Z Z.heap "java/lang/String" "COMPACT_STRINGS" "Z" (.int G1)) (P1 : ¬ (G1 = (0 : Int32))) (G3 : Value) (O3 : Sta Z Z.heap "jdk/internal/util/Preconditions" "SIOOBE_FORMATTER" "Ljava/util/function/BiFunction;" G3) (rG3 : G3.isRef = true) (xa : Addr) (ba : Addr) (kb : ClassId) (N : Nat) (g : Nat → Int32) (t : Nat) (xv : Int32) (p : Program) (e : Env) (s : State) (m : MethodId) (below : List Frame) (meth : Method) (c : Code) (S0 : State) (V : Vm) (h0 h : Heap) (hO0 : Old Z n0 h0) (E_xa : Exa Z h xa "java/lang/String") (F_xa_coder : Fld Z h xa "java/lang/String" "coder" "B" (.int (0 : Int32))) (F_xa_value : Fld Z h xa "java/lang/String" "value" "[B" (.ref ba)) (V_ba : Arv Z h ba kb .byte (Int32.ofNat N) (lst N g) (.int (0 : Int32))) (hN : N ≤ 32) (hg : ∀ i, i < N → NCh (g i)) (hge1 : 1 ≤ t) (ht : t ≤ N) (hnm : meth.name = "of") (W : Wk p l e ({ frames := 4, cells := 3, slots := 22, locals := 53 } : Room) s m #[(.ref xa)] below meth c prog_12_method_2_code 4 (some (.object "com/example/letters_between_tasks/lettersbetweentasks/model/Name")) Z a0 [] "com/example/letters_between_tasks/lettersbetweentasks/model/Name" n0 h0 [] S0 V h 2 20 (mkF m 44 #[.val (.ref xa), .val (.int (hf g t)), .val (.int (Int32.ofNat t)), .val (.int xv)] [])) : Done p e below S0 s Z [] n0 h0 [] ({ frames := 4, cells := 3, slots := 22, locals := 53 } : Room) (fun v h V' => ∃ (r : Addr), v = some (.ref r) ∧ Exa Z h r "com/example/letters_between_tasks/lettersbetweentasks/model/Name" ∧ Fld Z h r "com/example/letters_between_tasks/lettersbetweentasks/model/Name" "text" "Ljava/lang/String;" (.ref xa) ∧ Fld Z h r "com/example/letters_between_tasks/lettersbetweentasks/model/Name" "hash" "I" (.int (hf g N)) ∧ h0.size ≤ r) := by
  have z0 : h0.size ≤ h.size := W.kept.1
  clear z0
  obtain ⟨d, hd⟩ : ∃ d, t + d = N := ⟨_, Nat.add_sub_of_le ht⟩
  clear ht
  induction d generalizing t xv V h with
  | zero =>
    have htN : t = N := hd
    subst htN
    have z0 : h0.size ≤ h.size := W.kept.1
    replace W := W.iloadN (pc' := 45) dprog_12_2_44 rfl rfl
    replace W := W.aloadN (pc' := 46) dprog_12_2_45 rfl rfl rfl
    obtain ⟨V1, h1, r1, W1, K1, hQ1, SF1⟩ := W.callV (pc' := 49) (argsL := []) (rest := [(.int (Int32.ofNat t))]) (Wd := 1) (cells' := 2) (slots' := 20) (a := xa) (C := "java/lang/String") (y := (⟨"java/lang/String", "length", "()I"⟩ : MethodName)) (z := (⟨"java/lang/String", "length", "()I"⟩ : MethodName)) dprog_12_2_46 (len_c l Z a0 n0 hw hEL G1 O1 P1 G3 O3 rG3 xa ba kb t g h W.old E_xa F_xa_coder F_xa_value V_ba) E_xa (tw54 hw) (tw55 hw) (Or.inl (tw57 hw)) (tw57 hw) (tw56 hw) (tw11 hw) (tw58 hw) (by decide) (lenOf pd9 rfl) rfl rfl (by decide) (by decide) rfl sf0 all0 rfl rfl rfl (by decide) (by decide)
    clear W
    obtain ⟨rfl, hs1⟩ := hQ1
    subst hs1
    replace W1 := W1.cast (st' := [(.int (Int32.ofNat t)), (.int (Int32.ofNat t))]) rfl
    replace W1 := W1.icmpT (pc' := 128) dprog_12_2_49 (flt (own_irr _)).2.1 (by decide) (by decide)
    obtain ⟨h2, a2, W2, E2, g2, ⟨A2, D2, U2⟩, sf2, SF2⟩ := W1.new (pc' := 131) (cells' := 3) (slots' := 22) dprog_12_2_128 (tw89 hw) (tw90 hw) (tw40 hw) rfl rfl rfl (by decide) (by decide)
    clear W1
    rw [← g2] at A2 D2 U2
    have z2 : h.size ≤ h2.size := E2.1
    replace W2 := W2.dup (pc' := 132) dprog_12_2_131 rfl rfl
    replace W2 := W2.aloadN (pc' := 133) dprog_12_2_132 rfl rfl rfl
    replace W2 := W2.iloadN (pc' := 134) dprog_12_2_133 rfl rfl
    obtain ⟨V3, h3, r3, W3, K3, hQ3, SF3⟩ := W2.callI (pc' := 137) (argsL := [(.ref xa), (.int (hf g t))]) (rest := [(.ref a2)]) (Wd := 1) (cells' := 3) (slots' := 22) (a := a2) (y := (⟨"com/example/letters_between_tasks/lettersbetweentasks/model/Name", "<init>", "(Ljava/lang/String;I)V"⟩ : MethodName)) dprog_12_2_134 (nin l Z a0 n0 hw hEL G1 O1 P1 G3 O3 rG3 a2 xa (hf g t) h2 W2.old A2 (D2 (Or.inr (tw96 hw)) (ty := (.object "java/lang/String")) (by decide) : Fld Z h2 a2 "com/example/letters_between_tasks/lettersbetweentasks/model/Name" "text" "Ljava/lang/String;" .null) (D2 (Or.inr (tw98 hw)) (ty := .int) (by decide) : Fld Z h2 a2 "com/example/letters_between_tasks/lettersbetweentasks/model/Name" "hash" "I" (.int (0 : Int32))) (Nat.le_trans W2.1.2.2.2.2.2.2.2.1 (Nat.le_trans z0 (Nat.le_of_eq g2.symm)))) rfl (tw91 hw) (tw92 hw) (tw40 hw) (tw93 hw) (by decide) (lenOf pd10 rfl) rfl rfl (by decide) (by decide) rfl (sfS safe0 sf0) (allS (Or.inr (Nat.le_trans z0 (Nat.le_of_eq g2.symm))) all0) rfl rfl rfl (by decide) (by decide)
    clear W2
    obtain ⟨rfl, q3_1, q3_2, q3_3⟩ := hQ3
    have z3 : h2.size ≤ h3.size := K3.1
    replace W3 := W3.cast (st' := [(.ref a2)]) rfl
    exact W3.aret (t := (.object "com/example/letters_between_tasks/lettersbetweentasks/model/Name")) dprog_12_2_137 rfl rfl rfl rfl (by decide) (by decide) (fun V' cv => ⟨a2, rfl, q3_1, q3_2, q3_3, (Nat.le_trans z0 (Nat.le_of_eq g2.symm))⟩)
  | succ d ih =>
    have z0 : h0.size ≤ h.size := W.kept.1
    replace W := W.iloadN (pc' := 45) dprog_12_2_44 rfl rfl
    replace W := W.aloadN (pc' := 46) dprog_12_2_45 rfl rfl rfl
    obtain ⟨V4, h4, r4, W4, K4, hQ4, SF4⟩ := W.callV (pc' := 49) (argsL := []) (rest := [(.int (Int32.ofNat t))]) (Wd := 1) (cells' := 2) (slots' := 20) (a := xa) (C := "java/lang/String") (y := (⟨"java/lang/String", "length", "()I"⟩ : MethodName)) (z := (⟨"java/lang/String", "length", "()I"⟩ : MethodName)) dprog_12_2_46 (len_c l Z a0 n0 hw hEL G1 O1 P1 G3 O3 rG3 xa ba kb N g h W.old E_xa F_xa_coder F_xa_value V_ba) E_xa (tw54 hw) (tw55 hw) (Or.inl (tw57 hw)) (tw57 hw) (tw56 hw) (tw11 hw) (tw58 hw) (by decide) (lenOf pd9 rfl) rfl rfl (by decide) (by decide) rfl sf0 all0 rfl rfl rfl (by decide) (by decide)
    clear W
    obtain ⟨rfl, hs4⟩ := hQ4
    subst hs4
    replace W4 := W4.cast (st' := [(.int (Int32.ofNat N)), (.int (Int32.ofNat t))]) rfl
    replace W4 := W4.icmpF (pc' := 52) dprog_12_2_49 (tlt (own_lt (by omega) (by omega) (by omega))).2.1 rfl
    replace W4 := W4.aloadN (pc' := 53) dprog_12_2_52 rfl rfl rfl
    replace W4 := W4.iloadN (pc' := 54) dprog_12_2_53 rfl rfl
    obtain ⟨V5, h5, r5, W5, K5, hQ5, SF5⟩ := W4.callV (pc' := 57) (argsL := [(.int (Int32.ofNat t))]) (rest := []) (Wd := 0) (cells' := 2) (slots' := 20) (a := xa) (C := "java/lang/String") (y := (⟨"java/lang/String", "charAt", "(I)C"⟩ : MethodName)) (z := (⟨"java/lang/String", "charAt", "(I)C"⟩ : MethodName)) dprog_12_2_54 (cat_c l Z a0 n0 hw hEL G1 O1 P1 G3 O3 rG3 xa ba kb N g t h W4.old E_xa F_xa_coder F_xa_value V_ba (by omega) (by omega) hg) E_xa (tw64 hw) (tw65 hw) (Or.inl (tw67 hw)) (tw67 hw) (tw66 hw) (tw11 hw) (tw68 hw) (by decide) (lenOf pd11 rfl) rfl rfl (by decide) (by decide) rfl sf0 all0 rfl rfl rfl (by decide) (by decide)
    clear W4
    obtain ⟨rfl, hs5⟩ := hQ5
    subst hs5
    replace W5 := W5.cast (st' := [(.int (g t))]) rfl
    replace W5 := W5.istoreN (pc' := 58) (L' := #[.val (.ref xa), .val (.int (hf g t)), .val (.int (Int32.ofNat t)), .val (.int (g t))]) dprog_12_2_57 rfl rfl
    replace W5 := W5.iloadN (pc' := 59) dprog_12_2_58 rfl rfl
    obtain ⟨V6, h6, r6, W6, K6, hQ6, SF6⟩ := W5.callS (pc' := 62) (argsL := [(.int (g t))]) (rest := []) (Wd := 0) (cells' := 2) (slots' := 20) (y := (⟨"com/example/letters_between_tasks/lettersbetweentasks/model/Name", "isNameCharacter", "(C)Z"⟩ : MethodName)) dprog_12_2_59 (isnc l Z a0 n0 hw hEL G1 O1 P1 G3 O3 rG3 (g t) h W5.old (hg _ (by omega))) (tw86 hw) (tw87 hw) (tw40 hw) (tw88 hw) (by decide) (lenOf pd12 rfl) rfl rfl (by decide) (by decide) rfl sf0 all0 rfl rfl rfl (by decide) (by decide)
    clear W5
    obtain ⟨rfl, hs6⟩ := hQ6
    subst hs6
    replace W6 := W6.cast (st' := [(.int (1 : Int32))]) rfl
    replace W6 := W6.ifT (pc' := 96) dprog_12_2_62 (feq (by decide : ¬ ((1 : Int32) = (0 : Int32)))).2 (by decide) (by decide)
    replace W6 := W6.bipush (pc' := 98) (v := (31 : Int32)) dprog_12_2_96 rfl rfl
    replace W6 := W6.iloadN (pc' := 99) dprog_12_2_98 rfl rfl
    replace W6 := W6.imul (pc' := 100) (v := ((31 : Int32) * (hf g t))) dprog_12_2_99 rfl rfl
    replace W6 := W6.iloadN (pc' := 101) dprog_12_2_100 rfl rfl
    replace W6 := W6.bipush (pc' := 103) (v := (65 : Int32)) dprog_12_2_101 rfl rfl
    by_cases hc7 : (g t) < (65 : Int32)
    · replace W6 := W6.icmpT (pc' := 119) dprog_12_2_103 (tlt hc7).1 (by decide) (by decide)
      replace W6 := W6.iloadN (pc' := 120) dprog_12_2_119 rfl rfl
      replace W6 := W6.iadd (pc' := 121) (v := (hf g (t + 1))) dprog_12_2_120 (congrArg (fun z => (31 : Int32) * hf g t + z) (show (g t) = lowf (g t) by unfold lowf; rw [if_pos hc7])) rfl
      replace W6 := W6.istoreN (pc' := 122) (L' := #[.val (.ref xa), .val (.int (hf g (t + 1))), .val (.int (Int32.ofNat t)), .val (.int (g t))]) dprog_12_2_121 rfl rfl
      replace W6 := W6.iinc (pc' := 125) (v := (Int32.ofNat (t + 1))) (L' := #[.val (.ref xa), .val (.int (hf g (t + 1))), .val (.int (Int32.ofNat (t + 1))), .val (.int (g t))]) dprog_12_2_122 rfl (own_add1 _) rfl rfl
      replace W6 := W6.goto (pc' := 44) dprog_12_2_125 (by decide) (by decide)
      exact ih (t + 1) _ _ _ E_xa F_xa_coder F_xa_value V_ba (by omega) W6 (by omega)
    · replace W6 := W6.icmpF (pc' := 106) dprog_12_2_103 (flt hc7).1 rfl
      replace W6 := W6.iloadN (pc' := 107) dprog_12_2_106 rfl rfl
      replace W6 := W6.bipush (pc' := 109) (v := (90 : Int32)) dprog_12_2_107 rfl rfl
      by_cases hc8 : (90 : Int32) < (g t)
      · replace W6 := W6.icmpT (pc' := 119) dprog_12_2_109 (tlt hc8).2.2.1 (by decide) (by decide)
        replace W6 := W6.iloadN (pc' := 120) dprog_12_2_119 rfl rfl
        replace W6 := W6.iadd (pc' := 121) (v := (hf g (t + 1))) dprog_12_2_120 (congrArg (fun z => (31 : Int32) * hf g t + z) (show (g t) = lowf (g t) by unfold lowf; rw [if_neg hc7]; rw [if_pos hc8])) rfl
        replace W6 := W6.istoreN (pc' := 122) (L' := #[.val (.ref xa), .val (.int (hf g (t + 1))), .val (.int (Int32.ofNat t)), .val (.int (g t))]) dprog_12_2_121 rfl rfl
        replace W6 := W6.iinc (pc' := 125) (v := (Int32.ofNat (t + 1))) (L' := #[.val (.ref xa), .val (.int (hf g (t + 1))), .val (.int (Int32.ofNat (t + 1))), .val (.int (g t))]) dprog_12_2_122 rfl (own_add1 _) rfl rfl
        replace W6 := W6.goto (pc' := 44) dprog_12_2_125 (by decide) (by decide)
        exact ih (t + 1) _ _ _ E_xa F_xa_coder F_xa_value V_ba (by omega) W6 (by omega)
      · replace W6 := W6.icmpF (pc' := 112) dprog_12_2_109 (flt hc8).2.2.1 rfl
        replace W6 := W6.iloadN (pc' := 113) dprog_12_2_112 rfl rfl
        replace W6 := W6.bipush (pc' := 115) (v := (32 : Int32)) dprog_12_2_113 rfl rfl
        replace W6 := W6.iadd (pc' := 116) (v := ((g t) + (32 : Int32))) dprog_12_2_115 rfl rfl
        replace W6 := W6.goto (pc' := 120) dprog_12_2_116 (by decide) (by decide)
        replace W6 := W6.iadd (pc' := 121) (v := (hf g (t + 1))) dprog_12_2_120 (congrArg (fun z => (31 : Int32) * hf g t + z) (show ((g t) + (32 : Int32)) = lowf (g t) by unfold lowf; rw [if_neg hc7]; rw [if_neg hc8])) rfl
        replace W6 := W6.istoreN (pc' := 122) (L' := #[.val (.ref xa), .val (.int (hf g (t + 1))), .val (.int (Int32.ofNat t)), .val (.int (g t))]) dprog_12_2_121 rfl rfl
        replace W6 := W6.iinc (pc' := 125) (v := (Int32.ofNat (t + 1))) (L' := #[.val (.ref xa), .val (.int (hf g (t + 1))), .val (.int (Int32.ofNat (t + 1))), .val (.int (g t))]) dprog_12_2_122 rfl (own_add1 _) rfl rfl
        replace W6 := W6.goto (pc' := 44) dprog_12_2_125 (by decide) (by decide)
        exact ih (t + 1) _ _ _ E_xa F_xa_coder F_xa_value V_ba (by omega) W6 (by omega)
theorem ef_of_c (m : MethodId) (xa : Addr) (ba : Addr) (kb : ClassId) (N : Nat) (g : Nat → Int32) : entryFrame m #[(.ref xa)] 4 = mkF m 0 #[.val (.ref xa), .unset, .unset, .unset] [] := by first | (simp [entryFrame, mkF, argsToLocals, Value.category]; done) | rfl
set_option maxRecDepth 65536 in
set_option maxHeartbeats 40000000 in
theorem of_c (l : Launch) (Z : State) (a0 : Array Value) (n0 : Nat) (hw : ∀ d ∈ tables_1, d.before a0 Z = true) (hEL : EW Z a0 []) (G1 : Int32) (O1 : Sta Z Z.heap "java/lang/String" "COMPACT_STRINGS" "Z" (.int G1)) (P1 : ¬ (G1 = (0 : Int32))) (G3 : Value) (O3 : Sta Z Z.heap "jdk/internal/util/Preconditions" "SIOOBE_FORMATTER" "Ljava/util/function/BiFunction;" G3) (rG3 : G3.isRef = true) (xa : Addr) (ba : Addr) (kb : ClassId) (N : Nat) (g : Nat → Int32) (h0 : Heap) (hO : Old Z n0 h0) (E_xa : Exa Z h0 xa "java/lang/String") (F_xa_coder : Fld Z h0 xa "java/lang/String" "coder" "B" (.int (0 : Int32))) (F_xa_value : Fld Z h0 xa "java/lang/String" "value" "[B" (.ref ba)) (V_ba : Arv Z h0 ba kb .byte (Int32.ofNat N) (lst N g) (.int (0 : Int32))) (hN : N ≤ 32) (hge1 : 1 ≤ N) (hg : ∀ i, i < N → NCh (g i)) :
    Con l Z [] n0 (⟨"com/example/letters_between_tasks/lettersbetweentasks/model/Name", "of", "(Ljava/lang/String;)Lcom/example/letters_between_tasks/lettersbetweentasks/model/Name;"⟩ : MethodName) prog_12_method_2_code 4 (some (.object "com/example/letters_between_tasks/lettersbetweentasks/model/Name")) ({ frames := 4, cells := 3, slots := 22, locals := 53 } : Room) #[(.ref xa)] h0 [] (fun v h V' => ∃ (r : Addr), v = some (.ref r) ∧ Exa Z h r "com/example/letters_between_tasks/lettersbetweentasks/model/Name" ∧ Fld Z h r "com/example/letters_between_tasks/lettersbetweentasks/model/Name" "text" "Ljava/lang/String;" (.ref xa) ∧ Fld Z h r "com/example/letters_between_tasks/lettersbetweentasks/model/Name" "hash" "I" (.int (hf g N)) ∧ h0.size ≤ r) [] := by
  refine Con.of (a0 := a0) pf20 (fun m => ef_of_c m xa ba kb N g) all0 hO hEL ?_
  intro p e s m below meth c S0 hnm hsf W
  replace W := W.aloadN (pc' := 1) dprog_12_2_0 rfl rfl rfl
  obtain ⟨V1, h1, a1, W1, E1, t1, SF1⟩ := W.ldcO (pc' := 3) (n := 16) (cells' := 2) (slots' := 20) dprog_12_2_1 (tw42 hw) (hSA hw) (by decide) (by decide) rfl rfl rfl (by decide) (by decide)
  clear W
  have z1 : h0.size ≤ h1.size := E1.1
  obtain ⟨V2, h2, r2, W2, K2, hQ2, SF2⟩ := W1.callS (pc' := 6) (argsL := [(.ref xa), (.ref a1)]) (rest := []) (Wd := 0) (cells' := 2) (slots' := 20) (y := (⟨"java/util/Objects", "requireNonNull", "(Ljava/lang/Object;Ljava/lang/String;)Ljava/lang/Object;"⟩ : MethodName)) dprog_12_2_3 (rnn2 l Z a0 n0 hw hEL G1 O1 P1 G3 O3 rG3 xa a1 h1 W1.old) (tw45 hw) (tw46 hw) (tw47 hw) (tw48 hw) (by decide) (lenOf pd13 rfl) rfl rfl (by decide) (by decide) rfl sf0 all0 rfl rfl rfl (by decide) (by decide)
  clear W1
  obtain ⟨rfl, hs2⟩ := hQ2
  subst hs2
  replace W2 := W2.cast (st' := [(.ref xa)]) rfl
  replace W2 := W2.pop (pc' := 7) dprog_12_2_6 rfl rfl
  replace W2 := W2.aloadN (pc' := 8) dprog_12_2_7 rfl rfl rfl
  have e3 := (E_xa.ext E1)
  have f4 := (F_xa_coder.ext E1)
  have f5 := (F_xa_value.ext E1)
  have v6 := (V_ba.ext E1)
  obtain ⟨V7, h7, r7, W7, K7, hQ7, SF7⟩ := W2.callV (pc' := 11) (argsL := []) (rest := []) (Wd := 0) (cells' := 2) (slots' := 20) (a := xa) (C := "java/lang/String") (y := (⟨"java/lang/String", "isEmpty", "()Z"⟩ : MethodName)) (z := (⟨"java/lang/String", "isEmpty", "()Z"⟩ : MethodName)) dprog_12_2_8 (isemp l Z a0 n0 hw hEL G1 O1 P1 G3 O3 rG3 xa ba kb N g h1 W2.old e3 f4 f5 v6 (by omega) (by omega)) e3 (tw49 hw) (tw50 hw) (Or.inl (tw52 hw)) (tw52 hw) (tw51 hw) (tw11 hw) (tw53 hw) (by decide) (lenOf pd7 rfl) rfl rfl (by decide) (by decide) rfl sf0 all0 rfl rfl rfl (by decide) (by decide)
  clear W2
  obtain ⟨rfl, hs7⟩ := hQ7
  subst hs7
  replace W7 := W7.cast (st' := [(.int (0 : Int32))]) rfl
  replace W7 := W7.ifF (pc' := 14) dprog_12_2_11 (teq (by decide : (0 : Int32) = (0 : Int32))).2 rfl
  replace W7 := W7.aloadN (pc' := 15) dprog_12_2_14 rfl rfl rfl
  obtain ⟨V8, h8, r8, W8, K8, hQ8, SF8⟩ := W7.callV (pc' := 18) (argsL := []) (rest := []) (Wd := 0) (cells' := 2) (slots' := 20) (a := xa) (C := "java/lang/String") (y := (⟨"java/lang/String", "length", "()I"⟩ : MethodName)) (z := (⟨"java/lang/String", "length", "()I"⟩ : MethodName)) dprog_12_2_15 (len_c l Z a0 n0 hw hEL G1 O1 P1 G3 O3 rG3 xa ba kb N g h1 W7.old e3 f4 f5 v6) e3 (tw54 hw) (tw55 hw) (Or.inl (tw57 hw)) (tw57 hw) (tw56 hw) (tw11 hw) (tw58 hw) (by decide) (lenOf pd9 rfl) rfl rfl (by decide) (by decide) rfl sf0 all0 rfl rfl rfl (by decide) (by decide)
  clear W7
  obtain ⟨rfl, hs8⟩ := hQ8
  subst hs8
  replace W8 := W8.cast (st' := [(.int (Int32.ofNat N))]) rfl
  replace W8 := W8.bipush (pc' := 20) (v := (32 : Int32)) dprog_12_2_18 rfl rfl
  replace W8 := W8.icmpT (pc' := 40) dprog_12_2_20 (flt (own_nlt (X := 32) (by omega) (by omega) (by omega))).2.2.2 (by decide) (by decide)
  replace W8 := W8.iconst (pc' := 41) (v := (0 : Int32)) dprog_12_2_40 rfl rfl
  replace W8 := W8.istoreN (pc' := 42) (L' := #[.val (.ref xa), .val (.int (0 : Int32)), .unset, .unset]) dprog_12_2_41 rfl rfl
  replace W8 := W8.iconst (pc' := 43) (v := (0 : Int32)) dprog_12_2_42 rfl rfl
  replace W8 := W8.istoreN (pc' := 44) (L' := #[.val (.ref xa), .val (.int (0 : Int32)), .val (.int (0 : Int32)), .unset]) dprog_12_2_43 rfl rfl
  replace W8 := W8.iloadN (pc' := 45) dprog_12_2_44 rfl rfl
  replace W8 := W8.aloadN (pc' := 46) dprog_12_2_45 rfl rfl rfl
  obtain ⟨V9, h9, r9, W9, K9, hQ9, SF9⟩ := W8.callV (pc' := 49) (argsL := []) (rest := [(.int (0 : Int32))]) (Wd := 1) (cells' := 2) (slots' := 20) (a := xa) (C := "java/lang/String") (y := (⟨"java/lang/String", "length", "()I"⟩ : MethodName)) (z := (⟨"java/lang/String", "length", "()I"⟩ : MethodName)) dprog_12_2_46 (len_c l Z a0 n0 hw hEL G1 O1 P1 G3 O3 rG3 xa ba kb N g h1 W8.old e3 f4 f5 v6) e3 (tw54 hw) (tw55 hw) (Or.inl (tw57 hw)) (tw57 hw) (tw56 hw) (tw11 hw) (tw58 hw) (by decide) (lenOf pd9 rfl) rfl rfl (by decide) (by decide) rfl sf0 all0 rfl rfl rfl (by decide) (by decide)
  clear W8
  obtain ⟨rfl, hs9⟩ := hQ9
  subst hs9
  replace W9 := W9.cast (st' := [(.int (Int32.ofNat N)), (.int (0 : Int32))]) rfl
  replace W9 := W9.icmpF (pc' := 52) dprog_12_2_49 (tlt (own_lt (X := 0) (by omega) (by omega) (by omega))).2.1 rfl
  replace W9 := W9.aloadN (pc' := 53) dprog_12_2_52 rfl rfl rfl
  replace W9 := W9.iloadN (pc' := 54) dprog_12_2_53 rfl rfl
  replace W9 := W9.cast (st' := [(.int (Int32.ofNat 0)), (.ref xa)]) rfl
  obtain ⟨V10, h10, r10, W10, K10, hQ10, SF10⟩ := W9.callV (pc' := 57) (argsL := [(.int (Int32.ofNat 0))]) (rest := []) (Wd := 0) (cells' := 2) (slots' := 20) (a := xa) (C := "java/lang/String") (y := (⟨"java/lang/String", "charAt", "(I)C"⟩ : MethodName)) (z := (⟨"java/lang/String", "charAt", "(I)C"⟩ : MethodName)) dprog_12_2_54 (cat_c l Z a0 n0 hw hEL G1 O1 P1 G3 O3 rG3 xa ba kb N g 0 h1 W9.old e3 f4 f5 v6 (by omega) (by omega) hg) e3 (tw64 hw) (tw65 hw) (Or.inl (tw67 hw)) (tw67 hw) (tw66 hw) (tw11 hw) (tw68 hw) (by decide) (lenOf pd11 rfl) rfl rfl (by decide) (by decide) rfl sf0 all0 rfl rfl rfl (by decide) (by decide)
  clear W9
  obtain ⟨rfl, hs10⟩ := hQ10
  subst hs10
  replace W10 := W10.cast (st' := [(.int (g 0))]) rfl
  replace W10 := W10.istoreN (pc' := 58) (L' := #[.val (.ref xa), .val (.int (0 : Int32)), .val (.int (0 : Int32)), .val (.int (g 0))]) dprog_12_2_57 rfl rfl
  replace W10 := W10.iloadN (pc' := 59) dprog_12_2_58 rfl rfl
  obtain ⟨V11, h11, r11, W11, K11, hQ11, SF11⟩ := W10.callS (pc' := 62) (argsL := [(.int (g 0))]) (rest := []) (Wd := 0) (cells' := 2) (slots' := 20) (y := (⟨"com/example/letters_between_tasks/lettersbetweentasks/model/Name", "isNameCharacter", "(C)Z"⟩ : MethodName)) dprog_12_2_59 (isnc l Z a0 n0 hw hEL G1 O1 P1 G3 O3 rG3 (g 0) h1 W10.old (hg _ (by omega))) (tw86 hw) (tw87 hw) (tw40 hw) (tw88 hw) (by decide) (lenOf pd12 rfl) rfl rfl (by decide) (by decide) rfl sf0 all0 rfl rfl rfl (by decide) (by decide)
  clear W10
  obtain ⟨rfl, hs11⟩ := hQ11
  subst hs11
  replace W11 := W11.cast (st' := [(.int (1 : Int32))]) rfl
  replace W11 := W11.ifT (pc' := 96) dprog_12_2_62 (feq (by decide : ¬ ((1 : Int32) = (0 : Int32)))).2 (by decide) (by decide)
  replace W11 := W11.bipush (pc' := 98) (v := (31 : Int32)) dprog_12_2_96 rfl rfl
  replace W11 := W11.iloadN (pc' := 99) dprog_12_2_98 rfl rfl
  replace W11 := W11.imul (pc' := 100) (v := (0 : Int32)) dprog_12_2_99 (by decide) rfl
  replace W11 := W11.iloadN (pc' := 101) dprog_12_2_100 rfl rfl
  replace W11 := W11.bipush (pc' := 103) (v := (65 : Int32)) dprog_12_2_101 rfl rfl
  by_cases hc12 : (g 0) < (65 : Int32)
  · replace W11 := W11.icmpT (pc' := 119) dprog_12_2_103 (tlt hc12).1 (by decide) (by decide)
    replace W11 := W11.iloadN (pc' := 120) dprog_12_2_119 rfl rfl
    replace W11 := W11.iadd (pc' := 121) (v := (hf g 1)) dprog_12_2_120 (congrArg (fun z => (31 : Int32) * 0 + z) (show (g 0) = lowf (g 0) by unfold lowf; rw [if_pos hc12])) rfl
    replace W11 := W11.istoreN (pc' := 122) (L' := #[.val (.ref xa), .val (.int (hf g 1)), .val (.int (0 : Int32)), .val (.int (g 0))]) dprog_12_2_121 rfl rfl
    replace W11 := W11.iinc (pc' := 125) (v := (1 : Int32)) (L' := #[.val (.ref xa), .val (.int (hf g 1)), .val (.int (1 : Int32)), .val (.int (g 0))]) dprog_12_2_122 rfl (by decide) rfl rfl
    replace W11 := W11.goto (pc' := 44) dprog_12_2_125 (by decide) (by decide)
    replace W11 := W11.castL (L' := #[.val (.ref xa), .val (.int (hf g 1)), .val (.int (Int32.ofNat 1)), .val (.int (g 0))]) rfl
    exact of_lp l Z a0 n0 hw hEL G1 O1 P1 G3 O3 rG3 xa ba kb N g 1 (g 0) p e s m below meth c S0 V11 h0 h1 hO e3 f4 f5 v6 hN hg (by omega) hge1 hnm W11
  · replace W11 := W11.icmpF (pc' := 106) dprog_12_2_103 (flt hc12).1 rfl
    replace W11 := W11.iloadN (pc' := 107) dprog_12_2_106 rfl rfl
    replace W11 := W11.bipush (pc' := 109) (v := (90 : Int32)) dprog_12_2_107 rfl rfl
    by_cases hc13 : (90 : Int32) < (g 0)
    · replace W11 := W11.icmpT (pc' := 119) dprog_12_2_109 (tlt hc13).2.2.1 (by decide) (by decide)
      replace W11 := W11.iloadN (pc' := 120) dprog_12_2_119 rfl rfl
      replace W11 := W11.iadd (pc' := 121) (v := (hf g 1)) dprog_12_2_120 (congrArg (fun z => (31 : Int32) * 0 + z) (show (g 0) = lowf (g 0) by unfold lowf; rw [if_neg hc12]; rw [if_pos hc13])) rfl
      replace W11 := W11.istoreN (pc' := 122) (L' := #[.val (.ref xa), .val (.int (hf g 1)), .val (.int (0 : Int32)), .val (.int (g 0))]) dprog_12_2_121 rfl rfl
      replace W11 := W11.iinc (pc' := 125) (v := (1 : Int32)) (L' := #[.val (.ref xa), .val (.int (hf g 1)), .val (.int (1 : Int32)), .val (.int (g 0))]) dprog_12_2_122 rfl (by decide) rfl rfl
      replace W11 := W11.goto (pc' := 44) dprog_12_2_125 (by decide) (by decide)
      replace W11 := W11.castL (L' := #[.val (.ref xa), .val (.int (hf g 1)), .val (.int (Int32.ofNat 1)), .val (.int (g 0))]) rfl
      exact of_lp l Z a0 n0 hw hEL G1 O1 P1 G3 O3 rG3 xa ba kb N g 1 (g 0) p e s m below meth c S0 V11 h0 h1 hO e3 f4 f5 v6 hN hg (by omega) hge1 hnm W11
    · replace W11 := W11.icmpF (pc' := 112) dprog_12_2_109 (flt hc13).2.2.1 rfl
      replace W11 := W11.iloadN (pc' := 113) dprog_12_2_112 rfl rfl
      replace W11 := W11.bipush (pc' := 115) (v := (32 : Int32)) dprog_12_2_113 rfl rfl
      replace W11 := W11.iadd (pc' := 116) (v := ((g 0) + (32 : Int32))) dprog_12_2_115 rfl rfl
      replace W11 := W11.goto (pc' := 120) dprog_12_2_116 (by decide) (by decide)
      replace W11 := W11.iadd (pc' := 121) (v := (hf g 1)) dprog_12_2_120 (congrArg (fun z => (31 : Int32) * 0 + z) (show ((g 0) + (32 : Int32)) = lowf (g 0) by unfold lowf; rw [if_neg hc12]; rw [if_neg hc13])) rfl
      replace W11 := W11.istoreN (pc' := 122) (L' := #[.val (.ref xa), .val (.int (hf g 1)), .val (.int (0 : Int32)), .val (.int (g 0))]) dprog_12_2_121 rfl rfl
      replace W11 := W11.iinc (pc' := 125) (v := (1 : Int32)) (L' := #[.val (.ref xa), .val (.int (hf g 1)), .val (.int (1 : Int32)), .val (.int (g 0))]) dprog_12_2_122 rfl (by decide) rfl rfl
      replace W11 := W11.goto (pc' := 44) dprog_12_2_125 (by decide) (by decide)
      replace W11 := W11.castL (L' := #[.val (.ref xa), .val (.int (hf g 1)), .val (.int (Int32.ofNat 1)), .val (.int (g 0))]) rfl
      exact of_lp l Z a0 n0 hw hEL G1 O1 P1 G3 O3 rG3 xa ba kb N g 1 (g 0) p e s m below meth c S0 V11 h0 h1 hO e3 f4 f5 v6 hN hg (by omega) hge1 hnm W11
theorem ef_pick_c (m : MethodId) (x : Int32) : entryFrame m #[(.int x)] 2 = mkF m 0 #[.val (.int x), .unset] [] := by first | (simp [entryFrame, mkF, argsToLocals, Value.category]; done) | rfl
set_option maxRecDepth 65536 in
set_option maxHeartbeats 40000000 in
theorem pick_c (l : Launch) (Z : State) (a0 : Array Value) (n0 : Nat) (hw : ∀ d ∈ tables_1, d.before a0 Z = true) (hEL : EW Z a0 []) (G1 : Int32) (O1 : Sta Z Z.heap "java/lang/String" "COMPACT_STRINGS" "Z" (.int G1)) (P1 : ¬ (G1 = (0 : Int32))) (G3 : Value) (O3 : Sta Z Z.heap "jdk/internal/util/Preconditions" "SIOOBE_FORMATTER" "Ljava/util/function/BiFunction;" G3) (rG3 : G3.isRef = true) (x : Int32) (h0 : Heap) (hO : Old Z n0 h0)  :
    Con l Z [] n0 (⟨"com/example/letters_between_tasks/lettersbetweentasks/model/NameOfPinLaw", "pick", "(I)C"⟩ : MethodName) method_2_code 2 (some .char) ({ frames := 0, cells := 0, slots := 0, locals := 0 } : Room) #[(.int x)] h0 [] (fun v h V' => ∃ (r : Int32), v = some (.int r) ∧ h0 = h ∧ NCh r) [] := by
  refine Con.of (a0 := a0) pf21 (fun m => ef_pick_c m x) all0 hO hEL ?_
  intro p e s m below meth c S0 hnm hsf W
  replace W := W.iloadN (pc' := 1) dm_2_0 rfl rfl
  replace W := W.ldcI (pc' := 3) dm_2_1 (tw4 hw) rfl
  replace W := W.iand (pc' := 4) (v := (x &&& (2147483647 : Int32))) dm_2_3 rfl rfl
  replace W := W.bipush (pc' := 6) (v := (65 : Int32)) dm_2_4 rfl rfl
  obtain ⟨i, ei⟩ := own_rem65 x
  replace W := W.irem (pc' := 7) (v := (Int32.ofNat i.val)) dm_2_6 (by decide) ei rfl
  replace W := W.istoreN (pc' := 8) (L' := #[.val (.int x), .val (.int (Int32.ofNat i.val))]) dm_2_7 rfl rfl
  replace W := W.iloadN (pc' := 9) dm_2_8 rfl rfl
  replace W := W.bipush (pc' := 11) (v := (26 : Int32)) dm_2_9 rfl rfl
  by_cases hc1 : (Int32.ofNat i.val) < (26 : Int32)
  · replace W := W.icmpF (pc' := 14) dm_2_11 (tlt hc1).2.1 rfl
    replace W := W.bipush (pc' := 16) (v := (97 : Int32)) dm_2_14 rfl rfl
    replace W := W.iloadN (pc' := 17) dm_2_16 rfl rfl
    replace W := W.iadd (pc' := 18) (v := ((97 : Int32) + (Int32.ofNat i.val))) dm_2_17 rfl rfl
    replace W := W.i2c (pc' := 19) (v := (((97 : Int32) + (Int32.ofNat i.val)).toUInt32.toUInt16.toUInt32.toInt32)) dm_2_18 rfl rfl
    exact W.iret (t := .char) dm_2_19 rfl (by simp) (nch_nchar (pick_1 i hc1)) (by decide) (by decide) (fun V' cv => ⟨(((97 : Int32) + (Int32.ofNat i.val)).toUInt32.toUInt16.toUInt32.toInt32), rfl, rfl, (pick_1 i hc1)⟩)
  · replace W := W.icmpT (pc' := 20) dm_2_11 (flt hc1).2.1 (by decide) (by decide)
    replace W := W.iloadN (pc' := 21) dm_2_20 rfl rfl
    replace W := W.bipush (pc' := 23) (v := (52 : Int32)) dm_2_21 rfl rfl
    by_cases hc2 : (Int32.ofNat i.val) < (52 : Int32)
    · replace W := W.icmpF (pc' := 26) dm_2_23 (tlt hc2).2.1 rfl
      replace W := W.bipush (pc' := 28) (v := (65 : Int32)) dm_2_26 rfl rfl
      replace W := W.iloadN (pc' := 29) dm_2_28 rfl rfl
      replace W := W.bipush (pc' := 31) (v := (26 : Int32)) dm_2_29 rfl rfl
      replace W := W.isub (pc' := 32) (v := ((Int32.ofNat i.val) - (26 : Int32))) dm_2_31 rfl rfl
      replace W := W.iadd (pc' := 33) (v := ((65 : Int32) + ((Int32.ofNat i.val) - (26 : Int32)))) dm_2_32 rfl rfl
      replace W := W.i2c (pc' := 34) (v := (((65 : Int32) + ((Int32.ofNat i.val) - (26 : Int32))).toUInt32.toUInt16.toUInt32.toInt32)) dm_2_33 rfl rfl
      exact W.iret (t := .char) dm_2_34 rfl (by simp) (nch_nchar (pick_2 i hc1 hc2)) (by decide) (by decide) (fun V' cv => ⟨(((65 : Int32) + ((Int32.ofNat i.val) - (26 : Int32))).toUInt32.toUInt16.toUInt32.toInt32), rfl, rfl, (pick_2 i hc1 hc2)⟩)
    · replace W := W.icmpT (pc' := 35) dm_2_23 (flt hc2).2.1 (by decide) (by decide)
      replace W := W.iloadN (pc' := 36) dm_2_35 rfl rfl
      replace W := W.bipush (pc' := 38) (v := (62 : Int32)) dm_2_36 rfl rfl
      by_cases hc3 : (Int32.ofNat i.val) < (62 : Int32)
      · replace W := W.icmpF (pc' := 41) dm_2_38 (tlt hc3).2.1 rfl
        replace W := W.bipush (pc' := 43) (v := (48 : Int32)) dm_2_41 rfl rfl
        replace W := W.iloadN (pc' := 44) dm_2_43 rfl rfl
        replace W := W.bipush (pc' := 46) (v := (52 : Int32)) dm_2_44 rfl rfl
        replace W := W.isub (pc' := 47) (v := ((Int32.ofNat i.val) - (52 : Int32))) dm_2_46 rfl rfl
        replace W := W.iadd (pc' := 48) (v := ((48 : Int32) + ((Int32.ofNat i.val) - (52 : Int32)))) dm_2_47 rfl rfl
        replace W := W.i2c (pc' := 49) (v := (((48 : Int32) + ((Int32.ofNat i.val) - (52 : Int32))).toUInt32.toUInt16.toUInt32.toInt32)) dm_2_48 rfl rfl
        exact W.iret (t := .char) dm_2_49 rfl (by simp) (nch_nchar (pick_3 i hc2 hc3)) (by decide) (by decide) (fun V' cv => ⟨(((48 : Int32) + ((Int32.ofNat i.val) - (52 : Int32))).toUInt32.toUInt16.toUInt32.toInt32), rfl, rfl, (pick_3 i hc2 hc3)⟩)
      · replace W := W.icmpT (pc' := 50) dm_2_38 (flt hc3).2.1 (by decide) (by decide)
        replace W := W.iloadN (pc' := 51) dm_2_50 rfl rfl
        replace W := W.bipush (pc' := 53) (v := (62 : Int32)) dm_2_51 rfl rfl
        by_cases hc4 : (Int32.ofNat i.val) = (62 : Int32)
        · replace W := W.icmpF (pc' := 56) dm_2_53 (teq hc4).2 rfl
          replace W := W.bipush (pc' := 58) (v := (95 : Int32)) dm_2_56 rfl rfl
          exact W.iret (t := .char) dm_2_58 rfl (by simp) (by decide) (by decide) (by decide) (fun V' cv => ⟨(95 : Int32), rfl, rfl, (by decide)⟩)
        · replace W := W.icmpT (pc' := 59) dm_2_53 (feq hc4).2 (by decide) (by decide)
          replace W := W.iloadN (pc' := 60) dm_2_59 rfl rfl
          replace W := W.bipush (pc' := 62) (v := (63 : Int32)) dm_2_60 rfl rfl
          by_cases hc5 : (Int32.ofNat i.val) = (63 : Int32)
          · replace W := W.icmpF (pc' := 65) dm_2_62 (teq hc5).2 rfl
            replace W := W.bipush (pc' := 67) (v := (45 : Int32)) dm_2_65 rfl rfl
            exact W.iret (t := .char) dm_2_67 rfl (by simp) (by decide) (by decide) (by decide) (fun V' cv => ⟨(45 : Int32), rfl, rfl, (by decide)⟩)
          · replace W := W.icmpT (pc' := 68) dm_2_62 (feq hc5).2 (by decide) (by decide)
            replace W := W.bipush (pc' := 70) (v := (46 : Int32)) dm_2_68 rfl rfl
            exact W.iret (t := .char) dm_2_70 rfl (by simp) (by decide) (by decide) (by decide) (fun V' cv => ⟨(46 : Int32), rfl, rfl, (by decide)⟩)
theorem ef_low_c (m : MethodId) (cc : Int32) : entryFrame m #[(.int cc)] 1 = mkF m 0 #[.val (.int cc)] [] := by first | (simp [entryFrame, mkF, argsToLocals, Value.category]; done) | rfl
set_option maxRecDepth 65536 in
set_option maxHeartbeats 40000000 in
theorem low_c (l : Launch) (Z : State) (a0 : Array Value) (n0 : Nat) (hw : ∀ d ∈ tables_1, d.before a0 Z = true) (hEL : EW Z a0 []) (G1 : Int32) (O1 : Sta Z Z.heap "java/lang/String" "COMPACT_STRINGS" "Z" (.int G1)) (P1 : ¬ (G1 = (0 : Int32))) (G3 : Value) (O3 : Sta Z Z.heap "jdk/internal/util/Preconditions" "SIOOBE_FORMATTER" "Ljava/util/function/BiFunction;" G3) (rG3 : G3.isRef = true) (cc : Int32) (h0 : Heap) (hO : Old Z n0 h0)  :
    Con l Z [] n0 (⟨"com/example/letters_between_tasks/lettersbetweentasks/model/NameOfPinLaw", "low", "(C)I"⟩ : MethodName) method_3_code 1 (some .int) ({ frames := 0, cells := 0, slots := 0, locals := 0 } : Room) #[(.int cc)] h0 [] (fun v h V' => v = some (.int (lowf cc)) ∧ h0 = h) [] := by
  refine Con.of (a0 := a0) pf22 (fun m => ef_low_c m cc) all0 hO hEL ?_
  intro p e s m below meth c S0 hnm hsf W
  replace W := W.iloadN (pc' := 1) dm_3_0 rfl rfl
  replace W := W.bipush (pc' := 3) (v := (65 : Int32)) dm_3_1 rfl rfl
  by_cases hc1 : cc < (65 : Int32)
  · replace W := W.icmpT (pc' := 17) dm_3_3 (tlt hc1).1 (by decide) (by decide)
    replace W := W.iloadN (pc' := 18) dm_3_17 rfl rfl
    exact W.iret (t := .int) dm_3_18 rfl (by simp) rfl (by decide) (by decide) (fun V' cv => ⟨(congrArg (fun z => some (Value.int z)) (by unfold lowf; rw [if_pos hc1])), rfl⟩)
  · replace W := W.icmpF (pc' := 6) dm_3_3 (flt hc1).1 rfl
    replace W := W.iloadN (pc' := 7) dm_3_6 rfl rfl
    replace W := W.bipush (pc' := 9) (v := (90 : Int32)) dm_3_7 rfl rfl
    by_cases hc2 : (90 : Int32) < cc
    · replace W := W.icmpT (pc' := 17) dm_3_9 (tlt hc2).2.2.1 (by decide) (by decide)
      replace W := W.iloadN (pc' := 18) dm_3_17 rfl rfl
      exact W.iret (t := .int) dm_3_18 rfl (by simp) rfl (by decide) (by decide) (fun V' cv => ⟨(congrArg (fun z => some (Value.int z)) (by unfold lowf; rw [if_neg hc1]; rw [if_pos hc2])), rfl⟩)
    · replace W := W.icmpF (pc' := 12) dm_3_9 (flt hc2).2.2.1 rfl
      replace W := W.iloadN (pc' := 13) dm_3_12 rfl rfl
      replace W := W.bipush (pc' := 15) (v := (32 : Int32)) dm_3_13 rfl rfl
      replace W := W.iadd (pc' := 16) (v := (cc + (32 : Int32))) dm_3_15 rfl rfl
      exact W.iret (t := .int) dm_3_16 rfl (by simp) rfl (by decide) (by decide) (fun V' cv => ⟨(congrArg (fun z => some (Value.int z)) (by unfold lowf; rw [if_neg hc1]; rw [if_neg hc2])), rfl⟩)
theorem ef_law_c (m : MethodId) (p0 : Int32) (p1 : Int32) (p2 : Int32) (p3 : Int32) (p4 : Int32) : entryFrame m #[(.int p0), (.int p1), (.int p2), (.int p3), (.int p4)] maxLocals = mkF m 0 #[.val (.int p0), .val (.int p1), .val (.int p2), .val (.int p3), .val (.int p4), .unset, .unset, .unset, .unset, .unset, .unset, .unset, .unset, .unset, .unset, .unset, .unset, .unset] [] := by first | (simp [entryFrame, mkF, argsToLocals, Value.category, maxLocals]; done) | rfl
set_option maxRecDepth 65536 in
set_option maxHeartbeats 40000000 in
theorem law_c (l : Launch) (Z : State) (a0 : Array Value) (n0 : Nat) (hw : ∀ d ∈ tables_1, d.before a0 Z = true) (hEL : EW Z a0 []) (G1 : Int32) (O1 : Sta Z Z.heap "java/lang/String" "COMPACT_STRINGS" "Z" (.int G1)) (P1 : ¬ (G1 = (0 : Int32))) (G3 : Value) (O3 : Sta Z Z.heap "jdk/internal/util/Preconditions" "SIOOBE_FORMATTER" "Ljava/util/function/BiFunction;" G3) (rG3 : G3.isRef = true) (p0 : Int32) (p1 : Int32) (p2 : Int32) (p3 : Int32) (p4 : Int32) (h0 : Heap) (hO : Old Z n0 h0)  (wds : List Jvm.Cond) :
    Con l Z [] n0 x code maxLocals ret room_1 #[(.int p0), (.int p1), (.int p2), (.int p3), (.int p4)] h0 [] (fun v h V' => v = some (.int (1 : Int32))) wds := by
  refine Con.of (a0 := a0) pf23 (fun m => ef_law_c m p0 p1 p2 p3 p4) all0 hO hEL ?_
  intro p e s m below meth c S0 hnm hsf W
  replace W := W.iloadN (pc' := 1) at_0 rfl rfl
  obtain ⟨V1, h1, r1, W1, K1, hQ1, SF1⟩ := W.callS (pc' := 4) (argsL := [(.int p1)]) (rest := []) (Wd := 0) (cells' := 0) (slots' := 0) (y := (⟨"com/example/letters_between_tasks/lettersbetweentasks/model/NameOfPinLaw", "pick", "(I)C"⟩ : MethodName)) at_1 (pick_c l Z a0 n0 hw hEL G1 O1 P1 G3 O3 rG3 p1 h0 W.old) (tw0 hw) (tw1 hw) (tw2 hw) (tw3 hw) (by decide) (lenOf pd11 rfl) rfl rfl (by decide) (by decide) rfl sf0 all0 rfl rfl rfl (by decide) (by decide)
  clear W
  obtain ⟨r1, rfl, hs1, q1_2⟩ := hQ1
  subst hs1
  replace W1 := W1.cast (st' := [(.int r1)]) rfl
  replace W1 := W1.istore (pc' := 6) (L' := #[.val (.int p0), .val (.int p1), .val (.int p2), .val (.int p3), .val (.int p4), .val (.int r1), .unset, .unset, .unset, .unset, .unset, .unset, .unset, .unset, .unset, .unset, .unset, .unset]) at_4 rfl rfl
  replace W1 := W1.iloadN (pc' := 7) at_6 rfl rfl
  obtain ⟨V2, h2, r2, W2, K2, hQ2, SF2⟩ := W1.callS (pc' := 10) (argsL := [(.int p2)]) (rest := []) (Wd := 0) (cells' := 0) (slots' := 0) (y := (⟨"com/example/letters_between_tasks/lettersbetweentasks/model/NameOfPinLaw", "pick", "(I)C"⟩ : MethodName)) at_7 (pick_c l Z a0 n0 hw hEL G1 O1 P1 G3 O3 rG3 p2 h0 W1.old) (tw0 hw) (tw1 hw) (tw2 hw) (tw3 hw) (by decide) (lenOf pd11 rfl) rfl rfl (by decide) (by decide) rfl sf0 all0 rfl rfl rfl (by decide) (by decide)
  clear W1
  obtain ⟨r2, rfl, hs2, q2_2⟩ := hQ2
  subst hs2
  replace W2 := W2.cast (st' := [(.int r2)]) rfl
  replace W2 := W2.istore (pc' := 12) (L' := #[.val (.int p0), .val (.int p1), .val (.int p2), .val (.int p3), .val (.int p4), .val (.int r1), .val (.int r2), .unset, .unset, .unset, .unset, .unset, .unset, .unset, .unset, .unset, .unset, .unset]) at_10 rfl rfl
  replace W2 := W2.iloadN (pc' := 13) at_12 rfl rfl
  obtain ⟨V3, h3, r3, W3, K3, hQ3, SF3⟩ := W2.callS (pc' := 16) (argsL := [(.int p3)]) (rest := []) (Wd := 0) (cells' := 0) (slots' := 0) (y := (⟨"com/example/letters_between_tasks/lettersbetweentasks/model/NameOfPinLaw", "pick", "(I)C"⟩ : MethodName)) at_13 (pick_c l Z a0 n0 hw hEL G1 O1 P1 G3 O3 rG3 p3 h0 W2.old) (tw0 hw) (tw1 hw) (tw2 hw) (tw3 hw) (by decide) (lenOf pd11 rfl) rfl rfl (by decide) (by decide) rfl sf0 all0 rfl rfl rfl (by decide) (by decide)
  clear W2
  obtain ⟨r3, rfl, hs3, q3_2⟩ := hQ3
  subst hs3
  replace W3 := W3.cast (st' := [(.int r3)]) rfl
  replace W3 := W3.istore (pc' := 18) (L' := #[.val (.int p0), .val (.int p1), .val (.int p2), .val (.int p3), .val (.int p4), .val (.int r1), .val (.int r2), .val (.int r3), .unset, .unset, .unset, .unset, .unset, .unset, .unset, .unset, .unset, .unset]) at_16 rfl rfl
  replace W3 := W3.iload (pc' := 20) at_18 rfl rfl
  obtain ⟨V4, h4, r4, W4, K4, hQ4, SF4⟩ := W3.callS (pc' := 23) (argsL := [(.int p4)]) (rest := []) (Wd := 0) (cells' := 0) (slots' := 0) (y := (⟨"com/example/letters_between_tasks/lettersbetweentasks/model/NameOfPinLaw", "pick", "(I)C"⟩ : MethodName)) at_20 (pick_c l Z a0 n0 hw hEL G1 O1 P1 G3 O3 rG3 p4 h0 W3.old) (tw0 hw) (tw1 hw) (tw2 hw) (tw3 hw) (by decide) (lenOf pd11 rfl) rfl rfl (by decide) (by decide) rfl sf0 all0 rfl rfl rfl (by decide) (by decide)
  clear W3
  obtain ⟨r4, rfl, hs4, q4_2⟩ := hQ4
  subst hs4
  replace W4 := W4.cast (st' := [(.int r4)]) rfl
  replace W4 := W4.istore (pc' := 25) (L' := #[.val (.int p0), .val (.int p1), .val (.int p2), .val (.int p3), .val (.int p4), .val (.int r1), .val (.int r2), .val (.int r3), .val (.int r4), .unset, .unset, .unset, .unset, .unset, .unset, .unset, .unset, .unset]) at_23 rfl rfl
  replace W4 := W4.iload (pc' := 27) at_25 rfl rfl
  obtain ⟨V5, h5, r5, W5, K5, hQ5, SF5⟩ := W4.callS (pc' := 30) (argsL := [(.int r1)]) (rest := []) (Wd := 0) (cells' := 0) (slots' := 0) (y := (⟨"com/example/letters_between_tasks/lettersbetweentasks/model/NameOfPinLaw", "low", "(C)I"⟩ : MethodName)) at_27 (low_c l Z a0 n0 hw hEL G1 O1 P1 G3 O3 rG3 r1 h0 W4.old) (tw5 hw) (tw6 hw) (tw2 hw) (tw7 hw) (by decide) (lenOf pd14 rfl) rfl rfl (by decide) (by decide) rfl sf0 all0 rfl rfl rfl (by decide) (by decide)
  clear W4
  obtain ⟨rfl, hs5⟩ := hQ5
  subst hs5
  replace W5 := W5.cast (st' := [(.int (lowf r1))]) rfl
  replace W5 := W5.istore (pc' := 32) (L' := #[.val (.int p0), .val (.int p1), .val (.int p2), .val (.int p3), .val (.int p4), .val (.int r1), .val (.int r2), .val (.int r3), .val (.int r4), .val (.int (lowf r1)), .unset, .unset, .unset, .unset, .unset, .unset, .unset, .unset]) at_30 rfl rfl
  replace W5 := W5.iload (pc' := 34) at_32 rfl rfl
  obtain ⟨V6, h6, r6, W6, K6, hQ6, SF6⟩ := W5.callS (pc' := 37) (argsL := [(.int r2)]) (rest := []) (Wd := 0) (cells' := 0) (slots' := 0) (y := (⟨"com/example/letters_between_tasks/lettersbetweentasks/model/NameOfPinLaw", "low", "(C)I"⟩ : MethodName)) at_34 (low_c l Z a0 n0 hw hEL G1 O1 P1 G3 O3 rG3 r2 h0 W5.old) (tw5 hw) (tw6 hw) (tw2 hw) (tw7 hw) (by decide) (lenOf pd14 rfl) rfl rfl (by decide) (by decide) rfl sf0 all0 rfl rfl rfl (by decide) (by decide)
  clear W5
  obtain ⟨rfl, hs6⟩ := hQ6
  subst hs6
  replace W6 := W6.cast (st' := [(.int (lowf r2))]) rfl
  replace W6 := W6.istore (pc' := 39) (L' := #[.val (.int p0), .val (.int p1), .val (.int p2), .val (.int p3), .val (.int p4), .val (.int r1), .val (.int r2), .val (.int r3), .val (.int r4), .val (.int (lowf r1)), .val (.int (lowf r2)), .unset, .unset, .unset, .unset, .unset, .unset, .unset]) at_37 rfl rfl
  replace W6 := W6.iload (pc' := 41) at_39 rfl rfl
  obtain ⟨V7, h7, r7, W7, K7, hQ7, SF7⟩ := W6.callS (pc' := 44) (argsL := [(.int r3)]) (rest := []) (Wd := 0) (cells' := 0) (slots' := 0) (y := (⟨"com/example/letters_between_tasks/lettersbetweentasks/model/NameOfPinLaw", "low", "(C)I"⟩ : MethodName)) at_41 (low_c l Z a0 n0 hw hEL G1 O1 P1 G3 O3 rG3 r3 h0 W6.old) (tw5 hw) (tw6 hw) (tw2 hw) (tw7 hw) (by decide) (lenOf pd14 rfl) rfl rfl (by decide) (by decide) rfl sf0 all0 rfl rfl rfl (by decide) (by decide)
  clear W6
  obtain ⟨rfl, hs7⟩ := hQ7
  subst hs7
  replace W7 := W7.cast (st' := [(.int (lowf r3))]) rfl
  replace W7 := W7.istore (pc' := 46) (L' := #[.val (.int p0), .val (.int p1), .val (.int p2), .val (.int p3), .val (.int p4), .val (.int r1), .val (.int r2), .val (.int r3), .val (.int r4), .val (.int (lowf r1)), .val (.int (lowf r2)), .val (.int (lowf r3)), .unset, .unset, .unset, .unset, .unset, .unset]) at_44 rfl rfl
  replace W7 := W7.iload (pc' := 48) at_46 rfl rfl
  obtain ⟨V8, h8, r8, W8, K8, hQ8, SF8⟩ := W7.callS (pc' := 51) (argsL := [(.int r4)]) (rest := []) (Wd := 0) (cells' := 0) (slots' := 0) (y := (⟨"com/example/letters_between_tasks/lettersbetweentasks/model/NameOfPinLaw", "low", "(C)I"⟩ : MethodName)) at_48 (low_c l Z a0 n0 hw hEL G1 O1 P1 G3 O3 rG3 r4 h0 W7.old) (tw5 hw) (tw6 hw) (tw2 hw) (tw7 hw) (by decide) (lenOf pd14 rfl) rfl rfl (by decide) (by decide) rfl sf0 all0 rfl rfl rfl (by decide) (by decide)
  clear W7
  obtain ⟨rfl, hs8⟩ := hQ8
  subst hs8
  replace W8 := W8.cast (st' := [(.int (lowf r4))]) rfl
  replace W8 := W8.istore (pc' := 53) (L' := #[.val (.int p0), .val (.int p1), .val (.int p2), .val (.int p3), .val (.int p4), .val (.int r1), .val (.int r2), .val (.int r3), .val (.int r4), .val (.int (lowf r1)), .val (.int (lowf r2)), .val (.int (lowf r3)), .val (.int (lowf r4)), .unset, .unset, .unset, .unset, .unset]) at_51 rfl rfl
  replace W8 := W8.iloadN (pc' := 54) at_53 rfl rfl
  replace W8 := W8.bipush (pc' := 56) (v := (7 : Int32)) at_54 rfl rfl
  replace W8 := W8.iand (pc' := 57) (v := (p0 &&& (7 : Int32))) at_56 rfl rfl
  replace W8 := W8.istore (pc' := 59) (L' := #[.val (.int p0), .val (.int p1), .val (.int p2), .val (.int p3), .val (.int p4), .val (.int r1), .val (.int r2), .val (.int r3), .val (.int r4), .val (.int (lowf r1)), .val (.int (lowf r2)), .val (.int (lowf r3)), .val (.int (lowf r4)), .val (.int (p0 &&& (7 : Int32))), .unset, .unset, .unset, .unset]) at_57 rfl rfl
  replace W8 := W8.iload (pc' := 61) at_59 rfl rfl
  by_cases hc9 : (p0 &&& (7 : Int32)) = (0 : Int32)
  · replace W8 := W8.ifF (pc' := 64) at_61 (teq hc9).2 rfl
    replace W8 := W8.iconst (pc' := 65) (v := (1 : Int32)) at_64 rfl rfl
    obtain ⟨h10, a10, W10, E10, g10, ⟨k10, A10⟩, sf10, SF10⟩ := W8.newarr (pc' := 67) (cap := 1) (cells' := 1) (slots' := 1) at_65 (tw8 hw) (by decide) (by decide) (by decide) rfl rfl rfl (by decide) (by decide)
    clear W8
    rw [← g10] at A10
    have z10 : h0.size ≤ h10.size := E10.1
    have v10 : Arv Z h10 a10 k10 .char (1 : Int32) [(.int (0 : Int32))] (.int (0 : Int32)) := A10.pad (pad_rep [] (.int (0 : Int32)) 1)
    replace W10 := W10.dup (pc' := 68) at_67 rfl rfl
    replace W10 := W10.iconst (pc' := 69) (v := (0 : Int32)) at_68 rfl rfl
    replace W10 := W10.iload (pc' := 71) at_69 rfl rfl
    obtain ⟨h11, W11, w11, A11, SF11⟩ := W10.castore (pc' := 72) (i := 0) (x' := r1) at_71 v10 ⟨by decide, by decide⟩ rfl (by show 0 < 1; decide) (nch_narc q1_2) safe0 (Or.inr (Nat.le_of_eq g10.symm)) rfl
    clear W10
    have z11 : h10.size ≤ h11.size := Nat.le_of_eq w11.size.symm
    have v11 : Arv Z h11 a10 k10 .char (1 : Int32) [(.int r1)] (.int (0 : Int32)) := A11
    replace W11 := W11.astore (pc' := 74) (L' := #[.val (.int p0), .val (.int p1), .val (.int p2), .val (.int p3), .val (.int p4), .val (.int r1), .val (.int r2), .val (.int r3), .val (.int r4), .val (.int (lowf r1)), .val (.int (lowf r2)), .val (.int (lowf r3)), .val (.int (lowf r4)), .val (.int (p0 &&& (7 : Int32))), .val (.ref a10), .unset, .unset, .unset]) at_72 rfl rfl rfl
    replace W11 := W11.iload (pc' := 76) at_74 rfl rfl
    replace W11 := W11.istore (pc' := 78) (L' := #[.val (.int p0), .val (.int p1), .val (.int p2), .val (.int p3), .val (.int p4), .val (.int r1), .val (.int r2), .val (.int r3), .val (.int r4), .val (.int (lowf r1)), .val (.int (lowf r2)), .val (.int (lowf r3)), .val (.int (lowf r4)), .val (.int (p0 &&& (7 : Int32))), .val (.ref a10), .val (.int (lowf r1)), .unset, .unset]) at_76 rfl rfl
    replace W11 := W11.goto (pc' := 473) at_78 (by decide) (by decide)
    obtain ⟨h12, a12, W12, E12, g12, ⟨A12, D12, U12⟩, sf12, SF12⟩ := W11.new (pc' := 476) (cells' := 2) (slots' := 5) at_473 (tw9 hw) (tw10 hw) (tw11 hw) rfl rfl rfl (by decide) (by decide)
    clear W11
    rw [← g12] at A12 D12 U12
    have z12 : h11.size ≤ h12.size := E12.1
    replace W12 := W12.dup (pc' := 477) at_476 rfl rfl
    replace W12 := W12.aload (pc' := 479) at_477 rfl rfl rfl
    have v13 := (v11.ext E12)
    have v14 : Arv Z h12 a10 k10 .char (Int32.ofNat 1) (lst 1 (gl [r1])) (.int (0 : Int32)) := v13
    have hg14 : ∀ i, i < 1 → NCh (gl [r1] i) := own_gl (own_allS q1_2 own_all0)
    obtain ⟨V15, h15, r15, W15, K15, hQ15, SF15⟩ := W12.callI (pc' := 482) (argsL := [(.ref a10)]) (rest := [(.ref a12)]) (Wd := 1) (cells' := 3) (slots' := 37) (a := a12) (y := (⟨"java/lang/String", "<init>", "([C)V"⟩ : MethodName)) at_479 (new1 l Z a0 n0 hw hEL G1 O1 P1 G3 O3 rG3 a12 a10 k10 1 (gl [r1]) h12 W12.old A12 (D12 (Or.inr (tw37 hw)) (ty := (.array .byte)) (by decide) : Fld Z h12 a12 "java/lang/String" "value" "[B" .null) (D12 (Or.inr (tw35 hw)) (ty := .byte) (by decide) : Fld Z h12 a12 "java/lang/String" "coder" "B" (.int (0 : Int32))) v14 (by omega) (by omega) hg14 (Nat.le_trans W12.1.2.2.2.2.2.2.2.1 (Nat.le_trans (Nat.le_trans z10 z11) (Nat.le_of_eq g12.symm)))) rfl (tw12 hw) (tw13 hw) (tw11 hw) (tw14 hw) (by decide) (lenOf pd15 rfl) rfl rfl (by decide) (by decide) rfl (sfS safe0 sf0) (allS (Or.inr (Nat.le_trans (Nat.le_trans z10 z11) (Nat.le_of_eq g12.symm))) all0) rfl rfl rfl (by decide) (by decide)
    clear W12
    obtain ⟨ba15, kb15, rfl, q15_1, q15_2, q15_3, q15_4⟩ := hQ15
    have z15 : h12.size ≤ h15.size := K15.1
    replace W15 := W15.cast (st' := [(.ref a12)]) rfl
    replace W15 := W15.astore (pc' := 484) (L' := #[.val (.int p0), .val (.int p1), .val (.int p2), .val (.int p3), .val (.int p4), .val (.int r1), .val (.int r2), .val (.int r3), .val (.int r4), .val (.int (lowf r1)), .val (.int (lowf r2)), .val (.int (lowf r3)), .val (.int (lowf r4)), .val (.int (p0 &&& (7 : Int32))), .val (.ref a10), .val (.int (lowf r1)), .val (.ref a12), .unset]) at_482 rfl rfl rfl
    replace W15 := W15.aload (pc' := 486) at_484 rfl rfl rfl
    obtain ⟨V16, h16, r16, W16, K16, hQ16, SF16⟩ := W15.callS (pc' := 489) (argsL := [(.ref a12)]) (rest := []) (Wd := 0) (cells' := 6) (slots' := 59) (y := (⟨"com/example/letters_between_tasks/lettersbetweentasks/model/Name", "of", "(Ljava/lang/String;)Lcom/example/letters_between_tasks/lettersbetweentasks/model/Name;"⟩ : MethodName)) at_486 (of_c l Z a0 n0 hw hEL G1 O1 P1 G3 O3 rG3 a12 ba15 kb15 1 (gl [r1]) h15 W15.old q15_1 q15_2 q15_3 q15_4 (by omega) (by omega) hg14) (tw38 hw) (tw39 hw) (tw40 hw) (tw41 hw) (by decide) (lenOf pd16 rfl) rfl rfl (by decide) (by decide) rfl sf0 all0 rfl rfl rfl (by decide) (by decide)
    clear W15
    obtain ⟨r16, rfl, q16_1, q16_2, q16_3, q16_4⟩ := hQ16
    have z16 : h15.size ≤ h16.size := K16.1
    replace W16 := W16.cast (st' := [(.ref r16)]) rfl
    replace W16 := W16.astore (pc' := 491) (L' := #[.val (.int p0), .val (.int p1), .val (.int p2), .val (.int p3), .val (.int p4), .val (.int r1), .val (.int r2), .val (.int r3), .val (.int r4), .val (.int (lowf r1)), .val (.int (lowf r2)), .val (.int (lowf r3)), .val (.int (lowf r4)), .val (.int (p0 &&& (7 : Int32))), .val (.ref a10), .val (.int (lowf r1)), .val (.ref a12), .val (.ref r16)]) at_489 rfl rfl rfl
    replace W16 := W16.aload (pc' := 493) at_491 rfl rfl rfl
    obtain ⟨V17, h17, r17, W17, K17, hQ17, SF17⟩ := W16.callV (pc' := 496) (argsL := []) (rest := []) (Wd := 0) (cells' := 6) (slots' := 59) (a := r16) (C := "com/example/letters_between_tasks/lettersbetweentasks/model/Name") (y := (⟨"com/example/letters_between_tasks/lettersbetweentasks/model/Name", "text", "()Ljava/lang/String;"⟩ : MethodName)) (z := (⟨"com/example/letters_between_tasks/lettersbetweentasks/model/Name", "text", "()Ljava/lang/String;"⟩ : MethodName)) at_493 (ntext l Z a0 n0 hw hEL G1 O1 P1 G3 O3 rG3 r16 a12 h16 W16.old q16_2) q16_1 (tw99 hw) (tw100 hw) (Or.inl (tw102 hw)) (tw102 hw) (tw101 hw) (tw40 hw) (tw103 hw) (by decide) (lenOf pd17 rfl) rfl rfl (by decide) (by decide) rfl sf0 all0 rfl rfl rfl (by decide) (by decide)
    clear W16
    obtain ⟨rfl, hs17⟩ := hQ17
    subst hs17
    replace W17 := W17.cast (st' := [(.ref a12)]) rfl
    replace W17 := W17.aload (pc' := 498) at_496 rfl rfl rfl
    have e19 := (q15_1.keep K16)
    obtain ⟨V18, h18, r18, W18, K18, hQ18, SF18⟩ := W17.callV (pc' := 501) (argsL := [(.ref a12)]) (rest := []) (Wd := 0) (cells' := 6) (slots' := 59) (a := a12) (C := "java/lang/String") (y := (⟨"java/lang/String", "equals", "(Ljava/lang/Object;)Z"⟩ : MethodName)) (z := (⟨"java/lang/String", "equals", "(Ljava/lang/Object;)Z"⟩ : MethodName)) at_498 (eq_self l Z a0 n0 hw hEL G1 O1 P1 G3 O3 rG3 a12 h16 W17.old) e19 (tw104 hw) (tw105 hw) (Or.inl (tw107 hw)) (tw107 hw) (tw106 hw) (tw11 hw) (tw108 hw) (by decide) (lenOf pd18 rfl) rfl rfl (by decide) (by decide) rfl sf0 all0 rfl rfl rfl (by decide) (by decide)
    clear W17
    obtain ⟨rfl, hs18⟩ := hQ18
    subst hs18
    replace W18 := W18.cast (st' := [(.int (1 : Int32))]) rfl
    replace W18 := W18.ifF (pc' := 504) at_501 (feq (by decide : ¬ ((1 : Int32) = (0 : Int32)))).1 rfl
    replace W18 := W18.aload (pc' := 506) at_504 rfl rfl rfl
    obtain ⟨V20, h20, r20, W20, K20, hQ20, SF20⟩ := W18.callV (pc' := 509) (argsL := []) (rest := []) (Wd := 0) (cells' := 6) (slots' := 59) (a := r16) (C := "com/example/letters_between_tasks/lettersbetweentasks/model/Name") (y := (⟨"com/example/letters_between_tasks/lettersbetweentasks/model/Name", "toString", "()Ljava/lang/String;"⟩ : MethodName)) (z := (⟨"com/example/letters_between_tasks/lettersbetweentasks/model/Name", "toString", "()Ljava/lang/String;"⟩ : MethodName)) at_506 (nstr l Z a0 n0 hw hEL G1 O1 P1 G3 O3 rG3 r16 a12 h16 W18.old q16_2) q16_1 (tw109 hw) (tw110 hw) (Or.inl (tw112 hw)) (tw112 hw) (tw111 hw) (tw40 hw) (tw113 hw) (by decide) (lenOf pd17 rfl) rfl rfl (by decide) (by decide) rfl sf0 all0 rfl rfl rfl (by decide) (by decide)
    clear W18
    obtain ⟨rfl, hs20⟩ := hQ20
    subst hs20
    replace W20 := W20.cast (st' := [(.ref a12)]) rfl
    replace W20 := W20.aload (pc' := 511) at_509 rfl rfl rfl
    obtain ⟨V21, h21, r21, W21, K21, hQ21, SF21⟩ := W20.callV (pc' := 514) (argsL := [(.ref a12)]) (rest := []) (Wd := 0) (cells' := 6) (slots' := 59) (a := a12) (C := "java/lang/String") (y := (⟨"java/lang/String", "equals", "(Ljava/lang/Object;)Z"⟩ : MethodName)) (z := (⟨"java/lang/String", "equals", "(Ljava/lang/Object;)Z"⟩ : MethodName)) at_511 (eq_self l Z a0 n0 hw hEL G1 O1 P1 G3 O3 rG3 a12 h16 W20.old) e19 (tw104 hw) (tw105 hw) (Or.inl (tw107 hw)) (tw107 hw) (tw106 hw) (tw11 hw) (tw108 hw) (by decide) (lenOf pd18 rfl) rfl rfl (by decide) (by decide) rfl sf0 all0 rfl rfl rfl (by decide) (by decide)
    clear W20
    obtain ⟨rfl, hs21⟩ := hQ21
    subst hs21
    replace W21 := W21.cast (st' := [(.int (1 : Int32))]) rfl
    replace W21 := W21.ifF (pc' := 517) at_514 (feq (by decide : ¬ ((1 : Int32) = (0 : Int32)))).1 rfl
    replace W21 := W21.aload (pc' := 519) at_517 rfl rfl rfl
    obtain ⟨V22, h22, r22, W22, K22, hQ22, SF22⟩ := W21.callV (pc' := 522) (argsL := []) (rest := []) (Wd := 0) (cells' := 6) (slots' := 59) (a := r16) (C := "com/example/letters_between_tasks/lettersbetweentasks/model/Name") (y := (⟨"com/example/letters_between_tasks/lettersbetweentasks/model/Name", "hashCode", "()I"⟩ : MethodName)) (z := (⟨"com/example/letters_between_tasks/lettersbetweentasks/model/Name", "hashCode", "()I"⟩ : MethodName)) at_519 (nhash l Z a0 n0 hw hEL G1 O1 P1 G3 O3 rG3 r16 (hf (gl [r1]) 1) h16 W21.old q16_3) q16_1 (tw114 hw) (tw115 hw) (Or.inl (tw117 hw)) (tw117 hw) (tw116 hw) (tw40 hw) (tw118 hw) (by decide) (lenOf pd9 rfl) rfl rfl (by decide) (by decide) rfl sf0 all0 rfl rfl rfl (by decide) (by decide)
    clear W21
    obtain ⟨rfl, hs22⟩ := hQ22
    subst hs22
    replace W22 := W22.cast (st' := [(.int (hf (gl [r1]) 1))]) rfl
    replace W22 := W22.iload (pc' := 524) at_522 rfl rfl
    replace W22 := W22.icmpF (pc' := 527) at_524 (teq (own_h1 r1)).2 rfl
    replace W22 := W22.iconst (pc' := 528) (v := (1 : Int32)) at_527 rfl rfl
    replace W22 := W22.goto (pc' := 532) at_528 (by decide) (by decide)
    exact W22.iret (t := .boolean) at_532 rfl (by simp) (by decide) (by decide) (by decide) (fun V' cv => rfl)
  · replace W8 := W8.ifT (pc' := 81) at_61 (feq hc9).2 (by decide) (by decide)
    replace W8 := W8.iload (pc' := 83) at_81 rfl rfl
    replace W8 := W8.iconst (pc' := 84) (v := (1 : Int32)) at_83 rfl rfl
    by_cases hc23 : (p0 &&& (7 : Int32)) = (1 : Int32)
    · replace W8 := W8.icmpF (pc' := 87) at_84 (teq hc23).2 rfl
      replace W8 := W8.iconst (pc' := 88) (v := (2 : Int32)) at_87 rfl rfl
      obtain ⟨h24, a24, W24, E24, g24, ⟨k24, A24⟩, sf24, SF24⟩ := W8.newarr (pc' := 90) (cap := 2) (cells' := 1) (slots' := 2) at_88 (tw8 hw) (by decide) (by decide) (by decide) rfl rfl rfl (by decide) (by decide)
      clear W8
      rw [← g24] at A24
      have z24 : h0.size ≤ h24.size := E24.1
      have v24 : Arv Z h24 a24 k24 .char (2 : Int32) [(.int (0 : Int32)), (.int (0 : Int32))] (.int (0 : Int32)) := A24.pad (pad_rep [] (.int (0 : Int32)) 2)
      replace W24 := W24.dup (pc' := 91) at_90 rfl rfl
      replace W24 := W24.iconst (pc' := 92) (v := (0 : Int32)) at_91 rfl rfl
      replace W24 := W24.iload (pc' := 94) at_92 rfl rfl
      obtain ⟨h25, W25, w25, A25, SF25⟩ := W24.castore (pc' := 95) (i := 0) (x' := r1) at_94 v24 ⟨by decide, by decide⟩ rfl (by show 0 < 2; decide) (nch_narc q1_2) safe0 (Or.inr (Nat.le_of_eq g24.symm)) rfl
      clear W24
      have z25 : h24.size ≤ h25.size := Nat.le_of_eq w25.size.symm
      have v25 : Arv Z h25 a24 k24 .char (2 : Int32) [(.int r1), (.int (0 : Int32))] (.int (0 : Int32)) := A25
      replace W25 := W25.dup (pc' := 96) at_95 rfl rfl
      replace W25 := W25.iconst (pc' := 97) (v := (1 : Int32)) at_96 rfl rfl
      replace W25 := W25.iload (pc' := 99) at_97 rfl rfl
      obtain ⟨h26, W26, w26, A26, SF26⟩ := W25.castore (pc' := 100) (i := 1) (x' := r2) at_99 v25 ⟨by decide, by decide⟩ rfl (by show 1 < 2; decide) (nch_narc q2_2) safe0 (Or.inr (Nat.le_of_eq g24.symm)) rfl
      clear W25
      have z26 : h25.size ≤ h26.size := Nat.le_of_eq w26.size.symm
      have v26 : Arv Z h26 a24 k24 .char (2 : Int32) [(.int r1), (.int r2)] (.int (0 : Int32)) := A26
      replace W26 := W26.astore (pc' := 102) (L' := #[.val (.int p0), .val (.int p1), .val (.int p2), .val (.int p3), .val (.int p4), .val (.int r1), .val (.int r2), .val (.int r3), .val (.int r4), .val (.int (lowf r1)), .val (.int (lowf r2)), .val (.int (lowf r3)), .val (.int (lowf r4)), .val (.int (p0 &&& (7 : Int32))), .val (.ref a24), .unset, .unset, .unset]) at_100 rfl rfl rfl
      replace W26 := W26.iload (pc' := 104) at_102 rfl rfl
      replace W26 := W26.bipush (pc' := 106) (v := (31 : Int32)) at_104 rfl rfl
      replace W26 := W26.imul (pc' := 107) (v := ((lowf r1) * (31 : Int32))) at_106 rfl rfl
      replace W26 := W26.iload (pc' := 109) at_107 rfl rfl
      replace W26 := W26.iadd (pc' := 110) (v := (((lowf r1) * (31 : Int32)) + (lowf r2))) at_109 rfl rfl
      replace W26 := W26.istore (pc' := 112) (L' := #[.val (.int p0), .val (.int p1), .val (.int p2), .val (.int p3), .val (.int p4), .val (.int r1), .val (.int r2), .val (.int r3), .val (.int r4), .val (.int (lowf r1)), .val (.int (lowf r2)), .val (.int (lowf r3)), .val (.int (lowf r4)), .val (.int (p0 &&& (7 : Int32))), .val (.ref a24), .val (.int (((lowf r1) * (31 : Int32)) + (lowf r2))), .unset, .unset]) at_110 rfl rfl
      replace W26 := W26.goto (pc' := 473) at_112 (by decide) (by decide)
      obtain ⟨h27, a27, W27, E27, g27, ⟨A27, D27, U27⟩, sf27, SF27⟩ := W26.new (pc' := 476) (cells' := 2) (slots' := 6) at_473 (tw9 hw) (tw10 hw) (tw11 hw) rfl rfl rfl (by decide) (by decide)
      clear W26
      rw [← g27] at A27 D27 U27
      have z27 : h26.size ≤ h27.size := E27.1
      replace W27 := W27.dup (pc' := 477) at_476 rfl rfl
      replace W27 := W27.aload (pc' := 479) at_477 rfl rfl rfl
      have v28 := (v26.ext E27)
      have v29 : Arv Z h27 a24 k24 .char (Int32.ofNat 2) (lst 2 (gl [r1, r2])) (.int (0 : Int32)) := v28
      have hg29 : ∀ i, i < 2 → NCh (gl [r1, r2] i) := own_gl (own_allS q1_2 (own_allS q2_2 own_all0))
      obtain ⟨V30, h30, r30, W30, K30, hQ30, SF30⟩ := W27.callI (pc' := 482) (argsL := [(.ref a24)]) (rest := [(.ref a27)]) (Wd := 1) (cells' := 3) (slots' := 38) (a := a27) (y := (⟨"java/lang/String", "<init>", "([C)V"⟩ : MethodName)) at_479 (new1 l Z a0 n0 hw hEL G1 O1 P1 G3 O3 rG3 a27 a24 k24 2 (gl [r1, r2]) h27 W27.old A27 (D27 (Or.inr (tw37 hw)) (ty := (.array .byte)) (by decide) : Fld Z h27 a27 "java/lang/String" "value" "[B" .null) (D27 (Or.inr (tw35 hw)) (ty := .byte) (by decide) : Fld Z h27 a27 "java/lang/String" "coder" "B" (.int (0 : Int32))) v29 (by omega) (by omega) hg29 (Nat.le_trans W27.1.2.2.2.2.2.2.2.1 (Nat.le_trans (Nat.le_trans (Nat.le_trans z24 z25) z26) (Nat.le_of_eq g27.symm)))) rfl (tw12 hw) (tw13 hw) (tw11 hw) (tw14 hw) (by decide) (lenOf pd15 rfl) rfl rfl (by decide) (by decide) rfl (sfS safe0 sf0) (allS (Or.inr (Nat.le_trans (Nat.le_trans (Nat.le_trans z24 z25) z26) (Nat.le_of_eq g27.symm))) all0) rfl rfl rfl (by decide) (by decide)
      clear W27
      obtain ⟨ba30, kb30, rfl, q30_1, q30_2, q30_3, q30_4⟩ := hQ30
      have z30 : h27.size ≤ h30.size := K30.1
      replace W30 := W30.cast (st' := [(.ref a27)]) rfl
      replace W30 := W30.astore (pc' := 484) (L' := #[.val (.int p0), .val (.int p1), .val (.int p2), .val (.int p3), .val (.int p4), .val (.int r1), .val (.int r2), .val (.int r3), .val (.int r4), .val (.int (lowf r1)), .val (.int (lowf r2)), .val (.int (lowf r3)), .val (.int (lowf r4)), .val (.int (p0 &&& (7 : Int32))), .val (.ref a24), .val (.int (((lowf r1) * (31 : Int32)) + (lowf r2))), .val (.ref a27), .unset]) at_482 rfl rfl rfl
      replace W30 := W30.aload (pc' := 486) at_484 rfl rfl rfl
      obtain ⟨V31, h31, r31, W31, K31, hQ31, SF31⟩ := W30.callS (pc' := 489) (argsL := [(.ref a27)]) (rest := []) (Wd := 0) (cells' := 6) (slots' := 60) (y := (⟨"com/example/letters_between_tasks/lettersbetweentasks/model/Name", "of", "(Ljava/lang/String;)Lcom/example/letters_between_tasks/lettersbetweentasks/model/Name;"⟩ : MethodName)) at_486 (of_c l Z a0 n0 hw hEL G1 O1 P1 G3 O3 rG3 a27 ba30 kb30 2 (gl [r1, r2]) h30 W30.old q30_1 q30_2 q30_3 q30_4 (by omega) (by omega) hg29) (tw38 hw) (tw39 hw) (tw40 hw) (tw41 hw) (by decide) (lenOf pd16 rfl) rfl rfl (by decide) (by decide) rfl sf0 all0 rfl rfl rfl (by decide) (by decide)
      clear W30
      obtain ⟨r31, rfl, q31_1, q31_2, q31_3, q31_4⟩ := hQ31
      have z31 : h30.size ≤ h31.size := K31.1
      replace W31 := W31.cast (st' := [(.ref r31)]) rfl
      replace W31 := W31.astore (pc' := 491) (L' := #[.val (.int p0), .val (.int p1), .val (.int p2), .val (.int p3), .val (.int p4), .val (.int r1), .val (.int r2), .val (.int r3), .val (.int r4), .val (.int (lowf r1)), .val (.int (lowf r2)), .val (.int (lowf r3)), .val (.int (lowf r4)), .val (.int (p0 &&& (7 : Int32))), .val (.ref a24), .val (.int (((lowf r1) * (31 : Int32)) + (lowf r2))), .val (.ref a27), .val (.ref r31)]) at_489 rfl rfl rfl
      replace W31 := W31.aload (pc' := 493) at_491 rfl rfl rfl
      obtain ⟨V32, h32, r32, W32, K32, hQ32, SF32⟩ := W31.callV (pc' := 496) (argsL := []) (rest := []) (Wd := 0) (cells' := 6) (slots' := 60) (a := r31) (C := "com/example/letters_between_tasks/lettersbetweentasks/model/Name") (y := (⟨"com/example/letters_between_tasks/lettersbetweentasks/model/Name", "text", "()Ljava/lang/String;"⟩ : MethodName)) (z := (⟨"com/example/letters_between_tasks/lettersbetweentasks/model/Name", "text", "()Ljava/lang/String;"⟩ : MethodName)) at_493 (ntext l Z a0 n0 hw hEL G1 O1 P1 G3 O3 rG3 r31 a27 h31 W31.old q31_2) q31_1 (tw99 hw) (tw100 hw) (Or.inl (tw102 hw)) (tw102 hw) (tw101 hw) (tw40 hw) (tw103 hw) (by decide) (lenOf pd17 rfl) rfl rfl (by decide) (by decide) rfl sf0 all0 rfl rfl rfl (by decide) (by decide)
      clear W31
      obtain ⟨rfl, hs32⟩ := hQ32
      subst hs32
      replace W32 := W32.cast (st' := [(.ref a27)]) rfl
      replace W32 := W32.aload (pc' := 498) at_496 rfl rfl rfl
      have e34 := (q30_1.keep K31)
      obtain ⟨V33, h33, r33, W33, K33, hQ33, SF33⟩ := W32.callV (pc' := 501) (argsL := [(.ref a27)]) (rest := []) (Wd := 0) (cells' := 6) (slots' := 60) (a := a27) (C := "java/lang/String") (y := (⟨"java/lang/String", "equals", "(Ljava/lang/Object;)Z"⟩ : MethodName)) (z := (⟨"java/lang/String", "equals", "(Ljava/lang/Object;)Z"⟩ : MethodName)) at_498 (eq_self l Z a0 n0 hw hEL G1 O1 P1 G3 O3 rG3 a27 h31 W32.old) e34 (tw104 hw) (tw105 hw) (Or.inl (tw107 hw)) (tw107 hw) (tw106 hw) (tw11 hw) (tw108 hw) (by decide) (lenOf pd18 rfl) rfl rfl (by decide) (by decide) rfl sf0 all0 rfl rfl rfl (by decide) (by decide)
      clear W32
      obtain ⟨rfl, hs33⟩ := hQ33
      subst hs33
      replace W33 := W33.cast (st' := [(.int (1 : Int32))]) rfl
      replace W33 := W33.ifF (pc' := 504) at_501 (feq (by decide : ¬ ((1 : Int32) = (0 : Int32)))).1 rfl
      replace W33 := W33.aload (pc' := 506) at_504 rfl rfl rfl
      obtain ⟨V35, h35, r35, W35, K35, hQ35, SF35⟩ := W33.callV (pc' := 509) (argsL := []) (rest := []) (Wd := 0) (cells' := 6) (slots' := 60) (a := r31) (C := "com/example/letters_between_tasks/lettersbetweentasks/model/Name") (y := (⟨"com/example/letters_between_tasks/lettersbetweentasks/model/Name", "toString", "()Ljava/lang/String;"⟩ : MethodName)) (z := (⟨"com/example/letters_between_tasks/lettersbetweentasks/model/Name", "toString", "()Ljava/lang/String;"⟩ : MethodName)) at_506 (nstr l Z a0 n0 hw hEL G1 O1 P1 G3 O3 rG3 r31 a27 h31 W33.old q31_2) q31_1 (tw109 hw) (tw110 hw) (Or.inl (tw112 hw)) (tw112 hw) (tw111 hw) (tw40 hw) (tw113 hw) (by decide) (lenOf pd17 rfl) rfl rfl (by decide) (by decide) rfl sf0 all0 rfl rfl rfl (by decide) (by decide)
      clear W33
      obtain ⟨rfl, hs35⟩ := hQ35
      subst hs35
      replace W35 := W35.cast (st' := [(.ref a27)]) rfl
      replace W35 := W35.aload (pc' := 511) at_509 rfl rfl rfl
      obtain ⟨V36, h36, r36, W36, K36, hQ36, SF36⟩ := W35.callV (pc' := 514) (argsL := [(.ref a27)]) (rest := []) (Wd := 0) (cells' := 6) (slots' := 60) (a := a27) (C := "java/lang/String") (y := (⟨"java/lang/String", "equals", "(Ljava/lang/Object;)Z"⟩ : MethodName)) (z := (⟨"java/lang/String", "equals", "(Ljava/lang/Object;)Z"⟩ : MethodName)) at_511 (eq_self l Z a0 n0 hw hEL G1 O1 P1 G3 O3 rG3 a27 h31 W35.old) e34 (tw104 hw) (tw105 hw) (Or.inl (tw107 hw)) (tw107 hw) (tw106 hw) (tw11 hw) (tw108 hw) (by decide) (lenOf pd18 rfl) rfl rfl (by decide) (by decide) rfl sf0 all0 rfl rfl rfl (by decide) (by decide)
      clear W35
      obtain ⟨rfl, hs36⟩ := hQ36
      subst hs36
      replace W36 := W36.cast (st' := [(.int (1 : Int32))]) rfl
      replace W36 := W36.ifF (pc' := 517) at_514 (feq (by decide : ¬ ((1 : Int32) = (0 : Int32)))).1 rfl
      replace W36 := W36.aload (pc' := 519) at_517 rfl rfl rfl
      obtain ⟨V37, h37, r37, W37, K37, hQ37, SF37⟩ := W36.callV (pc' := 522) (argsL := []) (rest := []) (Wd := 0) (cells' := 6) (slots' := 60) (a := r31) (C := "com/example/letters_between_tasks/lettersbetweentasks/model/Name") (y := (⟨"com/example/letters_between_tasks/lettersbetweentasks/model/Name", "hashCode", "()I"⟩ : MethodName)) (z := (⟨"com/example/letters_between_tasks/lettersbetweentasks/model/Name", "hashCode", "()I"⟩ : MethodName)) at_519 (nhash l Z a0 n0 hw hEL G1 O1 P1 G3 O3 rG3 r31 (hf (gl [r1, r2]) 2) h31 W36.old q31_3) q31_1 (tw114 hw) (tw115 hw) (Or.inl (tw117 hw)) (tw117 hw) (tw116 hw) (tw40 hw) (tw118 hw) (by decide) (lenOf pd9 rfl) rfl rfl (by decide) (by decide) rfl sf0 all0 rfl rfl rfl (by decide) (by decide)
      clear W36
      obtain ⟨rfl, hs37⟩ := hQ37
      subst hs37
      replace W37 := W37.cast (st' := [(.int (hf (gl [r1, r2]) 2))]) rfl
      replace W37 := W37.iload (pc' := 524) at_522 rfl rfl
      replace W37 := W37.icmpF (pc' := 527) at_524 (teq (own_h2 r1 r2)).2 rfl
      replace W37 := W37.iconst (pc' := 528) (v := (1 : Int32)) at_527 rfl rfl
      replace W37 := W37.goto (pc' := 532) at_528 (by decide) (by decide)
      exact W37.iret (t := .boolean) at_532 rfl (by simp) (by decide) (by decide) (by decide) (fun V' cv => rfl)
    · replace W8 := W8.icmpT (pc' := 115) at_84 (feq hc23).2 (by decide) (by decide)
      replace W8 := W8.iload (pc' := 117) at_115 rfl rfl
      replace W8 := W8.iconst (pc' := 118) (v := (2 : Int32)) at_117 rfl rfl
      by_cases hc38 : (p0 &&& (7 : Int32)) = (2 : Int32)
      · replace W8 := W8.icmpF (pc' := 121) at_118 (teq hc38).2 rfl
        replace W8 := W8.iconst (pc' := 122) (v := (3 : Int32)) at_121 rfl rfl
        obtain ⟨h39, a39, W39, E39, g39, ⟨k39, A39⟩, sf39, SF39⟩ := W8.newarr (pc' := 124) (cap := 3) (cells' := 1) (slots' := 3) at_122 (tw8 hw) (by decide) (by decide) (by decide) rfl rfl rfl (by decide) (by decide)
        clear W8
        rw [← g39] at A39
        have z39 : h0.size ≤ h39.size := E39.1
        have v39 : Arv Z h39 a39 k39 .char (3 : Int32) [(.int (0 : Int32)), (.int (0 : Int32)), (.int (0 : Int32))] (.int (0 : Int32)) := A39.pad (pad_rep [] (.int (0 : Int32)) 3)
        replace W39 := W39.dup (pc' := 125) at_124 rfl rfl
        replace W39 := W39.iconst (pc' := 126) (v := (0 : Int32)) at_125 rfl rfl
        replace W39 := W39.iload (pc' := 128) at_126 rfl rfl
        obtain ⟨h40, W40, w40, A40, SF40⟩ := W39.castore (pc' := 129) (i := 0) (x' := r1) at_128 v39 ⟨by decide, by decide⟩ rfl (by show 0 < 3; decide) (nch_narc q1_2) safe0 (Or.inr (Nat.le_of_eq g39.symm)) rfl
        clear W39
        have z40 : h39.size ≤ h40.size := Nat.le_of_eq w40.size.symm
        have v40 : Arv Z h40 a39 k39 .char (3 : Int32) [(.int r1), (.int (0 : Int32)), (.int (0 : Int32))] (.int (0 : Int32)) := A40
        replace W40 := W40.dup (pc' := 130) at_129 rfl rfl
        replace W40 := W40.iconst (pc' := 131) (v := (1 : Int32)) at_130 rfl rfl
        replace W40 := W40.iload (pc' := 133) at_131 rfl rfl
        obtain ⟨h41, W41, w41, A41, SF41⟩ := W40.castore (pc' := 134) (i := 1) (x' := r2) at_133 v40 ⟨by decide, by decide⟩ rfl (by show 1 < 3; decide) (nch_narc q2_2) safe0 (Or.inr (Nat.le_of_eq g39.symm)) rfl
        clear W40
        have z41 : h40.size ≤ h41.size := Nat.le_of_eq w41.size.symm
        have v41 : Arv Z h41 a39 k39 .char (3 : Int32) [(.int r1), (.int r2), (.int (0 : Int32))] (.int (0 : Int32)) := A41
        replace W41 := W41.dup (pc' := 135) at_134 rfl rfl
        replace W41 := W41.iconst (pc' := 136) (v := (2 : Int32)) at_135 rfl rfl
        replace W41 := W41.iload (pc' := 138) at_136 rfl rfl
        obtain ⟨h42, W42, w42, A42, SF42⟩ := W41.castore (pc' := 139) (i := 2) (x' := r3) at_138 v41 ⟨by decide, by decide⟩ rfl (by show 2 < 3; decide) (nch_narc q3_2) safe0 (Or.inr (Nat.le_of_eq g39.symm)) rfl
        clear W41
        have z42 : h41.size ≤ h42.size := Nat.le_of_eq w42.size.symm
        have v42 : Arv Z h42 a39 k39 .char (3 : Int32) [(.int r1), (.int r2), (.int r3)] (.int (0 : Int32)) := A42
        replace W42 := W42.astore (pc' := 141) (L' := #[.val (.int p0), .val (.int p1), .val (.int p2), .val (.int p3), .val (.int p4), .val (.int r1), .val (.int r2), .val (.int r3), .val (.int r4), .val (.int (lowf r1)), .val (.int (lowf r2)), .val (.int (lowf r3)), .val (.int (lowf r4)), .val (.int (p0 &&& (7 : Int32))), .val (.ref a39), .unset, .unset, .unset]) at_139 rfl rfl rfl
        replace W42 := W42.iload (pc' := 143) at_141 rfl rfl
        replace W42 := W42.bipush (pc' := 145) (v := (31 : Int32)) at_143 rfl rfl
        replace W42 := W42.imul (pc' := 146) (v := ((lowf r1) * (31 : Int32))) at_145 rfl rfl
        replace W42 := W42.iload (pc' := 148) at_146 rfl rfl
        replace W42 := W42.iadd (pc' := 149) (v := (((lowf r1) * (31 : Int32)) + (lowf r2))) at_148 rfl rfl
        replace W42 := W42.bipush (pc' := 151) (v := (31 : Int32)) at_149 rfl rfl
        replace W42 := W42.imul (pc' := 152) (v := ((((lowf r1) * (31 : Int32)) + (lowf r2)) * (31 : Int32))) at_151 rfl rfl
        replace W42 := W42.iload (pc' := 154) at_152 rfl rfl
        replace W42 := W42.iadd (pc' := 155) (v := (((((lowf r1) * (31 : Int32)) + (lowf r2)) * (31 : Int32)) + (lowf r3))) at_154 rfl rfl
        replace W42 := W42.istore (pc' := 157) (L' := #[.val (.int p0), .val (.int p1), .val (.int p2), .val (.int p3), .val (.int p4), .val (.int r1), .val (.int r2), .val (.int r3), .val (.int r4), .val (.int (lowf r1)), .val (.int (lowf r2)), .val (.int (lowf r3)), .val (.int (lowf r4)), .val (.int (p0 &&& (7 : Int32))), .val (.ref a39), .val (.int (((((lowf r1) * (31 : Int32)) + (lowf r2)) * (31 : Int32)) + (lowf r3))), .unset, .unset]) at_155 rfl rfl
        replace W42 := W42.goto (pc' := 473) at_157 (by decide) (by decide)
        obtain ⟨h43, a43, W43, E43, g43, ⟨A43, D43, U43⟩, sf43, SF43⟩ := W42.new (pc' := 476) (cells' := 2) (slots' := 7) at_473 (tw9 hw) (tw10 hw) (tw11 hw) rfl rfl rfl (by decide) (by decide)
        clear W42
        rw [← g43] at A43 D43 U43
        have z43 : h42.size ≤ h43.size := E43.1
        replace W43 := W43.dup (pc' := 477) at_476 rfl rfl
        replace W43 := W43.aload (pc' := 479) at_477 rfl rfl rfl
        have v44 := (v42.ext E43)
        have v45 : Arv Z h43 a39 k39 .char (Int32.ofNat 3) (lst 3 (gl [r1, r2, r3])) (.int (0 : Int32)) := v44
        have hg45 : ∀ i, i < 3 → NCh (gl [r1, r2, r3] i) := own_gl (own_allS q1_2 (own_allS q2_2 (own_allS q3_2 own_all0)))
        obtain ⟨V46, h46, r46, W46, K46, hQ46, SF46⟩ := W43.callI (pc' := 482) (argsL := [(.ref a39)]) (rest := [(.ref a43)]) (Wd := 1) (cells' := 3) (slots' := 39) (a := a43) (y := (⟨"java/lang/String", "<init>", "([C)V"⟩ : MethodName)) at_479 (new1 l Z a0 n0 hw hEL G1 O1 P1 G3 O3 rG3 a43 a39 k39 3 (gl [r1, r2, r3]) h43 W43.old A43 (D43 (Or.inr (tw37 hw)) (ty := (.array .byte)) (by decide) : Fld Z h43 a43 "java/lang/String" "value" "[B" .null) (D43 (Or.inr (tw35 hw)) (ty := .byte) (by decide) : Fld Z h43 a43 "java/lang/String" "coder" "B" (.int (0 : Int32))) v45 (by omega) (by omega) hg45 (Nat.le_trans W43.1.2.2.2.2.2.2.2.1 (Nat.le_trans (Nat.le_trans (Nat.le_trans (Nat.le_trans z39 z40) z41) z42) (Nat.le_of_eq g43.symm)))) rfl (tw12 hw) (tw13 hw) (tw11 hw) (tw14 hw) (by decide) (lenOf pd15 rfl) rfl rfl (by decide) (by decide) rfl (sfS safe0 sf0) (allS (Or.inr (Nat.le_trans (Nat.le_trans (Nat.le_trans (Nat.le_trans z39 z40) z41) z42) (Nat.le_of_eq g43.symm))) all0) rfl rfl rfl (by decide) (by decide)
        clear W43
        obtain ⟨ba46, kb46, rfl, q46_1, q46_2, q46_3, q46_4⟩ := hQ46
        have z46 : h43.size ≤ h46.size := K46.1
        replace W46 := W46.cast (st' := [(.ref a43)]) rfl
        replace W46 := W46.astore (pc' := 484) (L' := #[.val (.int p0), .val (.int p1), .val (.int p2), .val (.int p3), .val (.int p4), .val (.int r1), .val (.int r2), .val (.int r3), .val (.int r4), .val (.int (lowf r1)), .val (.int (lowf r2)), .val (.int (lowf r3)), .val (.int (lowf r4)), .val (.int (p0 &&& (7 : Int32))), .val (.ref a39), .val (.int (((((lowf r1) * (31 : Int32)) + (lowf r2)) * (31 : Int32)) + (lowf r3))), .val (.ref a43), .unset]) at_482 rfl rfl rfl
        replace W46 := W46.aload (pc' := 486) at_484 rfl rfl rfl
        obtain ⟨V47, h47, r47, W47, K47, hQ47, SF47⟩ := W46.callS (pc' := 489) (argsL := [(.ref a43)]) (rest := []) (Wd := 0) (cells' := 6) (slots' := 61) (y := (⟨"com/example/letters_between_tasks/lettersbetweentasks/model/Name", "of", "(Ljava/lang/String;)Lcom/example/letters_between_tasks/lettersbetweentasks/model/Name;"⟩ : MethodName)) at_486 (of_c l Z a0 n0 hw hEL G1 O1 P1 G3 O3 rG3 a43 ba46 kb46 3 (gl [r1, r2, r3]) h46 W46.old q46_1 q46_2 q46_3 q46_4 (by omega) (by omega) hg45) (tw38 hw) (tw39 hw) (tw40 hw) (tw41 hw) (by decide) (lenOf pd16 rfl) rfl rfl (by decide) (by decide) rfl sf0 all0 rfl rfl rfl (by decide) (by decide)
        clear W46
        obtain ⟨r47, rfl, q47_1, q47_2, q47_3, q47_4⟩ := hQ47
        have z47 : h46.size ≤ h47.size := K47.1
        replace W47 := W47.cast (st' := [(.ref r47)]) rfl
        replace W47 := W47.astore (pc' := 491) (L' := #[.val (.int p0), .val (.int p1), .val (.int p2), .val (.int p3), .val (.int p4), .val (.int r1), .val (.int r2), .val (.int r3), .val (.int r4), .val (.int (lowf r1)), .val (.int (lowf r2)), .val (.int (lowf r3)), .val (.int (lowf r4)), .val (.int (p0 &&& (7 : Int32))), .val (.ref a39), .val (.int (((((lowf r1) * (31 : Int32)) + (lowf r2)) * (31 : Int32)) + (lowf r3))), .val (.ref a43), .val (.ref r47)]) at_489 rfl rfl rfl
        replace W47 := W47.aload (pc' := 493) at_491 rfl rfl rfl
        obtain ⟨V48, h48, r48, W48, K48, hQ48, SF48⟩ := W47.callV (pc' := 496) (argsL := []) (rest := []) (Wd := 0) (cells' := 6) (slots' := 61) (a := r47) (C := "com/example/letters_between_tasks/lettersbetweentasks/model/Name") (y := (⟨"com/example/letters_between_tasks/lettersbetweentasks/model/Name", "text", "()Ljava/lang/String;"⟩ : MethodName)) (z := (⟨"com/example/letters_between_tasks/lettersbetweentasks/model/Name", "text", "()Ljava/lang/String;"⟩ : MethodName)) at_493 (ntext l Z a0 n0 hw hEL G1 O1 P1 G3 O3 rG3 r47 a43 h47 W47.old q47_2) q47_1 (tw99 hw) (tw100 hw) (Or.inl (tw102 hw)) (tw102 hw) (tw101 hw) (tw40 hw) (tw103 hw) (by decide) (lenOf pd17 rfl) rfl rfl (by decide) (by decide) rfl sf0 all0 rfl rfl rfl (by decide) (by decide)
        clear W47
        obtain ⟨rfl, hs48⟩ := hQ48
        subst hs48
        replace W48 := W48.cast (st' := [(.ref a43)]) rfl
        replace W48 := W48.aload (pc' := 498) at_496 rfl rfl rfl
        have e50 := (q46_1.keep K47)
        obtain ⟨V49, h49, r49, W49, K49, hQ49, SF49⟩ := W48.callV (pc' := 501) (argsL := [(.ref a43)]) (rest := []) (Wd := 0) (cells' := 6) (slots' := 61) (a := a43) (C := "java/lang/String") (y := (⟨"java/lang/String", "equals", "(Ljava/lang/Object;)Z"⟩ : MethodName)) (z := (⟨"java/lang/String", "equals", "(Ljava/lang/Object;)Z"⟩ : MethodName)) at_498 (eq_self l Z a0 n0 hw hEL G1 O1 P1 G3 O3 rG3 a43 h47 W48.old) e50 (tw104 hw) (tw105 hw) (Or.inl (tw107 hw)) (tw107 hw) (tw106 hw) (tw11 hw) (tw108 hw) (by decide) (lenOf pd18 rfl) rfl rfl (by decide) (by decide) rfl sf0 all0 rfl rfl rfl (by decide) (by decide)
        clear W48
        obtain ⟨rfl, hs49⟩ := hQ49
        subst hs49
        replace W49 := W49.cast (st' := [(.int (1 : Int32))]) rfl
        replace W49 := W49.ifF (pc' := 504) at_501 (feq (by decide : ¬ ((1 : Int32) = (0 : Int32)))).1 rfl
        replace W49 := W49.aload (pc' := 506) at_504 rfl rfl rfl
        obtain ⟨V51, h51, r51, W51, K51, hQ51, SF51⟩ := W49.callV (pc' := 509) (argsL := []) (rest := []) (Wd := 0) (cells' := 6) (slots' := 61) (a := r47) (C := "com/example/letters_between_tasks/lettersbetweentasks/model/Name") (y := (⟨"com/example/letters_between_tasks/lettersbetweentasks/model/Name", "toString", "()Ljava/lang/String;"⟩ : MethodName)) (z := (⟨"com/example/letters_between_tasks/lettersbetweentasks/model/Name", "toString", "()Ljava/lang/String;"⟩ : MethodName)) at_506 (nstr l Z a0 n0 hw hEL G1 O1 P1 G3 O3 rG3 r47 a43 h47 W49.old q47_2) q47_1 (tw109 hw) (tw110 hw) (Or.inl (tw112 hw)) (tw112 hw) (tw111 hw) (tw40 hw) (tw113 hw) (by decide) (lenOf pd17 rfl) rfl rfl (by decide) (by decide) rfl sf0 all0 rfl rfl rfl (by decide) (by decide)
        clear W49
        obtain ⟨rfl, hs51⟩ := hQ51
        subst hs51
        replace W51 := W51.cast (st' := [(.ref a43)]) rfl
        replace W51 := W51.aload (pc' := 511) at_509 rfl rfl rfl
        obtain ⟨V52, h52, r52, W52, K52, hQ52, SF52⟩ := W51.callV (pc' := 514) (argsL := [(.ref a43)]) (rest := []) (Wd := 0) (cells' := 6) (slots' := 61) (a := a43) (C := "java/lang/String") (y := (⟨"java/lang/String", "equals", "(Ljava/lang/Object;)Z"⟩ : MethodName)) (z := (⟨"java/lang/String", "equals", "(Ljava/lang/Object;)Z"⟩ : MethodName)) at_511 (eq_self l Z a0 n0 hw hEL G1 O1 P1 G3 O3 rG3 a43 h47 W51.old) e50 (tw104 hw) (tw105 hw) (Or.inl (tw107 hw)) (tw107 hw) (tw106 hw) (tw11 hw) (tw108 hw) (by decide) (lenOf pd18 rfl) rfl rfl (by decide) (by decide) rfl sf0 all0 rfl rfl rfl (by decide) (by decide)
        clear W51
        obtain ⟨rfl, hs52⟩ := hQ52
        subst hs52
        replace W52 := W52.cast (st' := [(.int (1 : Int32))]) rfl
        replace W52 := W52.ifF (pc' := 517) at_514 (feq (by decide : ¬ ((1 : Int32) = (0 : Int32)))).1 rfl
        replace W52 := W52.aload (pc' := 519) at_517 rfl rfl rfl
        obtain ⟨V53, h53, r53, W53, K53, hQ53, SF53⟩ := W52.callV (pc' := 522) (argsL := []) (rest := []) (Wd := 0) (cells' := 6) (slots' := 61) (a := r47) (C := "com/example/letters_between_tasks/lettersbetweentasks/model/Name") (y := (⟨"com/example/letters_between_tasks/lettersbetweentasks/model/Name", "hashCode", "()I"⟩ : MethodName)) (z := (⟨"com/example/letters_between_tasks/lettersbetweentasks/model/Name", "hashCode", "()I"⟩ : MethodName)) at_519 (nhash l Z a0 n0 hw hEL G1 O1 P1 G3 O3 rG3 r47 (hf (gl [r1, r2, r3]) 3) h47 W52.old q47_3) q47_1 (tw114 hw) (tw115 hw) (Or.inl (tw117 hw)) (tw117 hw) (tw116 hw) (tw40 hw) (tw118 hw) (by decide) (lenOf pd9 rfl) rfl rfl (by decide) (by decide) rfl sf0 all0 rfl rfl rfl (by decide) (by decide)
        clear W52
        obtain ⟨rfl, hs53⟩ := hQ53
        subst hs53
        replace W53 := W53.cast (st' := [(.int (hf (gl [r1, r2, r3]) 3))]) rfl
        replace W53 := W53.iload (pc' := 524) at_522 rfl rfl
        replace W53 := W53.icmpF (pc' := 527) at_524 (teq (own_h3 r1 r2 r3)).2 rfl
        replace W53 := W53.iconst (pc' := 528) (v := (1 : Int32)) at_527 rfl rfl
        replace W53 := W53.goto (pc' := 532) at_528 (by decide) (by decide)
        exact W53.iret (t := .boolean) at_532 rfl (by simp) (by decide) (by decide) (by decide) (fun V' cv => rfl)
      · replace W8 := W8.icmpT (pc' := 160) at_118 (feq hc38).2 (by decide) (by decide)
        replace W8 := W8.iload (pc' := 162) at_160 rfl rfl
        replace W8 := W8.iconst (pc' := 163) (v := (3 : Int32)) at_162 rfl rfl
        by_cases hc54 : (p0 &&& (7 : Int32)) = (3 : Int32)
        · replace W8 := W8.icmpF (pc' := 166) at_163 (teq hc54).2 rfl
          replace W8 := W8.iconst (pc' := 167) (v := (4 : Int32)) at_166 rfl rfl
          obtain ⟨h55, a55, W55, E55, g55, ⟨k55, A55⟩, sf55, SF55⟩ := W8.newarr (pc' := 169) (cap := 4) (cells' := 1) (slots' := 4) at_167 (tw8 hw) (by decide) (by decide) (by decide) rfl rfl rfl (by decide) (by decide)
          clear W8
          rw [← g55] at A55
          have z55 : h0.size ≤ h55.size := E55.1
          have v55 : Arv Z h55 a55 k55 .char (4 : Int32) [(.int (0 : Int32)), (.int (0 : Int32)), (.int (0 : Int32)), (.int (0 : Int32))] (.int (0 : Int32)) := A55.pad (pad_rep [] (.int (0 : Int32)) 4)
          replace W55 := W55.dup (pc' := 170) at_169 rfl rfl
          replace W55 := W55.iconst (pc' := 171) (v := (0 : Int32)) at_170 rfl rfl
          replace W55 := W55.iload (pc' := 173) at_171 rfl rfl
          obtain ⟨h56, W56, w56, A56, SF56⟩ := W55.castore (pc' := 174) (i := 0) (x' := r1) at_173 v55 ⟨by decide, by decide⟩ rfl (by show 0 < 4; decide) (nch_narc q1_2) safe0 (Or.inr (Nat.le_of_eq g55.symm)) rfl
          clear W55
          have z56 : h55.size ≤ h56.size := Nat.le_of_eq w56.size.symm
          have v56 : Arv Z h56 a55 k55 .char (4 : Int32) [(.int r1), (.int (0 : Int32)), (.int (0 : Int32)), (.int (0 : Int32))] (.int (0 : Int32)) := A56
          replace W56 := W56.dup (pc' := 175) at_174 rfl rfl
          replace W56 := W56.iconst (pc' := 176) (v := (1 : Int32)) at_175 rfl rfl
          replace W56 := W56.iload (pc' := 178) at_176 rfl rfl
          obtain ⟨h57, W57, w57, A57, SF57⟩ := W56.castore (pc' := 179) (i := 1) (x' := r2) at_178 v56 ⟨by decide, by decide⟩ rfl (by show 1 < 4; decide) (nch_narc q2_2) safe0 (Or.inr (Nat.le_of_eq g55.symm)) rfl
          clear W56
          have z57 : h56.size ≤ h57.size := Nat.le_of_eq w57.size.symm
          have v57 : Arv Z h57 a55 k55 .char (4 : Int32) [(.int r1), (.int r2), (.int (0 : Int32)), (.int (0 : Int32))] (.int (0 : Int32)) := A57
          replace W57 := W57.dup (pc' := 180) at_179 rfl rfl
          replace W57 := W57.iconst (pc' := 181) (v := (2 : Int32)) at_180 rfl rfl
          replace W57 := W57.iload (pc' := 183) at_181 rfl rfl
          obtain ⟨h58, W58, w58, A58, SF58⟩ := W57.castore (pc' := 184) (i := 2) (x' := r3) at_183 v57 ⟨by decide, by decide⟩ rfl (by show 2 < 4; decide) (nch_narc q3_2) safe0 (Or.inr (Nat.le_of_eq g55.symm)) rfl
          clear W57
          have z58 : h57.size ≤ h58.size := Nat.le_of_eq w58.size.symm
          have v58 : Arv Z h58 a55 k55 .char (4 : Int32) [(.int r1), (.int r2), (.int r3), (.int (0 : Int32))] (.int (0 : Int32)) := A58
          replace W58 := W58.dup (pc' := 185) at_184 rfl rfl
          replace W58 := W58.iconst (pc' := 186) (v := (3 : Int32)) at_185 rfl rfl
          replace W58 := W58.iload (pc' := 188) at_186 rfl rfl
          obtain ⟨h59, W59, w59, A59, SF59⟩ := W58.castore (pc' := 189) (i := 3) (x' := r4) at_188 v58 ⟨by decide, by decide⟩ rfl (by show 3 < 4; decide) (nch_narc q4_2) safe0 (Or.inr (Nat.le_of_eq g55.symm)) rfl
          clear W58
          have z59 : h58.size ≤ h59.size := Nat.le_of_eq w59.size.symm
          have v59 : Arv Z h59 a55 k55 .char (4 : Int32) [(.int r1), (.int r2), (.int r3), (.int r4)] (.int (0 : Int32)) := A59
          replace W59 := W59.astore (pc' := 191) (L' := #[.val (.int p0), .val (.int p1), .val (.int p2), .val (.int p3), .val (.int p4), .val (.int r1), .val (.int r2), .val (.int r3), .val (.int r4), .val (.int (lowf r1)), .val (.int (lowf r2)), .val (.int (lowf r3)), .val (.int (lowf r4)), .val (.int (p0 &&& (7 : Int32))), .val (.ref a55), .unset, .unset, .unset]) at_189 rfl rfl rfl
          replace W59 := W59.iload (pc' := 193) at_191 rfl rfl
          replace W59 := W59.bipush (pc' := 195) (v := (31 : Int32)) at_193 rfl rfl
          replace W59 := W59.imul (pc' := 196) (v := ((lowf r1) * (31 : Int32))) at_195 rfl rfl
          replace W59 := W59.iload (pc' := 198) at_196 rfl rfl
          replace W59 := W59.iadd (pc' := 199) (v := (((lowf r1) * (31 : Int32)) + (lowf r2))) at_198 rfl rfl
          replace W59 := W59.bipush (pc' := 201) (v := (31 : Int32)) at_199 rfl rfl
          replace W59 := W59.imul (pc' := 202) (v := ((((lowf r1) * (31 : Int32)) + (lowf r2)) * (31 : Int32))) at_201 rfl rfl
          replace W59 := W59.iload (pc' := 204) at_202 rfl rfl
          replace W59 := W59.iadd (pc' := 205) (v := (((((lowf r1) * (31 : Int32)) + (lowf r2)) * (31 : Int32)) + (lowf r3))) at_204 rfl rfl
          replace W59 := W59.bipush (pc' := 207) (v := (31 : Int32)) at_205 rfl rfl
          replace W59 := W59.imul (pc' := 208) (v := ((((((lowf r1) * (31 : Int32)) + (lowf r2)) * (31 : Int32)) + (lowf r3)) * (31 : Int32))) at_207 rfl rfl
          replace W59 := W59.iload (pc' := 210) at_208 rfl rfl
          replace W59 := W59.iadd (pc' := 211) (v := (((((((lowf r1) * (31 : Int32)) + (lowf r2)) * (31 : Int32)) + (lowf r3)) * (31 : Int32)) + (lowf r4))) at_210 rfl rfl
          replace W59 := W59.istore (pc' := 213) (L' := #[.val (.int p0), .val (.int p1), .val (.int p2), .val (.int p3), .val (.int p4), .val (.int r1), .val (.int r2), .val (.int r3), .val (.int r4), .val (.int (lowf r1)), .val (.int (lowf r2)), .val (.int (lowf r3)), .val (.int (lowf r4)), .val (.int (p0 &&& (7 : Int32))), .val (.ref a55), .val (.int (((((((lowf r1) * (31 : Int32)) + (lowf r2)) * (31 : Int32)) + (lowf r3)) * (31 : Int32)) + (lowf r4))), .unset, .unset]) at_211 rfl rfl
          replace W59 := W59.goto (pc' := 473) at_213 (by decide) (by decide)
          obtain ⟨h60, a60, W60, E60, g60, ⟨A60, D60, U60⟩, sf60, SF60⟩ := W59.new (pc' := 476) (cells' := 2) (slots' := 8) at_473 (tw9 hw) (tw10 hw) (tw11 hw) rfl rfl rfl (by decide) (by decide)
          clear W59
          rw [← g60] at A60 D60 U60
          have z60 : h59.size ≤ h60.size := E60.1
          replace W60 := W60.dup (pc' := 477) at_476 rfl rfl
          replace W60 := W60.aload (pc' := 479) at_477 rfl rfl rfl
          have v61 := (v59.ext E60)
          have v62 : Arv Z h60 a55 k55 .char (Int32.ofNat 4) (lst 4 (gl [r1, r2, r3, r4])) (.int (0 : Int32)) := v61
          have hg62 : ∀ i, i < 4 → NCh (gl [r1, r2, r3, r4] i) := own_gl (own_allS q1_2 (own_allS q2_2 (own_allS q3_2 (own_allS q4_2 own_all0))))
          obtain ⟨V63, h63, r63, W63, K63, hQ63, SF63⟩ := W60.callI (pc' := 482) (argsL := [(.ref a55)]) (rest := [(.ref a60)]) (Wd := 1) (cells' := 3) (slots' := 40) (a := a60) (y := (⟨"java/lang/String", "<init>", "([C)V"⟩ : MethodName)) at_479 (new1 l Z a0 n0 hw hEL G1 O1 P1 G3 O3 rG3 a60 a55 k55 4 (gl [r1, r2, r3, r4]) h60 W60.old A60 (D60 (Or.inr (tw37 hw)) (ty := (.array .byte)) (by decide) : Fld Z h60 a60 "java/lang/String" "value" "[B" .null) (D60 (Or.inr (tw35 hw)) (ty := .byte) (by decide) : Fld Z h60 a60 "java/lang/String" "coder" "B" (.int (0 : Int32))) v62 (by omega) (by omega) hg62 (Nat.le_trans W60.1.2.2.2.2.2.2.2.1 (Nat.le_trans (Nat.le_trans (Nat.le_trans (Nat.le_trans (Nat.le_trans z55 z56) z57) z58) z59) (Nat.le_of_eq g60.symm)))) rfl (tw12 hw) (tw13 hw) (tw11 hw) (tw14 hw) (by decide) (lenOf pd15 rfl) rfl rfl (by decide) (by decide) rfl (sfS safe0 sf0) (allS (Or.inr (Nat.le_trans (Nat.le_trans (Nat.le_trans (Nat.le_trans (Nat.le_trans z55 z56) z57) z58) z59) (Nat.le_of_eq g60.symm))) all0) rfl rfl rfl (by decide) (by decide)
          clear W60
          obtain ⟨ba63, kb63, rfl, q63_1, q63_2, q63_3, q63_4⟩ := hQ63
          have z63 : h60.size ≤ h63.size := K63.1
          replace W63 := W63.cast (st' := [(.ref a60)]) rfl
          replace W63 := W63.astore (pc' := 484) (L' := #[.val (.int p0), .val (.int p1), .val (.int p2), .val (.int p3), .val (.int p4), .val (.int r1), .val (.int r2), .val (.int r3), .val (.int r4), .val (.int (lowf r1)), .val (.int (lowf r2)), .val (.int (lowf r3)), .val (.int (lowf r4)), .val (.int (p0 &&& (7 : Int32))), .val (.ref a55), .val (.int (((((((lowf r1) * (31 : Int32)) + (lowf r2)) * (31 : Int32)) + (lowf r3)) * (31 : Int32)) + (lowf r4))), .val (.ref a60), .unset]) at_482 rfl rfl rfl
          replace W63 := W63.aload (pc' := 486) at_484 rfl rfl rfl
          obtain ⟨V64, h64, r64, W64, K64, hQ64, SF64⟩ := W63.callS (pc' := 489) (argsL := [(.ref a60)]) (rest := []) (Wd := 0) (cells' := 6) (slots' := 62) (y := (⟨"com/example/letters_between_tasks/lettersbetweentasks/model/Name", "of", "(Ljava/lang/String;)Lcom/example/letters_between_tasks/lettersbetweentasks/model/Name;"⟩ : MethodName)) at_486 (of_c l Z a0 n0 hw hEL G1 O1 P1 G3 O3 rG3 a60 ba63 kb63 4 (gl [r1, r2, r3, r4]) h63 W63.old q63_1 q63_2 q63_3 q63_4 (by omega) (by omega) hg62) (tw38 hw) (tw39 hw) (tw40 hw) (tw41 hw) (by decide) (lenOf pd16 rfl) rfl rfl (by decide) (by decide) rfl sf0 all0 rfl rfl rfl (by decide) (by decide)
          clear W63
          obtain ⟨r64, rfl, q64_1, q64_2, q64_3, q64_4⟩ := hQ64
          have z64 : h63.size ≤ h64.size := K64.1
          replace W64 := W64.cast (st' := [(.ref r64)]) rfl
          replace W64 := W64.astore (pc' := 491) (L' := #[.val (.int p0), .val (.int p1), .val (.int p2), .val (.int p3), .val (.int p4), .val (.int r1), .val (.int r2), .val (.int r3), .val (.int r4), .val (.int (lowf r1)), .val (.int (lowf r2)), .val (.int (lowf r3)), .val (.int (lowf r4)), .val (.int (p0 &&& (7 : Int32))), .val (.ref a55), .val (.int (((((((lowf r1) * (31 : Int32)) + (lowf r2)) * (31 : Int32)) + (lowf r3)) * (31 : Int32)) + (lowf r4))), .val (.ref a60), .val (.ref r64)]) at_489 rfl rfl rfl
          replace W64 := W64.aload (pc' := 493) at_491 rfl rfl rfl
          obtain ⟨V65, h65, r65, W65, K65, hQ65, SF65⟩ := W64.callV (pc' := 496) (argsL := []) (rest := []) (Wd := 0) (cells' := 6) (slots' := 62) (a := r64) (C := "com/example/letters_between_tasks/lettersbetweentasks/model/Name") (y := (⟨"com/example/letters_between_tasks/lettersbetweentasks/model/Name", "text", "()Ljava/lang/String;"⟩ : MethodName)) (z := (⟨"com/example/letters_between_tasks/lettersbetweentasks/model/Name", "text", "()Ljava/lang/String;"⟩ : MethodName)) at_493 (ntext l Z a0 n0 hw hEL G1 O1 P1 G3 O3 rG3 r64 a60 h64 W64.old q64_2) q64_1 (tw99 hw) (tw100 hw) (Or.inl (tw102 hw)) (tw102 hw) (tw101 hw) (tw40 hw) (tw103 hw) (by decide) (lenOf pd17 rfl) rfl rfl (by decide) (by decide) rfl sf0 all0 rfl rfl rfl (by decide) (by decide)
          clear W64
          obtain ⟨rfl, hs65⟩ := hQ65
          subst hs65
          replace W65 := W65.cast (st' := [(.ref a60)]) rfl
          replace W65 := W65.aload (pc' := 498) at_496 rfl rfl rfl
          have e67 := (q63_1.keep K64)
          obtain ⟨V66, h66, r66, W66, K66, hQ66, SF66⟩ := W65.callV (pc' := 501) (argsL := [(.ref a60)]) (rest := []) (Wd := 0) (cells' := 6) (slots' := 62) (a := a60) (C := "java/lang/String") (y := (⟨"java/lang/String", "equals", "(Ljava/lang/Object;)Z"⟩ : MethodName)) (z := (⟨"java/lang/String", "equals", "(Ljava/lang/Object;)Z"⟩ : MethodName)) at_498 (eq_self l Z a0 n0 hw hEL G1 O1 P1 G3 O3 rG3 a60 h64 W65.old) e67 (tw104 hw) (tw105 hw) (Or.inl (tw107 hw)) (tw107 hw) (tw106 hw) (tw11 hw) (tw108 hw) (by decide) (lenOf pd18 rfl) rfl rfl (by decide) (by decide) rfl sf0 all0 rfl rfl rfl (by decide) (by decide)
          clear W65
          obtain ⟨rfl, hs66⟩ := hQ66
          subst hs66
          replace W66 := W66.cast (st' := [(.int (1 : Int32))]) rfl
          replace W66 := W66.ifF (pc' := 504) at_501 (feq (by decide : ¬ ((1 : Int32) = (0 : Int32)))).1 rfl
          replace W66 := W66.aload (pc' := 506) at_504 rfl rfl rfl
          obtain ⟨V68, h68, r68, W68, K68, hQ68, SF68⟩ := W66.callV (pc' := 509) (argsL := []) (rest := []) (Wd := 0) (cells' := 6) (slots' := 62) (a := r64) (C := "com/example/letters_between_tasks/lettersbetweentasks/model/Name") (y := (⟨"com/example/letters_between_tasks/lettersbetweentasks/model/Name", "toString", "()Ljava/lang/String;"⟩ : MethodName)) (z := (⟨"com/example/letters_between_tasks/lettersbetweentasks/model/Name", "toString", "()Ljava/lang/String;"⟩ : MethodName)) at_506 (nstr l Z a0 n0 hw hEL G1 O1 P1 G3 O3 rG3 r64 a60 h64 W66.old q64_2) q64_1 (tw109 hw) (tw110 hw) (Or.inl (tw112 hw)) (tw112 hw) (tw111 hw) (tw40 hw) (tw113 hw) (by decide) (lenOf pd17 rfl) rfl rfl (by decide) (by decide) rfl sf0 all0 rfl rfl rfl (by decide) (by decide)
          clear W66
          obtain ⟨rfl, hs68⟩ := hQ68
          subst hs68
          replace W68 := W68.cast (st' := [(.ref a60)]) rfl
          replace W68 := W68.aload (pc' := 511) at_509 rfl rfl rfl
          obtain ⟨V69, h69, r69, W69, K69, hQ69, SF69⟩ := W68.callV (pc' := 514) (argsL := [(.ref a60)]) (rest := []) (Wd := 0) (cells' := 6) (slots' := 62) (a := a60) (C := "java/lang/String") (y := (⟨"java/lang/String", "equals", "(Ljava/lang/Object;)Z"⟩ : MethodName)) (z := (⟨"java/lang/String", "equals", "(Ljava/lang/Object;)Z"⟩ : MethodName)) at_511 (eq_self l Z a0 n0 hw hEL G1 O1 P1 G3 O3 rG3 a60 h64 W68.old) e67 (tw104 hw) (tw105 hw) (Or.inl (tw107 hw)) (tw107 hw) (tw106 hw) (tw11 hw) (tw108 hw) (by decide) (lenOf pd18 rfl) rfl rfl (by decide) (by decide) rfl sf0 all0 rfl rfl rfl (by decide) (by decide)
          clear W68
          obtain ⟨rfl, hs69⟩ := hQ69
          subst hs69
          replace W69 := W69.cast (st' := [(.int (1 : Int32))]) rfl
          replace W69 := W69.ifF (pc' := 517) at_514 (feq (by decide : ¬ ((1 : Int32) = (0 : Int32)))).1 rfl
          replace W69 := W69.aload (pc' := 519) at_517 rfl rfl rfl
          obtain ⟨V70, h70, r70, W70, K70, hQ70, SF70⟩ := W69.callV (pc' := 522) (argsL := []) (rest := []) (Wd := 0) (cells' := 6) (slots' := 62) (a := r64) (C := "com/example/letters_between_tasks/lettersbetweentasks/model/Name") (y := (⟨"com/example/letters_between_tasks/lettersbetweentasks/model/Name", "hashCode", "()I"⟩ : MethodName)) (z := (⟨"com/example/letters_between_tasks/lettersbetweentasks/model/Name", "hashCode", "()I"⟩ : MethodName)) at_519 (nhash l Z a0 n0 hw hEL G1 O1 P1 G3 O3 rG3 r64 (hf (gl [r1, r2, r3, r4]) 4) h64 W69.old q64_3) q64_1 (tw114 hw) (tw115 hw) (Or.inl (tw117 hw)) (tw117 hw) (tw116 hw) (tw40 hw) (tw118 hw) (by decide) (lenOf pd9 rfl) rfl rfl (by decide) (by decide) rfl sf0 all0 rfl rfl rfl (by decide) (by decide)
          clear W69
          obtain ⟨rfl, hs70⟩ := hQ70
          subst hs70
          replace W70 := W70.cast (st' := [(.int (hf (gl [r1, r2, r3, r4]) 4))]) rfl
          replace W70 := W70.iload (pc' := 524) at_522 rfl rfl
          replace W70 := W70.icmpF (pc' := 527) at_524 (teq (own_h4 r1 r2 r3 r4)).2 rfl
          replace W70 := W70.iconst (pc' := 528) (v := (1 : Int32)) at_527 rfl rfl
          replace W70 := W70.goto (pc' := 532) at_528 (by decide) (by decide)
          exact W70.iret (t := .boolean) at_532 rfl (by simp) (by decide) (by decide) (by decide) (fun V' cv => rfl)
        · replace W8 := W8.icmpT (pc' := 216) at_163 (feq hc54).2 (by decide) (by decide)
          replace W8 := W8.bipush (pc' := 218) (v := (32 : Int32)) at_216 rfl rfl
          obtain ⟨h71, a71, W71, E71, g71, ⟨k71, A71⟩, sf71, SF71⟩ := W8.newarr (pc' := 220) (cap := 32) (cells' := 1) (slots' := 32) at_218 (tw8 hw) (by decide) (by decide) (by decide) rfl rfl rfl (by decide) (by decide)
          clear W8
          rw [← g71] at A71
          have z71 : h0.size ≤ h71.size := E71.1
          have v71 : Arv Z h71 a71 k71 .char (32 : Int32) [(.int (0 : Int32)), (.int (0 : Int32)), (.int (0 : Int32)), (.int (0 : Int32)), (.int (0 : Int32)), (.int (0 : Int32)), (.int (0 : Int32)), (.int (0 : Int32)), (.int (0 : Int32)), (.int (0 : Int32)), (.int (0 : Int32)), (.int (0 : Int32)), (.int (0 : Int32)), (.int (0 : Int32)), (.int (0 : Int32)), (.int (0 : Int32)), (.int (0 : Int32)), (.int (0 : Int32)), (.int (0 : Int32)), (.int (0 : Int32)), (.int (0 : Int32)), (.int (0 : Int32)), (.int (0 : Int32)), (.int (0 : Int32)), (.int (0 : Int32)), (.int (0 : Int32)), (.int (0 : Int32)), (.int (0 : Int32)), (.int (0 : Int32)), (.int (0 : Int32)), (.int (0 : Int32)), (.int (0 : Int32))] (.int (0 : Int32)) := A71.pad (pad_rep [] (.int (0 : Int32)) 32)
          replace W71 := W71.dup (pc' := 221) at_220 rfl rfl
          replace W71 := W71.iconst (pc' := 222) (v := (0 : Int32)) at_221 rfl rfl
          replace W71 := W71.iload (pc' := 224) at_222 rfl rfl
          obtain ⟨h72, W72, w72, A72, SF72⟩ := W71.castore (pc' := 225) (i := 0) (x' := r1) at_224 v71 ⟨by decide, by decide⟩ rfl (by show 0 < 32; decide) (nch_narc q1_2) safe0 (Or.inr (Nat.le_of_eq g71.symm)) rfl
          clear W71
          have z72 : h71.size ≤ h72.size := Nat.le_of_eq w72.size.symm
          have v72 : Arv Z h72 a71 k71 .char (32 : Int32) [(.int r1), (.int (0 : Int32)), (.int (0 : Int32)), (.int (0 : Int32)), (.int (0 : Int32)), (.int (0 : Int32)), (.int (0 : Int32)), (.int (0 : Int32)), (.int (0 : Int32)), (.int (0 : Int32)), (.int (0 : Int32)), (.int (0 : Int32)), (.int (0 : Int32)), (.int (0 : Int32)), (.int (0 : Int32)), (.int (0 : Int32)), (.int (0 : Int32)), (.int (0 : Int32)), (.int (0 : Int32)), (.int (0 : Int32)), (.int (0 : Int32)), (.int (0 : Int32)), (.int (0 : Int32)), (.int (0 : Int32)), (.int (0 : Int32)), (.int (0 : Int32)), (.int (0 : Int32)), (.int (0 : Int32)), (.int (0 : Int32)), (.int (0 : Int32)), (.int (0 : Int32)), (.int (0 : Int32))] (.int (0 : Int32)) := A72
          replace W72 := W72.dup (pc' := 226) at_225 rfl rfl
          replace W72 := W72.iconst (pc' := 227) (v := (1 : Int32)) at_226 rfl rfl
          replace W72 := W72.iload (pc' := 229) at_227 rfl rfl
          obtain ⟨h73, W73, w73, A73, SF73⟩ := W72.castore (pc' := 230) (i := 1) (x' := r2) at_229 v72 ⟨by decide, by decide⟩ rfl (by show 1 < 32; decide) (nch_narc q2_2) safe0 (Or.inr (Nat.le_of_eq g71.symm)) rfl
          clear W72
          have z73 : h72.size ≤ h73.size := Nat.le_of_eq w73.size.symm
          have v73 : Arv Z h73 a71 k71 .char (32 : Int32) [(.int r1), (.int r2), (.int (0 : Int32)), (.int (0 : Int32)), (.int (0 : Int32)), (.int (0 : Int32)), (.int (0 : Int32)), (.int (0 : Int32)), (.int (0 : Int32)), (.int (0 : Int32)), (.int (0 : Int32)), (.int (0 : Int32)), (.int (0 : Int32)), (.int (0 : Int32)), (.int (0 : Int32)), (.int (0 : Int32)), (.int (0 : Int32)), (.int (0 : Int32)), (.int (0 : Int32)), (.int (0 : Int32)), (.int (0 : Int32)), (.int (0 : Int32)), (.int (0 : Int32)), (.int (0 : Int32)), (.int (0 : Int32)), (.int (0 : Int32)), (.int (0 : Int32)), (.int (0 : Int32)), (.int (0 : Int32)), (.int (0 : Int32)), (.int (0 : Int32)), (.int (0 : Int32))] (.int (0 : Int32)) := A73
          replace W73 := W73.dup (pc' := 231) at_230 rfl rfl
          replace W73 := W73.iconst (pc' := 232) (v := (2 : Int32)) at_231 rfl rfl
          replace W73 := W73.iload (pc' := 234) at_232 rfl rfl
          obtain ⟨h74, W74, w74, A74, SF74⟩ := W73.castore (pc' := 235) (i := 2) (x' := r3) at_234 v73 ⟨by decide, by decide⟩ rfl (by show 2 < 32; decide) (nch_narc q3_2) safe0 (Or.inr (Nat.le_of_eq g71.symm)) rfl
          clear W73
          have z74 : h73.size ≤ h74.size := Nat.le_of_eq w74.size.symm
          have v74 : Arv Z h74 a71 k71 .char (32 : Int32) [(.int r1), (.int r2), (.int r3), (.int (0 : Int32)), (.int (0 : Int32)), (.int (0 : Int32)), (.int (0 : Int32)), (.int (0 : Int32)), (.int (0 : Int32)), (.int (0 : Int32)), (.int (0 : Int32)), (.int (0 : Int32)), (.int (0 : Int32)), (.int (0 : Int32)), (.int (0 : Int32)), (.int (0 : Int32)), (.int (0 : Int32)), (.int (0 : Int32)), (.int (0 : Int32)), (.int (0 : Int32)), (.int (0 : Int32)), (.int (0 : Int32)), (.int (0 : Int32)), (.int (0 : Int32)), (.int (0 : Int32)), (.int (0 : Int32)), (.int (0 : Int32)), (.int (0 : Int32)), (.int (0 : Int32)), (.int (0 : Int32)), (.int (0 : Int32)), (.int (0 : Int32))] (.int (0 : Int32)) := A74
          replace W74 := W74.dup (pc' := 236) at_235 rfl rfl
          replace W74 := W74.iconst (pc' := 237) (v := (3 : Int32)) at_236 rfl rfl
          replace W74 := W74.iload (pc' := 239) at_237 rfl rfl
          obtain ⟨h75, W75, w75, A75, SF75⟩ := W74.castore (pc' := 240) (i := 3) (x' := r4) at_239 v74 ⟨by decide, by decide⟩ rfl (by show 3 < 32; decide) (nch_narc q4_2) safe0 (Or.inr (Nat.le_of_eq g71.symm)) rfl
          clear W74
          have z75 : h74.size ≤ h75.size := Nat.le_of_eq w75.size.symm
          have v75 : Arv Z h75 a71 k71 .char (32 : Int32) [(.int r1), (.int r2), (.int r3), (.int r4), (.int (0 : Int32)), (.int (0 : Int32)), (.int (0 : Int32)), (.int (0 : Int32)), (.int (0 : Int32)), (.int (0 : Int32)), (.int (0 : Int32)), (.int (0 : Int32)), (.int (0 : Int32)), (.int (0 : Int32)), (.int (0 : Int32)), (.int (0 : Int32)), (.int (0 : Int32)), (.int (0 : Int32)), (.int (0 : Int32)), (.int (0 : Int32)), (.int (0 : Int32)), (.int (0 : Int32)), (.int (0 : Int32)), (.int (0 : Int32)), (.int (0 : Int32)), (.int (0 : Int32)), (.int (0 : Int32)), (.int (0 : Int32)), (.int (0 : Int32)), (.int (0 : Int32)), (.int (0 : Int32)), (.int (0 : Int32))] (.int (0 : Int32)) := A75
          replace W75 := W75.dup (pc' := 241) at_240 rfl rfl
          replace W75 := W75.iconst (pc' := 242) (v := (4 : Int32)) at_241 rfl rfl
          replace W75 := W75.iload (pc' := 244) at_242 rfl rfl
          obtain ⟨h76, W76, w76, A76, SF76⟩ := W75.castore (pc' := 245) (i := 4) (x' := r1) at_244 v75 ⟨by decide, by decide⟩ rfl (by show 4 < 32; decide) (nch_narc q1_2) safe0 (Or.inr (Nat.le_of_eq g71.symm)) rfl
          clear W75
          have z76 : h75.size ≤ h76.size := Nat.le_of_eq w76.size.symm
          have v76 : Arv Z h76 a71 k71 .char (32 : Int32) [(.int r1), (.int r2), (.int r3), (.int r4), (.int r1), (.int (0 : Int32)), (.int (0 : Int32)), (.int (0 : Int32)), (.int (0 : Int32)), (.int (0 : Int32)), (.int (0 : Int32)), (.int (0 : Int32)), (.int (0 : Int32)), (.int (0 : Int32)), (.int (0 : Int32)), (.int (0 : Int32)), (.int (0 : Int32)), (.int (0 : Int32)), (.int (0 : Int32)), (.int (0 : Int32)), (.int (0 : Int32)), (.int (0 : Int32)), (.int (0 : Int32)), (.int (0 : Int32)), (.int (0 : Int32)), (.int (0 : Int32)), (.int (0 : Int32)), (.int (0 : Int32)), (.int (0 : Int32)), (.int (0 : Int32)), (.int (0 : Int32)), (.int (0 : Int32))] (.int (0 : Int32)) := A76
          replace W76 := W76.dup (pc' := 246) at_245 rfl rfl
          replace W76 := W76.iconst (pc' := 247) (v := (5 : Int32)) at_246 rfl rfl
          replace W76 := W76.iload (pc' := 249) at_247 rfl rfl
          obtain ⟨h77, W77, w77, A77, SF77⟩ := W76.castore (pc' := 250) (i := 5) (x' := r2) at_249 v76 ⟨by decide, by decide⟩ rfl (by show 5 < 32; decide) (nch_narc q2_2) safe0 (Or.inr (Nat.le_of_eq g71.symm)) rfl
          clear W76
          have z77 : h76.size ≤ h77.size := Nat.le_of_eq w77.size.symm
          have v77 : Arv Z h77 a71 k71 .char (32 : Int32) [(.int r1), (.int r2), (.int r3), (.int r4), (.int r1), (.int r2), (.int (0 : Int32)), (.int (0 : Int32)), (.int (0 : Int32)), (.int (0 : Int32)), (.int (0 : Int32)), (.int (0 : Int32)), (.int (0 : Int32)), (.int (0 : Int32)), (.int (0 : Int32)), (.int (0 : Int32)), (.int (0 : Int32)), (.int (0 : Int32)), (.int (0 : Int32)), (.int (0 : Int32)), (.int (0 : Int32)), (.int (0 : Int32)), (.int (0 : Int32)), (.int (0 : Int32)), (.int (0 : Int32)), (.int (0 : Int32)), (.int (0 : Int32)), (.int (0 : Int32)), (.int (0 : Int32)), (.int (0 : Int32)), (.int (0 : Int32)), (.int (0 : Int32))] (.int (0 : Int32)) := A77
          replace W77 := W77.dup (pc' := 251) at_250 rfl rfl
          replace W77 := W77.bipush (pc' := 253) (v := (6 : Int32)) at_251 rfl rfl
          replace W77 := W77.iload (pc' := 255) at_253 rfl rfl
          obtain ⟨h78, W78, w78, A78, SF78⟩ := W77.castore (pc' := 256) (i := 6) (x' := r3) at_255 v77 ⟨by decide, by decide⟩ rfl (by show 6 < 32; decide) (nch_narc q3_2) safe0 (Or.inr (Nat.le_of_eq g71.symm)) rfl
          clear W77
          have z78 : h77.size ≤ h78.size := Nat.le_of_eq w78.size.symm
          have v78 : Arv Z h78 a71 k71 .char (32 : Int32) [(.int r1), (.int r2), (.int r3), (.int r4), (.int r1), (.int r2), (.int r3), (.int (0 : Int32)), (.int (0 : Int32)), (.int (0 : Int32)), (.int (0 : Int32)), (.int (0 : Int32)), (.int (0 : Int32)), (.int (0 : Int32)), (.int (0 : Int32)), (.int (0 : Int32)), (.int (0 : Int32)), (.int (0 : Int32)), (.int (0 : Int32)), (.int (0 : Int32)), (.int (0 : Int32)), (.int (0 : Int32)), (.int (0 : Int32)), (.int (0 : Int32)), (.int (0 : Int32)), (.int (0 : Int32)), (.int (0 : Int32)), (.int (0 : Int32)), (.int (0 : Int32)), (.int (0 : Int32)), (.int (0 : Int32)), (.int (0 : Int32))] (.int (0 : Int32)) := A78
          replace W78 := W78.dup (pc' := 257) at_256 rfl rfl
          replace W78 := W78.bipush (pc' := 259) (v := (7 : Int32)) at_257 rfl rfl
          replace W78 := W78.iload (pc' := 261) at_259 rfl rfl
          obtain ⟨h79, W79, w79, A79, SF79⟩ := W78.castore (pc' := 262) (i := 7) (x' := r4) at_261 v78 ⟨by decide, by decide⟩ rfl (by show 7 < 32; decide) (nch_narc q4_2) safe0 (Or.inr (Nat.le_of_eq g71.symm)) rfl
          clear W78
          have z79 : h78.size ≤ h79.size := Nat.le_of_eq w79.size.symm
          have v79 : Arv Z h79 a71 k71 .char (32 : Int32) [(.int r1), (.int r2), (.int r3), (.int r4), (.int r1), (.int r2), (.int r3), (.int r4), (.int (0 : Int32)), (.int (0 : Int32)), (.int (0 : Int32)), (.int (0 : Int32)), (.int (0 : Int32)), (.int (0 : Int32)), (.int (0 : Int32)), (.int (0 : Int32)), (.int (0 : Int32)), (.int (0 : Int32)), (.int (0 : Int32)), (.int (0 : Int32)), (.int (0 : Int32)), (.int (0 : Int32)), (.int (0 : Int32)), (.int (0 : Int32)), (.int (0 : Int32)), (.int (0 : Int32)), (.int (0 : Int32)), (.int (0 : Int32)), (.int (0 : Int32)), (.int (0 : Int32)), (.int (0 : Int32)), (.int (0 : Int32))] (.int (0 : Int32)) := A79
          replace W79 := W79.dup (pc' := 263) at_262 rfl rfl
          replace W79 := W79.bipush (pc' := 265) (v := (8 : Int32)) at_263 rfl rfl
          replace W79 := W79.iload (pc' := 267) at_265 rfl rfl
          obtain ⟨h80, W80, w80, A80, SF80⟩ := W79.castore (pc' := 268) (i := 8) (x' := r1) at_267 v79 ⟨by decide, by decide⟩ rfl (by show 8 < 32; decide) (nch_narc q1_2) safe0 (Or.inr (Nat.le_of_eq g71.symm)) rfl
          clear W79
          have z80 : h79.size ≤ h80.size := Nat.le_of_eq w80.size.symm
          have v80 : Arv Z h80 a71 k71 .char (32 : Int32) [(.int r1), (.int r2), (.int r3), (.int r4), (.int r1), (.int r2), (.int r3), (.int r4), (.int r1), (.int (0 : Int32)), (.int (0 : Int32)), (.int (0 : Int32)), (.int (0 : Int32)), (.int (0 : Int32)), (.int (0 : Int32)), (.int (0 : Int32)), (.int (0 : Int32)), (.int (0 : Int32)), (.int (0 : Int32)), (.int (0 : Int32)), (.int (0 : Int32)), (.int (0 : Int32)), (.int (0 : Int32)), (.int (0 : Int32)), (.int (0 : Int32)), (.int (0 : Int32)), (.int (0 : Int32)), (.int (0 : Int32)), (.int (0 : Int32)), (.int (0 : Int32)), (.int (0 : Int32)), (.int (0 : Int32))] (.int (0 : Int32)) := A80
          replace W80 := W80.dup (pc' := 269) at_268 rfl rfl
          replace W80 := W80.bipush (pc' := 271) (v := (9 : Int32)) at_269 rfl rfl
          replace W80 := W80.iload (pc' := 273) at_271 rfl rfl
          obtain ⟨h81, W81, w81, A81, SF81⟩ := W80.castore (pc' := 274) (i := 9) (x' := r2) at_273 v80 ⟨by decide, by decide⟩ rfl (by show 9 < 32; decide) (nch_narc q2_2) safe0 (Or.inr (Nat.le_of_eq g71.symm)) rfl
          clear W80
          have z81 : h80.size ≤ h81.size := Nat.le_of_eq w81.size.symm
          have v81 : Arv Z h81 a71 k71 .char (32 : Int32) [(.int r1), (.int r2), (.int r3), (.int r4), (.int r1), (.int r2), (.int r3), (.int r4), (.int r1), (.int r2), (.int (0 : Int32)), (.int (0 : Int32)), (.int (0 : Int32)), (.int (0 : Int32)), (.int (0 : Int32)), (.int (0 : Int32)), (.int (0 : Int32)), (.int (0 : Int32)), (.int (0 : Int32)), (.int (0 : Int32)), (.int (0 : Int32)), (.int (0 : Int32)), (.int (0 : Int32)), (.int (0 : Int32)), (.int (0 : Int32)), (.int (0 : Int32)), (.int (0 : Int32)), (.int (0 : Int32)), (.int (0 : Int32)), (.int (0 : Int32)), (.int (0 : Int32)), (.int (0 : Int32))] (.int (0 : Int32)) := A81
          replace W81 := W81.dup (pc' := 275) at_274 rfl rfl
          replace W81 := W81.bipush (pc' := 277) (v := (10 : Int32)) at_275 rfl rfl
          replace W81 := W81.iload (pc' := 279) at_277 rfl rfl
          obtain ⟨h82, W82, w82, A82, SF82⟩ := W81.castore (pc' := 280) (i := 10) (x' := r3) at_279 v81 ⟨by decide, by decide⟩ rfl (by show 10 < 32; decide) (nch_narc q3_2) safe0 (Or.inr (Nat.le_of_eq g71.symm)) rfl
          clear W81
          have z82 : h81.size ≤ h82.size := Nat.le_of_eq w82.size.symm
          have v82 : Arv Z h82 a71 k71 .char (32 : Int32) [(.int r1), (.int r2), (.int r3), (.int r4), (.int r1), (.int r2), (.int r3), (.int r4), (.int r1), (.int r2), (.int r3), (.int (0 : Int32)), (.int (0 : Int32)), (.int (0 : Int32)), (.int (0 : Int32)), (.int (0 : Int32)), (.int (0 : Int32)), (.int (0 : Int32)), (.int (0 : Int32)), (.int (0 : Int32)), (.int (0 : Int32)), (.int (0 : Int32)), (.int (0 : Int32)), (.int (0 : Int32)), (.int (0 : Int32)), (.int (0 : Int32)), (.int (0 : Int32)), (.int (0 : Int32)), (.int (0 : Int32)), (.int (0 : Int32)), (.int (0 : Int32)), (.int (0 : Int32))] (.int (0 : Int32)) := A82
          replace W82 := W82.dup (pc' := 281) at_280 rfl rfl
          replace W82 := W82.bipush (pc' := 283) (v := (11 : Int32)) at_281 rfl rfl
          replace W82 := W82.iload (pc' := 285) at_283 rfl rfl
          obtain ⟨h83, W83, w83, A83, SF83⟩ := W82.castore (pc' := 286) (i := 11) (x' := r4) at_285 v82 ⟨by decide, by decide⟩ rfl (by show 11 < 32; decide) (nch_narc q4_2) safe0 (Or.inr (Nat.le_of_eq g71.symm)) rfl
          clear W82
          have z83 : h82.size ≤ h83.size := Nat.le_of_eq w83.size.symm
          have v83 : Arv Z h83 a71 k71 .char (32 : Int32) [(.int r1), (.int r2), (.int r3), (.int r4), (.int r1), (.int r2), (.int r3), (.int r4), (.int r1), (.int r2), (.int r3), (.int r4), (.int (0 : Int32)), (.int (0 : Int32)), (.int (0 : Int32)), (.int (0 : Int32)), (.int (0 : Int32)), (.int (0 : Int32)), (.int (0 : Int32)), (.int (0 : Int32)), (.int (0 : Int32)), (.int (0 : Int32)), (.int (0 : Int32)), (.int (0 : Int32)), (.int (0 : Int32)), (.int (0 : Int32)), (.int (0 : Int32)), (.int (0 : Int32)), (.int (0 : Int32)), (.int (0 : Int32)), (.int (0 : Int32)), (.int (0 : Int32))] (.int (0 : Int32)) := A83
          replace W83 := W83.dup (pc' := 287) at_286 rfl rfl
          replace W83 := W83.bipush (pc' := 289) (v := (12 : Int32)) at_287 rfl rfl
          replace W83 := W83.iload (pc' := 291) at_289 rfl rfl
          obtain ⟨h84, W84, w84, A84, SF84⟩ := W83.castore (pc' := 292) (i := 12) (x' := r1) at_291 v83 ⟨by decide, by decide⟩ rfl (by show 12 < 32; decide) (nch_narc q1_2) safe0 (Or.inr (Nat.le_of_eq g71.symm)) rfl
          clear W83
          have z84 : h83.size ≤ h84.size := Nat.le_of_eq w84.size.symm
          have v84 : Arv Z h84 a71 k71 .char (32 : Int32) [(.int r1), (.int r2), (.int r3), (.int r4), (.int r1), (.int r2), (.int r3), (.int r4), (.int r1), (.int r2), (.int r3), (.int r4), (.int r1), (.int (0 : Int32)), (.int (0 : Int32)), (.int (0 : Int32)), (.int (0 : Int32)), (.int (0 : Int32)), (.int (0 : Int32)), (.int (0 : Int32)), (.int (0 : Int32)), (.int (0 : Int32)), (.int (0 : Int32)), (.int (0 : Int32)), (.int (0 : Int32)), (.int (0 : Int32)), (.int (0 : Int32)), (.int (0 : Int32)), (.int (0 : Int32)), (.int (0 : Int32)), (.int (0 : Int32)), (.int (0 : Int32))] (.int (0 : Int32)) := A84
          replace W84 := W84.dup (pc' := 293) at_292 rfl rfl
          replace W84 := W84.bipush (pc' := 295) (v := (13 : Int32)) at_293 rfl rfl
          replace W84 := W84.iload (pc' := 297) at_295 rfl rfl
          obtain ⟨h85, W85, w85, A85, SF85⟩ := W84.castore (pc' := 298) (i := 13) (x' := r2) at_297 v84 ⟨by decide, by decide⟩ rfl (by show 13 < 32; decide) (nch_narc q2_2) safe0 (Or.inr (Nat.le_of_eq g71.symm)) rfl
          clear W84
          have z85 : h84.size ≤ h85.size := Nat.le_of_eq w85.size.symm
          have v85 : Arv Z h85 a71 k71 .char (32 : Int32) [(.int r1), (.int r2), (.int r3), (.int r4), (.int r1), (.int r2), (.int r3), (.int r4), (.int r1), (.int r2), (.int r3), (.int r4), (.int r1), (.int r2), (.int (0 : Int32)), (.int (0 : Int32)), (.int (0 : Int32)), (.int (0 : Int32)), (.int (0 : Int32)), (.int (0 : Int32)), (.int (0 : Int32)), (.int (0 : Int32)), (.int (0 : Int32)), (.int (0 : Int32)), (.int (0 : Int32)), (.int (0 : Int32)), (.int (0 : Int32)), (.int (0 : Int32)), (.int (0 : Int32)), (.int (0 : Int32)), (.int (0 : Int32)), (.int (0 : Int32))] (.int (0 : Int32)) := A85
          replace W85 := W85.dup (pc' := 299) at_298 rfl rfl
          replace W85 := W85.bipush (pc' := 301) (v := (14 : Int32)) at_299 rfl rfl
          replace W85 := W85.iload (pc' := 303) at_301 rfl rfl
          obtain ⟨h86, W86, w86, A86, SF86⟩ := W85.castore (pc' := 304) (i := 14) (x' := r3) at_303 v85 ⟨by decide, by decide⟩ rfl (by show 14 < 32; decide) (nch_narc q3_2) safe0 (Or.inr (Nat.le_of_eq g71.symm)) rfl
          clear W85
          have z86 : h85.size ≤ h86.size := Nat.le_of_eq w86.size.symm
          have v86 : Arv Z h86 a71 k71 .char (32 : Int32) [(.int r1), (.int r2), (.int r3), (.int r4), (.int r1), (.int r2), (.int r3), (.int r4), (.int r1), (.int r2), (.int r3), (.int r4), (.int r1), (.int r2), (.int r3), (.int (0 : Int32)), (.int (0 : Int32)), (.int (0 : Int32)), (.int (0 : Int32)), (.int (0 : Int32)), (.int (0 : Int32)), (.int (0 : Int32)), (.int (0 : Int32)), (.int (0 : Int32)), (.int (0 : Int32)), (.int (0 : Int32)), (.int (0 : Int32)), (.int (0 : Int32)), (.int (0 : Int32)), (.int (0 : Int32)), (.int (0 : Int32)), (.int (0 : Int32))] (.int (0 : Int32)) := A86
          replace W86 := W86.dup (pc' := 305) at_304 rfl rfl
          replace W86 := W86.bipush (pc' := 307) (v := (15 : Int32)) at_305 rfl rfl
          replace W86 := W86.iload (pc' := 309) at_307 rfl rfl
          obtain ⟨h87, W87, w87, A87, SF87⟩ := W86.castore (pc' := 310) (i := 15) (x' := r4) at_309 v86 ⟨by decide, by decide⟩ rfl (by show 15 < 32; decide) (nch_narc q4_2) safe0 (Or.inr (Nat.le_of_eq g71.symm)) rfl
          clear W86
          have z87 : h86.size ≤ h87.size := Nat.le_of_eq w87.size.symm
          have v87 : Arv Z h87 a71 k71 .char (32 : Int32) [(.int r1), (.int r2), (.int r3), (.int r4), (.int r1), (.int r2), (.int r3), (.int r4), (.int r1), (.int r2), (.int r3), (.int r4), (.int r1), (.int r2), (.int r3), (.int r4), (.int (0 : Int32)), (.int (0 : Int32)), (.int (0 : Int32)), (.int (0 : Int32)), (.int (0 : Int32)), (.int (0 : Int32)), (.int (0 : Int32)), (.int (0 : Int32)), (.int (0 : Int32)), (.int (0 : Int32)), (.int (0 : Int32)), (.int (0 : Int32)), (.int (0 : Int32)), (.int (0 : Int32)), (.int (0 : Int32)), (.int (0 : Int32))] (.int (0 : Int32)) := A87
          replace W87 := W87.dup (pc' := 311) at_310 rfl rfl
          replace W87 := W87.bipush (pc' := 313) (v := (16 : Int32)) at_311 rfl rfl
          replace W87 := W87.iload (pc' := 315) at_313 rfl rfl
          obtain ⟨h88, W88, w88, A88, SF88⟩ := W87.castore (pc' := 316) (i := 16) (x' := r1) at_315 v87 ⟨by decide, by decide⟩ rfl (by show 16 < 32; decide) (nch_narc q1_2) safe0 (Or.inr (Nat.le_of_eq g71.symm)) rfl
          clear W87
          have z88 : h87.size ≤ h88.size := Nat.le_of_eq w88.size.symm
          have v88 : Arv Z h88 a71 k71 .char (32 : Int32) [(.int r1), (.int r2), (.int r3), (.int r4), (.int r1), (.int r2), (.int r3), (.int r4), (.int r1), (.int r2), (.int r3), (.int r4), (.int r1), (.int r2), (.int r3), (.int r4), (.int r1), (.int (0 : Int32)), (.int (0 : Int32)), (.int (0 : Int32)), (.int (0 : Int32)), (.int (0 : Int32)), (.int (0 : Int32)), (.int (0 : Int32)), (.int (0 : Int32)), (.int (0 : Int32)), (.int (0 : Int32)), (.int (0 : Int32)), (.int (0 : Int32)), (.int (0 : Int32)), (.int (0 : Int32)), (.int (0 : Int32))] (.int (0 : Int32)) := A88
          replace W88 := W88.dup (pc' := 317) at_316 rfl rfl
          replace W88 := W88.bipush (pc' := 319) (v := (17 : Int32)) at_317 rfl rfl
          replace W88 := W88.iload (pc' := 321) at_319 rfl rfl
          obtain ⟨h89, W89, w89, A89, SF89⟩ := W88.castore (pc' := 322) (i := 17) (x' := r2) at_321 v88 ⟨by decide, by decide⟩ rfl (by show 17 < 32; decide) (nch_narc q2_2) safe0 (Or.inr (Nat.le_of_eq g71.symm)) rfl
          clear W88
          have z89 : h88.size ≤ h89.size := Nat.le_of_eq w89.size.symm
          have v89 : Arv Z h89 a71 k71 .char (32 : Int32) [(.int r1), (.int r2), (.int r3), (.int r4), (.int r1), (.int r2), (.int r3), (.int r4), (.int r1), (.int r2), (.int r3), (.int r4), (.int r1), (.int r2), (.int r3), (.int r4), (.int r1), (.int r2), (.int (0 : Int32)), (.int (0 : Int32)), (.int (0 : Int32)), (.int (0 : Int32)), (.int (0 : Int32)), (.int (0 : Int32)), (.int (0 : Int32)), (.int (0 : Int32)), (.int (0 : Int32)), (.int (0 : Int32)), (.int (0 : Int32)), (.int (0 : Int32)), (.int (0 : Int32)), (.int (0 : Int32))] (.int (0 : Int32)) := A89
          replace W89 := W89.dup (pc' := 323) at_322 rfl rfl
          replace W89 := W89.bipush (pc' := 325) (v := (18 : Int32)) at_323 rfl rfl
          replace W89 := W89.iload (pc' := 327) at_325 rfl rfl
          obtain ⟨h90, W90, w90, A90, SF90⟩ := W89.castore (pc' := 328) (i := 18) (x' := r3) at_327 v89 ⟨by decide, by decide⟩ rfl (by show 18 < 32; decide) (nch_narc q3_2) safe0 (Or.inr (Nat.le_of_eq g71.symm)) rfl
          clear W89
          have z90 : h89.size ≤ h90.size := Nat.le_of_eq w90.size.symm
          have v90 : Arv Z h90 a71 k71 .char (32 : Int32) [(.int r1), (.int r2), (.int r3), (.int r4), (.int r1), (.int r2), (.int r3), (.int r4), (.int r1), (.int r2), (.int r3), (.int r4), (.int r1), (.int r2), (.int r3), (.int r4), (.int r1), (.int r2), (.int r3), (.int (0 : Int32)), (.int (0 : Int32)), (.int (0 : Int32)), (.int (0 : Int32)), (.int (0 : Int32)), (.int (0 : Int32)), (.int (0 : Int32)), (.int (0 : Int32)), (.int (0 : Int32)), (.int (0 : Int32)), (.int (0 : Int32)), (.int (0 : Int32)), (.int (0 : Int32))] (.int (0 : Int32)) := A90
          replace W90 := W90.dup (pc' := 329) at_328 rfl rfl
          replace W90 := W90.bipush (pc' := 331) (v := (19 : Int32)) at_329 rfl rfl
          replace W90 := W90.iload (pc' := 333) at_331 rfl rfl
          obtain ⟨h91, W91, w91, A91, SF91⟩ := W90.castore (pc' := 334) (i := 19) (x' := r4) at_333 v90 ⟨by decide, by decide⟩ rfl (by show 19 < 32; decide) (nch_narc q4_2) safe0 (Or.inr (Nat.le_of_eq g71.symm)) rfl
          clear W90
          have z91 : h90.size ≤ h91.size := Nat.le_of_eq w91.size.symm
          have v91 : Arv Z h91 a71 k71 .char (32 : Int32) [(.int r1), (.int r2), (.int r3), (.int r4), (.int r1), (.int r2), (.int r3), (.int r4), (.int r1), (.int r2), (.int r3), (.int r4), (.int r1), (.int r2), (.int r3), (.int r4), (.int r1), (.int r2), (.int r3), (.int r4), (.int (0 : Int32)), (.int (0 : Int32)), (.int (0 : Int32)), (.int (0 : Int32)), (.int (0 : Int32)), (.int (0 : Int32)), (.int (0 : Int32)), (.int (0 : Int32)), (.int (0 : Int32)), (.int (0 : Int32)), (.int (0 : Int32)), (.int (0 : Int32))] (.int (0 : Int32)) := A91
          replace W91 := W91.dup (pc' := 335) at_334 rfl rfl
          replace W91 := W91.bipush (pc' := 337) (v := (20 : Int32)) at_335 rfl rfl
          replace W91 := W91.iload (pc' := 339) at_337 rfl rfl
          obtain ⟨h92, W92, w92, A92, SF92⟩ := W91.castore (pc' := 340) (i := 20) (x' := r1) at_339 v91 ⟨by decide, by decide⟩ rfl (by show 20 < 32; decide) (nch_narc q1_2) safe0 (Or.inr (Nat.le_of_eq g71.symm)) rfl
          clear W91
          have z92 : h91.size ≤ h92.size := Nat.le_of_eq w92.size.symm
          have v92 : Arv Z h92 a71 k71 .char (32 : Int32) [(.int r1), (.int r2), (.int r3), (.int r4), (.int r1), (.int r2), (.int r3), (.int r4), (.int r1), (.int r2), (.int r3), (.int r4), (.int r1), (.int r2), (.int r3), (.int r4), (.int r1), (.int r2), (.int r3), (.int r4), (.int r1), (.int (0 : Int32)), (.int (0 : Int32)), (.int (0 : Int32)), (.int (0 : Int32)), (.int (0 : Int32)), (.int (0 : Int32)), (.int (0 : Int32)), (.int (0 : Int32)), (.int (0 : Int32)), (.int (0 : Int32)), (.int (0 : Int32))] (.int (0 : Int32)) := A92
          replace W92 := W92.dup (pc' := 341) at_340 rfl rfl
          replace W92 := W92.bipush (pc' := 343) (v := (21 : Int32)) at_341 rfl rfl
          replace W92 := W92.iload (pc' := 345) at_343 rfl rfl
          obtain ⟨h93, W93, w93, A93, SF93⟩ := W92.castore (pc' := 346) (i := 21) (x' := r2) at_345 v92 ⟨by decide, by decide⟩ rfl (by show 21 < 32; decide) (nch_narc q2_2) safe0 (Or.inr (Nat.le_of_eq g71.symm)) rfl
          clear W92
          have z93 : h92.size ≤ h93.size := Nat.le_of_eq w93.size.symm
          have v93 : Arv Z h93 a71 k71 .char (32 : Int32) [(.int r1), (.int r2), (.int r3), (.int r4), (.int r1), (.int r2), (.int r3), (.int r4), (.int r1), (.int r2), (.int r3), (.int r4), (.int r1), (.int r2), (.int r3), (.int r4), (.int r1), (.int r2), (.int r3), (.int r4), (.int r1), (.int r2), (.int (0 : Int32)), (.int (0 : Int32)), (.int (0 : Int32)), (.int (0 : Int32)), (.int (0 : Int32)), (.int (0 : Int32)), (.int (0 : Int32)), (.int (0 : Int32)), (.int (0 : Int32)), (.int (0 : Int32))] (.int (0 : Int32)) := A93
          replace W93 := W93.dup (pc' := 347) at_346 rfl rfl
          replace W93 := W93.bipush (pc' := 349) (v := (22 : Int32)) at_347 rfl rfl
          replace W93 := W93.iload (pc' := 351) at_349 rfl rfl
          obtain ⟨h94, W94, w94, A94, SF94⟩ := W93.castore (pc' := 352) (i := 22) (x' := r3) at_351 v93 ⟨by decide, by decide⟩ rfl (by show 22 < 32; decide) (nch_narc q3_2) safe0 (Or.inr (Nat.le_of_eq g71.symm)) rfl
          clear W93
          have z94 : h93.size ≤ h94.size := Nat.le_of_eq w94.size.symm
          have v94 : Arv Z h94 a71 k71 .char (32 : Int32) [(.int r1), (.int r2), (.int r3), (.int r4), (.int r1), (.int r2), (.int r3), (.int r4), (.int r1), (.int r2), (.int r3), (.int r4), (.int r1), (.int r2), (.int r3), (.int r4), (.int r1), (.int r2), (.int r3), (.int r4), (.int r1), (.int r2), (.int r3), (.int (0 : Int32)), (.int (0 : Int32)), (.int (0 : Int32)), (.int (0 : Int32)), (.int (0 : Int32)), (.int (0 : Int32)), (.int (0 : Int32)), (.int (0 : Int32)), (.int (0 : Int32))] (.int (0 : Int32)) := A94
          replace W94 := W94.dup (pc' := 353) at_352 rfl rfl
          replace W94 := W94.bipush (pc' := 355) (v := (23 : Int32)) at_353 rfl rfl
          replace W94 := W94.iload (pc' := 357) at_355 rfl rfl
          obtain ⟨h95, W95, w95, A95, SF95⟩ := W94.castore (pc' := 358) (i := 23) (x' := r4) at_357 v94 ⟨by decide, by decide⟩ rfl (by show 23 < 32; decide) (nch_narc q4_2) safe0 (Or.inr (Nat.le_of_eq g71.symm)) rfl
          clear W94
          have z95 : h94.size ≤ h95.size := Nat.le_of_eq w95.size.symm
          have v95 : Arv Z h95 a71 k71 .char (32 : Int32) [(.int r1), (.int r2), (.int r3), (.int r4), (.int r1), (.int r2), (.int r3), (.int r4), (.int r1), (.int r2), (.int r3), (.int r4), (.int r1), (.int r2), (.int r3), (.int r4), (.int r1), (.int r2), (.int r3), (.int r4), (.int r1), (.int r2), (.int r3), (.int r4), (.int (0 : Int32)), (.int (0 : Int32)), (.int (0 : Int32)), (.int (0 : Int32)), (.int (0 : Int32)), (.int (0 : Int32)), (.int (0 : Int32)), (.int (0 : Int32))] (.int (0 : Int32)) := A95
          replace W95 := W95.dup (pc' := 359) at_358 rfl rfl
          replace W95 := W95.bipush (pc' := 361) (v := (24 : Int32)) at_359 rfl rfl
          replace W95 := W95.iload (pc' := 363) at_361 rfl rfl
          obtain ⟨h96, W96, w96, A96, SF96⟩ := W95.castore (pc' := 364) (i := 24) (x' := r1) at_363 v95 ⟨by decide, by decide⟩ rfl (by show 24 < 32; decide) (nch_narc q1_2) safe0 (Or.inr (Nat.le_of_eq g71.symm)) rfl
          clear W95
          have z96 : h95.size ≤ h96.size := Nat.le_of_eq w96.size.symm
          have v96 : Arv Z h96 a71 k71 .char (32 : Int32) [(.int r1), (.int r2), (.int r3), (.int r4), (.int r1), (.int r2), (.int r3), (.int r4), (.int r1), (.int r2), (.int r3), (.int r4), (.int r1), (.int r2), (.int r3), (.int r4), (.int r1), (.int r2), (.int r3), (.int r4), (.int r1), (.int r2), (.int r3), (.int r4), (.int r1), (.int (0 : Int32)), (.int (0 : Int32)), (.int (0 : Int32)), (.int (0 : Int32)), (.int (0 : Int32)), (.int (0 : Int32)), (.int (0 : Int32))] (.int (0 : Int32)) := A96
          replace W96 := W96.dup (pc' := 365) at_364 rfl rfl
          replace W96 := W96.bipush (pc' := 367) (v := (25 : Int32)) at_365 rfl rfl
          replace W96 := W96.iload (pc' := 369) at_367 rfl rfl
          obtain ⟨h97, W97, w97, A97, SF97⟩ := W96.castore (pc' := 370) (i := 25) (x' := r2) at_369 v96 ⟨by decide, by decide⟩ rfl (by show 25 < 32; decide) (nch_narc q2_2) safe0 (Or.inr (Nat.le_of_eq g71.symm)) rfl
          clear W96
          have z97 : h96.size ≤ h97.size := Nat.le_of_eq w97.size.symm
          have v97 : Arv Z h97 a71 k71 .char (32 : Int32) [(.int r1), (.int r2), (.int r3), (.int r4), (.int r1), (.int r2), (.int r3), (.int r4), (.int r1), (.int r2), (.int r3), (.int r4), (.int r1), (.int r2), (.int r3), (.int r4), (.int r1), (.int r2), (.int r3), (.int r4), (.int r1), (.int r2), (.int r3), (.int r4), (.int r1), (.int r2), (.int (0 : Int32)), (.int (0 : Int32)), (.int (0 : Int32)), (.int (0 : Int32)), (.int (0 : Int32)), (.int (0 : Int32))] (.int (0 : Int32)) := A97
          replace W97 := W97.dup (pc' := 371) at_370 rfl rfl
          replace W97 := W97.bipush (pc' := 373) (v := (26 : Int32)) at_371 rfl rfl
          replace W97 := W97.iload (pc' := 375) at_373 rfl rfl
          obtain ⟨h98, W98, w98, A98, SF98⟩ := W97.castore (pc' := 376) (i := 26) (x' := r3) at_375 v97 ⟨by decide, by decide⟩ rfl (by show 26 < 32; decide) (nch_narc q3_2) safe0 (Or.inr (Nat.le_of_eq g71.symm)) rfl
          clear W97
          have z98 : h97.size ≤ h98.size := Nat.le_of_eq w98.size.symm
          have v98 : Arv Z h98 a71 k71 .char (32 : Int32) [(.int r1), (.int r2), (.int r3), (.int r4), (.int r1), (.int r2), (.int r3), (.int r4), (.int r1), (.int r2), (.int r3), (.int r4), (.int r1), (.int r2), (.int r3), (.int r4), (.int r1), (.int r2), (.int r3), (.int r4), (.int r1), (.int r2), (.int r3), (.int r4), (.int r1), (.int r2), (.int r3), (.int (0 : Int32)), (.int (0 : Int32)), (.int (0 : Int32)), (.int (0 : Int32)), (.int (0 : Int32))] (.int (0 : Int32)) := A98
          replace W98 := W98.dup (pc' := 377) at_376 rfl rfl
          replace W98 := W98.bipush (pc' := 379) (v := (27 : Int32)) at_377 rfl rfl
          replace W98 := W98.iload (pc' := 381) at_379 rfl rfl
          obtain ⟨h99, W99, w99, A99, SF99⟩ := W98.castore (pc' := 382) (i := 27) (x' := r4) at_381 v98 ⟨by decide, by decide⟩ rfl (by show 27 < 32; decide) (nch_narc q4_2) safe0 (Or.inr (Nat.le_of_eq g71.symm)) rfl
          clear W98
          have z99 : h98.size ≤ h99.size := Nat.le_of_eq w99.size.symm
          have v99 : Arv Z h99 a71 k71 .char (32 : Int32) [(.int r1), (.int r2), (.int r3), (.int r4), (.int r1), (.int r2), (.int r3), (.int r4), (.int r1), (.int r2), (.int r3), (.int r4), (.int r1), (.int r2), (.int r3), (.int r4), (.int r1), (.int r2), (.int r3), (.int r4), (.int r1), (.int r2), (.int r3), (.int r4), (.int r1), (.int r2), (.int r3), (.int r4), (.int (0 : Int32)), (.int (0 : Int32)), (.int (0 : Int32)), (.int (0 : Int32))] (.int (0 : Int32)) := A99
          replace W99 := W99.dup (pc' := 383) at_382 rfl rfl
          replace W99 := W99.bipush (pc' := 385) (v := (28 : Int32)) at_383 rfl rfl
          replace W99 := W99.iload (pc' := 387) at_385 rfl rfl
          obtain ⟨h100, W100, w100, A100, SF100⟩ := W99.castore (pc' := 388) (i := 28) (x' := r1) at_387 v99 ⟨by decide, by decide⟩ rfl (by show 28 < 32; decide) (nch_narc q1_2) safe0 (Or.inr (Nat.le_of_eq g71.symm)) rfl
          clear W99
          have z100 : h99.size ≤ h100.size := Nat.le_of_eq w100.size.symm
          have v100 : Arv Z h100 a71 k71 .char (32 : Int32) [(.int r1), (.int r2), (.int r3), (.int r4), (.int r1), (.int r2), (.int r3), (.int r4), (.int r1), (.int r2), (.int r3), (.int r4), (.int r1), (.int r2), (.int r3), (.int r4), (.int r1), (.int r2), (.int r3), (.int r4), (.int r1), (.int r2), (.int r3), (.int r4), (.int r1), (.int r2), (.int r3), (.int r4), (.int r1), (.int (0 : Int32)), (.int (0 : Int32)), (.int (0 : Int32))] (.int (0 : Int32)) := A100
          replace W100 := W100.dup (pc' := 389) at_388 rfl rfl
          replace W100 := W100.bipush (pc' := 391) (v := (29 : Int32)) at_389 rfl rfl
          replace W100 := W100.iload (pc' := 393) at_391 rfl rfl
          obtain ⟨h101, W101, w101, A101, SF101⟩ := W100.castore (pc' := 394) (i := 29) (x' := r2) at_393 v100 ⟨by decide, by decide⟩ rfl (by show 29 < 32; decide) (nch_narc q2_2) safe0 (Or.inr (Nat.le_of_eq g71.symm)) rfl
          clear W100
          have z101 : h100.size ≤ h101.size := Nat.le_of_eq w101.size.symm
          have v101 : Arv Z h101 a71 k71 .char (32 : Int32) [(.int r1), (.int r2), (.int r3), (.int r4), (.int r1), (.int r2), (.int r3), (.int r4), (.int r1), (.int r2), (.int r3), (.int r4), (.int r1), (.int r2), (.int r3), (.int r4), (.int r1), (.int r2), (.int r3), (.int r4), (.int r1), (.int r2), (.int r3), (.int r4), (.int r1), (.int r2), (.int r3), (.int r4), (.int r1), (.int r2), (.int (0 : Int32)), (.int (0 : Int32))] (.int (0 : Int32)) := A101
          replace W101 := W101.dup (pc' := 395) at_394 rfl rfl
          replace W101 := W101.bipush (pc' := 397) (v := (30 : Int32)) at_395 rfl rfl
          replace W101 := W101.iload (pc' := 399) at_397 rfl rfl
          obtain ⟨h102, W102, w102, A102, SF102⟩ := W101.castore (pc' := 400) (i := 30) (x' := r3) at_399 v101 ⟨by decide, by decide⟩ rfl (by show 30 < 32; decide) (nch_narc q3_2) safe0 (Or.inr (Nat.le_of_eq g71.symm)) rfl
          clear W101
          have z102 : h101.size ≤ h102.size := Nat.le_of_eq w102.size.symm
          have v102 : Arv Z h102 a71 k71 .char (32 : Int32) [(.int r1), (.int r2), (.int r3), (.int r4), (.int r1), (.int r2), (.int r3), (.int r4), (.int r1), (.int r2), (.int r3), (.int r4), (.int r1), (.int r2), (.int r3), (.int r4), (.int r1), (.int r2), (.int r3), (.int r4), (.int r1), (.int r2), (.int r3), (.int r4), (.int r1), (.int r2), (.int r3), (.int r4), (.int r1), (.int r2), (.int r3), (.int (0 : Int32))] (.int (0 : Int32)) := A102
          replace W102 := W102.dup (pc' := 401) at_400 rfl rfl
          replace W102 := W102.bipush (pc' := 403) (v := (31 : Int32)) at_401 rfl rfl
          replace W102 := W102.iload (pc' := 405) at_403 rfl rfl
          obtain ⟨h103, W103, w103, A103, SF103⟩ := W102.castore (pc' := 406) (i := 31) (x' := r4) at_405 v102 ⟨by decide, by decide⟩ rfl (by show 31 < 32; decide) (nch_narc q4_2) safe0 (Or.inr (Nat.le_of_eq g71.symm)) rfl
          clear W102
          have z103 : h102.size ≤ h103.size := Nat.le_of_eq w103.size.symm
          have v103 : Arv Z h103 a71 k71 .char (32 : Int32) [(.int r1), (.int r2), (.int r3), (.int r4), (.int r1), (.int r2), (.int r3), (.int r4), (.int r1), (.int r2), (.int r3), (.int r4), (.int r1), (.int r2), (.int r3), (.int r4), (.int r1), (.int r2), (.int r3), (.int r4), (.int r1), (.int r2), (.int r3), (.int r4), (.int r1), (.int r2), (.int r3), (.int r4), (.int r1), (.int r2), (.int r3), (.int r4)] (.int (0 : Int32)) := A103
          replace W103 := W103.astore (pc' := 408) (L' := #[.val (.int p0), .val (.int p1), .val (.int p2), .val (.int p3), .val (.int p4), .val (.int r1), .val (.int r2), .val (.int r3), .val (.int r4), .val (.int (lowf r1)), .val (.int (lowf r2)), .val (.int (lowf r3)), .val (.int (lowf r4)), .val (.int (p0 &&& (7 : Int32))), .val (.ref a71), .unset, .unset, .unset]) at_406 rfl rfl rfl
          replace W103 := W103.ldcI (pc' := 410) at_408 (tw119 hw) rfl
          replace W103 := W103.istore (pc' := 412) (L' := #[.val (.int p0), .val (.int p1), .val (.int p2), .val (.int p3), .val (.int p4), .val (.int r1), .val (.int r2), .val (.int r3), .val (.int r4), .val (.int (lowf r1)), .val (.int (lowf r2)), .val (.int (lowf r3)), .val (.int (lowf r4)), .val (.int (p0 &&& (7 : Int32))), .val (.ref a71), .unset, .val (.int (923521 : Int32)), .unset]) at_410 rfl rfl
          replace W103 := W103.iconst (pc' := 413) (v := (1 : Int32)) at_412 rfl rfl
          replace W103 := W103.iload (pc' := 415) at_413 rfl rfl
          replace W103 := W103.iconst (pc' := 416) (v := (1 : Int32)) at_415 rfl rfl
          replace W103 := W103.iload (pc' := 418) at_416 rfl rfl
          replace W103 := W103.iconst (pc' := 419) (v := (1 : Int32)) at_418 rfl rfl
          replace W103 := W103.iload (pc' := 421) at_419 rfl rfl
          replace W103 := W103.iconst (pc' := 422) (v := (1 : Int32)) at_421 rfl rfl
          replace W103 := W103.iload (pc' := 424) at_422 rfl rfl
          replace W103 := W103.iconst (pc' := 425) (v := (1 : Int32)) at_424 rfl rfl
          replace W103 := W103.iload (pc' := 427) at_425 rfl rfl
          replace W103 := W103.iconst (pc' := 428) (v := (1 : Int32)) at_427 rfl rfl
          replace W103 := W103.iload (pc' := 430) at_428 rfl rfl
          replace W103 := W103.iconst (pc' := 431) (v := (1 : Int32)) at_430 rfl rfl
          replace W103 := W103.iload (pc' := 433) at_431 rfl rfl
          replace W103 := W103.iadd (pc' := 434) (v := (923522 : Int32)) at_433 (by decide) rfl
          replace W103 := W103.imul (pc' := 435) (v := (-1806530942 : Int32)) at_434 (by decide) rfl
          replace W103 := W103.iadd (pc' := 436) (v := (-1806530941 : Int32)) at_435 (by decide) rfl
          replace W103 := W103.imul (pc' := 437) (v := (-2099933949 : Int32)) at_436 (by decide) rfl
          replace W103 := W103.iadd (pc' := 438) (v := (-2099933948 : Int32)) at_437 (by decide) rfl
          replace W103 := W103.imul (pc' := 439) (v := (-746624252 : Int32)) at_438 (by decide) rfl
          replace W103 := W103.iadd (pc' := 440) (v := (-746624251 : Int32)) at_439 (by decide) rfl
          replace W103 := W103.imul (pc' := 441) (v := (-535273339 : Int32)) at_440 (by decide) rfl
          replace W103 := W103.iadd (pc' := 442) (v := (-535273338 : Int32)) at_441 (by decide) rfl
          replace W103 := W103.imul (pc' := 443) (v := (1682484614 : Int32)) at_442 (by decide) rfl
          replace W103 := W103.iadd (pc' := 444) (v := (1682484615 : Int32)) at_443 (by decide) rfl
          replace W103 := W103.imul (pc' := 445) (v := (-1919380985 : Int32)) at_444 (by decide) rfl
          replace W103 := W103.iadd (pc' := 446) (v := (-1919380984 : Int32)) at_445 (by decide) rfl
          replace W103 := W103.istore (pc' := 448) (L' := #[.val (.int p0), .val (.int p1), .val (.int p2), .val (.int p3), .val (.int p4), .val (.int r1), .val (.int r2), .val (.int r3), .val (.int r4), .val (.int (lowf r1)), .val (.int (lowf r2)), .val (.int (lowf r3)), .val (.int (lowf r4)), .val (.int (p0 &&& (7 : Int32))), .val (.ref a71), .unset, .val (.int (923521 : Int32)), .val (.int (-1919380984 : Int32))]) at_446 rfl rfl
          replace W103 := W103.iload (pc' := 450) at_448 rfl rfl
          replace W103 := W103.bipush (pc' := 452) (v := (31 : Int32)) at_450 rfl rfl
          replace W103 := W103.imul (pc' := 453) (v := ((lowf r1) * (31 : Int32))) at_452 rfl rfl
          replace W103 := W103.iload (pc' := 455) at_453 rfl rfl
          replace W103 := W103.iadd (pc' := 456) (v := (((lowf r1) * (31 : Int32)) + (lowf r2))) at_455 rfl rfl
          replace W103 := W103.bipush (pc' := 458) (v := (31 : Int32)) at_456 rfl rfl
          replace W103 := W103.imul (pc' := 459) (v := ((((lowf r1) * (31 : Int32)) + (lowf r2)) * (31 : Int32))) at_458 rfl rfl
          replace W103 := W103.iload (pc' := 461) at_459 rfl rfl
          replace W103 := W103.iadd (pc' := 462) (v := (((((lowf r1) * (31 : Int32)) + (lowf r2)) * (31 : Int32)) + (lowf r3))) at_461 rfl rfl
          replace W103 := W103.bipush (pc' := 464) (v := (31 : Int32)) at_462 rfl rfl
          replace W103 := W103.imul (pc' := 465) (v := ((((((lowf r1) * (31 : Int32)) + (lowf r2)) * (31 : Int32)) + (lowf r3)) * (31 : Int32))) at_464 rfl rfl
          replace W103 := W103.iload (pc' := 467) at_465 rfl rfl
          replace W103 := W103.iadd (pc' := 468) (v := (((((((lowf r1) * (31 : Int32)) + (lowf r2)) * (31 : Int32)) + (lowf r3)) * (31 : Int32)) + (lowf r4))) at_467 rfl rfl
          replace W103 := W103.iload (pc' := 470) at_468 rfl rfl
          replace W103 := W103.imul (pc' := 471) (v := ((((((((lowf r1) * (31 : Int32)) + (lowf r2)) * (31 : Int32)) + (lowf r3)) * (31 : Int32)) + (lowf r4)) * (-1919380984 : Int32))) at_470 rfl rfl
          replace W103 := W103.istore (pc' := 473) (L' := #[.val (.int p0), .val (.int p1), .val (.int p2), .val (.int p3), .val (.int p4), .val (.int r1), .val (.int r2), .val (.int r3), .val (.int r4), .val (.int (lowf r1)), .val (.int (lowf r2)), .val (.int (lowf r3)), .val (.int (lowf r4)), .val (.int (p0 &&& (7 : Int32))), .val (.ref a71), .val (.int ((((((((lowf r1) * (31 : Int32)) + (lowf r2)) * (31 : Int32)) + (lowf r3)) * (31 : Int32)) + (lowf r4)) * (-1919380984 : Int32))), .val (.int (923521 : Int32)), .val (.int (-1919380984 : Int32))]) at_471 rfl rfl
          obtain ⟨h104, a104, W104, E104, g104, ⟨A104, D104, U104⟩, sf104, SF104⟩ := W103.new (pc' := 476) (cells' := 2) (slots' := 36) at_473 (tw9 hw) (tw10 hw) (tw11 hw) rfl rfl rfl (by decide) (by decide)
          clear W103
          rw [← g104] at A104 D104 U104
          have z104 : h103.size ≤ h104.size := E104.1
          replace W104 := W104.dup (pc' := 477) at_476 rfl rfl
          replace W104 := W104.aload (pc' := 479) at_477 rfl rfl rfl
          have v105 := (v103.ext E104)
          have v106 : Arv Z h104 a71 k71 .char (Int32.ofNat 32) (lst 32 (gl [r1, r2, r3, r4, r1, r2, r3, r4, r1, r2, r3, r4, r1, r2, r3, r4, r1, r2, r3, r4, r1, r2, r3, r4, r1, r2, r3, r4, r1, r2, r3, r4])) (.int (0 : Int32)) := v105
          have hg106 : ∀ i, i < 32 → NCh (gl [r1, r2, r3, r4, r1, r2, r3, r4, r1, r2, r3, r4, r1, r2, r3, r4, r1, r2, r3, r4, r1, r2, r3, r4, r1, r2, r3, r4, r1, r2, r3, r4] i) := own_gl (own_allS q1_2 (own_allS q2_2 (own_allS q3_2 (own_allS q4_2 (own_allS q1_2 (own_allS q2_2 (own_allS q3_2 (own_allS q4_2 (own_allS q1_2 (own_allS q2_2 (own_allS q3_2 (own_allS q4_2 (own_allS q1_2 (own_allS q2_2 (own_allS q3_2 (own_allS q4_2 (own_allS q1_2 (own_allS q2_2 (own_allS q3_2 (own_allS q4_2 (own_allS q1_2 (own_allS q2_2 (own_allS q3_2 (own_allS q4_2 (own_allS q1_2 (own_allS q2_2 (own_allS q3_2 (own_allS q4_2 (own_allS q1_2 (own_allS q2_2 (own_allS q3_2 (own_allS q4_2 own_all0))))))))))))))))))))))))))))))))
          obtain ⟨V107, h107, r107, W107, K107, hQ107, SF107⟩ := W104.callI (pc' := 482) (argsL := [(.ref a71)]) (rest := [(.ref a104)]) (Wd := 1) (cells' := 3) (slots' := 68) (a := a104) (y := (⟨"java/lang/String", "<init>", "([C)V"⟩ : MethodName)) at_479 (new1 l Z a0 n0 hw hEL G1 O1 P1 G3 O3 rG3 a104 a71 k71 32 (gl [r1, r2, r3, r4, r1, r2, r3, r4, r1, r2, r3, r4, r1, r2, r3, r4, r1, r2, r3, r4, r1, r2, r3, r4, r1, r2, r3, r4, r1, r2, r3, r4]) h104 W104.old A104 (D104 (Or.inr (tw37 hw)) (ty := (.array .byte)) (by decide) : Fld Z h104 a104 "java/lang/String" "value" "[B" .null) (D104 (Or.inr (tw35 hw)) (ty := .byte) (by decide) : Fld Z h104 a104 "java/lang/String" "coder" "B" (.int (0 : Int32))) v106 (by omega) (by omega) hg106 (Nat.le_trans W104.1.2.2.2.2.2.2.2.1 (Nat.le_trans (Nat.le_trans (Nat.le_trans (Nat.le_trans (Nat.le_trans (Nat.le_trans (Nat.le_trans (Nat.le_trans (Nat.le_trans (Nat.le_trans (Nat.le_trans (Nat.le_trans (Nat.le_trans (Nat.le_trans (Nat.le_trans (Nat.le_trans (Nat.le_trans (Nat.le_trans (Nat.le_trans (Nat.le_trans (Nat.le_trans (Nat.le_trans (Nat.le_trans (Nat.le_trans (Nat.le_trans (Nat.le_trans (Nat.le_trans (Nat.le_trans (Nat.le_trans (Nat.le_trans (Nat.le_trans (Nat.le_trans (Nat.le_trans z71 z72) z73) z74) z75) z76) z77) z78) z79) z80) z81) z82) z83) z84) z85) z86) z87) z88) z89) z90) z91) z92) z93) z94) z95) z96) z97) z98) z99) z100) z101) z102) z103) (Nat.le_of_eq g104.symm)))) rfl (tw12 hw) (tw13 hw) (tw11 hw) (tw14 hw) (by decide) (lenOf pd15 rfl) rfl rfl (by decide) (by decide) rfl (sfS safe0 sf0) (allS (Or.inr (Nat.le_trans (Nat.le_trans (Nat.le_trans (Nat.le_trans (Nat.le_trans (Nat.le_trans (Nat.le_trans (Nat.le_trans (Nat.le_trans (Nat.le_trans (Nat.le_trans (Nat.le_trans (Nat.le_trans (Nat.le_trans (Nat.le_trans (Nat.le_trans (Nat.le_trans (Nat.le_trans (Nat.le_trans (Nat.le_trans (Nat.le_trans (Nat.le_trans (Nat.le_trans (Nat.le_trans (Nat.le_trans (Nat.le_trans (Nat.le_trans (Nat.le_trans (Nat.le_trans (Nat.le_trans (Nat.le_trans (Nat.le_trans (Nat.le_trans z71 z72) z73) z74) z75) z76) z77) z78) z79) z80) z81) z82) z83) z84) z85) z86) z87) z88) z89) z90) z91) z92) z93) z94) z95) z96) z97) z98) z99) z100) z101) z102) z103) (Nat.le_of_eq g104.symm))) all0) rfl rfl rfl (by decide) (by decide)
          clear W104
          obtain ⟨ba107, kb107, rfl, q107_1, q107_2, q107_3, q107_4⟩ := hQ107
          have z107 : h104.size ≤ h107.size := K107.1
          replace W107 := W107.cast (st' := [(.ref a104)]) rfl
          replace W107 := W107.astore (pc' := 484) (L' := #[.val (.int p0), .val (.int p1), .val (.int p2), .val (.int p3), .val (.int p4), .val (.int r1), .val (.int r2), .val (.int r3), .val (.int r4), .val (.int (lowf r1)), .val (.int (lowf r2)), .val (.int (lowf r3)), .val (.int (lowf r4)), .val (.int (p0 &&& (7 : Int32))), .val (.ref a71), .val (.int ((((((((lowf r1) * (31 : Int32)) + (lowf r2)) * (31 : Int32)) + (lowf r3)) * (31 : Int32)) + (lowf r4)) * (-1919380984 : Int32))), .val (.ref a104), .val (.int (-1919380984 : Int32))]) at_482 rfl rfl rfl
          replace W107 := W107.aload (pc' := 486) at_484 rfl rfl rfl
          obtain ⟨V108, h108, r108, W108, K108, hQ108, SF108⟩ := W107.callS (pc' := 489) (argsL := [(.ref a104)]) (rest := []) (Wd := 0) (cells' := 6) (slots' := 90) (y := (⟨"com/example/letters_between_tasks/lettersbetweentasks/model/Name", "of", "(Ljava/lang/String;)Lcom/example/letters_between_tasks/lettersbetweentasks/model/Name;"⟩ : MethodName)) at_486 (of_c l Z a0 n0 hw hEL G1 O1 P1 G3 O3 rG3 a104 ba107 kb107 32 (gl [r1, r2, r3, r4, r1, r2, r3, r4, r1, r2, r3, r4, r1, r2, r3, r4, r1, r2, r3, r4, r1, r2, r3, r4, r1, r2, r3, r4, r1, r2, r3, r4]) h107 W107.old q107_1 q107_2 q107_3 q107_4 (by omega) (by omega) hg106) (tw38 hw) (tw39 hw) (tw40 hw) (tw41 hw) (by decide) (lenOf pd16 rfl) rfl rfl (by decide) (by decide) rfl sf0 all0 rfl rfl rfl (by decide) (by decide)
          clear W107
          obtain ⟨r108, rfl, q108_1, q108_2, q108_3, q108_4⟩ := hQ108
          have z108 : h107.size ≤ h108.size := K108.1
          replace W108 := W108.cast (st' := [(.ref r108)]) rfl
          replace W108 := W108.astore (pc' := 491) (L' := #[.val (.int p0), .val (.int p1), .val (.int p2), .val (.int p3), .val (.int p4), .val (.int r1), .val (.int r2), .val (.int r3), .val (.int r4), .val (.int (lowf r1)), .val (.int (lowf r2)), .val (.int (lowf r3)), .val (.int (lowf r4)), .val (.int (p0 &&& (7 : Int32))), .val (.ref a71), .val (.int ((((((((lowf r1) * (31 : Int32)) + (lowf r2)) * (31 : Int32)) + (lowf r3)) * (31 : Int32)) + (lowf r4)) * (-1919380984 : Int32))), .val (.ref a104), .val (.ref r108)]) at_489 rfl rfl rfl
          replace W108 := W108.aload (pc' := 493) at_491 rfl rfl rfl
          obtain ⟨V109, h109, r109, W109, K109, hQ109, SF109⟩ := W108.callV (pc' := 496) (argsL := []) (rest := []) (Wd := 0) (cells' := 6) (slots' := 90) (a := r108) (C := "com/example/letters_between_tasks/lettersbetweentasks/model/Name") (y := (⟨"com/example/letters_between_tasks/lettersbetweentasks/model/Name", "text", "()Ljava/lang/String;"⟩ : MethodName)) (z := (⟨"com/example/letters_between_tasks/lettersbetweentasks/model/Name", "text", "()Ljava/lang/String;"⟩ : MethodName)) at_493 (ntext l Z a0 n0 hw hEL G1 O1 P1 G3 O3 rG3 r108 a104 h108 W108.old q108_2) q108_1 (tw99 hw) (tw100 hw) (Or.inl (tw102 hw)) (tw102 hw) (tw101 hw) (tw40 hw) (tw103 hw) (by decide) (lenOf pd17 rfl) rfl rfl (by decide) (by decide) rfl sf0 all0 rfl rfl rfl (by decide) (by decide)
          clear W108
          obtain ⟨rfl, hs109⟩ := hQ109
          subst hs109
          replace W109 := W109.cast (st' := [(.ref a104)]) rfl
          replace W109 := W109.aload (pc' := 498) at_496 rfl rfl rfl
          have e111 := (q107_1.keep K108)
          obtain ⟨V110, h110, r110, W110, K110, hQ110, SF110⟩ := W109.callV (pc' := 501) (argsL := [(.ref a104)]) (rest := []) (Wd := 0) (cells' := 6) (slots' := 90) (a := a104) (C := "java/lang/String") (y := (⟨"java/lang/String", "equals", "(Ljava/lang/Object;)Z"⟩ : MethodName)) (z := (⟨"java/lang/String", "equals", "(Ljava/lang/Object;)Z"⟩ : MethodName)) at_498 (eq_self l Z a0 n0 hw hEL G1 O1 P1 G3 O3 rG3 a104 h108 W109.old) e111 (tw104 hw) (tw105 hw) (Or.inl (tw107 hw)) (tw107 hw) (tw106 hw) (tw11 hw) (tw108 hw) (by decide) (lenOf pd18 rfl) rfl rfl (by decide) (by decide) rfl sf0 all0 rfl rfl rfl (by decide) (by decide)
          clear W109
          obtain ⟨rfl, hs110⟩ := hQ110
          subst hs110
          replace W110 := W110.cast (st' := [(.int (1 : Int32))]) rfl
          replace W110 := W110.ifF (pc' := 504) at_501 (feq (by decide : ¬ ((1 : Int32) = (0 : Int32)))).1 rfl
          replace W110 := W110.aload (pc' := 506) at_504 rfl rfl rfl
          obtain ⟨V112, h112, r112, W112, K112, hQ112, SF112⟩ := W110.callV (pc' := 509) (argsL := []) (rest := []) (Wd := 0) (cells' := 6) (slots' := 90) (a := r108) (C := "com/example/letters_between_tasks/lettersbetweentasks/model/Name") (y := (⟨"com/example/letters_between_tasks/lettersbetweentasks/model/Name", "toString", "()Ljava/lang/String;"⟩ : MethodName)) (z := (⟨"com/example/letters_between_tasks/lettersbetweentasks/model/Name", "toString", "()Ljava/lang/String;"⟩ : MethodName)) at_506 (nstr l Z a0 n0 hw hEL G1 O1 P1 G3 O3 rG3 r108 a104 h108 W110.old q108_2) q108_1 (tw109 hw) (tw110 hw) (Or.inl (tw112 hw)) (tw112 hw) (tw111 hw) (tw40 hw) (tw113 hw) (by decide) (lenOf pd17 rfl) rfl rfl (by decide) (by decide) rfl sf0 all0 rfl rfl rfl (by decide) (by decide)
          clear W110
          obtain ⟨rfl, hs112⟩ := hQ112
          subst hs112
          replace W112 := W112.cast (st' := [(.ref a104)]) rfl
          replace W112 := W112.aload (pc' := 511) at_509 rfl rfl rfl
          obtain ⟨V113, h113, r113, W113, K113, hQ113, SF113⟩ := W112.callV (pc' := 514) (argsL := [(.ref a104)]) (rest := []) (Wd := 0) (cells' := 6) (slots' := 90) (a := a104) (C := "java/lang/String") (y := (⟨"java/lang/String", "equals", "(Ljava/lang/Object;)Z"⟩ : MethodName)) (z := (⟨"java/lang/String", "equals", "(Ljava/lang/Object;)Z"⟩ : MethodName)) at_511 (eq_self l Z a0 n0 hw hEL G1 O1 P1 G3 O3 rG3 a104 h108 W112.old) e111 (tw104 hw) (tw105 hw) (Or.inl (tw107 hw)) (tw107 hw) (tw106 hw) (tw11 hw) (tw108 hw) (by decide) (lenOf pd18 rfl) rfl rfl (by decide) (by decide) rfl sf0 all0 rfl rfl rfl (by decide) (by decide)
          clear W112
          obtain ⟨rfl, hs113⟩ := hQ113
          subst hs113
          replace W113 := W113.cast (st' := [(.int (1 : Int32))]) rfl
          replace W113 := W113.ifF (pc' := 517) at_514 (feq (by decide : ¬ ((1 : Int32) = (0 : Int32)))).1 rfl
          replace W113 := W113.aload (pc' := 519) at_517 rfl rfl rfl
          obtain ⟨V114, h114, r114, W114, K114, hQ114, SF114⟩ := W113.callV (pc' := 522) (argsL := []) (rest := []) (Wd := 0) (cells' := 6) (slots' := 90) (a := r108) (C := "com/example/letters_between_tasks/lettersbetweentasks/model/Name") (y := (⟨"com/example/letters_between_tasks/lettersbetweentasks/model/Name", "hashCode", "()I"⟩ : MethodName)) (z := (⟨"com/example/letters_between_tasks/lettersbetweentasks/model/Name", "hashCode", "()I"⟩ : MethodName)) at_519 (nhash l Z a0 n0 hw hEL G1 O1 P1 G3 O3 rG3 r108 (hf (gl [r1, r2, r3, r4, r1, r2, r3, r4, r1, r2, r3, r4, r1, r2, r3, r4, r1, r2, r3, r4, r1, r2, r3, r4, r1, r2, r3, r4, r1, r2, r3, r4]) 32) h108 W113.old q108_3) q108_1 (tw114 hw) (tw115 hw) (Or.inl (tw117 hw)) (tw117 hw) (tw116 hw) (tw40 hw) (tw118 hw) (by decide) (lenOf pd9 rfl) rfl rfl (by decide) (by decide) rfl sf0 all0 rfl rfl rfl (by decide) (by decide)
          clear W113
          obtain ⟨rfl, hs114⟩ := hQ114
          subst hs114
          replace W114 := W114.cast (st' := [(.int (hf (gl [r1, r2, r3, r4, r1, r2, r3, r4, r1, r2, r3, r4, r1, r2, r3, r4, r1, r2, r3, r4, r1, r2, r3, r4, r1, r2, r3, r4, r1, r2, r3, r4]) 32))]) rfl
          replace W114 := W114.iload (pc' := 524) at_522 rfl rfl
          replace W114 := W114.icmpF (pc' := 527) at_524 (teq (own_h32 r1 r2 r3 r4)).2 rfl
          replace W114 := W114.iconst (pc' := 528) (v := (1 : Int32)) at_527 rfl rfl
          replace W114 := W114.goto (pc' := 532) at_528 (by decide) (by decide)
          exact W114.iret (t := .boolean) at_532 rfl (by simp) (by decide) (by decide) (by decide) (fun V' cv => rfl)
set_option maxRecDepth 65536 in
set_option maxHeartbeats 40000000 in
theorem comes_1 {Post : Tables → Env → Array Value → State → Outcome → State → Prop} (hpost : ∀ tb e args s v u, (limb_1_1.after args s (.returned v) u = true ∧ limb_1_2.after args s (.returned v) u = true ∧ True) → FramedW s (.returned v) u (Jvm.fieldLocs frame_1_writes args s ++ Jvm.arrayLocs frame_1_arrays args s ++ Jvm.staticLocs frame_1_statics s) 24 1280 → Post tb e args s (.returned v) u) :
    ArmFor flags0 classFile x code maxLocals ret World_1 tables_1 room_1 Calls_1 rest_1 Pre_1 Post := by
  intro l hfl _ _ p e ha hc hk s m args below hf hA hF happ hP
  obtain ⟨hcalls, hrest, hpre⟩ := hP
  obtain ⟨-, -, -, hnamed, -, -, -, hat⟩ := (Spec.applies_iff hf).mp happ
  obtain ⟨hg, hn⟩ := and_e (Cond.before_iff.mp (show (Jvm.Cond.and given_1 narrow_1).before args s = true from hpre))
  obtain ⟨hcount, hr0⟩ := and_e hg
  obtain ⟨ha0, hr1⟩ := and_e hr0
  obtain ⟨ha1, hr2⟩ := and_e hr1
  obtain ⟨ha2, hr3⟩ := and_e hr2
  obtain ⟨ha3, hr4⟩ := and_e hr3
  have ha4 := hr4
  obtain ⟨w0, w1, w2, w3, w4, rfl⟩ : ∃ w0 w1 w2 w3 w4 : Value, args = #[w0, w1, w2, w3, w4] := by
    have hs : args.size = 5 := by simpa [Cond.value, given_1] using hcount
    obtain ⟨L⟩ := args
    match L, hs with
    | [w0, w1, w2, w3, w4], _ => exact ⟨w0, w1, w2, w3, w4, rfl⟩
  have hw := fun d (hd : d ∈ tables_1) => atoms_spec (ws := Jvm.Cond.code x code maxLocals ret :: tables_1) hat d (List.mem_cons_of_mem _ hd)
  obtain ⟨hsets, hown0⟩ := atoms_of _ (rest_1_c_eq ▸ (show rest_1_c.before _ s = true from hrest))
  obtain ⟨i0, ei0⟩ := is_v ha0
  obtain rfl : w0 = (.int i0) := Option.some.inj ei0
  obtain ⟨i1, ei1⟩ := is_v ha1
  obtain rfl : w1 = (.int i1) := Option.some.inj ei1
  obtain ⟨i2, ei2⟩ := is_v ha2
  obtain rfl : w2 = (.int i2) := Option.some.inj ei2
  obtain ⟨i3, ei3⟩ := is_v ha3
  obtain rfl : w3 = (.int i3) := Option.some.inj ei3
  obtain ⟨i4, ei4⟩ := is_v ha4
  obtain rfl : w4 = (.int i4) := Option.some.inj ei4
  have n5 := not_v (Cond.before_iff.mp (hsets _ (List.mem_of_getElem? (i := 2) rfl)))
  obtain ⟨i11, e10⟩ := is_v (Cond.before_iff.mp (hsets _ (List.mem_of_getElem? (i := 1) rfl)))
  have S12 : Sta s s.heap "java/lang/String" "COMPACT_STRINGS" "Z" (.int i11) := Sta.start e10 (Or.inl (hsets _ (List.mem_of_getElem? (i := 0) rfl)))
  have c17 : ¬ (i11 = (0 : Int32)) := gotF (Cond.eq_ints e10 (Term.int_eval (0))) n5
  obtain ⟨G3, eG3, rG3⟩ := isR_v (Cond.before_iff.mp (hsets _ (List.mem_of_getElem? (i := 8) rfl)))
  have SG3 : Sta s s.heap "jdk/internal/util/Preconditions" "SIOOBE_FORMATTER" "Ljava/util/function/BiFunction;" G3 := Sta.start eG3 (Or.inl (hsets _ (List.mem_of_getElem? (i := 7) rfl)))
  have hCH : CHv s [] s.vm s.heap := fun _ hp => by cases hp
  obtain ⟨n, o, h1, h2, h3, v, L, rfl, ⟨N, -, rfl⟩, -, r1, r2, r3, r4⟩ := law_c l s _ s.heap.size hw EW.nil i11 S12 c17 G3 SG3 rG3 i0 i1 i2 i3 i4 s.heap (Old.start s) tables_1 p e ha hc hk s m _ below hf ((Spec.applies_iff_loose hf).mp happ).1 ⟨rfl, State.Warmed39.refl s, rfl, hCH, sf0⟩ trivial
  exact ⟨n, _, h1, h2, h3, hpost _ _ _ _ _ _ ⟨Cond.after_iff.mpr rfl, Cond.after_iff.mpr (eq_i res_at (Term.int_eval (1)) rfl), trivial⟩ ⟨r1, r2, r3, (r4.sift fun y hy => Or.inr (N y hy)).mono (by decide) (by decide)⟩⟩
theorem main_1_1 : Claimed_1_1 := comes_1 fun _ _ _ _ _ _ h hF => ⟨h.1, hF⟩
theorem main_1_2 : Claimed_1_2 := comes_1 fun _ _ _ _ _ _ h hF => ⟨h.2.1, hF⟩
end Jvm.Pilot.@@N@@
namespace Jvm.Pilot.@@N@@
open Jvm Jvm.ClassFile Sem Op Lib Jvm.Free Jvm.Stand Jvm.Pilot.@@N@@.Jvm.D
/-! MADE BY PROGRAM (witnessworld.py) out of the Statement's table words and the real class files: 21 classes; the members and pool entries that the words name. The judged class is class 1, her method 3. -/
namespace start1
open Jvm.ClassFile
def u (s : String) : CpInfo := .utf8 (stringToUtf16 s)
/-- a pool by its gaps: so many unusable entries, then the entry; so many at the end -/
def gap : Nat → List CpInfo → List CpInfo
  | 0, r => r
  | n + 1, r => .unusable :: gap n r
def poolList (es : List (Nat × CpInfo)) (last : Nat) : List CpInfo := es.foldr (fun e r => gap e.1 (e.2 :: r)) (gap last [])
def pool (es : List (Nat × CpInfo)) (last : Nat) : Array CpInfo := ⟨poolList es last⟩
def fileOf (pool : Array CpInfo) (this : Nat) (attrs : Array Attribute := #[]) (ms : Array MethodInfo := #[]) (fl : Nat := 33) (sup : Nat := 0) (ifs : Array Nat := #[]) (fds : Array FieldInfo := #[]) : ClassFile where
  minorVersion := 0
  majorVersion := 65
  constantPool := pool
  accessFlags := fl
  thisClass := this
  superClass := sup
  interfaces := ifs
  fields := fds
  methods := ms
  attributes := attrs
def plain (name : String) (sup : Option ClassId) : Class where
  name := name
  kind := .ordinary
  loader := none
  accessFlags := 33
  super := sup
  interfaces := #[]
  cf := none
  fields := #[]
  methods := #[]
  instanceTypes := #[]
  staticTypes := #[]
  resolved := #[]
  callSites := []
  init := .initialized
  statics := none
  mirror := none

def pool0 : Array CpInfo := pool [(5, u "<init>"), (0, u "()V"), (1, .class_ 10), (1, u "java/lang/Object")] 113

def k0c0 : Code := { maxStack := 0, maxLocals := 1, code := object_method_1_code, exceptionTable := #[], attributes := #[] }
def k0m0 : Method := { name := "<init>", desc := "()V", sig := { parameters := [], returnType := none }, accessFlags := 1, code := some k0c0 }
/-- java/lang/Object -/
def k0 : Class := { plain "java/lang/Object" none with
  accessFlags := 33
  interfaces := #[]
  cf := some (fileOf pool0 8 #[] #[{ accessFlags := 1, nameIndex := 5, descriptorIndex := 6, attributes := #[] }] 33 0 #[] #[])
  fields := #[]
  methods := #[k0m0]
  instanceTypes := #[]
  staticTypes := #[]
  resolved := Array.replicate 124 none
  statics := none }

def pool1 : Array CpInfo := pool [(2, .class_ 4), (1, u "java/lang/Object"), (0, u "<init>"), (0, u "()V"), (0, .integer 2147483647), (0, .methodref 9 10), (0, .class_ 11), (0, .nameAndType 12 13), (0, u "com/example/letters_between_tasks/lettersbetweentasks/model/NameOfPinLaw"), (0, u "pick"), (0, u "(I)C"), (0, .methodref 9 15), (0, .nameAndType 16 17), (0, u "low"), (0, u "(C)I"), (0, .integer 923521), (0, .class_ 20), (0, u "java/lang/String"), (0, .methodref 19 22), (0, .nameAndType 5 23), (0, u "([C)V"), (0, .methodref 25 26), (0, .class_ 27), (0, .nameAndType 28 29), (0, u "com/example/letters_between_tasks/lettersbetweentasks/model/Name"), (0, u "of"), (0, u "(Ljava/lang/String;)Lcom/example/letters_between_tasks/lettersbetweentasks/model/Name;"), (0, .methodref 25 31), (0, .nameAndType 32 33), (0, u "text"), (0, u "()Ljava/lang/String;"), (0, .methodref 19 35), (0, .nameAndType 36 37), (0, u "equals"), (0, u "(Ljava/lang/Object;)Z"), (0, .methodref 25 39), (0, .nameAndType 40 33), (0, u "toString"), (0, .methodref 25 42), (0, .nameAndType 43 44), (0, u "hashCode"), (0, u "()I"), (3, u "law"), (0, u "(IIIII)Z")] 4

def k1m0 : Method := { name := "<init>", desc := "()V", sig := { parameters := [], returnType := none }, accessFlags := 2, code := none }
def k1c1 : Code := { maxStack := 3, maxLocals := 2, code := method_2_code, exceptionTable := #[], attributes := #[] }
def k1m1 : Method := { name := "pick", desc := "(I)C", sig := { parameters := [.int], returnType := some .char }, accessFlags := 10, code := some k1c1 }
def k1c2 : Code := { maxStack := 2, maxLocals := 1, code := method_3_code, exceptionTable := #[], attributes := #[] }
def k1m2 : Method := { name := "low", desc := "(C)I", sig := { parameters := [.char], returnType := some .int }, accessFlags := 10, code := some k1c2 }
def k1c3 : Code := { maxStack := 14, maxLocals := 18, code := code, exceptionTable := #[], attributes := #[] }
def k1m3 : Method := { name := "law", desc := "(IIIII)Z", sig := { parameters := [.int, .int, .int, .int, .int], returnType := some .boolean }, accessFlags := 9, code := some k1c3 }
/-- com/example/letters_between_tasks/lettersbetweentasks/model/NameOfPinLaw -/
def k1 : Class := { plain "com/example/letters_between_tasks/lettersbetweentasks/model/NameOfPinLaw" (some 0) with
  accessFlags := 49
  interfaces := #[]
  cf := some (fileOf pool1 9 #[] #[{ accessFlags := 2, nameIndex := 5, descriptorIndex := 6, attributes := #[] }, { accessFlags := 10, nameIndex := 12, descriptorIndex := 13, attributes := #[] }, { accessFlags := 10, nameIndex := 16, descriptorIndex := 17, attributes := #[] }, { accessFlags := 9, nameIndex := 48, descriptorIndex := 49, attributes := #[] }] 49 2 #[] #[])
  fields := #[]
  methods := #[k1m0, k1m1, k1m2, k1m3]
  instanceTypes := #[]
  staticTypes := #[]
  resolved := Array.replicate 54 none
  statics := none }

def pool2 : Array CpInfo := pool [(1, .class_ 2), (0, u "java/io/Serializable"), (0, .class_ 4), (0, u "java/lang/Object")] 2

/-- java/io/Serializable -/
def k2 : Class := { plain "java/io/Serializable" (some 0) with
  accessFlags := 1537
  interfaces := #[]
  cf := some (fileOf pool2 1 #[] #[] 1537 3 #[] #[])
  fields := #[]
  methods := #[]
  instanceTypes := #[]
  staticTypes := #[]
  resolved := Array.replicate 7 none
  statics := none }

def pool3 : Array CpInfo := pool [(1, .class_ 2), (0, u "java/lang/Comparable"), (0, .class_ 4), (0, u "java/lang/Object")] 7

/-- java/lang/Comparable -/
def k3 : Class := { plain "java/lang/Comparable" (some 0) with
  accessFlags := 1537
  interfaces := #[]
  cf := some (fileOf pool3 1 #[] #[] 1537 3 #[] #[])
  fields := #[]
  methods := #[]
  instanceTypes := #[]
  staticTypes := #[]
  resolved := Array.replicate 12 none
  statics := none }

def pool4 : Array CpInfo := pool [(2, .class_ 4), (1, u "java/lang/CharSequence"), (42, .class_ 48), (0, u "java/lang/CharSequence$1CodePointIterator"), (10, .class_ 60), (0, u "java/lang/CharSequence$1CharIterator"), (5, .class_ 67), (0, u "java/lang/Object")] 63

/-- java/lang/CharSequence -/
def k4 : Class := { plain "java/lang/CharSequence" (some 0) with
  accessFlags := 1537
  interfaces := #[]
  cf := some (fileOf pool4 2 #[.nestMembers #[47, 59]] #[] 1537 66 #[] #[])
  fields := #[]
  methods := #[]
  instanceTypes := #[]
  staticTypes := #[]
  resolved := Array.replicate 131 none
  statics := none }

def pool5 : Array CpInfo := pool [(1, .class_ 2), (0, u "java/lang/constant/Constable"), (0, .class_ 4), (0, u "java/lang/Object")] 6

/-- java/lang/constant/Constable -/
def k5 : Class := { plain "java/lang/constant/Constable" (some 0) with
  accessFlags := 1537
  interfaces := #[]
  cf := some (fileOf pool5 1 #[] #[] 1537 3 #[] #[])
  fields := #[]
  methods := #[]
  instanceTypes := #[]
  staticTypes := #[]
  resolved := Array.replicate 11 none
  statics := none }

def pool6 : Array CpInfo := pool [(1, .class_ 2), (0, u "java/lang/constant/ConstantDesc"), (0, .class_ 4), (0, u "java/lang/Object")] 32

/-- java/lang/constant/ConstantDesc -/
def k6 : Class := { plain "java/lang/constant/ConstantDesc" (some 0) with
  accessFlags := 1537
  interfaces := #[]
  cf := some (fileOf pool6 1 #[] #[] 1537 3 #[] #[])
  fields := #[]
  methods := #[]
  instanceTypes := #[]
  staticTypes := #[]
  resolved := Array.replicate 37 none
  statics := none }

def pool7 : Array CpInfo := pool [(1, .methodref 2 3), (0, .class_ 4), (0, .nameAndType 5 6), (0, u "java/lang/Object"), (0, u "<init>"), (0, u "()V"), (2, .fieldref 10 11), (0, .class_ 12), (0, .nameAndType 13 14), (0, u "java/lang/String"), (0, u "value"), (0, u "[B"), (0, .fieldref 10 16), (0, .nameAndType 17 18), (0, u "coder"), (0, u "B"), (2, u "hash"), (0, u "I"), (2, u "hashIsZero"), (0, u "Z"), (0, .methodref 10 28), (0, .nameAndType 5 29), (0, u "([CIILjava/lang/Void;)V"), (8, .fieldref 10 39), (0, .nameAndType 40 26), (0, u "COMPACT_STRINGS"), (1, .class_ 44), (1, u "java/lang/StringUTF16"), (0, u "compress"), (1, .methodref 42 48), (0, .nameAndType 49 50), (0, u "coderFromArrayLen"), (0, u "([BI)B"), (56, .class_ 109), (1, u "java/lang/StringLatin1"), (32, u "()Z"), (34, .methodref 42 178), (0, .nameAndType 45 179), (0, u "([CII)[B"), (154, u "()I"), (0, .methodref 10 336), (0, .nameAndType 17 337), (0, u "()B"), (25, u "([BI)C"), (27, u "(II)V"), (35, u "(I)C"), (64, .methodref 10 493), (0, .nameAndType 494 142), (0, u "isLatin1"), (0, .methodref 107 496), (0, .nameAndType 497 363), (0, u "charAt"), (3, u "checkIndex"), (5, u "length"), (35, u "equals"), (29, u "(Ljava/lang/Object;)Z"), (1, .class_ 576), (0, u "java/lang/CharSequence"), (22, u "CASE_INSENSITIVE_ORDER"), (0, u "Ljava/util/Comparator;"), (91, u "isEmpty"), (317, u "([C)V"), (42, .fieldref 1054 1055), (0, .class_ 1056), (0, .nameAndType 1057 1058), (0, u "jdk/internal/util/Preconditions"), (0, u "SIOOBE_FORMATTER"), (0, u "Ljava/util/function/BiFunction;"), (0, .methodref 1054 1060), (0, .nameAndType 501 1061), (0, u "(IILjava/util/function/BiFunction;)I"), (39, u "serialPersistentFields"), (0, u "[Ljava/io/ObjectStreamField;"), (0, .class_ 1104), (0, u "java/lang/String$CaseInsensitiveComparator"), (1, .class_ 1107), (0, u "java/io/Serializable"), (0, .class_ 1109), (0, u "java/lang/Comparable"), (0, .class_ 1111), (0, u "java/lang/constant/Constable"), (0, .class_ 1113), (0, u "java/lang/constant/ConstantDesc"), (2, u "serialVersionUID"), (0, u "J"), (3, u "REPL"), (0, u "C"), (2, u "LATIN1"), (1, u "UTF16")] 323

def k7m0 : Method := { name := "<init>", desc := "()V", sig := { parameters := [], returnType := none }, accessFlags := 1, code := none }
def k7c1 : Code := { maxStack := 5, maxLocals := 2, code := jdk_42_method_3_code, exceptionTable := #[], attributes := #[] }
def k7m1 : Method := { name := "<init>", desc := "([C)V", sig := { parameters := [(.array .char)], returnType := none }, accessFlags := 1, code := some k7c1 }
def k7c2 : Code := { maxStack := 2, maxLocals := 1, code := jdk_42_method_54_code, exceptionTable := #[], attributes := #[] }
def k7m2 : Method := { name := "length", desc := "()I", sig := { parameters := [], returnType := some .int }, accessFlags := 1, code := some k7c2 }
def k7c3 : Code := { maxStack := 1, maxLocals := 1, code := jdk_42_method_55_code, exceptionTable := #[], attributes := #[] }
def k7m3 : Method := { name := "isEmpty", desc := "()Z", sig := { parameters := [], returnType := some .boolean }, accessFlags := 1, code := some k7c3 }
def k7c4 : Code := { maxStack := 2, maxLocals := 2, code := jdk_42_method_56_code, exceptionTable := #[], attributes := #[] }
def k7m4 : Method := { name := "charAt", desc := "(I)C", sig := { parameters := [.int], returnType := some .char }, accessFlags := 1, code := some k7c4 }
def k7c5 : Code := { maxStack := 2, maxLocals := 3, code := jdk_42_method_66_code, exceptionTable := #[], attributes := #[] }
def k7m5 : Method := { name := "equals", desc := "(Ljava/lang/Object;)Z", sig := { parameters := [(.object "java/lang/Object")], returnType := some .boolean }, accessFlags := 1, code := some k7c5 }
def k7c6 : Code := { maxStack := 4, maxLocals := 6, code := jdk_42_method_149_code, exceptionTable := #[], attributes := #[] }
def k7m6 : Method := { name := "<init>", desc := "([CIILjava/lang/Void;)V", sig := { parameters := [(.array .char), .int, .int, (.object "java/lang/Void")], returnType := none }, accessFlags := 2, code := some k7c6 }
def k7c7 : Code := { maxStack := 1, maxLocals := 1, code := jdk_42_method_152_code, exceptionTable := #[], attributes := #[] }
def k7m7 : Method := { name := "coder", desc := "()B", sig := { parameters := [], returnType := some .byte }, accessFlags := 0, code := some k7c7 }
def k7c8 : Code := { maxStack := 1, maxLocals := 1, code := jdk_42_method_154_code, exceptionTable := #[], attributes := #[] }
def k7m8 : Method := { name := "isLatin1", desc := "()Z", sig := { parameters := [], returnType := some .boolean }, accessFlags := 0, code := some k7c8 }
def k7c9 : Code := { maxStack := 3, maxLocals := 2, code := jdk_42_method_155_code, exceptionTable := #[], attributes := #[] }
def k7m9 : Method := { name := "checkIndex", desc := "(II)V", sig := { parameters := [.int, .int], returnType := none }, accessFlags := 8, code := some k7c9 }
/-- java/lang/String -/
def k7 : Class := { plain "java/lang/String" (some 0) with
  accessFlags := 49
  interfaces := #[2, 3, 4, 5, 6]
  cf := some (fileOf pool7 10 #[.nestMembers #[1103]] #[{ accessFlags := 1, nameIndex := 5, descriptorIndex := 6, attributes := #[] }, { accessFlags := 1, nameIndex := 5, descriptorIndex := 1010, attributes := #[] }, { accessFlags := 1, nameIndex := 507, descriptorIndex := 334, attributes := #[] }, { accessFlags := 1, nameIndex := 692, descriptorIndex := 142, attributes := #[] }, { accessFlags := 1, nameIndex := 497, descriptorIndex := 427, attributes := #[] }, { accessFlags := 1, nameIndex := 543, descriptorIndex := 573, attributes := #[] }, { accessFlags := 2, nameIndex := 5, descriptorIndex := 29, attributes := #[] }, { accessFlags := 0, nameIndex := 17, descriptorIndex := 337, attributes := #[] }, { accessFlags := 0, nameIndex := 494, descriptorIndex := 142, attributes := #[] }, { accessFlags := 8, nameIndex := 501, descriptorIndex := 391, attributes := #[] }] 49 2 #[1106, 1108, 575, 1110, 1112] #[{ accessFlags := 18, nameIndex := 13, descriptorIndex := 14, attributes := #[] }, { accessFlags := 18, nameIndex := 17, descriptorIndex := 18, attributes := #[] }, { accessFlags := 2, nameIndex := 21, descriptorIndex := 22, attributes := #[] }, { accessFlags := 2, nameIndex := 25, descriptorIndex := 26, attributes := #[] }, { accessFlags := 26, nameIndex := 1116, descriptorIndex := 1117, attributes := #[] }, { accessFlags := 24, nameIndex := 40, descriptorIndex := 26, attributes := #[] }, { accessFlags := 26, nameIndex := 1101, descriptorIndex := 1102, attributes := #[] }, { accessFlags := 26, nameIndex := 1121, descriptorIndex := 1122, attributes := #[] }, { accessFlags := 25, nameIndex := 599, descriptorIndex := 600, attributes := #[] }, { accessFlags := 24, nameIndex := 1125, descriptorIndex := 18, attributes := #[] }, { accessFlags := 24, nameIndex := 1127, descriptorIndex := 18, attributes := #[] }])
  fields := #[{ name := "value", type := (.array .byte), accessFlags := 18, slot := 0, constantValue := 0 }, { name := "coder", type := .byte, accessFlags := 18, slot := 1, constantValue := 0 }, { name := "hash", type := .int, accessFlags := 2, slot := 2, constantValue := 0 }, { name := "hashIsZero", type := .boolean, accessFlags := 2, slot := 3, constantValue := 0 }, { name := "serialVersionUID", type := .long, accessFlags := 26, slot := 0, constantValue := 0 }, { name := "COMPACT_STRINGS", type := .boolean, accessFlags := 24, slot := 1, constantValue := 0 }, { name := "serialPersistentFields", type := (.array (.object "java/io/ObjectStreamField")), accessFlags := 26, slot := 2, constantValue := 0 }, { name := "REPL", type := .char, accessFlags := 26, slot := 3, constantValue := 0 }, { name := "CASE_INSENSITIVE_ORDER", type := (.object "java/util/Comparator"), accessFlags := 25, slot := 4, constantValue := 0 }, { name := "LATIN1", type := .byte, accessFlags := 24, slot := 5, constantValue := 0 }, { name := "UTF16", type := .byte, accessFlags := 24, slot := 6, constantValue := 0 }]
  methods := #[k7m0, k7m1, k7m2, k7m3, k7m4, k7m5, k7m6, k7m7, k7m8, k7m9]
  instanceTypes := #[(.array .byte), .byte, .int, .boolean]
  staticTypes := #[.long, .boolean, (.array (.object "java/io/ObjectStreamField")), .char, (.object "java/util/Comparator"), .byte, .byte]
  resolved := Array.replicate 1451 none
  statics := some 0 }

def pool8 : Array CpInfo := pool [(6, .class_ 8), (1, u "java/lang/Object"), (0, u "<init>"), (0, u "()V"), (1, .class_ 14), (1, u "java/lang/StringUTF16"), (31, u "$assertionsDisabled"), (0, u "Z"), (13, u "HI_BYTE_SHIFT"), (0, u "I"), (2, u "LO_BYTE_SHIFT"), (49, .methodref 12 116), (0, .nameAndType 117 118), (0, u "compress"), (0, u "([CI[BII)I"), (3, u "([CII)[B"), (138, u "coderFromArrayLen"), (0, u "([BI)B"), (106, .class_ 371), (1, u "java/lang/StringUTF16$LinesSpliterator"), (58, u "MAX_LENGTH"), (196, .class_ 628), (0, u "java/lang/StringUTF16$CodePointsSpliterator"), (0, .class_ 630), (0, u "java/lang/StringUTF16$CharsSpliterator")] 4

def k8m0 : Method := { name := "<init>", desc := "()V", sig := { parameters := [], returnType := none }, accessFlags := 0, code := none }
def k8c1 : Code := { maxStack := 2, maxLocals := 2, code := jdk_52_method_15_code, exceptionTable := #[], attributes := #[] }
def k8m1 : Method := { name := "coderFromArrayLen", desc := "([BI)B", sig := { parameters := [(.array .byte), .int], returnType := some .byte }, accessFlags := 8, code := some k8c1 }
def k8c2 : Code := { maxStack := 5, maxLocals := 6, code := jdk_52_method_16_code, exceptionTable := #[], attributes := #[] }
def k8m2 : Method := { name := "compress", desc := "([CII)[B", sig := { parameters := [(.array .char), .int, .int], returnType := some (.array .byte) }, accessFlags := 9, code := some k8c2 }
def k8c3 : Code := { maxStack := 3, maxLocals := 7, code := jdk_52_method_21_code, exceptionTable := #[], attributes := #[] }
def k8m3 : Method := { name := "compress", desc := "([CI[BII)I", sig := { parameters := [(.array .char), .int, (.array .byte), .int, .int], returnType := some .int }, accessFlags := 9, code := some k8c3 }
/-- java/lang/StringUTF16 -/
def k8 : Class := { plain "java/lang/StringUTF16" (some 0) with
  accessFlags := 48
  interfaces := #[]
  cf := some (fileOf pool8 12 #[.nestMembers #[627, 629, 369]] #[{ accessFlags := 0, nameIndex := 9, descriptorIndex := 10, attributes := #[] }, { accessFlags := 8, nameIndex := 261, descriptorIndex := 262, attributes := #[] }, { accessFlags := 9, nameIndex := 117, descriptorIndex := 122, attributes := #[] }, { accessFlags := 9, nameIndex := 117, descriptorIndex := 118, attributes := #[] }] 48 6 #[] #[{ accessFlags := 26, nameIndex := 61, descriptorIndex := 62, attributes := #[] }, { accessFlags := 26, nameIndex := 65, descriptorIndex := 62, attributes := #[] }, { accessFlags := 24, nameIndex := 430, descriptorIndex := 62, attributes := #[] }, { accessFlags := 4120, nameIndex := 46, descriptorIndex := 47, attributes := #[] }])
  fields := #[{ name := "HI_BYTE_SHIFT", type := .int, accessFlags := 26, slot := 0, constantValue := 0 }, { name := "LO_BYTE_SHIFT", type := .int, accessFlags := 26, slot := 1, constantValue := 0 }, { name := "MAX_LENGTH", type := .int, accessFlags := 24, slot := 2, constantValue := 0 }, { name := "$assertionsDisabled", type := .boolean, accessFlags := 4120, slot := 3, constantValue := 0 }]
  methods := #[k8m0, k8m1, k8m2, k8m3]
  instanceTypes := #[]
  staticTypes := #[.int, .int, .int, .boolean]
  resolved := Array.replicate 635 none
  statics := none }

def pool9 : Array CpInfo := pool [(1, .methodref 2 3), (0, .class_ 4), (0, .nameAndType 5 6), (0, u "java/lang/Object"), (0, u "<init>"), (0, u "()V"), (0, .fieldref 8 9), (0, .class_ 10), (0, .nameAndType 11 12), (0, u "com/example/letters_between_tasks/lettersbetweentasks/model/Name"), (0, u "text"), (0, u "Ljava/lang/String;"), (0, .fieldref 8 14), (0, .nameAndType 15 16), (0, u "hash"), (0, u "I"), (0, .string 11), (0, .methodref 19 20), (0, .class_ 21), (0, .nameAndType 22 23), (0, u "java/util/Objects"), (0, u "requireNonNull"), (0, u "(Ljava/lang/Object;Ljava/lang/String;)Ljava/lang/Object;"), (0, .methodref 25 26), (0, .class_ 27), (0, .nameAndType 28 29), (0, u "java/lang/String"), (0, u "isEmpty"), (0, u "()Z"), (0, .methodref 25 31), (0, .nameAndType 32 33), (0, u "length"), (0, u "()I"), (9, .methodref 25 44), (0, .nameAndType 45 46), (0, u "charAt"), (0, u "(I)C"), (0, .methodref 8 48), (0, .nameAndType 49 50), (0, u "isNameCharacter"), (0, u "(C)Z"), (12, .methodref 8 64), (0, .nameAndType 5 65), (0, u "(Ljava/lang/String;I)V"), (18, .class_ 85), (0, u "java/lang/Comparable"), (0, u "MAX_LENGTH"), (2, u "CASE_BIT"), (2, u "of"), (0, u "(Ljava/lang/String;)Lcom/example/letters_between_tasks/lettersbetweentasks/model/Name;"), (1, u "()Ljava/lang/String;"), (2, u "hashCode"), (0, u "toString")] 21

def k9c0 : Code := { maxStack := 2, maxLocals := 3, code := prog_12_method_1_code, exceptionTable := #[], attributes := #[] }
def k9m0 : Method := { name := "<init>", desc := "(Ljava/lang/String;I)V", sig := { parameters := [(.object "java/lang/String"), .int], returnType := none }, accessFlags := 2, code := some k9c0 }
def k9c1 : Code := { maxStack := 7, maxLocals := 4, code := prog_12_method_2_code, exceptionTable := #[], attributes := #[] }
def k9m1 : Method := { name := "of", desc := "(Ljava/lang/String;)Lcom/example/letters_between_tasks/lettersbetweentasks/model/Name;", sig := { parameters := [(.object "java/lang/String")], returnType := some (.object "com/example/letters_between_tasks/lettersbetweentasks/model/Name") }, accessFlags := 9, code := some k9c1 }
def k9c2 : Code := { maxStack := 1, maxLocals := 1, code := prog_12_method_3_code, exceptionTable := #[], attributes := #[] }
def k9m2 : Method := { name := "text", desc := "()Ljava/lang/String;", sig := { parameters := [], returnType := some (.object "java/lang/String") }, accessFlags := 1, code := some k9c2 }
def k9c3 : Code := { maxStack := 2, maxLocals := 1, code := prog_12_method_4_code, exceptionTable := #[], attributes := #[] }
def k9m3 : Method := { name := "isNameCharacter", desc := "(C)Z", sig := { parameters := [.char], returnType := some .boolean }, accessFlags := 10, code := some k9c3 }
def k9c4 : Code := { maxStack := 1, maxLocals := 1, code := prog_12_method_7_code, exceptionTable := #[], attributes := #[] }
def k9m4 : Method := { name := "hashCode", desc := "()I", sig := { parameters := [], returnType := some .int }, accessFlags := 1, code := some k9c4 }
def k9c5 : Code := { maxStack := 1, maxLocals := 1, code := prog_12_method_8_code, exceptionTable := #[], attributes := #[] }
def k9m5 : Method := { name := "toString", desc := "()Ljava/lang/String;", sig := { parameters := [], returnType := some (.object "java/lang/String") }, accessFlags := 1, code := some k9c5 }
/-- com/example/letters_between_tasks/lettersbetweentasks/model/Name -/
def k9 : Class := { plain "com/example/letters_between_tasks/lettersbetweentasks/model/Name" (some 0) with
  accessFlags := 49
  interfaces := #[3]
  cf := some (fileOf pool9 8 #[] #[{ accessFlags := 2, nameIndex := 5, descriptorIndex := 65, attributes := #[] }, { accessFlags := 9, nameIndex := 92, descriptorIndex := 93, attributes := #[] }, { accessFlags := 1, nameIndex := 11, descriptorIndex := 95, attributes := #[] }, { accessFlags := 10, nameIndex := 49, descriptorIndex := 50, attributes := #[] }, { accessFlags := 1, nameIndex := 98, descriptorIndex := 33, attributes := #[] }, { accessFlags := 1, nameIndex := 99, descriptorIndex := 95, attributes := #[] }] 49 2 #[84] #[{ accessFlags := 25, nameIndex := 86, descriptorIndex := 16, attributes := #[] }, { accessFlags := 26, nameIndex := 89, descriptorIndex := 16, attributes := #[] }, { accessFlags := 18, nameIndex := 11, descriptorIndex := 12, attributes := #[] }, { accessFlags := 18, nameIndex := 15, descriptorIndex := 16, attributes := #[] }])
  fields := #[{ name := "MAX_LENGTH", type := .int, accessFlags := 25, slot := 0, constantValue := 0 }, { name := "CASE_BIT", type := .int, accessFlags := 26, slot := 1, constantValue := 0 }, { name := "text", type := (.object "java/lang/String"), accessFlags := 18, slot := 0, constantValue := 0 }, { name := "hash", type := .int, accessFlags := 18, slot := 1, constantValue := 0 }]
  methods := #[k9m0, k9m1, k9m2, k9m3, k9m4, k9m5]
  instanceTypes := #[(.object "java/lang/String"), .int]
  staticTypes := #[.int, .int]
  resolved := Array.replicate 121 none
  statics := none }

def pool10 : Array CpInfo := pool [(2, .class_ 4), (1, u "java/lang/Object"), (0, u "<init>"), (0, u "()V"), (35, .class_ 44), (1, u "java/util/Objects"), (0, u "requireNonNull"), (48, u "(Ljava/lang/Object;Ljava/lang/String;)Ljava/lang/Object;")] 89

def k10m0 : Method := { name := "<init>", desc := "()V", sig := { parameters := [], returnType := none }, accessFlags := 2, code := none }
def k10c1 : Code := { maxStack := 3, maxLocals := 2, code := jdk_31_method_11_code, exceptionTable := #[], attributes := #[] }
def k10m1 : Method := { name := "requireNonNull", desc := "(Ljava/lang/Object;Ljava/lang/String;)Ljava/lang/Object;", sig := { parameters := [(.object "java/lang/Object"), (.object "java/lang/String")], returnType := some (.object "java/lang/Object") }, accessFlags := 9, code := some k10c1 }
/-- java/util/Objects -/
def k10 : Class := { plain "java/util/Objects" (some 0) with
  accessFlags := 49
  interfaces := #[]
  cf := some (fileOf pool10 42 #[] #[{ accessFlags := 2, nameIndex := 5, descriptorIndex := 6, attributes := #[] }, { accessFlags := 9, nameIndex := 45, descriptorIndex := 94, attributes := #[] }] 49 2 #[] #[])
  fields := #[]
  methods := #[k10m0, k10m1]
  instanceTypes := #[]
  staticTypes := #[]
  resolved := Array.replicate 184 none
  statics := none }

def pool11 : Array CpInfo := pool [(1, .class_ 2), (0, u "java/lang/String"), (1, .class_ 6), (1, u "java/lang/Object"), (0, u "<init>"), (0, u "()V"), (0, .methodref 1 10), (0, .nameAndType 11 12), (0, u "checkIndex"), (0, u "(II)V"), (1, .class_ 16), (1, u "java/lang/StringLatin1"), (36, u "([BI)C"), (67, u "$assertionsDisabled"), (0, u "Z"), (98, .class_ 223), (1, u "java/lang/StringLatin1$LinesSpliterator"), (28, u "charAt"), (137, .class_ 391), (0, u "java/lang/StringLatin1$CharsSpliterator")] 3

def k11m0 : Method := { name := "<init>", desc := "()V", sig := { parameters := [], returnType := none }, accessFlags := 0, code := none }
def k11c1 : Code := { maxStack := 2, maxLocals := 2, code := jdk_43_method_2_code, exceptionTable := #[], attributes := #[] }
def k11m1 : Method := { name := "charAt", desc := "([BI)C", sig := { parameters := [(.array .byte), .int], returnType := some .char }, accessFlags := 9, code := some k11c1 }
/-- java/lang/StringLatin1 -/
def k11 : Class := { plain "java/lang/StringLatin1" (some 0) with
  accessFlags := 48
  interfaces := #[]
  cf := some (fileOf pool11 14 #[.nestMembers #[390, 221]] #[{ accessFlags := 0, nameIndex := 7, descriptorIndex := 8, attributes := #[] }, { accessFlags := 9, nameIndex := 252, descriptorIndex := 53, attributes := #[] }] 48 4 #[] #[{ accessFlags := 4120, nameIndex := 121, descriptorIndex := 122, attributes := #[] }])
  fields := #[{ name := "$assertionsDisabled", type := .boolean, accessFlags := 4120, slot := 0, constantValue := 0 }]
  methods := #[k11m0, k11m1]
  instanceTypes := #[]
  staticTypes := #[.boolean]
  resolved := Array.replicate 395 none
  statics := none }

def pool12 : Array CpInfo := pool [(2, .class_ 4), (1, u "java/lang/Object"), (0, u "<init>"), (0, u "()V"), (17, .class_ 26), (1, u "jdk/internal/util/Preconditions"), (6, u "checkIndex"), (21, .class_ 56), (0, u "jdk/internal/util/Preconditions$4"), (57, .class_ 115), (0, u "jdk/internal/util/Preconditions$1"), (7, u "SIOOBE_FORMATTER"), (0, u "Ljava/util/function/BiFunction;"), (0, .class_ 126), (0, u "jdk/internal/util/Preconditions$2"), (3, u "AIOOBE_FORMATTER"), (0, .class_ 132), (0, u "jdk/internal/util/Preconditions$3"), (3, u "IOOBE_FORMATTER"), (41, u "(IILjava/util/function/BiFunction;)I")] 15

def k12m0 : Method := { name := "<init>", desc := "()V", sig := { parameters := [], returnType := none }, accessFlags := 1, code := none }
def k12c1 : Code := { maxStack := 3, maxLocals := 3, code := jdk_41_method_11_code, exceptionTable := #[], attributes := #[] }
def k12m1 : Method := { name := "checkIndex", desc := "(IILjava/util/function/BiFunction;)I", sig := { parameters := [.int, .int, (.object "java/util/function/BiFunction")], returnType := some .int }, accessFlags := 9, code := some k12c1 }
/-- jdk/internal/util/Preconditions -/
def k12 : Class := { plain "jdk/internal/util/Preconditions" (some 0) with
  accessFlags := 33
  interfaces := #[]
  cf := some (fileOf pool12 24 #[.nestMembers #[55, 131, 125, 114]] #[{ accessFlags := 1, nameIndex := 5, descriptorIndex := 6, attributes := #[] }, { accessFlags := 9, nameIndex := 33, descriptorIndex := 178, attributes := #[] }] 33 2 #[] #[{ accessFlags := 25, nameIndex := 123, descriptorIndex := 124, attributes := #[] }, { accessFlags := 25, nameIndex := 130, descriptorIndex := 124, attributes := #[] }, { accessFlags := 25, nameIndex := 136, descriptorIndex := 124, attributes := #[] }])
  fields := #[{ name := "SIOOBE_FORMATTER", type := (.object "java/util/function/BiFunction"), accessFlags := 25, slot := 0, constantValue := 0 }, { name := "AIOOBE_FORMATTER", type := (.object "java/util/function/BiFunction"), accessFlags := 25, slot := 1, constantValue := 0 }, { name := "IOOBE_FORMATTER", type := (.object "java/util/function/BiFunction"), accessFlags := 25, slot := 2, constantValue := 0 }]
  methods := #[k12m0, k12m1]
  instanceTypes := #[]
  staticTypes := #[(.object "java/util/function/BiFunction"), (.object "java/util/function/BiFunction"), (.object "java/util/function/BiFunction")]
  resolved := Array.replicate 194 none
  statics := some 1 }

def pool13 : Array CpInfo := pool [(9, u "<init>"), (6, .class_ 18), (1, u "java/lang/Object"), (0, u "()V"), (1, .class_ 23), (1, u "jdk/internal/util/ArraysSupport"), (0, u "LOG2_ARRAY_LONG_INDEX_SCALE"), (0, u "I"), (2, u "U"), (0, u "Ljdk/internal/misc/Unsafe;"), (8, u "BIG_ENDIAN"), (0, u "Z"), (8, u "LOG2_BYTE_BIT_SIZE"), (4, u "LOG2_ARRAY_INT_INDEX_SCALE"), (54, u "JLA"), (0, u "Ljdk/internal/access/JavaLangAccess;"), (11, u "LOG2_ARRAY_BOOLEAN_INDEX_SCALE"), (9, u "LOG2_ARRAY_BYTE_INDEX_SCALE"), (5, u "LOG2_ARRAY_CHAR_INDEX_SCALE"), (5, u "LOG2_ARRAY_SHORT_INDEX_SCALE"), (18, u "LOG2_ARRAY_FLOAT_INDEX_SCALE"), (24, u "LOG2_ARRAY_DOUBLE_INDEX_SCALE"), (89, u "T_BOOLEAN"), (2, u "T_CHAR"), (1, u "T_FLOAT"), (1, u "T_DOUBLE"), (1, u "T_BYTE"), (1, u "T_SHORT"), (1, u "T_INT"), (1, u "T_LONG"), (1, u "SOFT_MAX_ARRAY_LENGTH")] 83

def k13m0 : Method := { name := "<init>", desc := "()V", sig := { parameters := [], returnType := none }, accessFlags := 2, code := none }
/-- jdk/internal/util/ArraysSupport -/
def k13 : Class := { plain "jdk/internal/util/ArraysSupport" (some 0) with
  accessFlags := 33
  interfaces := #[]
  cf := some (fileOf pool13 21 #[] #[{ accessFlags := 2, nameIndex := 9, descriptorIndex := 19, attributes := #[] }] 33 16 #[] #[{ accessFlags := 24, nameIndex := 28, descriptorIndex := 29, attributes := #[] }, { accessFlags := 26, nameIndex := 38, descriptorIndex := 39, attributes := #[] }, { accessFlags := 25, nameIndex := 121, descriptorIndex := 25, attributes := #[] }, { accessFlags := 25, nameIndex := 131, descriptorIndex := 25, attributes := #[] }, { accessFlags := 25, nameIndex := 137, descriptorIndex := 25, attributes := #[] }, { accessFlags := 25, nameIndex := 143, descriptorIndex := 25, attributes := #[] }, { accessFlags := 25, nameIndex := 53, descriptorIndex := 25, attributes := #[] }, { accessFlags := 25, nameIndex := 24, descriptorIndex := 25, attributes := #[] }, { accessFlags := 25, nameIndex := 162, descriptorIndex := 25, attributes := #[] }, { accessFlags := 25, nameIndex := 187, descriptorIndex := 25, attributes := #[] }, { accessFlags := 26, nameIndex := 48, descriptorIndex := 25, attributes := #[] }, { accessFlags := 25, nameIndex := 277, descriptorIndex := 25, attributes := #[] }, { accessFlags := 25, nameIndex := 280, descriptorIndex := 25, attributes := #[] }, { accessFlags := 25, nameIndex := 282, descriptorIndex := 25, attributes := #[] }, { accessFlags := 25, nameIndex := 284, descriptorIndex := 25, attributes := #[] }, { accessFlags := 25, nameIndex := 286, descriptorIndex := 25, attributes := #[] }, { accessFlags := 25, nameIndex := 288, descriptorIndex := 25, attributes := #[] }, { accessFlags := 25, nameIndex := 290, descriptorIndex := 25, attributes := #[] }, { accessFlags := 25, nameIndex := 292, descriptorIndex := 25, attributes := #[] }, { accessFlags := 26, nameIndex := 108, descriptorIndex := 109, attributes := #[] }, { accessFlags := 25, nameIndex := 294, descriptorIndex := 25, attributes := #[] }])
  fields := #[{ name := "U", type := (.object "jdk/internal/misc/Unsafe"), accessFlags := 24, slot := 0, constantValue := 0 }, { name := "BIG_ENDIAN", type := .boolean, accessFlags := 26, slot := 1, constantValue := 0 }, { name := "LOG2_ARRAY_BOOLEAN_INDEX_SCALE", type := .int, accessFlags := 25, slot := 2, constantValue := 0 }, { name := "LOG2_ARRAY_BYTE_INDEX_SCALE", type := .int, accessFlags := 25, slot := 3, constantValue := 0 }, { name := "LOG2_ARRAY_CHAR_INDEX_SCALE", type := .int, accessFlags := 25, slot := 4, constantValue := 0 }, { name := "LOG2_ARRAY_SHORT_INDEX_SCALE", type := .int, accessFlags := 25, slot := 5, constantValue := 0 }, { name := "LOG2_ARRAY_INT_INDEX_SCALE", type := .int, accessFlags := 25, slot := 6, constantValue := 0 }, { name := "LOG2_ARRAY_LONG_INDEX_SCALE", type := .int, accessFlags := 25, slot := 7, constantValue := 0 }, { name := "LOG2_ARRAY_FLOAT_INDEX_SCALE", type := .int, accessFlags := 25, slot := 8, constantValue := 0 }, { name := "LOG2_ARRAY_DOUBLE_INDEX_SCALE", type := .int, accessFlags := 25, slot := 9, constantValue := 0 }, { name := "LOG2_BYTE_BIT_SIZE", type := .int, accessFlags := 26, slot := 10, constantValue := 0 }, { name := "T_BOOLEAN", type := .int, accessFlags := 25, slot := 11, constantValue := 0 }, { name := "T_CHAR", type := .int, accessFlags := 25, slot := 12, constantValue := 0 }, { name := "T_FLOAT", type := .int, accessFlags := 25, slot := 13, constantValue := 0 }, { name := "T_DOUBLE", type := .int, accessFlags := 25, slot := 14, constantValue := 0 }, { name := "T_BYTE", type := .int, accessFlags := 25, slot := 15, constantValue := 0 }, { name := "T_SHORT", type := .int, accessFlags := 25, slot := 16, constantValue := 0 }, { name := "T_INT", type := .int, accessFlags := 25, slot := 17, constantValue := 0 }, { name := "T_LONG", type := .int, accessFlags := 25, slot := 18, constantValue := 0 }, { name := "JLA", type := (.object "jdk/internal/access/JavaLangAccess"), accessFlags := 26, slot := 19, constantValue := 0 }, { name := "SOFT_MAX_ARRAY_LENGTH", type := .int, accessFlags := 25, slot := 20, constantValue := 0 }]
  methods := #[k13m0]
  instanceTypes := #[]
  staticTypes := #[(.object "jdk/internal/misc/Unsafe"), .boolean, .int, .int, .int, .int, .int, .int, .int, .int, .int, .int, .int, .int, .int, .int, .int, .int, .int, (.object "jdk/internal/access/JavaLangAccess"), .int]
  resolved := Array.replicate 378 none
  statics := none }

def pool14 : Array CpInfo := pool [(1, u "java/lang/Cloneable"), (0, .class_ 1), (0, u "java/lang/Object"), (0, .class_ 3)] 3

/-- java/lang/Cloneable -/
def k14 : Class := { plain "java/lang/Cloneable" (some 0) with
  accessFlags := 1537
  interfaces := #[]
  cf := some (fileOf pool14 2 #[] #[] 1537 4 #[] #[])
  fields := #[]
  methods := #[]
  instanceTypes := #[]
  staticTypes := #[]
  resolved := Array.replicate 8 none
  statics := none }

/-- the primitive byte -/
def k15 : Class := { plain "byte" none with kind := .primitive 'B', accessFlags := 0x411 }
/-- [B -/
def k16 : Class := { plain "[B" (some 0) with kind := .array 15 .byte, interfaces := #[14, 2], accessFlags := 1041 }

/-- the primitive char -/
def k17 : Class := { plain "char" none with kind := .primitive 'C', accessFlags := 0x411 }
/-- [C -/
def k18 : Class := { plain "[C" (some 0) with kind := .array 17 .char, interfaces := #[14, 2], accessFlags := 1041 }

/-- the primitive int -/
def k19 : Class := { plain "int" none with kind := .primitive 'I', accessFlags := 0x411 }
/-- [I -/
def k20 : Class := { plain "[I" (some 0) with kind := .array 19 .int, interfaces := #[14, 2], accessFlags := 1041 }

def heap : Heap := #[{ cls := 7, slots := #[.long 0, .int 1, .null, .int 0, .null, .int 0, .int 0], vm := .statics 7 },
  { cls := 12, slots := #[.null, .null, .null], vm := .statics 12 }]
def classes : Array Class := #[k0, k1, k2, k3, k4, k5, k6, k7, k8, k9, k10, k11, k12, k13, k14, k15, k16, k17, k18, k19, k20]
def interned : List (Array UInt16 × Addr) := []
def slotsUsed : Nat := 10
def theMethod : MethodId := ⟨1, 3⟩
def args0 : Array Value := #[.int 5, .int 5, .int 5, .int 5, .int 5]
def aboutOver (below : List Frame) : State where
  vm := { classes := classes, interned := interned.toArray }
  heap := heap
  slotsUsed := slotsUsed
  threads := #[{ frames := .invoking theMethod args0 :: below }]
def below0 : List Frame := [.native { method := ⟨0, 0⟩, args := #[] }]
def about1 : State := aboutOver below0
def p0 : Program := .bare "" "" ""
def e0 : Env := launch0.env 0 0 0
theorem w_frames : about1.frames = Frame.invoking theMethod args0 :: below0 := rfl
set_option maxRecDepth 65536 in
theorem w_args : argsFit about1.vm theMethod args0 = true := by decide +kernel
set_option maxRecDepth 65536 in
theorem w_heap : heapFits about1 = true := by decide +kernel
set_option maxRecDepth 65536 in
theorem w_runnable : about1.curStatus? = some .runnable := by decide +kernel
set_option maxRecDepth 65536 in
theorem w_alone : about1.alone = true := by decide +kernel
set_option maxRecDepth 65536 in
theorem w_named : about1.methodNamed? x = some theMethod := by decide +kernel
set_option maxRecDepth 65536 in
theorem w_hears : about1.hears theMethod below0 = true := by decide +kernel
set_option maxRecDepth 65536 in
theorem w_ripe : about1.ripe theMethod args0 below0 = true := by decide +kernel
theorem w_running : about1.status = .running := rfl
set_option maxRecDepth 65536 in
theorem w_room : about1.hasRoom e0.platform room_1 = true :=
  launch0.hasRoom_least _ room_1 (by decide +kernel) (by decide +kernel) (by decide +kernel) (by decide +kernel) (by decide +kernel) (by decide +kernel)
theorem allAtoms_all (ts : List Jvm.Cond) (a : Array Jvm.Value) (st : Jvm.State) : (allAtoms ts).before a st = ts.all (fun c => c.before a st) := by
  induction ts with
  | nil => rfl
  | cons c t ih =>
    show (Jvm.Cond.and c (allAtoms t)).before a st = _
    rw [Jvm.Cond.before_and, ih, List.all_cons]
def words1 : List Jvm.Cond := Jvm.Cond.code x code maxLocals ret :: tables_1
/-- a 'code' word, met by the world's own term for the bytes: nothing is compared byte by byte -/
theorem code_word {y : MethodName} {bytes : ByteArray} {mx : Nat} {rt : Option FieldType} {a : Array Value} {s : State} {m : MethodId} {meth : Method} {c : Code} (h1 : s.methodNamed? y = some m) (h2 : s.vm.method? m = some meth) (h3 : meth.code = some c) (h4 : c.code = bytes)
    (h5 : (c.maxLocals == mx && c.exceptionTable.isEmpty && decide (c.maxStack ≤ mostOperands) && decide (meth.sig.returnType = rt) && !meth.locks && decide (parseMethodDescriptor y.desc = some meth.sig)) = true) : (Jvm.Cond.code y bytes mx rt).before a s = true := by
  simp only [Bool.and_eq_true, beq_iff_eq, Bool.not_eq_true', decide_eq_true_eq] at h5
  obtain ⟨⟨⟨⟨⟨g1, g2⟩, g3⟩, g4⟩, g5⟩, g6⟩ := h5
  simp [Cond.before, Cond.holds, Cond.value, h1, h2, h3, h4, g1, g2, g3, g4, g5, g6]
def isCode : Jvm.Cond → Bool
  | .code _ _ _ _ => true
  | _ => false
theorem all_split {L : List Jvm.Cond} {P : Jvm.Cond → Bool} (h1 : L.all (fun c => isCode c || P c) = true) (h2 : ∀ c ∈ L.filter isCode, P c = true) : L.all P = true := by
  refine List.all_eq_true.mpr fun c hc => ?_
  have h := List.all_eq_true.mp h1 c hc
  rcases Bool.eq_false_or_eq_true (isCode c) with hi | hi
  · exact h2 c (List.mem_filter.mpr ⟨hc, hi⟩)
  · simpa [hi] using h
set_option maxRecDepth 65536 in
theorem w_c0 : (Jvm.Cond.code x code maxLocals ret).before args0 about1 = true := code_word (m := ⟨1, 3⟩) (meth := k1m3) (c := k1c3) (by decide +kernel) rfl rfl rfl (by decide +kernel)
set_option maxRecDepth 65536 in
theorem w_c1 : (Jvm.Cond.code ({ cls := "com/example/letters_between_tasks/lettersbetweentasks/model/NameOfPinLaw", name := "pick", desc := "(I)C" } : Jvm.MethodName) method_2_code (2 : Nat) (Option.some Jvm.ClassFile.FieldType.char)).before args0 about1 = true := code_word (m := ⟨1, 1⟩) (meth := k1m1) (c := k1c1) (by decide +kernel) rfl rfl rfl (by decide +kernel)
set_option maxRecDepth 65536 in
theorem w_c2 : (Jvm.Cond.code ({ cls := "com/example/letters_between_tasks/lettersbetweentasks/model/NameOfPinLaw", name := "low", desc := "(C)I" } : Jvm.MethodName) method_3_code (1 : Nat) (Option.some Jvm.ClassFile.FieldType.int)).before args0 about1 = true := code_word (m := ⟨1, 2⟩) (meth := k1m2) (c := k1c2) (by decide +kernel) rfl rfl rfl (by decide +kernel)
set_option maxRecDepth 65536 in
theorem w_c3 : (Jvm.Cond.code ({ cls := "java/lang/String", name := "<init>", desc := "([C)V" } : Jvm.MethodName) jdk_42_method_3_code (2 : Nat) (Option.none : Option Jvm.ClassFile.FieldType)).before args0 about1 = true := code_word (m := ⟨7, 1⟩) (meth := k7m1) (c := k7c1) (by decide +kernel) rfl rfl rfl (by decide +kernel)
set_option maxRecDepth 65536 in
theorem w_c4 : (Jvm.Cond.code ({ cls := "java/lang/String", name := "<init>", desc := "([CIILjava/lang/Void;)V" } : Jvm.MethodName) jdk_42_method_149_code (6 : Nat) (Option.none : Option Jvm.ClassFile.FieldType)).before args0 about1 = true := code_word (m := ⟨7, 6⟩) (meth := k7m6) (c := k7c6) (by decide +kernel) rfl rfl rfl (by decide +kernel)
set_option maxRecDepth 65536 in
theorem w_c5 : (Jvm.Cond.code ({ cls := "java/lang/Object", name := "<init>", desc := "()V" } : Jvm.MethodName) object_method_1_code (1 : Nat) (Option.none : Option Jvm.ClassFile.FieldType)).before args0 about1 = true := code_word (m := ⟨0, 0⟩) (meth := k0m0) (c := k0c0) (by decide +kernel) rfl rfl rfl (by decide +kernel)
set_option maxRecDepth 65536 in
theorem w_c6 : (Jvm.Cond.code ({ cls := "java/lang/StringUTF16", name := "compress", desc := "([CII)[B" } : Jvm.MethodName) jdk_52_method_16_code (6 : Nat) (Option.some (Jvm.ClassFile.FieldType.array Jvm.ClassFile.FieldType.byte))).before args0 about1 = true := code_word (m := ⟨8, 2⟩) (meth := k8m2) (c := k8c2) (by decide +kernel) rfl rfl rfl (by decide +kernel)
set_option maxRecDepth 65536 in
theorem w_c7 : (Jvm.Cond.code ({ cls := "java/lang/StringUTF16", name := "compress", desc := "([CI[BII)I" } : Jvm.MethodName) jdk_52_method_21_code (7 : Nat) (Option.some Jvm.ClassFile.FieldType.int)).before args0 about1 = true := code_word (m := ⟨8, 3⟩) (meth := k8m3) (c := k8c3) (by decide +kernel) rfl rfl rfl (by decide +kernel)
set_option maxRecDepth 65536 in
theorem w_c8 : (Jvm.Cond.code ({ cls := "java/lang/StringUTF16", name := "coderFromArrayLen", desc := "([BI)B" } : Jvm.MethodName) jdk_52_method_15_code (2 : Nat) (Option.some Jvm.ClassFile.FieldType.byte)).before args0 about1 = true := code_word (m := ⟨8, 1⟩) (meth := k8m1) (c := k8c1) (by decide +kernel) rfl rfl rfl (by decide +kernel)
set_option maxRecDepth 65536 in
theorem w_c9 : (Jvm.Cond.code ({ cls := "com/example/letters_between_tasks/lettersbetweentasks/model/Name", name := "of", desc := "(Ljava/lang/String;)Lcom/example/letters_between_tasks/lettersbetweentasks/model/Name;" } : Jvm.MethodName) prog_12_method_2_code (4 : Nat) (Option.some (Jvm.ClassFile.FieldType.object "com/example/letters_between_tasks/lettersbetweentasks/model/Name"))).before args0 about1 = true := code_word (m := ⟨9, 1⟩) (meth := k9m1) (c := k9c1) (by decide +kernel) rfl rfl rfl (by decide +kernel)
set_option maxRecDepth 65536 in
theorem w_c10 : (Jvm.Cond.code ({ cls := "java/util/Objects", name := "requireNonNull", desc := "(Ljava/lang/Object;Ljava/lang/String;)Ljava/lang/Object;" } : Jvm.MethodName) jdk_31_method_11_code (2 : Nat) (Option.some (Jvm.ClassFile.FieldType.object "java/lang/Object"))).before args0 about1 = true := code_word (m := ⟨10, 1⟩) (meth := k10m1) (c := k10c1) (by decide +kernel) rfl rfl rfl (by decide +kernel)
set_option maxRecDepth 65536 in
theorem w_c11 : (Jvm.Cond.code ({ cls := "java/lang/String", name := "isEmpty", desc := "()Z" } : Jvm.MethodName) jdk_42_method_55_code (1 : Nat) (Option.some Jvm.ClassFile.FieldType.boolean)).before args0 about1 = true := code_word (m := ⟨7, 3⟩) (meth := k7m3) (c := k7c3) (by decide +kernel) rfl rfl rfl (by decide +kernel)
set_option maxRecDepth 65536 in
theorem w_c12 : (Jvm.Cond.code ({ cls := "java/lang/String", name := "length", desc := "()I" } : Jvm.MethodName) jdk_42_method_54_code (1 : Nat) (Option.some Jvm.ClassFile.FieldType.int)).before args0 about1 = true := code_word (m := ⟨7, 2⟩) (meth := k7m2) (c := k7c2) (by decide +kernel) rfl rfl rfl (by decide +kernel)
set_option maxRecDepth 65536 in
theorem w_c13 : (Jvm.Cond.code ({ cls := "java/lang/String", name := "coder", desc := "()B" } : Jvm.MethodName) jdk_42_method_152_code (1 : Nat) (Option.some Jvm.ClassFile.FieldType.byte)).before args0 about1 = true := code_word (m := ⟨7, 7⟩) (meth := k7m7) (c := k7c7) (by decide +kernel) rfl rfl rfl (by decide +kernel)
set_option maxRecDepth 65536 in
theorem w_c14 : (Jvm.Cond.code ({ cls := "java/lang/String", name := "charAt", desc := "(I)C" } : Jvm.MethodName) jdk_42_method_56_code (2 : Nat) (Option.some Jvm.ClassFile.FieldType.char)).before args0 about1 = true := code_word (m := ⟨7, 4⟩) (meth := k7m4) (c := k7c4) (by decide +kernel) rfl rfl rfl (by decide +kernel)
set_option maxRecDepth 65536 in
theorem w_c15 : (Jvm.Cond.code ({ cls := "java/lang/String", name := "isLatin1", desc := "()Z" } : Jvm.MethodName) jdk_42_method_154_code (1 : Nat) (Option.some Jvm.ClassFile.FieldType.boolean)).before args0 about1 = true := code_word (m := ⟨7, 8⟩) (meth := k7m8) (c := k7c8) (by decide +kernel) rfl rfl rfl (by decide +kernel)
set_option maxRecDepth 65536 in
theorem w_c16 : (Jvm.Cond.code ({ cls := "java/lang/StringLatin1", name := "charAt", desc := "([BI)C" } : Jvm.MethodName) jdk_43_method_2_code (2 : Nat) (Option.some Jvm.ClassFile.FieldType.char)).before args0 about1 = true := code_word (m := ⟨11, 1⟩) (meth := k11m1) (c := k11c1) (by decide +kernel) rfl rfl rfl (by decide +kernel)
set_option maxRecDepth 65536 in
theorem w_c17 : (Jvm.Cond.code ({ cls := "java/lang/String", name := "checkIndex", desc := "(II)V" } : Jvm.MethodName) jdk_42_method_155_code (2 : Nat) (Option.none : Option Jvm.ClassFile.FieldType)).before args0 about1 = true := code_word (m := ⟨7, 9⟩) (meth := k7m9) (c := k7c9) (by decide +kernel) rfl rfl rfl (by decide +kernel)
set_option maxRecDepth 65536 in
theorem w_c18 : (Jvm.Cond.code ({ cls := "jdk/internal/util/Preconditions", name := "checkIndex", desc := "(IILjava/util/function/BiFunction;)I" } : Jvm.MethodName) jdk_41_method_11_code (3 : Nat) (Option.some Jvm.ClassFile.FieldType.int)).before args0 about1 = true := code_word (m := ⟨12, 1⟩) (meth := k12m1) (c := k12c1) (by decide +kernel) rfl rfl rfl (by decide +kernel)
set_option maxRecDepth 65536 in
theorem w_c19 : (Jvm.Cond.code ({ cls := "com/example/letters_between_tasks/lettersbetweentasks/model/Name", name := "isNameCharacter", desc := "(C)Z" } : Jvm.MethodName) prog_12_method_4_code (1 : Nat) (Option.some Jvm.ClassFile.FieldType.boolean)).before args0 about1 = true := code_word (m := ⟨9, 3⟩) (meth := k9m3) (c := k9c3) (by decide +kernel) rfl rfl rfl (by decide +kernel)
set_option maxRecDepth 65536 in
theorem w_c20 : (Jvm.Cond.code ({ cls := "com/example/letters_between_tasks/lettersbetweentasks/model/Name", name := "<init>", desc := "(Ljava/lang/String;I)V" } : Jvm.MethodName) prog_12_method_1_code (3 : Nat) (Option.none : Option Jvm.ClassFile.FieldType)).before args0 about1 = true := code_word (m := ⟨9, 0⟩) (meth := k9m0) (c := k9c0) (by decide +kernel) rfl rfl rfl (by decide +kernel)
set_option maxRecDepth 65536 in
theorem w_c21 : (Jvm.Cond.code ({ cls := "com/example/letters_between_tasks/lettersbetweentasks/model/Name", name := "text", desc := "()Ljava/lang/String;" } : Jvm.MethodName) prog_12_method_3_code (1 : Nat) (Option.some (Jvm.ClassFile.FieldType.object "java/lang/String"))).before args0 about1 = true := code_word (m := ⟨9, 2⟩) (meth := k9m2) (c := k9c2) (by decide +kernel) rfl rfl rfl (by decide +kernel)
set_option maxRecDepth 65536 in
theorem w_c22 : (Jvm.Cond.code ({ cls := "java/lang/String", name := "equals", desc := "(Ljava/lang/Object;)Z" } : Jvm.MethodName) jdk_42_method_66_code (3 : Nat) (Option.some Jvm.ClassFile.FieldType.boolean)).before args0 about1 = true := code_word (m := ⟨7, 5⟩) (meth := k7m5) (c := k7c5) (by decide +kernel) rfl rfl rfl (by decide +kernel)
set_option maxRecDepth 65536 in
theorem w_c23 : (Jvm.Cond.code ({ cls := "com/example/letters_between_tasks/lettersbetweentasks/model/Name", name := "toString", desc := "()Ljava/lang/String;" } : Jvm.MethodName) prog_12_method_8_code (1 : Nat) (Option.some (Jvm.ClassFile.FieldType.object "java/lang/String"))).before args0 about1 = true := code_word (m := ⟨9, 5⟩) (meth := k9m5) (c := k9c5) (by decide +kernel) rfl rfl rfl (by decide +kernel)
set_option maxRecDepth 65536 in
theorem w_c24 : (Jvm.Cond.code ({ cls := "com/example/letters_between_tasks/lettersbetweentasks/model/Name", name := "hashCode", desc := "()I" } : Jvm.MethodName) prog_12_method_7_code (1 : Nat) (Option.some Jvm.ClassFile.FieldType.int)).before args0 about1 = true := code_word (m := ⟨9, 4⟩) (meth := k9m4) (c := k9c4) (by decide +kernel) rfl rfl rfl (by decide +kernel)
def codes1 : List Jvm.Cond := [Jvm.Cond.code x code maxLocals ret, Jvm.Cond.code ({ cls := "com/example/letters_between_tasks/lettersbetweentasks/model/NameOfPinLaw", name := "pick", desc := "(I)C" } : Jvm.MethodName) method_2_code (2 : Nat) (Option.some Jvm.ClassFile.FieldType.char), Jvm.Cond.code ({ cls := "com/example/letters_between_tasks/lettersbetweentasks/model/NameOfPinLaw", name := "low", desc := "(C)I" } : Jvm.MethodName) method_3_code (1 : Nat) (Option.some Jvm.ClassFile.FieldType.int), Jvm.Cond.code ({ cls := "java/lang/String", name := "<init>", desc := "([C)V" } : Jvm.MethodName) jdk_42_method_3_code (2 : Nat) (Option.none : Option Jvm.ClassFile.FieldType), Jvm.Cond.code ({ cls := "java/lang/String", name := "<init>", desc := "([CIILjava/lang/Void;)V" } : Jvm.MethodName) jdk_42_method_149_code (6 : Nat) (Option.none : Option Jvm.ClassFile.FieldType), Jvm.Cond.code ({ cls := "java/lang/Object", name := "<init>", desc := "()V" } : Jvm.MethodName) object_method_1_code (1 : Nat) (Option.none : Option Jvm.ClassFile.FieldType), Jvm.Cond.code ({ cls := "java/lang/StringUTF16", name := "compress", desc := "([CII)[B" } : Jvm.MethodName) jdk_52_method_16_code (6 : Nat) (Option.some (Jvm.ClassFile.FieldType.array Jvm.ClassFile.FieldType.byte)), Jvm.Cond.code ({ cls := "java/lang/StringUTF16", name := "compress", desc := "([CI[BII)I" } : Jvm.MethodName) jdk_52_method_21_code (7 : Nat) (Option.some Jvm.ClassFile.FieldType.int), Jvm.Cond.code ({ cls := "java/lang/StringUTF16", name := "coderFromArrayLen", desc := "([BI)B" } : Jvm.MethodName) jdk_52_method_15_code (2 : Nat) (Option.some Jvm.ClassFile.FieldType.byte), Jvm.Cond.code ({ cls := "com/example/letters_between_tasks/lettersbetweentasks/model/Name", name := "of", desc := "(Ljava/lang/String;)Lcom/example/letters_between_tasks/lettersbetweentasks/model/Name;" } : Jvm.MethodName) prog_12_method_2_code (4 : Nat) (Option.some (Jvm.ClassFile.FieldType.object "com/example/letters_between_tasks/lettersbetweentasks/model/Name")), Jvm.Cond.code ({ cls := "java/util/Objects", name := "requireNonNull", desc := "(Ljava/lang/Object;Ljava/lang/String;)Ljava/lang/Object;" } : Jvm.MethodName) jdk_31_method_11_code (2 : Nat) (Option.some (Jvm.ClassFile.FieldType.object "java/lang/Object")), Jvm.Cond.code ({ cls := "java/lang/String", name := "isEmpty", desc := "()Z" } : Jvm.MethodName) jdk_42_method_55_code (1 : Nat) (Option.some Jvm.ClassFile.FieldType.boolean), Jvm.Cond.code ({ cls := "java/lang/String", name := "length", desc := "()I" } : Jvm.MethodName) jdk_42_method_54_code (1 : Nat) (Option.some Jvm.ClassFile.FieldType.int), Jvm.Cond.code ({ cls := "java/lang/String", name := "coder", desc := "()B" } : Jvm.MethodName) jdk_42_method_152_code (1 : Nat) (Option.some Jvm.ClassFile.FieldType.byte), Jvm.Cond.code ({ cls := "java/lang/String", name := "charAt", desc := "(I)C" } : Jvm.MethodName) jdk_42_method_56_code (2 : Nat) (Option.some Jvm.ClassFile.FieldType.char), Jvm.Cond.code ({ cls := "java/lang/String", name := "isLatin1", desc := "()Z" } : Jvm.MethodName) jdk_42_method_154_code (1 : Nat) (Option.some Jvm.ClassFile.FieldType.boolean), Jvm.Cond.code ({ cls := "java/lang/StringLatin1", name := "charAt", desc := "([BI)C" } : Jvm.MethodName) jdk_43_method_2_code (2 : Nat) (Option.some Jvm.ClassFile.FieldType.char), Jvm.Cond.code ({ cls := "java/lang/String", name := "checkIndex", desc := "(II)V" } : Jvm.MethodName) jdk_42_method_155_code (2 : Nat) (Option.none : Option Jvm.ClassFile.FieldType), Jvm.Cond.code ({ cls := "jdk/internal/util/Preconditions", name := "checkIndex", desc := "(IILjava/util/function/BiFunction;)I" } : Jvm.MethodName) jdk_41_method_11_code (3 : Nat) (Option.some Jvm.ClassFile.FieldType.int), Jvm.Cond.code ({ cls := "com/example/letters_between_tasks/lettersbetweentasks/model/Name", name := "isNameCharacter", desc := "(C)Z" } : Jvm.MethodName) prog_12_method_4_code (1 : Nat) (Option.some Jvm.ClassFile.FieldType.boolean), Jvm.Cond.code ({ cls := "com/example/letters_between_tasks/lettersbetweentasks/model/Name", name := "<init>", desc := "(Ljava/lang/String;I)V" } : Jvm.MethodName) prog_12_method_1_code (3 : Nat) (Option.none : Option Jvm.ClassFile.FieldType), Jvm.Cond.code ({ cls := "com/example/letters_between_tasks/lettersbetweentasks/model/Name", name := "text", desc := "()Ljava/lang/String;" } : Jvm.MethodName) prog_12_method_3_code (1 : Nat) (Option.some (Jvm.ClassFile.FieldType.object "java/lang/String")), Jvm.Cond.code ({ cls := "java/lang/String", name := "equals", desc := "(Ljava/lang/Object;)Z" } : Jvm.MethodName) jdk_42_method_66_code (3 : Nat) (Option.some Jvm.ClassFile.FieldType.boolean), Jvm.Cond.code ({ cls := "com/example/letters_between_tasks/lettersbetweentasks/model/Name", name := "toString", desc := "()Ljava/lang/String;" } : Jvm.MethodName) prog_12_method_8_code (1 : Nat) (Option.some (Jvm.ClassFile.FieldType.object "java/lang/String")), Jvm.Cond.code ({ cls := "com/example/letters_between_tasks/lettersbetweentasks/model/Name", name := "hashCode", desc := "()I" } : Jvm.MethodName) prog_12_method_7_code (1 : Nat) (Option.some Jvm.ClassFile.FieldType.int)]
set_option maxRecDepth 65536 in
theorem codes_eq : words1.filter isCode = codes1 := rfl
theorem w_codes : ∀ c ∈ words1.filter isCode, c.before args0 about1 = true := by
  rw [codes_eq]
  intro c hc
  simp only [codes1, List.mem_cons, List.not_mem_nil, or_false] at hc
  rcases hc with rfl | rfl | rfl | rfl | rfl | rfl | rfl | rfl | rfl | rfl | rfl | rfl | rfl | rfl | rfl | rfl | rfl | rfl | rfl | rfl | rfl | rfl | rfl | rfl | rfl
  · exact w_c0
  · exact w_c1
  · exact w_c2
  · exact w_c3
  · exact w_c4
  · exact w_c5
  · exact w_c6
  · exact w_c7
  · exact w_c8
  · exact w_c9
  · exact w_c10
  · exact w_c11
  · exact w_c12
  · exact w_c13
  · exact w_c14
  · exact w_c15
  · exact w_c16
  · exact w_c17
  · exact w_c18
  · exact w_c19
  · exact w_c20
  · exact w_c21
  · exact w_c22
  · exact w_c23
  · exact w_c24
set_option maxRecDepth 65536 in
theorem w_t1 : (words1.take 24).all (fun c => isCode c || c.before args0 about1) = true := by decide +kernel
set_option maxRecDepth 65536 in
theorem w_t2 : ((words1.drop 24).take 24).all (fun c => isCode c || c.before args0 about1) = true := by decide +kernel
set_option maxRecDepth 65536 in
theorem w_t3 : (((words1.drop 24).drop 24).take 24).all (fun c => isCode c || c.before args0 about1) = true := by decide +kernel
set_option maxRecDepth 65536 in
theorem w_t4 : ((((words1.drop 24).drop 24).drop 24).take 24).all (fun c => isCode c || c.before args0 about1) = true := by decide +kernel
set_option maxRecDepth 65536 in
theorem w_t5 : (((((words1.drop 24).drop 24).drop 24).drop 24).take 24).all (fun c => isCode c || c.before args0 about1) = true := by decide +kernel
set_option maxRecDepth 65536 in
theorem w_t6 : (((((words1.drop 24).drop 24).drop 24).drop 24).drop 24).all (fun c => isCode c || c.before args0 about1) = true := by decide +kernel
theorem w_tables : (allAtoms (Jvm.Cond.code x code maxLocals ret :: tables_1)).before args0 about1 = true := by
  rw [allAtoms_all]
  show words1.all (fun c => c.before args0 about1) = true
  refine all_split ?_ w_codes
  rw [← List.take_append_drop 24 words1, List.all_append, w_t1, ← List.take_append_drop 24 (words1.drop 24), List.all_append, w_t2, ← List.take_append_drop 24 ((words1.drop 24).drop 24), List.all_append, w_t3, ← List.take_append_drop 24 (((words1.drop 24).drop 24).drop 24), List.all_append, w_t4, ← List.take_append_drop 24 ((((words1.drop 24).drop 24).drop 24).drop 24), List.all_append, w_t5, w_t6]
  rfl
set_option maxRecDepth 65536 in
theorem w_rest : rest_1_c.before args0 about1 = true := by decide +kernel
set_option maxRecDepth 65536 in
theorem w_case : (Jvm.Cond.and given_1 narrow_1).before args0 about1 = true := by decide +kernel
theorem w_applies : (headSpec (Jvm.Cond.code x code maxLocals ret :: tables_1) room_1).applies x e0.platform about1 = true :=
  (Spec.applies_iff w_frames).mpr ⟨w_running, w_runnable, w_alone, w_named, w_hears, w_ripe, w_room, w_tables⟩
theorem atStart : AtStart classFile x code maxLocals ret World_1 tables_1 room_1 Calls_1 rest_1 Pre_1 launch0 p0 e0 about1 theMethod args0 below0 :=
  ⟨lists_1, trivial, launch0.admits_env _ _ _, launch0.least_env, fairChoices_fair.cas, fairChoices_fair.clock, w_frames, w_args, w_heap, w_applies, trivial, w_rest, w_case⟩
end start1
theorem witness_1 : WitnessClaimed_1 := ⟨start1.p0, start1.e0, start1.about1, start1.theMethod, start1.args0, start1.below0, start1.atStart⟩
end Jvm.Pilot.@@N@@
