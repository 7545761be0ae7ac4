import JvmDerived
import JvmDerived.Pilot.@@N@@Statement
import JvmDerived.Pilot.@@N@@Code
set_option linter.unusedVariables false
set_option linter.unusedSimpArgs false
namespace Jvm.Pilot.@@N@@
open Jvm Jvm.ClassFile Sem Op Lib Jvm.Free Jvm.Stand Jvm.LawKit Jvm.RoadKit Bundle Jvm.Pilot.@@N@@.Jvm.D

section Layer
variable {p : Program} {l : Launch} {e : Env} {R : Room} {s : State} {m : MethodId} {args : Array Value} {below : List Frame} {meth : Method} {c : Code} {bytes : ByteArray} {mxl : Nat} {rt : Option FieldType} {Z : State} {a0 : Array Value} {EL : List (String × Nat)} {own : String} {n0 : Nat} {h0 : Heap} {ws : List Addr} {S0 : State} {V : Vm} {h : Heap} {cells slots pc pc' : Nat} {L : Array Slot} {st : List Value}
/-- where a walk stands: V the tables on which it is based, h its heap, g its frame -/
def Wk (p : Program) (l : Launch) (e : Env) (R : Room) (s : State) (m : MethodId) (args : Array Value) (below : List Frame) (meth : Method) (c : Code) (bytes : ByteArray) (mxl : Nat) (rt : Option FieldType) (Z : State) (a0 : Array Value) (EL : List (String × Nat)) (own : String) (n0 : Nat) (h0 : Heap) (ws : List Addr) (S0 : State) (V : Vm) (h : Heap) (cells slots : Nat) (g : JFrame) : Prop :=
  (p.tables.exec = Jvm.exec ∧ c.code = bytes ∧ c.maxLocals = mxl ∧ meth.sig.returnType = rt ∧ meth.locks = false ∧ EW Z a0 EL ∧ (∀ x ∈ ws, n0 ≤ x) ∧ n0 ≤ h0.size ∧ s.heap = h0 ∧ Old Z n0 h0) ∧
  (Z.Warmed39 V ∧ V.findClass own = some m.cls ∧ (∃ k, s.Since V k ∧ k ≤ h.size) ∧ Old Z n0 h ∧ CHr Z EL s.vm h0 V h ∧ Keep h0 h ws) ∧
  ∃ (T : State) (locs : List Loc), Stand p l e R (s.setVm V) m args below meth c T locs cells slots ∧ T.heap = h ∧ Fr n0 locs ∧ ∀ t, Steps p.tables e below (T.setTop g) t → Steps p.tables e below S0 t
theorem Wk.plain {g g' : JFrame} (W : Wk p l e R s m args below meth c bytes mxl rt Z a0 EL own n0 h0 ws S0 V h cells slots g) (f : ∀ (T : State), At T m c below → p.tables.exec = Jvm.exec → c.code = bytes → ∀ t, Steps p.tables e below (T.setTop g') t → Steps p.tables e below (T.setTop g) t) : Wk p l e R s m args below meth c bytes mxl rt Z a0 EL own n0 h0 ws S0 V h cells slots g' := by
  obtain ⟨a, b, T, locs, X, eT, N, k⟩ := W
  exact ⟨a, b, T, locs, X, eT, N, fun t q => k t (f T X.here a.1 a.2.1 t q)⟩
/-- a step that reads the tables and leaves the heap -/
theorem Wk.reads {g g' : JFrame} (W : Wk p l e R s m args below meth c bytes mxl rt Z a0 EL own n0 h0 ws S0 V h cells slots g) (f : ∀ (T : State) (locs : List Loc), Stand p l e R (s.setVm V) m args below meth c T locs cells slots → T.heap = h → p.tables.exec = Jvm.exec → c.code = bytes → Z.Warmed39 (s.setVm V).vm → (s.setVm V).vm.findClass own = some m.cls → ∃ T', Stand p l e R (s.setVm V) m args below meth c T' locs cells slots ∧ T'.heap = h ∧ ∀ t, Steps p.tables e below (T'.setTop g') t → Steps p.tables e below (T.setTop g) t) : Wk p l e R s m args below meth c bytes mxl rt Z a0 EL own n0 h0 ws S0 V h cells slots g' := by
  obtain ⟨a, b, T, locs, X, eT, N, k⟩ := W
  obtain ⟨T', X', eT', q⟩ := f T locs X eT a.1 a.2.1 b.1 b.2.1
  exact ⟨a, b, T', locs, X', eT', N, fun t z => k t (q t z)⟩
theorem Wk.cast {st' : List Value} (W : Wk p l e R s m args below meth c bytes mxl rt Z a0 EL own n0 h0 ws S0 V h cells slots (mkF m pc L st)) (q : st = st') : Wk p l e R s m args below meth c bytes mxl rt Z a0 EL own n0 h0 ws S0 V h cells slots (mkF m pc L st') := by subst q; exact W
theorem Wk.castL {L' : Array Slot} (W : Wk p l e R s m args below meth c bytes mxl rt Z a0 EL own n0 h0 ws S0 V h cells slots (mkF m pc L st)) (q : L = L') : Wk p l e R s m args below meth c bytes mxl rt Z a0 EL own n0 h0 ws S0 V h cells slots (mkF m pc L' st) := by subst q; exact W
theorem Wk.more {g : JFrame} {cells' slots' : Nat} (W : Wk p l e R s m args below meth c bytes mxl rt Z a0 EL own n0 h0 ws S0 V h cells slots g) (hc : cells ≤ cells') (hs : slots ≤ slots') : Wk p l e R s m args below meth c bytes mxl rt Z a0 EL own n0 h0 ws S0 V h cells' slots' g := by
  obtain ⟨a, b, T, locs, X, eT, N, k⟩ := W
  exact ⟨a, b, T, locs, X.mono hc hs, eT, N, k⟩
theorem Wk.alike {g : JFrame} (W : Wk p l e R s m args below meth c bytes mxl rt Z a0 EL own n0 h0 ws S0 V h cells slots g) : Z.vm.Alike V := W.2.1.1.alike
theorem Wk.old {g : JFrame} (W : Wk p l e R s m args below meth c bytes mxl rt Z a0 EL own n0 h0 ws S0 V h cells slots g) : Old Z n0 h := W.2.1.2.2.2.1
theorem Wk.n0le {g : JFrame} (W : Wk p l e R s m args below meth c bytes mxl rt Z a0 EL own n0 h0 ws S0 V h cells slots g) : n0 ≤ h.size := by have q := W.old; rw [← q.1]; exact q.2.1
theorem Wk.kept {g : JFrame} (W : Wk p l e R s m args below meth c bytes mxl rt Z a0 EL own n0 h0 ws S0 V h cells slots g) : Keep h0 h ws := W.2.1.2.2.2.2.2
theorem Wk.chv {g : JFrame} (W : Wk p l e R s m args below meth c bytes mxl rt Z a0 EL own n0 h0 ws S0 V h cells slots g) : CHv Z EL V h := W.2.1.2.2.2.2.1.1
theorem Wk.el {g : JFrame} (W : Wk p l e R s m args below meth c bytes mxl rt Z a0 EL own n0 h0 ws S0 V h cells slots g) : EW Z a0 EL := W.1.2.2.2.2.2.1
theorem Wk.sta {g : JFrame} (W : Wk p l e R s m args below meth c bytes mxl rt Z a0 EL own n0 h0 ws S0 V h cells slots g) {C n d : String} {v : Value} (S : Sta Z Z.heap C n d v) : Sta Z h C n d v := S.ext W.old.2
/-- an object of a class that no constant is of -/
theorem Wk.safeE {g : JFrame} (W : Wk p l e R s m args below meth c bytes mxl rt Z a0 EL own n0 h0 ws S0 V h cells slots g) {a : Addr} {C : String} (E : Exa Z h a C) (h1 : C ≠ "java/lang/String") (h2 : C ≠ "[B") : Safe Z EL V h a := Safe.exa W.alike E h1 h2
theorem Wk.safeA {g : JFrame} (W : Wk p l e R s m args below meth c bytes mxl rt Z a0 EL own n0 h0 ws S0 V h cells slots g) {a : Addr} {k : ClassId} {ty : FieldType} {z : Int32} {vs : List Value} {dv : Value} (A : Arv Z h a k ty z vs dv) (ht : ty ≠ .byte) : Safe Z EL V h a := Safe.arv W.alike A ht
/-- a write has been made at a -/
theorem Wk.wrote {g g' : JFrame} {h' : Heap} {a : Addr} {sl : Nat} {v : Value} {cells' slots' : Nat} (W : Wk p l e R s m args below meth c bytes mxl rt Z a0 EL own n0 h0 ws S0 V h cells slots g) (sf : Safe Z EL V h a) (q : a ∈ ws ∨ h0.size ≤ a) (f : ∀ (T : State) (locs : List Loc), Stand p l e R (s.setVm V) m args below meth c T locs cells slots → T.heap = h → p.tables.exec = Jvm.exec → c.code = bytes → Z.Warmed39 (s.setVm V).vm → (s.setVm V).vm.findClass own = some m.cls → ∃ T' h', Stand p l e R (s.setVm V) m args below meth c T' (locs ++ [⟨a, sl⟩]) cells slots ∧ T'.heap = h' ∧ Wr h h' a sl v ∧ ∀ t, Steps p.tables e below (T'.setTop g') t → Steps p.tables e below (T.setTop g) t) :
    ∃ h', Wk p l e R s m args below meth c bytes mxl rt Z a0 EL own n0 h0 ws S0 V h' cells slots g' ∧ Wr h h' a sl v ∧ ∀ x, Safe Z EL V h x → Safe Z EL V h' x := by
  obtain ⟨a1, b, T, locs, X, eT, N, k⟩ := W
  obtain ⟨T', h', X', eT', w, st⟩ := f T locs X eT a1.1 a1.2.1 b.1 b.2.1
  have hge : n0 ≤ a := q.elim (fun z => a1.2.2.2.2.2.2.1 a z) (fun z => Nat.le_trans a1.2.2.2.2.2.2.2.1 z)
  obtain ⟨k0, hS, hk⟩ := b.2.2.1
  have hsz : h.size ≤ h'.size := Nat.le_of_eq w.size.symm
  refine ⟨h', ⟨a1, ⟨b.1, b.2.1, ⟨k0, hS, Nat.le_trans hk hsz⟩, b.2.2.2.1.wr w hge, b.2.2.2.2.1.trans (CHr.wr w sf b.2.2.2.2.1.1), b.2.2.2.2.2.wr w q⟩, T', _, X', eT', Fr.snoc X' N hge, fun t z => k t (st t z)⟩, w, fun x sx => Safe.wr w sf b.2.2.2.2.1.1 sx⟩
/-- something has been made at the heap's end -/
theorem Wk.grew {g : JFrame} {G : Addr → JFrame} {cells' slots' : Nat} {Q : Heap → Prop} (W : Wk p l e R s m args below meth c bytes mxl rt Z a0 EL own n0 h0 ws S0 V h cells slots g) (f : ∀ (T : State) (locs : List Loc), Stand p l e R (s.setVm V) m args below meth c T locs cells slots → T.heap = h → p.tables.exec = Jvm.exec → c.code = bytes → Z.Warmed39 (s.setVm V).vm → (s.setVm V).vm.findClass own = some m.cls → ∃ T' h', Stand p l e R (s.setVm V) m args below meth c T' locs cells' slots' ∧ T'.heap = h' ∧ Ext h h' ∧ Q h' ∧ ∀ t, Steps p.tables e below (T'.setTop (G h.size)) t → Steps p.tables e below (T.setTop g) t) :
    ∃ h' a, Wk p l e R s m args below meth c bytes mxl rt Z a0 EL own n0 h0 ws S0 V h' cells' slots' (G a) ∧ Ext h h' ∧ a = h.size ∧ Q h' ∧ Safe Z EL V h' a ∧ ∀ x, Safe Z EL V h x → Safe Z EL V h' x := by
  obtain ⟨a1, b, T, locs, X, eT, N, k⟩ := W
  obtain ⟨T', h', X', eT', E, q, st⟩ := f T locs X eT a1.1 a1.2.1 b.1 b.2.1
  obtain ⟨k0, hS, hk⟩ := b.2.2.1
  have H := b.2.2.2.2.1.1
  exact ⟨h', h.size, ⟨a1, ⟨b.1, b.2.1, ⟨k0, hS, Nat.le_trans hk E.1⟩, b.2.2.2.1.ext E, b.2.2.2.2.1.trans (CHr.ext E H), b.2.2.2.2.2.ext E⟩, T', _, X', eT', N, fun t z => k t (st t z)⟩, E, rfl, q, Safe.ext E H (Safe.new (Nat.le_refl _)), fun x sx => Safe.ext E H sx⟩

theorem Wk.aloadN {k : Fin 4} {v : Value} (W : Wk p l e R s m args below meth c bytes mxl rt Z a0 EL own n0 h0 ws S0 V h cells slots (mkF m pc L st)) (hd : decode bytes pc = .ok (.aload_n k, 1)) (hl : L[k.val]? = some (.val v)) (hv : v.isRef = true) (hp : pc + 1 = pc') : Wk p l e R s m args below meth c bytes mxl rt Z a0 EL own n0 h0 ws S0 V h cells slots (mkF m pc' L (v :: st)) := by
  subst hp
  exact W.plain fun T hq hx hby t k => XS.aloadN hq hx rfl (hb hby hd) hl hv k
theorem Wk.aload {k : Nat} {v : Value} (W : Wk p l e R s m args below meth c bytes mxl rt Z a0 EL own n0 h0 ws S0 V h cells slots (mkF m pc L st)) (hd : decode bytes pc = .ok (.aload k, 2)) (hl : L[k]? = some (.val v)) (hv : v.isRef = true) (hp : pc + 2 = pc') : Wk p l e R s m args below meth c bytes mxl rt Z a0 EL own n0 h0 ws S0 V h cells slots (mkF m pc' L (v :: st)) := by
  subst hp
  exact W.plain fun T hq hx hby t k => XS.aload hq hx rfl (hb hby hd) hl hv k
theorem Wk.iloadN {k : Fin 4} {v : Int32} (W : Wk p l e R s m args below meth c bytes mxl rt Z a0 EL own n0 h0 ws S0 V h cells slots (mkF m pc L st)) (hd : decode bytes pc = .ok (.iload_n k, 1)) (hl : L[k.val]? = some (.val (.int v))) (hp : pc + 1 = pc') : Wk p l e R s m args below meth c bytes mxl rt Z a0 EL own n0 h0 ws S0 V h cells slots (mkF m pc' L (.int v :: st)) := by
  subst hp
  exact W.plain fun T hq hx hby t k => XS.iloadN hq hx rfl (hb hby hd) hl k
theorem Wk.iload {k : Nat} {v : Int32} (W : Wk p l e R s m args below meth c bytes mxl rt Z a0 EL own n0 h0 ws S0 V h cells slots (mkF m pc L st)) (hd : decode bytes pc = .ok (.iload k, 2)) (hl : L[k]? = some (.val (.int v))) (hp : pc + 2 = pc') : Wk p l e R s m args below meth c bytes mxl rt Z a0 EL own n0 h0 ws S0 V h cells slots (mkF m pc' L (.int v :: st)) := by
  subst hp
  exact W.plain fun T hq hx hby t k => XS.iload hq hx rfl (hb hby hd) hl k
theorem Wk.lloadN {k : Fin 4} {v : Int64} (W : Wk p l e R s m args below meth c bytes mxl rt Z a0 EL own n0 h0 ws S0 V h cells slots (mkF m pc L st)) (hd : decode bytes pc = .ok (.lload_n k, 1)) (hl : L[k.val]? = some (.val (.long v))) (hp : pc + 1 = pc') : Wk p l e R s m args below meth c bytes mxl rt Z a0 EL own n0 h0 ws S0 V h cells slots (mkF m pc' L (.long v :: st)) := by
  subst hp
  exact W.plain fun T hq hx hby t k => Jvm.Free.XT.lloadN hq hx rfl (hb hby hd) hl k
theorem Wk.lload {k : Nat} {v : Int64} (W : Wk p l e R s m args below meth c bytes mxl rt Z a0 EL own n0 h0 ws S0 V h cells slots (mkF m pc L st)) (hd : decode bytes pc = .ok (.lload k, 2)) (hl : L[k]? = some (.val (.long v))) (hp : pc + 2 = pc') : Wk p l e R s m args below meth c bytes mxl rt Z a0 EL own n0 h0 ws S0 V h cells slots (mkF m pc' L (.long v :: st)) := by
  subst hp
  exact W.plain fun T hq hx hby t k => Jvm.Free.XT.lload hq hx rfl (hb hby hd) hl k
theorem Wk.iconst {i : Int} {v : Int32} (W : Wk p l e R s m args below meth c bytes mxl rt Z a0 EL own n0 h0 ws S0 V h cells slots (mkF m pc L st)) (hd : decode bytes pc = .ok (.iconst i, 1)) (hv : Int32.ofInt i = v) (hp : pc + 1 = pc') : Wk p l e R s m args below meth c bytes mxl rt Z a0 EL own n0 h0 ws S0 V h cells slots (mkF m pc' L (.int v :: st)) := by
  subst hv hp
  exact W.plain fun T hq hx hby t k => XS.iconst hq hx rfl (hb hby hd)  k
theorem Wk.bipush {i : Int} {v : Int32} (W : Wk p l e R s m args below meth c bytes mxl rt Z a0 EL own n0 h0 ws S0 V h cells slots (mkF m pc L st)) (hd : decode bytes pc = .ok (.bipush i, 2)) (hv : (Int8.ofInt i).toInt32 = v) (hp : pc + 2 = pc') : Wk p l e R s m args below meth c bytes mxl rt Z a0 EL own n0 h0 ws S0 V h cells slots (mkF m pc' L (.int v :: st)) := by
  subst hv hp
  exact W.plain fun T hq hx hby t k => XS.bipush hq hx rfl (hb hby hd)  k
theorem Wk.sipush {i : Int} {v : Int32} (W : Wk p l e R s m args below meth c bytes mxl rt Z a0 EL own n0 h0 ws S0 V h cells slots (mkF m pc L st)) (hd : decode bytes pc = .ok (.sipush i, 3)) (hv : (Int16.ofInt i).toInt32 = v) (hp : pc + 3 = pc') : Wk p l e R s m args below meth c bytes mxl rt Z a0 EL own n0 h0 ws S0 V h cells slots (mkF m pc' L (.int v :: st)) := by
  subst hv hp
  exact W.plain fun T hq hx hby t k => XS.sipush hq hx rfl (hb hby hd)  k
theorem Wk.lconst {k : Fin 2} {v : Int64} (W : Wk p l e R s m args below meth c bytes mxl rt Z a0 EL own n0 h0 ws S0 V h cells slots (mkF m pc L st)) (hd : decode bytes pc = .ok (.lconst k, 1)) (hv : Int64.ofNat k = v) (hp : pc + 1 = pc') : Wk p l e R s m args below meth c bytes mxl rt Z a0 EL own n0 h0 ws S0 V h cells slots (mkF m pc' L (.long v :: st)) := by
  subst hv hp
  exact W.plain fun T hq hx hby t k => Jvm.Free.XT.lconst hq hx rfl (hb hby hd)  k
theorem Wk.aconstNull  (W : Wk p l e R s m args below meth c bytes mxl rt Z a0 EL own n0 h0 ws S0 V h cells slots (mkF m pc L st)) (hd : decode bytes pc = .ok (.aconst_null, 1))  (hp : pc + 1 = pc') : Wk p l e R s m args below meth c bytes mxl rt Z a0 EL own n0 h0 ws S0 V h cells slots (mkF m pc' L (.null :: st)) := by
  subst hp
  exact W.plain fun T hq hx hby t k => XS.aconstNull hq hx rfl (hb hby hd)  k
theorem Wk.iadd {x y v : Int32} (W : Wk p l e R s m args below meth c bytes mxl rt Z a0 EL own n0 h0 ws S0 V h cells slots (mkF m pc L (.int y :: .int x :: st))) (hd : decode bytes pc = .ok (.iadd, 1)) (hv : x + y = v) (hp : pc + 1 = pc') : Wk p l e R s m args below meth c bytes mxl rt Z a0 EL own n0 h0 ws S0 V h cells slots (mkF m pc' L (.int v :: st)) := by
  subst hv hp
  exact W.plain fun T hq hx hby t k => XS.iadd hq hx rfl (hb hby hd) rfl k
theorem Wk.isub {x y v : Int32} (W : Wk p l e R s m args below meth c bytes mxl rt Z a0 EL own n0 h0 ws S0 V h cells slots (mkF m pc L (.int y :: .int x :: st))) (hd : decode bytes pc = .ok (.isub, 1)) (hv : x - y = v) (hp : pc + 1 = pc') : Wk p l e R s m args below meth c bytes mxl rt Z a0 EL own n0 h0 ws S0 V h cells slots (mkF m pc' L (.int v :: st)) := by
  subst hv hp
  exact W.plain fun T hq hx hby t k => XS.isub hq hx rfl (hb hby hd) rfl k
theorem Wk.imul {x y v : Int32} (W : Wk p l e R s m args below meth c bytes mxl rt Z a0 EL own n0 h0 ws S0 V h cells slots (mkF m pc L (.int y :: .int x :: st))) (hd : decode bytes pc = .ok (.imul, 1)) (hv : x * y = v) (hp : pc + 1 = pc') : Wk p l e R s m args below meth c bytes mxl rt Z a0 EL own n0 h0 ws S0 V h cells slots (mkF m pc' L (.int v :: st)) := by
  subst hv hp
  exact W.plain fun T hq hx hby t k => XS.imul hq hx rfl (hb hby hd) rfl k
theorem Wk.iand {x y v : Int32} (W : Wk p l e R s m args below meth c bytes mxl rt Z a0 EL own n0 h0 ws S0 V h cells slots (mkF m pc L (.int y :: .int x :: st))) (hd : decode bytes pc = .ok (.iand, 1)) (hv : x &&& y = v) (hp : pc + 1 = pc') : Wk p l e R s m args below meth c bytes mxl rt Z a0 EL own n0 h0 ws S0 V h cells slots (mkF m pc' L (.int v :: st)) := by
  subst hv hp
  exact W.plain fun T hq hx hby t k => XS.iand hq hx rfl (hb hby hd) rfl k
theorem Wk.ior {x y v : Int32} (W : Wk p l e R s m args below meth c bytes mxl rt Z a0 EL own n0 h0 ws S0 V h cells slots (mkF m pc L (.int y :: .int x :: st))) (hd : decode bytes pc = .ok (.ior, 1)) (hv : x ||| y = v) (hp : pc + 1 = pc') : Wk p l e R s m args below meth c bytes mxl rt Z a0 EL own n0 h0 ws S0 V h cells slots (mkF m pc' L (.int v :: st)) := by
  subst hv hp
  exact W.plain fun T hq hx hby t k => Jvm.Free.XT.ior hq hx rfl (hb hby hd) rfl k
theorem Wk.ixor {x y v : Int32} (W : Wk p l e R s m args below meth c bytes mxl rt Z a0 EL own n0 h0 ws S0 V h cells slots (mkF m pc L (.int y :: .int x :: st))) (hd : decode bytes pc = .ok (.ixor, 1)) (hv : x ^^^ y = v) (hp : pc + 1 = pc') : Wk p l e R s m args below meth c bytes mxl rt Z a0 EL own n0 h0 ws S0 V h cells slots (mkF m pc' L (.int v :: st)) := by
  subst hv hp
  exact W.plain fun T hq hx hby t k => Jvm.Free.XT.ixor hq hx rfl (hb hby hd) rfl k
theorem Wk.ishl {x y v : Int32} (W : Wk p l e R s m args below meth c bytes mxl rt Z a0 EL own n0 h0 ws S0 V h cells slots (mkF m pc L (.int y :: .int x :: st))) (hd : decode bytes pc = .ok (.ishl, 1)) (hv : x <<< (y &&& 31) = v) (hp : pc + 1 = pc') : Wk p l e R s m args below meth c bytes mxl rt Z a0 EL own n0 h0 ws S0 V h cells slots (mkF m pc' L (.int v :: st)) := by
  subst hv hp
  exact W.plain fun T hq hx hby t k => Jvm.Free.XT.ishl hq hx rfl (hb hby hd) rfl k
theorem Wk.ishr {x y v : Int32} (W : Wk p l e R s m args below meth c bytes mxl rt Z a0 EL own n0 h0 ws S0 V h cells slots (mkF m pc L (.int y :: .int x :: st))) (hd : decode bytes pc = .ok (.ishr, 1)) (hv : x >>> (y &&& 31) = v) (hp : pc + 1 = pc') : Wk p l e R s m args below meth c bytes mxl rt Z a0 EL own n0 h0 ws S0 V h cells slots (mkF m pc' L (.int v :: st)) := by
  subst hv hp
  exact W.plain fun T hq hx hby t k => Jvm.Free.XT.ishr hq hx rfl (hb hby hd) rfl k
theorem Wk.iushr {x y v : Int32} (W : Wk p l e R s m args below meth c bytes mxl rt Z a0 EL own n0 h0 ws S0 V h cells slots (mkF m pc L (.int y :: .int x :: st))) (hd : decode bytes pc = .ok (.iushr, 1)) (hv : Jvm.Free.XT.ushr x y = v) (hp : pc + 1 = pc') : Wk p l e R s m args below meth c bytes mxl rt Z a0 EL own n0 h0 ws S0 V h cells slots (mkF m pc' L (.int v :: st)) := by
  subst hv hp
  exact W.plain fun T hq hx hby t k => Jvm.Free.XT.iushr hq hx rfl (hb hby hd) rfl k
theorem Wk.idiv {x y v : Int32} (W : Wk p l e R s m args below meth c bytes mxl rt Z a0 EL own n0 h0 ws S0 V h cells slots (mkF m pc L (.int y :: .int x :: st))) (hd : decode bytes pc = .ok (.idiv, 1)) (hy : y ≠ 0) (hv : x / y = v) (hp : pc + 1 = pc') : Wk p l e R s m args below meth c bytes mxl rt Z a0 EL own n0 h0 ws S0 V h cells slots (mkF m pc' L (.int v :: st)) := by
  subst hv hp
  exact W.plain fun T hq hx hby t k => XS.idiv hq hx rfl (hb hby hd) rfl hy k
theorem Wk.irem {x y v : Int32} (W : Wk p l e R s m args below meth c bytes mxl rt Z a0 EL own n0 h0 ws S0 V h cells slots (mkF m pc L (.int y :: .int x :: st))) (hd : decode bytes pc = .ok (.irem, 1)) (hy : y ≠ 0) (hv : x - (x / y) * y = v) (hp : pc + 1 = pc') : Wk p l e R s m args below meth c bytes mxl rt Z a0 EL own n0 h0 ws S0 V h cells slots (mkF m pc' L (.int v :: st)) := by
  subst hv hp
  exact W.plain fun T hq hx hby t k => XS.irem hq hx rfl (hb hby hd) rfl hy k
theorem Wk.ineg {x v : Int32} (W : Wk p l e R s m args below meth c bytes mxl rt Z a0 EL own n0 h0 ws S0 V h cells slots (mkF m pc L (.int x :: st))) (hd : decode bytes pc = .ok (.ineg, 1)) (hv : -x = v) (hp : pc + 1 = pc') : Wk p l e R s m args below meth c bytes mxl rt Z a0 EL own n0 h0 ws S0 V h cells slots (mkF m pc' L (.int v :: st)) := by
  subst hv hp
  exact W.plain fun T hq hx hby t k => XS.ineg hq hx rfl (hb hby hd) rfl k
theorem Wk.i2b {x v : Int32} (W : Wk p l e R s m args below meth c bytes mxl rt Z a0 EL own n0 h0 ws S0 V h cells slots (mkF m pc L (.int x :: st))) (hd : decode bytes pc = .ok (.i2b, 1)) (hv : x.toInt8.toInt32 = v) (hp : pc + 1 = pc') : Wk p l e R s m args below meth c bytes mxl rt Z a0 EL own n0 h0 ws S0 V h cells slots (mkF m pc' L (.int v :: st)) := by
  subst hv hp
  exact W.plain fun T hq hx hby t k => Jvm.Free.XT.i2b hq hx rfl (hb hby hd) rfl k
theorem Wk.i2c {x v : Int32} (W : Wk p l e R s m args below meth c bytes mxl rt Z a0 EL own n0 h0 ws S0 V h cells slots (mkF m pc L (.int x :: st))) (hd : decode bytes pc = .ok (.i2c, 1)) (hv : x.toUInt32.toUInt16.toUInt32.toInt32 = v) (hp : pc + 1 = pc') : Wk p l e R s m args below meth c bytes mxl rt Z a0 EL own n0 h0 ws S0 V h cells slots (mkF m pc' L (.int v :: st)) := by
  subst hv hp
  exact W.plain fun T hq hx hby t k => Jvm.Free.XT.i2c hq hx rfl (hb hby hd) rfl k
theorem Wk.i2s {x v : Int32} (W : Wk p l e R s m args below meth c bytes mxl rt Z a0 EL own n0 h0 ws S0 V h cells slots (mkF m pc L (.int x :: st))) (hd : decode bytes pc = .ok (.i2s, 1)) (hv : x.toInt16.toInt32 = v) (hp : pc + 1 = pc') : Wk p l e R s m args below meth c bytes mxl rt Z a0 EL own n0 h0 ws S0 V h cells slots (mkF m pc' L (.int v :: st)) := by
  subst hv hp
  exact W.plain fun T hq hx hby t k => Jvm.Free.XT.i2s hq hx rfl (hb hby hd) rfl k
theorem Wk.ladd {x y v : Int64} (W : Wk p l e R s m args below meth c bytes mxl rt Z a0 EL own n0 h0 ws S0 V h cells slots (mkF m pc L (.long y :: .long x :: st))) (hd : decode bytes pc = .ok (.ladd, 1)) (hv : x + y = v) (hp : pc + 1 = pc') : Wk p l e R s m args below meth c bytes mxl rt Z a0 EL own n0 h0 ws S0 V h cells slots (mkF m pc' L (.long v :: st)) := by
  subst hv hp
  exact W.plain fun T hq hx hby t k => Jvm.Free.XT.ladd hq hx rfl (hb hby hd) rfl k
theorem Wk.lsub {x y v : Int64} (W : Wk p l e R s m args below meth c bytes mxl rt Z a0 EL own n0 h0 ws S0 V h cells slots (mkF m pc L (.long y :: .long x :: st))) (hd : decode bytes pc = .ok (.lsub, 1)) (hv : x - y = v) (hp : pc + 1 = pc') : Wk p l e R s m args below meth c bytes mxl rt Z a0 EL own n0 h0 ws S0 V h cells slots (mkF m pc' L (.long v :: st)) := by
  subst hv hp
  exact W.plain fun T hq hx hby t k => Jvm.Free.XT.lsub hq hx rfl (hb hby hd) rfl k
theorem Wk.lmul {x y v : Int64} (W : Wk p l e R s m args below meth c bytes mxl rt Z a0 EL own n0 h0 ws S0 V h cells slots (mkF m pc L (.long y :: .long x :: st))) (hd : decode bytes pc = .ok (.lmul, 1)) (hv : x * y = v) (hp : pc + 1 = pc') : Wk p l e R s m args below meth c bytes mxl rt Z a0 EL own n0 h0 ws S0 V h cells slots (mkF m pc' L (.long v :: st)) := by
  subst hv hp
  exact W.plain fun T hq hx hby t k => Jvm.Free.XT.lmul hq hx rfl (hb hby hd) rfl k
theorem Wk.land {x y v : Int64} (W : Wk p l e R s m args below meth c bytes mxl rt Z a0 EL own n0 h0 ws S0 V h cells slots (mkF m pc L (.long y :: .long x :: st))) (hd : decode bytes pc = .ok (.land, 1)) (hv : x &&& y = v) (hp : pc + 1 = pc') : Wk p l e R s m args below meth c bytes mxl rt Z a0 EL own n0 h0 ws S0 V h cells slots (mkF m pc' L (.long v :: st)) := by
  subst hv hp
  exact W.plain fun T hq hx hby t k => Jvm.Free.XT.land hq hx rfl (hb hby hd) rfl k
theorem Wk.lor {x y v : Int64} (W : Wk p l e R s m args below meth c bytes mxl rt Z a0 EL own n0 h0 ws S0 V h cells slots (mkF m pc L (.long y :: .long x :: st))) (hd : decode bytes pc = .ok (.lor, 1)) (hv : x ||| y = v) (hp : pc + 1 = pc') : Wk p l e R s m args below meth c bytes mxl rt Z a0 EL own n0 h0 ws S0 V h cells slots (mkF m pc' L (.long v :: st)) := by
  subst hv hp
  exact W.plain fun T hq hx hby t k => Jvm.Free.XT.lor hq hx rfl (hb hby hd) rfl k
theorem Wk.lxor {x y v : Int64} (W : Wk p l e R s m args below meth c bytes mxl rt Z a0 EL own n0 h0 ws S0 V h cells slots (mkF m pc L (.long y :: .long x :: st))) (hd : decode bytes pc = .ok (.lxor, 1)) (hv : x ^^^ y = v) (hp : pc + 1 = pc') : Wk p l e R s m args below meth c bytes mxl rt Z a0 EL own n0 h0 ws S0 V h cells slots (mkF m pc' L (.long v :: st)) := by
  subst hv hp
  exact W.plain fun T hq hx hby t k => Jvm.Free.XT.lxor hq hx rfl (hb hby hd) rfl k
theorem Wk.ldiv {x y v : Int64} (W : Wk p l e R s m args below meth c bytes mxl rt Z a0 EL own n0 h0 ws S0 V h cells slots (mkF m pc L (.long y :: .long x :: st))) (hd : decode bytes pc = .ok (.ldiv, 1)) (hy : y ≠ 0) (hv : x / y = v) (hp : pc + 1 = pc') : Wk p l e R s m args below meth c bytes mxl rt Z a0 EL own n0 h0 ws S0 V h cells slots (mkF m pc' L (.long v :: st)) := by
  subst hv hp
  exact W.plain fun T hq hx hby t k => Jvm.Free.XT.ldiv hq hx rfl (hb hby hd) rfl hy k
theorem Wk.lrem {x y v : Int64} (W : Wk p l e R s m args below meth c bytes mxl rt Z a0 EL own n0 h0 ws S0 V h cells slots (mkF m pc L (.long y :: .long x :: st))) (hd : decode bytes pc = .ok (.lrem, 1)) (hy : y ≠ 0) (hv : x - (x / y) * y = v) (hp : pc + 1 = pc') : Wk p l e R s m args below meth c bytes mxl rt Z a0 EL own n0 h0 ws S0 V h cells slots (mkF m pc' L (.long v :: st)) := by
  subst hv hp
  exact W.plain fun T hq hx hby t k => Jvm.Free.XT.lrem hq hx rfl (hb hby hd) rfl hy k
theorem Wk.lshl {x v : Int64} {y : Int32} (W : Wk p l e R s m args below meth c bytes mxl rt Z a0 EL own n0 h0 ws S0 V h cells slots (mkF m pc L (.int y :: .long x :: st))) (hd : decode bytes pc = .ok (.lshl, 1)) (hv : x <<< (y.toInt64 &&& 63) = v) (hp : pc + 1 = pc') : Wk p l e R s m args below meth c bytes mxl rt Z a0 EL own n0 h0 ws S0 V h cells slots (mkF m pc' L (.long v :: st)) := by
  subst hv hp
  exact W.plain fun T hq hx hby t k => Jvm.Free.XT.lshl hq hx rfl (hb hby hd) rfl k
theorem Wk.lshr {x v : Int64} {y : Int32} (W : Wk p l e R s m args below meth c bytes mxl rt Z a0 EL own n0 h0 ws S0 V h cells slots (mkF m pc L (.int y :: .long x :: st))) (hd : decode bytes pc = .ok (.lshr, 1)) (hv : x >>> (y.toInt64 &&& 63) = v) (hp : pc + 1 = pc') : Wk p l e R s m args below meth c bytes mxl rt Z a0 EL own n0 h0 ws S0 V h cells slots (mkF m pc' L (.long v :: st)) := by
  subst hv hp
  exact W.plain fun T hq hx hby t k => Jvm.Free.XT.lshr hq hx rfl (hb hby hd) rfl k
theorem Wk.lushr {x v : Int64} {y : Int32} (W : Wk p l e R s m args below meth c bytes mxl rt Z a0 EL own n0 h0 ws S0 V h cells slots (mkF m pc L (.int y :: .long x :: st))) (hd : decode bytes pc = .ok (.lushr, 1)) (hv : Jvm.Free.XT.ushrL x y = v) (hp : pc + 1 = pc') : Wk p l e R s m args below meth c bytes mxl rt Z a0 EL own n0 h0 ws S0 V h cells slots (mkF m pc' L (.long v :: st)) := by
  subst hv hp
  exact W.plain fun T hq hx hby t k => Jvm.Free.XT.lushr hq hx rfl (hb hby hd) rfl k
theorem Wk.lneg {x v : Int64} (W : Wk p l e R s m args below meth c bytes mxl rt Z a0 EL own n0 h0 ws S0 V h cells slots (mkF m pc L (.long x :: st))) (hd : decode bytes pc = .ok (.lneg, 1)) (hv : -x = v) (hp : pc + 1 = pc') : Wk p l e R s m args below meth c bytes mxl rt Z a0 EL own n0 h0 ws S0 V h cells slots (mkF m pc' L (.long v :: st)) := by
  subst hv hp
  exact W.plain fun T hq hx hby t k => Jvm.Free.XT.lneg hq hx rfl (hb hby hd) rfl k
theorem Wk.i2l {x : Int32} {v : Int64} (W : Wk p l e R s m args below meth c bytes mxl rt Z a0 EL own n0 h0 ws S0 V h cells slots (mkF m pc L (.int x :: st))) (hd : decode bytes pc = .ok (.i2l, 1)) (hv : x.toInt64 = v) (hp : pc + 1 = pc') : Wk p l e R s m args below meth c bytes mxl rt Z a0 EL own n0 h0 ws S0 V h cells slots (mkF m pc' L (.long v :: st)) := by
  subst hv hp
  exact W.plain fun T hq hx hby t k => Jvm.Free.XT.i2l hq hx rfl (hb hby hd) rfl k
theorem Wk.l2i {x : Int64} {v : Int32} (W : Wk p l e R s m args below meth c bytes mxl rt Z a0 EL own n0 h0 ws S0 V h cells slots (mkF m pc L (.long x :: st))) (hd : decode bytes pc = .ok (.l2i, 1)) (hv : x.toInt32 = v) (hp : pc + 1 = pc') : Wk p l e R s m args below meth c bytes mxl rt Z a0 EL own n0 h0 ws S0 V h cells slots (mkF m pc' L (.int v :: st)) := by
  subst hv hp
  exact W.plain fun T hq hx hby t k => Jvm.Free.XT.l2i hq hx rfl (hb hby hd) rfl k
theorem Wk.lcmp {x y : Int64} {v : Int32} (W : Wk p l e R s m args below meth c bytes mxl rt Z a0 EL own n0 h0 ws S0 V h cells slots (mkF m pc L (.long y :: .long x :: st))) (hd : decode bytes pc = .ok (.lcmp, 1)) (hv : Jvm.Free.XT.cmpL x y = v) (hp : pc + 1 = pc') : Wk p l e R s m args below meth c bytes mxl rt Z a0 EL own n0 h0 ws S0 V h cells slots (mkF m pc' L (.int v :: st)) := by
  subst hv hp
  exact W.plain fun T hq hx hby t k => Jvm.Free.XT.lcmp hq hx rfl (hb hby hd) rfl k
theorem Wk.dup {x : Value} (W : Wk p l e R s m args below meth c bytes mxl rt Z a0 EL own n0 h0 ws S0 V h cells slots (mkF m pc L (x :: st))) (hd : decode bytes pc = .ok (.dup, 1)) (hc : x.category = 1) (hp : pc + 1 = pc') : Wk p l e R s m args below meth c bytes mxl rt Z a0 EL own n0 h0 ws S0 V h cells slots (mkF m pc' L (x :: x :: st)) := by
  subst hp
  exact W.plain fun T hq hx hby t k => XS.dup hq hx rfl (hb hby hd) rfl hc k
theorem Wk.pop {x : Value} (W : Wk p l e R s m args below meth c bytes mxl rt Z a0 EL own n0 h0 ws S0 V h cells slots (mkF m pc L (x :: st))) (hd : decode bytes pc = .ok (.pop, 1)) (hc : x.category = 1) (hp : pc + 1 = pc') : Wk p l e R s m args below meth c bytes mxl rt Z a0 EL own n0 h0 ws S0 V h cells slots (mkF m pc' L st) := by
  subst hp
  exact W.plain fun T hq hx hby t k => Jvm.Free.XT.pop hq hx rfl (hb hby hd) rfl hc k
theorem Wk.dupX1 {x y : Value} (W : Wk p l e R s m args below meth c bytes mxl rt Z a0 EL own n0 h0 ws S0 V h cells slots (mkF m pc L (x :: y :: st))) (hd : decode bytes pc = .ok (.dup_x1, 1)) (hc : x.category = 1) (hc' : y.category = 1) (hp : pc + 1 = pc') : Wk p l e R s m args below meth c bytes mxl rt Z a0 EL own n0 h0 ws S0 V h cells slots (mkF m pc' L (x :: y :: x :: st)) := by
  subst hp
  exact W.plain fun T hq hx hby t k => Jvm.Free.XT.dupX1 hq hx rfl (hb hby hd) rfl hc hc' k
theorem Wk.dup2 {x y : Value} (W : Wk p l e R s m args below meth c bytes mxl rt Z a0 EL own n0 h0 ws S0 V h cells slots (mkF m pc L (x :: y :: st))) (hd : decode bytes pc = .ok (.dup2, 1)) (hc : x.category = 1) (hc' : y.category = 1) (hp : pc + 1 = pc') : Wk p l e R s m args below meth c bytes mxl rt Z a0 EL own n0 h0 ws S0 V h cells slots (mkF m pc' L (x :: y :: x :: y :: st)) := by
  subst hp
  exact W.plain fun T hq hx hby t k => Jvm.Free.XT.dup2 hq hx rfl (hb hby hd) rfl hc hc' k
theorem Wk.dup2L {x : Int64} (W : Wk p l e R s m args below meth c bytes mxl rt Z a0 EL own n0 h0 ws S0 V h cells slots (mkF m pc L (.long x :: st))) (hd : decode bytes pc = .ok (.dup2, 1))  (hp : pc + 1 = pc') : Wk p l e R s m args below meth c bytes mxl rt Z a0 EL own n0 h0 ws S0 V h cells slots (mkF m pc' L (.long x :: .long x :: st)) := by
  subst hp
  exact W.plain fun T hq hx hby t k => Jvm.Free.XT.dup2L hq hx rfl (hb hby hd) rfl k
theorem Wk.istoreN {k : Fin 4} {x : Int32} {L' : Array Slot} (W : Wk p l e R s m args below meth c bytes mxl rt Z a0 EL own n0 h0 ws S0 V h cells slots (mkF m pc L (.int x :: st))) (hd : decode bytes pc = .ok (.istore_n k, 1)) (hl : storeLocals L k.val (.int x) = some L') (hp : pc + 1 = pc') : Wk p l e R s m args below meth c bytes mxl rt Z a0 EL own n0 h0 ws S0 V h cells slots (mkF m pc' L' st) := by
  subst hp
  exact W.plain fun T hq hx hby t k => XS.istoreN hq hx rfl (hb hby hd) rfl hl k
theorem Wk.istore {k : Nat} {x : Int32} {L' : Array Slot} (W : Wk p l e R s m args below meth c bytes mxl rt Z a0 EL own n0 h0 ws S0 V h cells slots (mkF m pc L (.int x :: st))) (hd : decode bytes pc = .ok (.istore k, 2)) (hl : storeLocals L k (.int x) = some L') (hp : pc + 2 = pc') : Wk p l e R s m args below meth c bytes mxl rt Z a0 EL own n0 h0 ws S0 V h cells slots (mkF m pc' L' st) := by
  subst hp
  exact W.plain fun T hq hx hby t k => XS.istore hq hx rfl (hb hby hd) rfl hl k
theorem Wk.astoreN {k : Fin 4} {x : Value} {L' : Array Slot} (W : Wk p l e R s m args below meth c bytes mxl rt Z a0 EL own n0 h0 ws S0 V h cells slots (mkF m pc L (x :: st))) (hd : decode bytes pc = .ok (.astore_n k, 1)) (hr : x.isRef = true) (hl : storeLocals L k.val x = some L') (hp : pc + 1 = pc') : Wk p l e R s m args below meth c bytes mxl rt Z a0 EL own n0 h0 ws S0 V h cells slots (mkF m pc' L' st) := by
  subst hp
  exact W.plain fun T hq hx hby t k => XS.astoreN hq hx rfl (hb hby hd) rfl hr hl k
theorem Wk.astore {k : Nat} {x : Value} {L' : Array Slot} (W : Wk p l e R s m args below meth c bytes mxl rt Z a0 EL own n0 h0 ws S0 V h cells slots (mkF m pc L (x :: st))) (hd : decode bytes pc = .ok (.astore k, 2)) (hr : x.isRef = true) (hl : storeLocals L k x = some L') (hp : pc + 2 = pc') : Wk p l e R s m args below meth c bytes mxl rt Z a0 EL own n0 h0 ws S0 V h cells slots (mkF m pc' L' st) := by
  subst hp
  exact W.plain fun T hq hx hby t k => XS.astore hq hx rfl (hb hby hd) rfl hr hl k
theorem Wk.lstoreN {k : Fin 4} {x : Int64} {L' : Array Slot} (W : Wk p l e R s m args below meth c bytes mxl rt Z a0 EL own n0 h0 ws S0 V h cells slots (mkF m pc L (.long x :: st))) (hd : decode bytes pc = .ok (.lstore_n k, 1)) (hl : storeLocals L k.val (.long x) = some L') (hp : pc + 1 = pc') : Wk p l e R s m args below meth c bytes mxl rt Z a0 EL own n0 h0 ws S0 V h cells slots (mkF m pc' L' st) := by
  subst hp
  exact W.plain fun T hq hx hby t k => Jvm.Free.XT.lstoreN hq hx rfl (hb hby hd) rfl hl k
theorem Wk.lstore {k : Nat} {x : Int64} {L' : Array Slot} (W : Wk p l e R s m args below meth c bytes mxl rt Z a0 EL own n0 h0 ws S0 V h cells slots (mkF m pc L (.long x :: st))) (hd : decode bytes pc = .ok (.lstore k, 2)) (hl : storeLocals L k (.long x) = some L') (hp : pc + 2 = pc') : Wk p l e R s m args below meth c bytes mxl rt Z a0 EL own n0 h0 ws S0 V h cells slots (mkF m pc' L' st) := by
  subst hp
  exact W.plain fun T hq hx hby t k => Jvm.Free.XT.lstore hq hx rfl (hb hby hd) rfl hl k
theorem Wk.iinc {k : Nat} {cst : Int} {x v : Int32} {L' : Array Slot} (W : Wk p l e R s m args below meth c bytes mxl rt Z a0 EL own n0 h0 ws S0 V h cells slots (mkF m pc L st)) (hd : decode bytes pc = .ok (.iinc k cst, 3)) (hl : L[k]? = some (.val (.int x))) (hv : x + Int32.ofInt cst = v) (hl' : storeLocals L k (.int v) = some L') (hp : pc + 3 = pc') : Wk p l e R s m args below meth c bytes mxl rt Z a0 EL own n0 h0 ws S0 V h cells slots (mkF m pc' L' st) := by
  subst hv hp
  exact W.plain fun T hq hx hby t k => XS.iinc hq hx rfl (hb hby hd) hl hl' k
theorem Wk.goto {o : Int} (W : Wk p l e R s m args below meth c bytes mxl rt Z a0 EL own n0 h0 ws S0 V h cells slots (mkF m pc L st)) (hd : decode bytes pc = .ok (.goto o, 3))  (ho : 0 ≤ (pc : Int) + o) (hp : ((pc : Int) + o).toNat = pc') : Wk p l e R s m args below meth c bytes mxl rt Z a0 EL own n0 h0 ws S0 V h cells slots (mkF m pc' L st) := by
  exact W.plain fun T hq hx hby t k => XS.goto hq hx rfl (pc0 := pc) rfl (hb hby hd)  ho hp k
theorem Wk.ifT {cd : ClassFile.Cond} {x : Int32} {o : Int} (W : Wk p l e R s m args below meth c bytes mxl rt Z a0 EL own n0 h0 ws S0 V h cells slots (mkF m pc L (.int x :: st))) (hd : decode bytes pc = .ok (.ifCond cd o, 3)) (hc : if_icmp.holds cd x 0 = true) (ho : 0 ≤ (pc : Int) + o) (hp : ((pc : Int) + o).toNat = pc') : Wk p l e R s m args below meth c bytes mxl rt Z a0 EL own n0 h0 ws S0 V h cells slots (mkF m pc' L st) := by
  exact W.plain fun T hq hx hby t k => XS.ifYes hq hx rfl (pc0 := pc) rfl (hb hby hd) rfl ((if0 cd x).trans hc) ho hp k
theorem Wk.ifF {cd : ClassFile.Cond} {x : Int32} {o : Int} (W : Wk p l e R s m args below meth c bytes mxl rt Z a0 EL own n0 h0 ws S0 V h cells slots (mkF m pc L (.int x :: st))) (hd : decode bytes pc = .ok (.ifCond cd o, 3)) (hc : if_icmp.holds cd x 0 = false) (hp : pc + 3 = pc') : Wk p l e R s m args below meth c bytes mxl rt Z a0 EL own n0 h0 ws S0 V h cells slots (mkF m pc' L st) := by
  subst hp
  exact W.plain fun T hq hx hby t k => XS.ifNo hq hx rfl (hb hby hd) rfl ((if0 cd x).trans hc) k
theorem Wk.icmpT {cd : ClassFile.Cond} {x y : Int32} {o : Int} (W : Wk p l e R s m args below meth c bytes mxl rt Z a0 EL own n0 h0 ws S0 V h cells slots (mkF m pc L (.int y :: .int x :: st))) (hd : decode bytes pc = .ok (.if_icmp cd o, 3)) (hc : if_icmp.holds cd x y = true) (ho : 0 ≤ (pc : Int) + o) (hp : ((pc : Int) + o).toNat = pc') : Wk p l e R s m args below meth c bytes mxl rt Z a0 EL own n0 h0 ws S0 V h cells slots (mkF m pc' L st) := by
  exact W.plain fun T hq hx hby t k => XS.icmpYes hq hx rfl (pc0 := pc) rfl (hb hby hd) rfl hc ho hp k
theorem Wk.icmpF {cd : ClassFile.Cond} {x y : Int32} {o : Int} (W : Wk p l e R s m args below meth c bytes mxl rt Z a0 EL own n0 h0 ws S0 V h cells slots (mkF m pc L (.int y :: .int x :: st))) (hd : decode bytes pc = .ok (.if_icmp cd o, 3)) (hc : if_icmp.holds cd x y = false) (hp : pc + 3 = pc') : Wk p l e R s m args below meth c bytes mxl rt Z a0 EL own n0 h0 ws S0 V h cells slots (mkF m pc' L st) := by
  subst hp
  exact W.plain fun T hq hx hby t k => XS.icmpNo hq hx rfl (hb hby hd) rfl hc k
theorem Wk.ifnullT {o : Int} (W : Wk p l e R s m args below meth c bytes mxl rt Z a0 EL own n0 h0 ws S0 V h cells slots (mkF m pc L (.null :: st))) (hd : decode bytes pc = .ok (.ifnull o, 3))  (ho : 0 ≤ (pc : Int) + o) (hp : ((pc : Int) + o).toNat = pc') : Wk p l e R s m args below meth c bytes mxl rt Z a0 EL own n0 h0 ws S0 V h cells slots (mkF m pc' L st) := by
  exact W.plain fun T hq hx hby t k => XS.ifnullYes hq hx rfl (pc0 := pc) rfl (hb hby hd) rfl ho hp k
theorem Wk.ifnullF {o : Int} {b : Addr} (W : Wk p l e R s m args below meth c bytes mxl rt Z a0 EL own n0 h0 ws S0 V h cells slots (mkF m pc L (.ref b :: st))) (hd : decode bytes pc = .ok (.ifnull o, 3))  (hp : pc + 3 = pc') : Wk p l e R s m args below meth c bytes mxl rt Z a0 EL own n0 h0 ws S0 V h cells slots (mkF m pc' L st) := by
  subst hp
  exact W.plain fun T hq hx hby t k => XS.ifnullNo hq hx rfl (hb hby hd) rfl k
theorem Wk.ifnonnullT {o : Int} {b : Addr} (W : Wk p l e R s m args below meth c bytes mxl rt Z a0 EL own n0 h0 ws S0 V h cells slots (mkF m pc L (.ref b :: st))) (hd : decode bytes pc = .ok (.ifnonnull o, 3))  (ho : 0 ≤ (pc : Int) + o) (hp : ((pc : Int) + o).toNat = pc') : Wk p l e R s m args below meth c bytes mxl rt Z a0 EL own n0 h0 ws S0 V h cells slots (mkF m pc' L st) := by
  exact W.plain fun T hq hx hby t k => Jvm.Free.XT.ifnonnullYes hq hx rfl (pc0 := pc) rfl (hb hby hd) rfl ho hp k
theorem Wk.ifnonnullF {o : Int} (W : Wk p l e R s m args below meth c bytes mxl rt Z a0 EL own n0 h0 ws S0 V h cells slots (mkF m pc L (.null :: st))) (hd : decode bytes pc = .ok (.ifnonnull o, 3))  (hp : pc + 3 = pc') : Wk p l e R s m args below meth c bytes mxl rt Z a0 EL own n0 h0 ws S0 V h cells slots (mkF m pc' L st) := by
  subst hp
  exact W.plain fun T hq hx hby t k => Jvm.Free.XT.ifnonnullNo hq hx rfl (hb hby hd) rfl k
theorem Wk.acmpT {cd : ClassFile.ACond} {x y : Value} {o : Int} (W : Wk p l e R s m args below meth c bytes mxl rt Z a0 EL own n0 h0 ws S0 V h cells slots (mkF m pc L (y :: x :: st))) (hd : decode bytes pc = .ok (.if_acmp cd o, 3)) (hx' : x.isRef = true) (hy' : y.isRef = true) (hc : Jvm.Free.XT.acmp cd x y = true) (ho : 0 ≤ (pc : Int) + o) (hp : ((pc : Int) + o).toNat = pc') : Wk p l e R s m args below meth c bytes mxl rt Z a0 EL own n0 h0 ws S0 V h cells slots (mkF m pc' L st) := by
  exact W.plain fun T hq hx hby t k => Jvm.Free.XT.acmpYes hq hx rfl (pc0 := pc) rfl (hb hby hd) rfl hx' hy' hc ho hp k
theorem Wk.acmpF {cd : ClassFile.ACond} {x y : Value} {o : Int} (W : Wk p l e R s m args below meth c bytes mxl rt Z a0 EL own n0 h0 ws S0 V h cells slots (mkF m pc L (y :: x :: st))) (hd : decode bytes pc = .ok (.if_acmp cd o, 3)) (hx' : x.isRef = true) (hy' : y.isRef = true) (hc : Jvm.Free.XT.acmp cd x y = false) (hp : pc + 3 = pc') : Wk p l e R s m args below meth c bytes mxl rt Z a0 EL own n0 h0 ws S0 V h cells slots (mkF m pc' L st) := by
  subst hp
  exact W.plain fun T hq hx hby t k => Jvm.Free.XT.acmpNo hq hx rfl (hb hby hd) rfl hx' hy' hc k
theorem Wk.new {C : String} {index n cells' slots' : Nat} (W : Wk p l e R s m args below meth c bytes mxl rt Z a0 EL own n0 h0 ws S0 V h cells slots (mkF m pc L st)) (hd : decode bytes pc = .ok (.new index, 3)) (w : (Jvm.Cond.classLink own index C).before a0 Z = true) (wi : (Jvm.Cond.instantiable C n).before a0 Z = true) (wz : (Jvm.Cond.initialized C).before a0 Z = true) (hp : pc + 3 = pc') (hc : cells + 1 = cells') (hs : slots + n = slots') (hc' : cells' ≤ R.cells) (hs' : slots' ≤ R.slots) :
    ∃ h' a, Wk p l e R s m args below meth c bytes mxl rt Z a0 EL own n0 h0 ws S0 V h' cells' slots' (mkF m pc' L (.ref a :: st)) ∧ Ext h h' ∧ a = h.size ∧ (Exa Z h' h.size C ∧ (∀ {O nm d : String} {ty : FieldType}, Laid Z a0 C O nm d → parseFieldDescriptor d = some ty → Fld Z h' h.size O nm d (defaultValue ty)) ∧ Unt h' h.size) ∧ Safe Z EL V h' a ∧ ∀ x, Safe Z EL V h x → Safe Z EL V h' x := by
  subst hp hc hs
  refine W.grew (G := fun a => mkF m (pc + 3) L (.ref a :: st)) (Q := fun h' => Exa Z h' h.size C ∧ (∀ {O nm d : String} {ty : FieldType}, Laid Z a0 C O nm d → parseFieldDescriptor d = some ty → Fld Z h' h.size O nm d (defaultValue ty)) ∧ Unt h' h.size) fun T locs X eT hx hby hZ hown => ?_
  obtain ⟨T', h', X', e', E, A, D, U, st'⟩ := newO X hx hZ hown w wi wz eT (g := mkF m pc L st) rfl (hb hby hd) hc' hs'
  exact ⟨T', h', X', e', E, ⟨A, D, U⟩, st'⟩
theorem Wk.newarr {aty : ArrayType} {z : Int32} {cap cells' slots' : Nat} (W : Wk p l e R s m args below meth c bytes mxl rt Z a0 EL own n0 h0 ws S0 V h cells slots (mkF m pc L (.int z :: st))) (hd : decode bytes pc = .ok (.newarray aty, 2)) (w : (Jvm.Cond.arrayClass (newarray.typeOf aty)).before a0 Z = true) (hn : ¬ z < 0) (hcap : z.toNatClampNeg ≤ cap) (hbig : cap * 8 ≤ 536870912) (hp : pc + 2 = pc') (hc : cells + 1 = cells') (hs : slots + cap = slots') (hc' : cells' ≤ R.cells) (hs' : slots' ≤ R.slots) :
    ∃ h' a, Wk p l e R s m args below meth c bytes mxl rt Z a0 EL own n0 h0 ws S0 V h' cells' slots' (mkF m pc' L (.ref a :: st)) ∧ Ext h h' ∧ a = h.size ∧ (∃ k, Arv Z h' h.size k (newarray.typeOf aty) z [] (defaultValue (newarray.typeOf aty))) ∧ Safe Z EL V h' a ∧ ∀ x, Safe Z EL V h x → Safe Z EL V h' x := by
  subst hp hc hs
  refine W.grew (G := fun a => mkF m (pc + 2) L (.ref a :: st)) (Q := fun h' => ∃ k, Arv Z h' h.size k (newarray.typeOf aty) z [] (defaultValue (newarray.typeOf aty))) fun T locs X eT hx hby hZ hown => ?_
  obtain ⟨T', h', k, X', e', E, A, st'⟩ := newP X hx hZ w eT (g := mkF m pc L (.int z :: st)) rfl (hb hby hd) rfl hn (cap := cap) hcap hbig hc' hs'
  exact ⟨T', h', X', e', E, ⟨k, Arv.new A hn⟩, st'⟩
theorem Wk.newarrE {aty : ArrayType} {z : Int32} {ad : String} {cap cells' slots' : Nat} (W : Wk p l e R s m args below meth c bytes mxl rt Z a0 EL own n0 h0 ws S0 V h cells slots (mkF m pc L (.int z :: st))) (hd : decode bytes pc = .ok (.newarray aty, 2)) (w : (Jvm.Cond.arrayClass (newarray.typeOf aty)).before a0 Z = true) (had : "[" ++ (newarray.typeOf aty).toString = ad) (hn : ¬ z < 0) (hcap : z.toNatClampNeg ≤ cap) (hbig : cap * 8 ≤ 536870912) (hp : pc + 2 = pc') (hc : cells + 1 = cells') (hs : slots + cap = slots') (hc' : cells' ≤ R.cells) (hs' : slots' ≤ R.slots) :
    ∃ h' a, Wk p l e R s m args below meth c bytes mxl rt Z a0 EL own n0 h0 ws S0 V h' cells' slots' (mkF m pc' L (.ref a :: st)) ∧ Ext h h' ∧ a = h.size ∧ ((∃ k, Arv Z h' h.size k (newarray.typeOf aty) z [] (defaultValue (newarray.typeOf aty))) ∧ Exa Z h' h.size ad) ∧ Safe Z EL V h' a ∧ ∀ x, Safe Z EL V h x → Safe Z EL V h' x := by
  subst hp hc hs
  refine W.grew (G := fun a => mkF m (pc + 2) L (.ref a :: st)) (Q := fun h' => (∃ k, Arv Z h' h.size k (newarray.typeOf aty) z [] (defaultValue (newarray.typeOf aty))) ∧ Exa Z h' h.size ad) fun T locs X eT hx hby hZ hown => ?_
  obtain ⟨T', h', k, X', e', E, A, B, st'⟩ := newPE X hx hZ w eT (g := mkF m pc L (.int z :: st)) rfl (hb hby hd) rfl hn (cap := cap) hcap hbig hc' hs' had
  exact ⟨T', h', X', e', E, ⟨⟨k, Arv.new A hn⟩, B⟩, st'⟩
theorem Wk.clone {index : Nat} {ad : String} {a : Addr} {k : ClassId} {ty : FieldType} {z : Int32} {vs : List Value} {dv : Value} {cap Wd cells' slots' : Nat} (W : Wk p l e R s m args below meth c bytes mxl rt Z a0 EL own n0 h0 ws S0 V h cells slots (mkF m pc L (.ref a :: st))) (hd : decode bytes pc = .ok (.invokevirtual index, 3)) (w1 : (Jvm.Cond.methodLink own index ⟨ad, "clone", "()Ljava/lang/Object;"⟩).before a0 Z = true) (w2 : (Jvm.Cond.sameMethod ad "java/lang/Object" "clone" "()Ljava/lang/Object;").before a0 Z = true) (w3 : (Jvm.Cond.native ⟨"java/lang/Object", "clone", "()Ljava/lang/Object;"⟩).before a0 Z = true) (w4 : (Jvm.Cond.instanceMethod ⟨"java/lang/Object", "clone", "()Ljava/lang/Object;"⟩).before a0 Z = true) (w5 : (Jvm.Cond.selects ad ⟨ad, "clone", "()Ljava/lang/Object;"⟩ ⟨"java/lang/Object", "clone", "()Ljava/lang/Object;"⟩).before a0 Z = true) (w6 : (Jvm.Cond.castable ad "java/lang/Cloneable").before a0 Z = true) (A : Arv Z h a k ty z vs dv) (E : Exa Z h a ad) (hL : L.size = mxl) (hW : (st.map fun v => v.category).sum = Wd) (hf : 1 ≤ R.frames) (hl : Wd + 14 ≤ R.locals) (hcap : z.toNatClampNeg ≤ cap) (hp : pc + 3 = pc') (hc : cells + 1 = cells') (hs : slots + cap = slots') (hc' : cells' ≤ R.cells) (hs' : slots' ≤ R.slots) :
    ∃ h' a, Wk p l e R s m args below meth c bytes mxl rt Z a0 EL own n0 h0 ws S0 V h' cells' slots' (mkF m pc' L (.ref a :: st)) ∧ Ext h h' ∧ a = h.size ∧ (Arv Z h' h.size k ty z vs dv ∧ Exa Z h' h.size ad) ∧ Safe Z EL V h' a ∧ ∀ x, Safe Z EL V h x → Safe Z EL V h' x := by
  subst hp hc hs hW
  have hml := W.1.2.2.1
  refine W.grew (G := fun b => mkF m (pc + 3) L (.ref b :: st)) (Q := fun h' => Arv Z h' h.size k ty z vs dv ∧ Exa Z h' h.size ad) fun T locs X eT hx hby hZ hown => ?_
  obtain ⟨T', h', X', e', E', ⟨c', B1, B2, B3, B4, B5, B6⟩, C, st'⟩ := cloneH X hx hZ hown w1 w2 w3 w4 w5 w6 eT (Arv.arh A) E (g := mkF m pc L (.ref a :: st)) rfl (hL.trans hml.symm) rfl (hb hby hd) hf (by show 2 * 0 + _ ≤ _; exact Nat.le_of_eq (Nat.zero_add _)) hl hcap hc' hs'
  exact ⟨T', h', X', e', E', ⟨⟨c', B1, B2, B3, B4, B5, B6⟩, C⟩, st'⟩
theorem Wk.getf {index : Nat} {R0 O n d : String} {a : Addr} {v : Value} (W : Wk p l e R s m args below meth c bytes mxl rt Z a0 EL own n0 h0 ws S0 V h cells slots (mkF m pc L (.ref a :: st))) (hd : decode bytes pc = .ok (.getfield index, 3)) (w : (Jvm.Cond.fieldLink own index R0 n d).before a0 Z = true) (via : Via Z R0 O n d) (F : Fld Z h a O n d v) (hp : pc + 3 = pc') : Wk p l e R s m args below meth c bytes mxl rt Z a0 EL own n0 h0 ws S0 V h cells slots (mkF m pc' L (v :: st)) := by
  subst hp
  exact W.reads fun T locs X eT hx hby hZ hown => getF X hx hZ hown (host := "") (Or.inl w) via eT F (g := mkF m pc L (.ref a :: st)) rfl rfl (hb hby hd)
theorem Wk.gets {index : Nat} {O n d : String} {v : Value} (W : Wk p l e R s m args below meth c bytes mxl rt Z a0 EL own n0 h0 ws S0 V h cells slots (mkF m pc L st)) (hd : decode bytes pc = .ok (.getstatic index, 3)) (w : (Jvm.Cond.fieldLink own index O n d).before a0 Z = true) (S : Sta Z Z.heap O n d v) (hp : pc + 3 = pc') : Wk p l e R s m args below meth c bytes mxl rt Z a0 EL own n0 h0 ws S0 V h cells slots (mkF m pc' L (v :: st)) := by
  subst hp
  have S' := W.sta S
  exact W.reads fun T locs X eT hx hby hZ hown => getS (host := "") X hx hZ hown w Via.refl eT S' (g := mkF m pc L st) rfl (hb hby hd)
theorem Wk.castY {index : Nat} {K : String} {a : Addr} (W : Wk p l e R s m args below meth c bytes mxl rt Z a0 EL own n0 h0 ws S0 V h cells slots (mkF m pc L (.ref a :: st))) (hd : decode bytes pc = .ok (.checkcast index, 3)) (w : (Jvm.Cond.classLink own index K).before a0 Z = true) (I : Ins Z h a K true) (hp : pc + 3 = pc') : Wk p l e R s m args below meth c bytes mxl rt Z a0 EL own n0 h0 ws S0 V h cells slots (mkF m pc' L (.ref a :: st)) := by
  subst hp
  exact W.reads fun T locs X eT hx hby hZ hown => Jvm.RoadKit.castY X hx hZ hown w eT I (g := mkF m pc L (.ref a :: st)) rfl rfl (hb hby hd)
theorem Wk.instY {index : Nat} {K : String} {a : Addr} (W : Wk p l e R s m args below meth c bytes mxl rt Z a0 EL own n0 h0 ws S0 V h cells slots (mkF m pc L (.ref a :: st))) (hd : decode bytes pc = .ok (.instanceof index, 3)) (w : (Jvm.Cond.classLink own index K).before a0 Z = true) (I : Ins Z h a K true) (hp : pc + 3 = pc') : Wk p l e R s m args below meth c bytes mxl rt Z a0 EL own n0 h0 ws S0 V h cells slots (mkF m pc' L (.int 1 :: st)) := by
  subst hp
  exact W.reads fun T locs X eT hx hby hZ hown => Jvm.RoadKit.instY X hx hZ hown w eT I (g := mkF m pc L (.ref a :: st)) rfl rfl (hb hby hd)
theorem Wk.putf {index kk : Nat} {R0 O n d C : String} {ty : FieldType} {a : Addr} {v old : Value} (W : Wk p l e R s m args below meth c bytes mxl rt Z a0 EL own n0 h0 ws S0 V h cells slots (mkF m pc L (v :: .ref a :: st))) (hd : decode bytes pc = .ok (.putfield index, 3)) (w : (Jvm.Cond.fieldLink own index R0 n d).before a0 Z = true) (via : Via Z R0 O n d) (F : Fld Z h a O n d old) (E : Exa Z h a C) (Lw : (Jvm.Cond.lays C O n d).before a0 Z = true ∨ ((Jvm.Cond.laysFinal C O n d).before a0 Z = true ∧ own = O ∧ meth.name = "<init>")) (wi : (Jvm.Cond.instantiable C kk).before a0 Z = true) (hty : parseFieldDescriptor d = some ty) (hn : narrow ty v = v) (hf : fits ty v = true) (sf : Safe Z EL V h a) (q : a ∈ ws ∨ h0.size ≤ a) (hp : pc + 3 = pc') :
    ∃ h', Wk p l e R s m args below meth c bytes mxl rt Z a0 EL own n0 h0 ws S0 V h' cells slots (mkF m pc' L st) ∧ Wr h h' a (Jvm.RoadKit.slotOf Z O n d) v ∧ ∀ x, Safe Z EL V h x → Safe Z EL V h' x := by
  subst hp
  exact W.wrote (cells' := 0) (slots' := 0) (h' := h) sf q fun T locs X eT hx hby hZ hown => putF X hx hZ hown (host := "") (Or.inl w) via eT F E Lw wi hty hn hf (g := mkF m pc L (v :: .ref a :: st)) rfl rfl (hb hby hd)
theorem Wk.initO {index : Nat} {a : Addr} {Wd : Nat} (W : Wk p l e R s m args below meth c bytes mxl rt Z a0 EL own n0 h0 ws S0 V h cells slots (mkF m pc L (.ref a :: st))) (hd : decode bytes pc = .ok (.invokespecial index, 3)) (w1 : (Jvm.Cond.methodLink own index Lib.objectInit).before a0 Z = true) (w2 : (Jvm.Cond.instanceMethod Lib.objectInit).before a0 Z = true) (w3 : (Jvm.Cond.code Lib.objectInit ⟨#[0xb1]⟩ 1 none).before a0 Z = true) (hL : L.size = mxl) (hW : (st.map fun v => v.category).sum = Wd) (hf : 1 ≤ R.frames) (hl : Wd + 12 ≤ R.locals) (hp : pc + 3 = pc') : Wk p l e R s m args below meth c bytes mxl rt Z a0 EL own n0 h0 ws S0 V h cells slots (mkF m pc' L st) := by
  subst hp hW
  have hml := W.1.2.2.1
  exact W.reads fun T locs X eT hx hby hZ hown => Jvm.RoadKit.initO X hx hZ hown w1 w2 w3 eT (g := mkF m pc L (.ref a :: st)) rfl (hL.trans hml.symm) rfl (hb hby hd) hf (by show 2 * 0 + _ ≤ _; exact Nat.le_of_eq (Nat.zero_add _)) hl
theorem Wk.ldcI {index : Nat} {v : Int32} (W : Wk p l e R s m args below meth c bytes mxl rt Z a0 EL own n0 h0 ws S0 V h cells slots (mkF m pc L st)) (hd : decode bytes pc = .ok (.ldc index, 2)) (w : (Jvm.Cond.constant own index v).before a0 Z = true) (hp : pc + 2 = pc') : Wk p l e R s m args below meth c bytes mxl rt Z a0 EL own n0 h0 ws S0 V h cells slots (mkF m pc' L (.int v :: st)) := by
  subst hp
  exact W.reads fun T locs X eT hx hby hZ hown => ⟨T, X, eT, X.ldcInt hx hown (mvT hZ w) (g := mkF m pc L st) rfl (hb hby hd)⟩
theorem Wk.ldc2 {index : Nat} {v : Int64} (W : Wk p l e R s m args below meth c bytes mxl rt Z a0 EL own n0 h0 ws S0 V h cells slots (mkF m pc L st)) (hd : decode bytes pc = .ok (.ldc2_w index, 3)) (w : (Jvm.Cond.constantLong own index v).before a0 Z = true) (hp : pc + 3 = pc') : Wk p l e R s m args below meth c bytes mxl rt Z a0 EL own n0 h0 ws S0 V h cells slots (mkF m pc' L (.long v :: st)) := by
  subst hp
  exact W.reads fun T locs X eT hx hby hZ hown => ⟨T, X, eT, X.ldc2Long hx hown (mvT hZ w) (g := mkF m pc L st) rfl (hb hby hd)⟩
section Arrays
variable {a : Addr} {k : ClassId} {z j : Int32} {vs : List Value} {dv w : Value} {ty : FieldType} {i : Nat}
theorem Wk.alen (W : Wk p l e R s m args below meth c bytes mxl rt Z a0 EL own n0 h0 ws S0 V h cells slots (mkF m pc L (.ref a :: st))) (hd : decode bytes pc = .ok (.arraylength, 1)) (A : Arv Z h a k ty z vs dv) (hp : pc + 1 = pc') : Wk p l e R s m args below meth c bytes mxl rt Z a0 EL own n0 h0 ws S0 V h cells slots (mkF m pc' L (.int z :: st)) := by
  subst hp
  obtain ⟨cl, A1, -, S, M, -, -⟩ := A
  exact W.reads fun T locs X eT hx hby hZ hown => ⟨T, X, eT, fun t q => X.arraylength hx (by rw [eT]; exact A1.1) (State.isArrayOf_alike hZ.alike A1.2.1) (g := mkF m pc L (.ref a :: st)) rfl rfl (hb hby hd) t (by rw [len_of S M]; exact q)⟩
theorem Wk.caload (W : Wk p l e R s m args below meth c bytes mxl rt Z a0 EL own n0 h0 ws S0 V h cells slots (mkF m pc L (.int j :: .ref a :: st))) (hd : decode bytes pc = .ok (.caload, 1)) (A : Arv Z h a k .char z vs dv) (hj : ¬ j < 0 ∧ j < z) (hv : vs.getD j.toNatClampNeg dv = w) (hp : pc + 1 = pc') : Wk p l e R s m args below meth c bytes mxl rt Z a0 EL own n0 h0 ws S0 V h cells slots (mkF m pc' L (w :: st)) := by
  subst hp
  obtain ⟨cl, A1, -, S, M, H, -⟩ := A
  have hin := inb_of S hj
  exact W.reads fun T locs X eT hx hby hZ hown => ⟨T, X, eT, X.caload hx (by rw [eT]; exact A1.1) (State.isArrayOf_alike hZ.alike A1.2.1) A1.2.2 hin (H.at hin hv) (g := mkF m pc L (.int j :: .ref a :: st)) rfl rfl (hb hby hd)⟩
theorem Wk.baload (W : Wk p l e R s m args below meth c bytes mxl rt Z a0 EL own n0 h0 ws S0 V h cells slots (mkF m pc L (.int j :: .ref a :: st))) (hd : decode bytes pc = .ok (.baload, 1)) (A : Arv Z h a k .byte z vs dv) (hj : ¬ j < 0 ∧ j < z) (hv : vs.getD j.toNatClampNeg dv = w) (hp : pc + 1 = pc') : Wk p l e R s m args below meth c bytes mxl rt Z a0 EL own n0 h0 ws S0 V h cells slots (mkF m pc' L (w :: st)) := by
  subst hp
  obtain ⟨cl, A1, -, S, M, H, -⟩ := A
  have hin := inb_of S hj
  exact W.reads fun T locs X eT hx hby hZ hown => ⟨T, X, eT, X.baloadBytes hx (by rw [eT]; exact A1.1) (State.isArrayOf_alike hZ.alike A1.2.1) A1.2.2 hin (H.at hin hv) (g := mkF m pc L (.int j :: .ref a :: st)) rfl rfl (hb hby hd)⟩
theorem Wk.iaload (W : Wk p l e R s m args below meth c bytes mxl rt Z a0 EL own n0 h0 ws S0 V h cells slots (mkF m pc L (.int j :: .ref a :: st))) (hd : decode bytes pc = .ok (.iaload, 1)) (A : Arv Z h a k .int z vs dv) (hj : ¬ j < 0 ∧ j < z) (hv : vs.getD j.toNatClampNeg dv = w) (hp : pc + 1 = pc') : Wk p l e R s m args below meth c bytes mxl rt Z a0 EL own n0 h0 ws S0 V h cells slots (mkF m pc' L (w :: st)) := by
  subst hp
  obtain ⟨cl, A1, -, S, M, H, -⟩ := A
  have hin := inb_of S hj
  exact W.reads fun T locs X eT hx hby hZ hown => ⟨T, X, eT, X.iaload hx (by rw [eT]; exact A1.1) (State.isArrayOf_alike hZ.alike A1.2.1) A1.2.2 hin (H.at hin hv) (g := mkF m pc L (.int j :: .ref a :: st)) rfl rfl (hb hby hd)⟩
theorem Wk.laload (W : Wk p l e R s m args below meth c bytes mxl rt Z a0 EL own n0 h0 ws S0 V h cells slots (mkF m pc L (.int j :: .ref a :: st))) (hd : decode bytes pc = .ok (.laload, 1)) (A : Arv Z h a k .long z vs dv) (hj : ¬ j < 0 ∧ j < z) (hv : vs.getD j.toNatClampNeg dv = w) (hp : pc + 1 = pc') : Wk p l e R s m args below meth c bytes mxl rt Z a0 EL own n0 h0 ws S0 V h cells slots (mkF m pc' L (w :: st)) := by
  subst hp
  obtain ⟨cl, A1, -, S, M, H, -⟩ := A
  have hin := inb_of S hj
  exact W.reads fun T locs X eT hx hby hZ hown => ⟨T, X, eT, X.laload hx (by rw [eT]; exact A1.1) (State.isArrayOf_alike hZ.alike A1.2.1) A1.2.2 hin (H.at hin hv) (g := mkF m pc L (.int j :: .ref a :: st)) rfl rfl (hb hby hd)⟩
theorem Wk.saload (W : Wk p l e R s m args below meth c bytes mxl rt Z a0 EL own n0 h0 ws S0 V h cells slots (mkF m pc L (.int j :: .ref a :: st))) (hd : decode bytes pc = .ok (.saload, 1)) (A : Arv Z h a k .short z vs dv) (hj : ¬ j < 0 ∧ j < z) (hv : vs.getD j.toNatClampNeg dv = w) (hp : pc + 1 = pc') : Wk p l e R s m args below meth c bytes mxl rt Z a0 EL own n0 h0 ws S0 V h cells slots (mkF m pc' L (w :: st)) := by
  subst hp
  obtain ⟨cl, A1, -, S, M, H, -⟩ := A
  have hin := inb_of S hj
  exact W.reads fun T locs X eT hx hby hZ hown => ⟨T, X, eT, X.saload hx (by rw [eT]; exact A1.1) (State.isArrayOf_alike hZ.alike A1.2.1) A1.2.2 hin (H.at hin hv) (g := mkF m pc L (.int j :: .ref a :: st)) rfl rfl (hb hby hd)⟩
theorem Wk.aaload (W : Wk p l e R s m args below meth c bytes mxl rt Z a0 EL own n0 h0 ws S0 V h cells slots (mkF m pc L (.int j :: .ref a :: st))) (hd : decode bytes pc = .ok (.aaload, 1)) (A : Arv Z h a k ty z vs dv) (ht : ty.isReference = true) (hj : ¬ j < 0 ∧ j < z) (hv : vs.getD j.toNatClampNeg dv = w) (hp : pc + 1 = pc') : Wk p l e R s m args below meth c bytes mxl rt Z a0 EL own n0 h0 ws S0 V h cells slots (mkF m pc' L (w :: st)) := by
  subst hp
  obtain ⟨cl, A1, -, S, M, H, -⟩ := A
  have hin := inb_of S hj
  exact W.reads fun T locs X eT hx hby hZ hown => ⟨T, X, eT, X.aaload hx (by rw [eT]; exact A1.1) (State.isArrayOf_alike hZ.alike A1.2.1) ht A1.2.2 hin (H.at hin hv) (g := mkF m pc L (.int j :: .ref a :: st)) rfl rfl (hb hby hd)⟩
theorem Wk.castore {x x' : Int32} (W : Wk p l e R s m args below meth c bytes mxl rt Z a0 EL own n0 h0 ws S0 V h cells slots (mkF m pc L (.int x :: .int j :: .ref a :: st))) (hd : decode bytes pc = .ok (.castore, 1)) (A : Arv Z h a k .char z vs dv) (hj : ¬ j < 0 ∧ j < z) (hi : j.toNatClampNeg = i) (hlt : i < vs.length) (hx' : nar .char x = x') (sf : Safe Z EL V h a) (q : a ∈ ws ∨ h0.size ≤ a) (hp : pc + 1 = pc') :
    ∃ h', Wk p l e R s m args below meth c bytes mxl rt Z a0 EL own n0 h0 ws S0 V h' cells slots (mkF m pc' L st) ∧ Wr h h' a j.toNatClampNeg (.int x') ∧ Arv Z h' a k .char z (vs.set i (.int x')) dv ∧ ∀ x, Safe Z EL V h x → Safe Z EL V h' x := by
  subst hp hx'
  obtain ⟨cl, A1, q1, S, M, H, G⟩ := A
  have hin := inb_of S hj
  obtain ⟨h', W', w', sf'⟩ := W.wrote (cells' := 0) (slots' := 0) (h' := h) sf q fun T locs X eT hx hby hZ hown => stC X hx hZ eT A1 hin (g := mkF m pc L (.int x :: .int j :: .ref a :: st)) rfl rfl (hb hby hd)
  exact ⟨h', W', w', Arv.set A1 q1 S M H G (fits_nar_char _) w' i hi hlt, sf'⟩
theorem Wk.bastore {x x' : Int32} (W : Wk p l e R s m args below meth c bytes mxl rt Z a0 EL own n0 h0 ws S0 V h cells slots (mkF m pc L (.int x :: .int j :: .ref a :: st))) (hd : decode bytes pc = .ok (.bastore, 1)) (A : Arv Z h a k .byte z vs dv) (hj : ¬ j < 0 ∧ j < z) (hi : j.toNatClampNeg = i) (hlt : i < vs.length) (hx' : nar .byte x = x') (sf : Safe Z EL V h a) (q : a ∈ ws ∨ h0.size ≤ a) (hp : pc + 1 = pc') :
    ∃ h', Wk p l e R s m args below meth c bytes mxl rt Z a0 EL own n0 h0 ws S0 V h' cells slots (mkF m pc' L st) ∧ Wr h h' a j.toNatClampNeg (.int x') ∧ Arv Z h' a k .byte z (vs.set i (.int x')) dv ∧ ∀ x, Safe Z EL V h x → Safe Z EL V h' x := by
  subst hp hx'
  obtain ⟨cl, A1, q1, S, M, H, G⟩ := A
  have hin := inb_of S hj
  obtain ⟨h', W', w', sf'⟩ := W.wrote (cells' := 0) (slots' := 0) (h' := h) sf q fun T locs X eT hx hby hZ hown => stB X hx hZ eT A1 hin (g := mkF m pc L (.int x :: .int j :: .ref a :: st)) rfl rfl (hb hby hd)
  exact ⟨h', W', w', Arv.set A1 q1 S M H G (fits_nar_byte _) w' i hi hlt, sf'⟩
theorem Wk.iastore {x x' : Int32} (W : Wk p l e R s m args below meth c bytes mxl rt Z a0 EL own n0 h0 ws S0 V h cells slots (mkF m pc L (.int x :: .int j :: .ref a :: st))) (hd : decode bytes pc = .ok (.iastore, 1)) (A : Arv Z h a k .int z vs dv) (hj : ¬ j < 0 ∧ j < z) (hi : j.toNatClampNeg = i) (hlt : i < vs.length) (hx' : x = x') (sf : Safe Z EL V h a) (q : a ∈ ws ∨ h0.size ≤ a) (hp : pc + 1 = pc') :
    ∃ h', Wk p l e R s m args below meth c bytes mxl rt Z a0 EL own n0 h0 ws S0 V h' cells slots (mkF m pc' L st) ∧ Wr h h' a j.toNatClampNeg (.int x') ∧ Arv Z h' a k .int z (vs.set i (.int x')) dv ∧ ∀ x, Safe Z EL V h x → Safe Z EL V h' x := by
  subst hp hx'
  obtain ⟨cl, A1, q1, S, M, H, G⟩ := A
  have hin := inb_of S hj
  obtain ⟨h', W', w', sf'⟩ := W.wrote (cells' := 0) (slots' := 0) (h' := h) sf q fun T locs X eT hx hby hZ hown => stI X hx hZ eT A1 hin (g := mkF m pc L (.int x :: .int j :: .ref a :: st)) rfl rfl (hb hby hd)
  exact ⟨h', W', w', Arv.set A1 q1 S M H G rfl w' i hi hlt, sf'⟩
theorem Wk.lastore {x x' : Int64} (W : Wk p l e R s m args below meth c bytes mxl rt Z a0 EL own n0 h0 ws S0 V h cells slots (mkF m pc L (.long x :: .int j :: .ref a :: st))) (hd : decode bytes pc = .ok (.lastore, 1)) (A : Arv Z h a k .long z vs dv) (hj : ¬ j < 0 ∧ j < z) (hi : j.toNatClampNeg = i) (hlt : i < vs.length) (hx' : x = x') (sf : Safe Z EL V h a) (q : a ∈ ws ∨ h0.size ≤ a) (hp : pc + 1 = pc') :
    ∃ h', Wk p l e R s m args below meth c bytes mxl rt Z a0 EL own n0 h0 ws S0 V h' cells slots (mkF m pc' L st) ∧ Wr h h' a j.toNatClampNeg (.long x') ∧ Arv Z h' a k .long z (vs.set i (.long x')) dv ∧ ∀ x, Safe Z EL V h x → Safe Z EL V h' x := by
  subst hp hx'
  obtain ⟨cl, A1, q1, S, M, H, G⟩ := A
  have hin := inb_of S hj
  obtain ⟨h', W', w', sf'⟩ := W.wrote (cells' := 0) (slots' := 0) (h' := h) sf q fun T locs X eT hx hby hZ hown => stJ X hx hZ eT A1 hin (g := mkF m pc L (.long x :: .int j :: .ref a :: st)) rfl rfl (hb hby hd)
  exact ⟨h', W', w', Arv.set A1 q1 S M H G rfl w' i hi hlt, sf'⟩
end Arrays

/-- what a walk owes at its end -/
def Done (p : Program) (e : Env) (below : List Frame) (S0 s : State) (Z : State) (EL : List (String × Nat)) (n0 : Nat) (h0 : Heap) (ws : List Addr) (R : Room) (Q : Option Value → Heap → Vm → Prop) : Prop :=
  ∃ s₂ o, Steps p.tables e below S0 s₂ ∧ s₂.status = .running ∧ Ended s₂ below o ∧ ∃ v L, o = .returned v ∧ (Fr n0 L ∧ Keep h0 s₂.heap ws ∧ Q v s₂.heap s₂.vm) ∧ CHr Z EL s.vm h0 s₂.vm s₂.heap ∧ ReturnedEndW s o s₂ L R.cells R.slots
theorem Wk.fin {g : JFrame} (W : Wk p l e R s m args below meth c bytes mxl rt Z a0 EL own n0 h0 ws S0 V h cells slots g) {v : Option Value} {Q : Option Value → Heap → Vm → Prop} (hv : rt = none → v = none) (hc : cells ≤ R.cells) (hs : slots ≤ R.slots) (hQ : ∀ V', (∀ x, x < h.size → Safe Z EL V h x → Safe Z EL V' h x) → Q v h V')
    (f : ∀ (T : State) (locs : List Loc) (fs : List Frame), Stand p l e R (s.setVm V) m args below meth c T locs cells slots → p.tables.exec = Jvm.exec → c.code = bytes → (∀ (f : JFrame) (acts : List Action), f.method = m → f.locked = none → f.entered = [] → (doReturn e (T.setTop f) acts v).1 = T.setFrames fs) → Steps p.tables e below (T.setTop g) (T.setFrames fs)) : Done p e below S0 s Z EL n0 h0 ws R Q := by
  obtain ⟨a1, b, T, locs, X, eT, N, k⟩ := W
  obtain ⟨k0, hS, hk⟩ := b.2.2.1
  obtain ⟨fs, hr, hrun, hended, r1, r2, r3, r4⟩ := X.leaveW hS (by rw [eT]; exact hk) (v := v) (fun z => hv (by rw [← a1.2.2.2.1]; exact z)) a1.2.2.2.2.1
  have hh : (T.setFrames fs).heap = h := eT
  have hC2 := CHv.at X b.1 a1.2.2.2.2.2.1 b.2.2.2.2.1.1
  have hC : CHr Z EL s.vm h0 (T.setFrames fs).vm (T.setFrames fs).heap := by
    rw [hh]
    exact b.2.2.2.2.1.trans hC2
  refine ⟨_, _, k _ (f T locs fs X a1.1 a1.2.1 hr), hrun, hended, v, locs, rfl, ⟨N, by rw [hh]; exact b.2.2.2.2.2, by rw [hh]; exact hQ _ fun x hx sx => hC2.safe hx sx⟩, hC, r1, r2, r3, r4.mono hc hs⟩
theorem Wk.vret (W : Wk p l e R s m args below meth c bytes mxl rt Z a0 EL own n0 h0 ws S0 V h cells slots (mkF m pc L [])) (hd : decode bytes pc = .ok (.return_, 1)) (hr : rt = none) {Q : Option Value → Heap → Vm → Prop} (hc : cells ≤ R.cells) (hs : slots ≤ R.slots) (hQ : ∀ V', (∀ x, x < h.size → Safe Z EL V h x → Safe Z EL V' h x) → Q none h V') : Done p e below S0 s Z EL n0 h0 ws R Q := by
  have hrt := W.1.2.2.2.1
  exact W.fin (v := none) (fun _ => rfl) hc hs hQ fun T locs fs X hx hby hr' => X.returnOut hx (hrt.trans hr) (hb hby hd) hr'
theorem Wk.aret {w : Value} {t : FieldType} (W : Wk p l e R s m args below meth c bytes mxl rt Z a0 EL own n0 h0 ws S0 V h cells slots (mkF m pc L (w :: st))) (hd : decode bytes pc = .ok (.areturn, 1)) (hr : rt = some t) (ht : t.isReference = true) (hw : w.isRef = true) (hn : narrow t w = w) {Q : Option Value → Heap → Vm → Prop} (hc : cells ≤ R.cells) (hs : slots ≤ R.slots) (hQ : ∀ V', (∀ x, x < h.size → Safe Z EL V h x → Safe Z EL V' h x) → Q (some w) h V') : Done p e below S0 s Z EL n0 h0 ws R Q := by
  have hrt := W.1.2.2.2.1
  exact W.fin (v := some w) (fun z => by rw [hr] at z; cases z) hc hs hQ fun T locs fs X hx hby hr' => retOut X hx (hrt.trans hr) hn (Or.inr (Or.inr (Or.inr (Or.inr ⟨rfl, ht, hw⟩)))) (hb hby hd) hr'
theorem Wk.iret {z : Int32} {t : FieldType} (W : Wk p l e R s m args below meth c bytes mxl rt Z a0 EL own n0 h0 ws S0 V h cells slots (mkF m pc L (.int z :: st))) (hd : decode bytes pc = .ok (.ireturn, 1)) (hr : rt = some t) (ht : t = .int ∨ t = .boolean ∨ t = .byte ∨ t = .char ∨ t = .short) (hn : narrow t (.int z) = .int z) {Q : Option Value → Heap → Vm → Prop} (hc : cells ≤ R.cells) (hs : slots ≤ R.slots) (hQ : ∀ V', (∀ x, x < h.size → Safe Z EL V h x → Safe Z EL V' h x) → Q (some (.int z)) h V') : Done p e below S0 s Z EL n0 h0 ws R Q := by
  have hrt := W.1.2.2.2.1
  exact W.fin (v := some (.int z)) (fun z => by rw [hr] at z; cases z) hc hs hQ fun T locs fs X hx hby hr' => retOut X hx (hrt.trans hr) hn (Or.inl ⟨rfl, ht, z, rfl⟩) (hb hby hd) hr'
theorem Wk.lret {z : Int64} (W : Wk p l e R s m args below meth c bytes mxl rt Z a0 EL own n0 h0 ws S0 V h cells slots (mkF m pc L (.long z :: st))) (hd : decode bytes pc = .ok (.lreturn, 1)) (hr : rt = some .long) {Q : Option Value → Heap → Vm → Prop} (hc : cells ≤ R.cells) (hs : slots ≤ R.slots) (hQ : ∀ V', (∀ x, x < h.size → Safe Z EL V h x → Safe Z EL V' h x) → Q (some (.long z)) h V') : Done p e below S0 s Z EL n0 h0 ws R Q := by
  have hrt := W.1.2.2.2.1
  exact W.fin (v := some (.long z)) (fun z => by rw [hr] at z; cases z) hc hs hQ fun T locs fs X hx hby hr' => retOut X hx (hrt.trans hr) rfl (Or.inr (Or.inl ⟨rfl, rfl, z, rfl⟩)) (hb hby hd) hr'
/-- a body's contract: called with as', on the heap h, it comes back; it has written at most the cells ws and new ones; Q holds of what it returned and of the heap -/
def Con (l : Launch) (Z : State) (EL : List (String × Nat)) (n0 : Nat) (y : MethodName) (bytes : ByteArray) (mxl : Nat) (rt : Option FieldType) (rm : Room) (as' : Array Value) (h : Heap) (ws : List Addr) (Q : Option Value → Heap → Vm → Prop) (wds : List Jvm.Cond) : Prop :=
  MetFree l y (head1 (Jvm.Cond.code y bytes mxl rt :: wds) rm) (fun a U => a = as' ∧ Z.Warmed39 U.vm ∧ U.heap = h ∧ CHv Z EL U.vm h ∧ ∀ x ∈ ws, Safe Z EL U.vm h x) (fun _ _ _ _ _ => True) (fun _ U o U' => ∃ v L, o = .returned v ∧ (Fr n0 L ∧ Keep h U'.heap ws ∧ Q v U'.heap U'.vm) ∧ CHr Z EL U.vm U.heap U'.vm U'.heap ∧ ReturnedEndW U o U' L rm.cells rm.slots)
theorem Con.of {y : MethodName} {rm : Room} {as' : Array Value} {Q : Option Value → Heap → Vm → Prop} {wds : List Jvm.Cond} {L0 : Array Slot} (hpn : plainFor y = true) (hef : ∀ m, entryFrame m as' mxl = mkF m 0 L0 []) (hws : ∀ x ∈ ws, n0 ≤ x) (hO : Old Z n0 h0) (hEL : EW Z a0 EL)
    (body : ∀ (p : Program) (e : Env) (s : State) (m : MethodId) (below : List Frame) (meth : Method) (c : Code) (S0 : State), meth.name = y.name → (∀ x ∈ ws, Safe Z EL s.vm h0 x) → Wk p l e rm s m as' below meth c bytes mxl rt Z a0 EL y.cls n0 h0 ws S0 s.vm h0 0 0 (mkF m 0 L0 []) → Done p e below S0 s Z EL n0 h0 ws rm Q) : Con l Z EL n0 y bytes mxl rt rm as' h0 ws Q wds := by
  refine MetFree.of_bodySF hpn hisR ?_
  intro p e s m args below meth c s₁ Bd hml hP hK
  obtain ⟨rfl, hZ, hh, hC, hsf⟩ := hP
  have hnm := (name_of_methodNamed Bd.named Bd.method).1
  have e0 : s₁.heap = h0 := by rw [← hh, Bd.state]; rfl
  have hn0 : n0 ≤ h0.size := by rw [← hO.1]; exact hO.2.1
  have X0 : Stand p l e rm (s.setVm s.vm) m args below meth c s₁ [] 0 0 := Stand.of_body Bd
  obtain ⟨s₂, o, g1, g2, g3, v, L, g4, g5, g6, g7⟩ := body p e s m below meth c (s₁.setTop (entryFrame m args mxl)) hnm hsf ⟨⟨Bd.exec, Bd.bytes, hml, Bd.returns, Bd.notSynchronized, hEL, hws, hn0, hh, hO⟩, ⟨hZ, findClass_of_methodNamed Bd.named, ⟨0, (State.WarmedH.refl s).since 0, Nat.zero_le _⟩, hO, CHr.refl hC, Keep.refl _ _⟩, s₁, [], X0, e0, Fr.nil n0, fun t k => castTop (hef m) k⟩
  exact ⟨s₂, o, g1, g2, g3, v, L, g4, g5, by rw [hh]; exact g6, g7⟩

theorem Con.back {y : MethodName} {bytes' : ByteArray} {mxl' : Nat} {rt' : Option FieldType} {rm : Room} {as' : Array Value} {ws' : List Addr} {Q : Option Value → Heap → Vm → Prop} {len Wd : Nat} (con : Con l Z EL n0 y bytes' mxl' rt' rm as' h ws' Q []) (hZ : Z.Warmed39 V) (wc : (Jvm.Cond.code y bytes' mxl' rt').before a0 Z = true) (wz : (Jvm.Cond.initialized y.cls).before a0 Z = true) (hf : rm.frames + 1 ≤ R.frames) (hl : Wd + (mxl' + 11) + rm.locals ≤ R.locals) (hEL : EW Z a0 EL) (H : CHv Z EL V h) (hsf : ∀ x ∈ ws', Safe Z EL V h x) :
    BackS l R p e below (s.setVm V) args y len Wd (fun A a => a = as' ∧ A.U.heap = h ∧ A.cells + rm.cells ≤ R.cells ∧ A.slots + rm.slots ≤ R.slots) (fun A _ v B => ∃ L, (Fr n0 L ∧ Keep h B.U.heap ws' ∧ Q v B.U.heap B.U.vm) ∧ B.locs = A.locs ++ L ∧ B.cells = A.cells + rm.cells ∧ B.slots = A.slots + rm.slots ∧ CHr Z EL V h B.U.vm B.U.heap) := by
  refine BackS.of_freeW (bytes := bytes') (maxL := mxl') (ret := rt') (E := fun _ first o t L k n => k = rm.cells ∧ n = rm.slots ∧ (∃ v, o = .returned v ∧ (Fr n0 L ∧ Keep h t.heap ws' ∧ Q v t.heap t.vm)) ∧ CHr Z EL first.vm first.heap t.vm t.heap) con hf hl ?_ ?_ (fun _ _ _ _ _ _ _ _ _ => trivial) ?_ ?_
  · intro m meth c A a Y hp
    have hU : Z.Warmed39 A.U.vm := wtrans (s := s.setVm V) hZ Y.warmed
    exact ⟨by show (Jvm.Cond.and _ .tt).before a A.U = true; rw [Cond.before_and, mv hU wc]; rfl, mv hU wc, mv hU wz, hp.2.2.1, hp.2.2.2⟩
  · intro m meth c A a g mk Y hp
    have q := CHv.at Y hZ hEL H
    exact ⟨hp.1, wtrans (s := s.setVm V) hZ Y.warmed, hp.2.1, q.1, fun x hx => (Nat.lt_or_ge x h.size).elim (fun z => q.safe z (hsf x hx)) (fun z => Safe.new z)⟩
  · rintro _ _ _ _ ⟨v, L, h1, h2, h3, h4⟩
    exact ⟨L, _, _, h4, rfl, rfl, ⟨v, h1, h2⟩, h3⟩
  · intro m meth c A a g mk v t L k n Y hp _ _ he
    obtain ⟨e1, e2, ⟨v', e3, e4⟩, e5⟩ := he
    cases e3; subst e1 e2
    exact ⟨L, e4, rfl, rfl, rfl, (CHv.at Y hZ hEL H).trans (by rw [← hp.2.1]; exact e5)⟩
theorem Wk.called {g : JFrame} {G : Option Value → JFrame} {rm : Room} {ws' : List Addr} {Q : Option Value → Heap → Vm → Prop} {cells' slots' : Nat} (W : Wk p l e R s m args below meth c bytes mxl rt Z a0 EL own n0 h0 ws S0 V h cells slots g) (hq : ∀ x ∈ ws', x ∈ ws ∨ h0.size ≤ x) (hc : cells + rm.cells = cells') (hs : slots + rm.slots = slots')
    (f : ∀ (T : State) (locs : List Loc), Stand p l e R (s.setVm V) m args below meth c T locs cells slots → T.heap = h → p.tables.exec = Jvm.exec → c.code = bytes → Z.Warmed39 (s.setVm V).vm → (s.setVm V).vm.findClass own = some m.cls → ∃ (v : Option Value) (vm₁ : Vm) (B : Pt), (s.setVm V).WarmedH vm₁ ∧ Stand p l e R ((s.setVm V).setVm B.U.vm) m args below meth c B.U B.locs B.cells B.slots ∧ (s.setVm V).Since B.U.vm B.U.heap.size ∧ T.heap.size ≤ B.U.heap.size ∧ (∃ L, (Fr n0 L ∧ Keep h B.U.heap ws' ∧ Q v B.U.heap B.U.vm) ∧ B.locs = locs ++ L ∧ B.cells = cells + rm.cells ∧ B.slots = slots + rm.slots ∧ CHr Z EL V h B.U.vm B.U.heap) ∧ Steps p.tables e below (T.setTop g) (B.U.setTop (G v))) :
    ∃ V' h' v, Wk p l e R s m args below meth c bytes mxl rt Z a0 EL own n0 h0 ws S0 V' h' cells' slots' (G v) ∧ Keep h h' ws' ∧ Q v h' V' ∧ ∀ x, x < h.size → Safe Z EL V h x → Safe Z EL V' h' x := by
  obtain ⟨a1, b, T, locs, X, eT, N, k⟩ := W
  obtain ⟨k0, hS, hk⟩ := b.2.2.1
  obtain ⟨v, vm₁, B, -, X', hS', hle, ⟨L', hQ, l1, l2, l3, hC⟩, stp⟩ := f T locs X eT a1.1 a1.2.1 b.1 b.2.1
  obtain ⟨X2, hS2, hZ2, hown2⟩ := rebS hS (by rw [eT]; exact hk) X' hS' hle b.1 b.2.1
  rw [l1, l2, l3, hc, hs] at X2
  have hge : ∀ x ∈ ws', n0 ≤ x := fun x hx => (hq x hx).elim (fun z => a1.2.2.2.2.2.2.1 x z) (fun z => Nat.le_trans a1.2.2.2.2.2.2.2.1 z)
  exact ⟨B.U.vm, B.U.heap, v, ⟨a1, ⟨hZ2, hown2, ⟨_, hS2, Nat.le_refl _⟩, b.2.2.2.1.keep hQ.2.1 hge, b.2.2.2.2.1.trans hC, b.2.2.2.2.2.trans hQ.2.1 hq⟩, B.U, _, X2, rfl, N.app hQ.1, fun t z => k t (stp.trans z)⟩, hQ.2.1, hQ.2.2, fun x hx sx => hC.safe hx sx⟩
section Calls
variable {y z : MethodName} {bytes' : ByteArray} {mxl' : Nat} {rt' : Option FieldType} {rm : Room} {ws' : List Addr} {Q : Option Value → Heap → Vm → Prop} {argsL rest stk : List Value} {index Wd cells' slots' : Nat}
theorem Wk.callS (W : Wk p l e R s m args below meth c bytes mxl rt Z a0 EL own n0 h0 ws S0 V h cells slots (mkF m pc L stk)) (hd : decode bytes pc = .ok (.invokestatic index, 3)) (con : Con l Z EL n0 y bytes' mxl' rt' rm argsL.toArray h ws' Q []) (w1 : (Jvm.Cond.methodLink own index y).before a0 Z = true) (w2 : (Jvm.Cond.static y).before a0 Z = true) (w3 : (Jvm.Cond.initialized y.cls).before a0 Z = true) (w4 : (Jvm.Cond.code y bytes' mxl' rt').before a0 Z = true) (hy : y.cls ≠ "java/lang/invoke/MethodHandle" ∧ y.cls ≠ "java/lang/invoke/VarHandle") (hlen : ∀ sig, parseMethodDescriptor y.desc = some sig → argsL.length = sig.parameters.length) (hstk : stk = argsL.reverse ++ rest) (hW : (rest.map fun v => v.category).sum = Wd) (hf : rm.frames + 1 ≤ R.frames) (hl : Wd + (mxl' + 11) + rm.locals ≤ R.locals) (hL : L.size = mxl) (hsf : ∀ x ∈ ws', Safe Z EL V h x) (hq : ∀ x ∈ ws', x ∈ ws ∨ h0.size ≤ x) (hp : pc + 3 = pc') (hc : cells + rm.cells = cells') (hs : slots + rm.slots = slots') (hc' : cells' ≤ R.cells) (hs' : slots' ≤ R.slots) :
    ∃ V' h' v, Wk p l e R s m args below meth c bytes mxl rt Z a0 EL own n0 h0 ws S0 V' h' cells' slots' (mkF m pc' L (v.toList ++ rest)) ∧ Keep h h' ws' ∧ Q v h' V' ∧ ∀ x, x < h.size → Safe Z EL V h x → Safe Z EL V' h' x := by
  subst hp
  have hml := W.1.2.2.1
  have hEL := W.el
  have H := W.chv
  refine W.called (G := fun v => mkF m (pc + 3) L (v.toList ++ rest)) hq hc hs fun T locs X eT hx hby hZ hown => ?_
  exact callSS X hx (y := y) hown (mvT hZ w1) (mvT hZ w2) (mvT hZ w3) (mvT hZ w4) hy (con.back hZ w4 w3 hf hl hEL H hsf) (g := mkF m pc L stk) rfl (hL.trans hml.symm) (argsL := argsL) (rest := rest) hlen hstk (by subst hW; show 2 * 0 + _ ≤ _; exact Nat.le_of_eq (Nat.zero_add _)) (hb hby hd) (fun _ _ => ⟨rfl, eT, by rw [← hc] at hc'; exact hc', by rw [← hs] at hs'; exact hs'⟩)
theorem Wk.callI {a : Addr} (W : Wk p l e R s m args below meth c bytes mxl rt Z a0 EL own n0 h0 ws S0 V h cells slots (mkF m pc L stk)) (hd : decode bytes pc = .ok (.invokespecial index, 3)) (con : Con l Z EL n0 y bytes' mxl' none rm (.ref a :: argsL).toArray h ws' Q []) (hy1 : y.name = "<init>") (w1 : (Jvm.Cond.methodLink own index y).before a0 Z = true) (w2 : (Jvm.Cond.instanceMethod y).before a0 Z = true) (w3 : (Jvm.Cond.initialized y.cls).before a0 Z = true) (w4 : (Jvm.Cond.code y bytes' mxl' none).before a0 Z = true) (hy : y.cls ≠ "java/lang/invoke/MethodHandle" ∧ y.cls ≠ "java/lang/invoke/VarHandle") (hlen : ∀ sig, parseMethodDescriptor y.desc = some sig → argsL.length = sig.parameters.length) (hstk : stk = argsL.reverse ++ .ref a :: rest) (hW : (rest.map fun v => v.category).sum = Wd) (hf : rm.frames + 1 ≤ R.frames) (hl : Wd + (mxl' + 11) + rm.locals ≤ R.locals) (hL : L.size = mxl) (hsf : ∀ x ∈ ws', Safe Z EL V h x) (hq : ∀ x ∈ ws', x ∈ ws ∨ h0.size ≤ x) (hp : pc + 3 = pc') (hc : cells + rm.cells = cells') (hs : slots + rm.slots = slots') (hc' : cells' ≤ R.cells) (hs' : slots' ≤ R.slots) :
    ∃ V' h' v, Wk p l e R s m args below meth c bytes mxl rt Z a0 EL own n0 h0 ws S0 V' h' cells' slots' (mkF m pc' L (v.toList ++ rest)) ∧ Keep h h' ws' ∧ Q v h' V' ∧ ∀ x, x < h.size → Safe Z EL V h x → Safe Z EL V' h' x := by
  subst hp
  have hml := W.1.2.2.1
  have hEL := W.el
  have H := W.chv
  refine W.called (G := fun v => mkF m (pc + 3) L (v.toList ++ rest)) hq hc hs fun T locs X eT hx hby hZ hown => ?_
  exact X.specialBackS hx (y := y) hy1 hown (mvT hZ w1) (mvT hZ w2) (mvT hZ w4) hy (con.back hZ w4 w3 hf hl hEL H hsf) (g := mkF m pc L stk) rfl (hL.trans hml.symm) (Steps.refl _) (a := a) (argsL := argsL) (rest := rest) hlen hstk (by subst hW; show 2 * 0 + _ ≤ _; exact Nat.le_of_eq (Nat.zero_add _)) (hb hby hd) (fun _ _ => ⟨rfl, eT, by rw [← hc] at hc'; exact hc', by rw [← hs] at hs'; exact hs'⟩)
theorem Wk.callV {a : Addr} {C : String} (W : Wk p l e R s m args below meth c bytes mxl rt Z a0 EL own n0 h0 ws S0 V h cells slots (mkF m pc L stk)) (hd : decode bytes pc = .ok (.invokevirtual index, 3)) (con : Con l Z EL n0 z bytes' mxl' rt' rm (.ref a :: argsL).toArray h ws' Q []) (E : Exa Z h a C) (w1 : (Jvm.Cond.methodLink own index y).before a0 Z = true) (wd : (Jvm.Cond.declares y).before a0 Z = true) (wn : (Jvm.Cond.selects C y y).before a0 Z = true ∨ ∃ S, (Jvm.Cond.superclass y.cls S).before a0 Z = true) (ws1 : (Jvm.Cond.selects C y z).before a0 Z = true) (w2 : (Jvm.Cond.instanceMethod z).before a0 Z = true) (w3 : (Jvm.Cond.initialized z.cls).before a0 Z = true) (w4 : (Jvm.Cond.code z bytes' mxl' rt').before a0 Z = true) (hy : y.cls ≠ "java/lang/invoke/MethodHandle" ∧ y.cls ≠ "java/lang/invoke/VarHandle") (hlen : ∀ sig, parseMethodDescriptor y.desc = some sig → argsL.length = sig.parameters.length) (hstk : stk = argsL.reverse ++ .ref a :: rest) (hW : (rest.map fun v => v.category).sum = Wd) (hf : rm.frames + 1 ≤ R.frames) (hl : Wd + (mxl' + 11) + rm.locals ≤ R.locals) (hL : L.size = mxl) (hsf : ∀ x ∈ ws', Safe Z EL V h x) (hq : ∀ x ∈ ws', x ∈ ws ∨ h0.size ≤ x) (hp : pc + 3 = pc') (hc : cells + rm.cells = cells') (hs : slots + rm.slots = slots') (hc' : cells' ≤ R.cells) (hs' : slots' ≤ R.slots) :
    ∃ V' h' v, Wk p l e R s m args below meth c bytes mxl rt Z a0 EL own n0 h0 ws S0 V' h' cells' slots' (mkF m pc' L (v.toList ++ rest)) ∧ Keep h h' ws' ∧ Q v h' V' ∧ ∀ x, x < h.size → Safe Z EL V h x → Safe Z EL V' h' x := by
  subst hp
  have hml := W.1.2.2.1
  have hEL := W.el
  have H := W.chv
  refine W.called (G := fun v => mkF m (pc + 3) L (v.toList ++ rest)) hq hc hs fun T locs X eT hx hby hZ hown => ?_
  obtain ⟨cB, kB, q1, q2, q3⟩ := isOf hZ eT E
  have hnf : NotFace (s.setVm V) y := wn.elim (fun w => notFace_of_selects (args := #[]) (mvT hZ w)) (fun ⟨S, w⟩ => nf_super (args := #[]) (mvT hZ w))
  exact X.virtualBackS hx (y := y) (z := z) hown (mvT hZ w1) (mvT hZ wd) hnf (mvT hZ ws1) (mvT hZ w2) hy (con.back hZ w4 w3 hf hl hEL H hsf) q1 q3 (g := mkF m pc L stk) rfl (hL.trans hml.symm) (Steps.refl _) (argsL := argsL) (rest := rest) hlen hstk (by subst hW; show 2 * 0 + _ ≤ _; exact Nat.le_of_eq (Nat.zero_add _)) (hb hby hd) (fun _ _ => ⟨rfl, eT, by rw [← hc] at hc'; exact hc', by rw [← hs] at hs'; exact hs'⟩)
/-- a private method, called by invokevirtual -/
theorem Wk.callP {a : Addr} {C : String} (W : Wk p l e R s m args below meth c bytes mxl rt Z a0 EL own n0 h0 ws S0 V h cells slots (mkF m pc L stk)) (hd : decode bytes pc = .ok (.invokevirtual index, 3)) (con : Con l Z EL n0 y bytes' mxl' rt' rm (.ref a :: argsL).toArray h ws' Q []) (E : Exa Z h a C) (w1 : (Jvm.Cond.methodLink own index y).before a0 Z = true) (w2 : (Jvm.Cond.instanceMethod y).before a0 Z = true) (ws1 : (Jvm.Cond.selects y.cls y y).before a0 Z = true) (wp : (Jvm.Cond.privateMethod y).before a0 Z = true) (w3 : (Jvm.Cond.initialized y.cls).before a0 Z = true) (w4 : (Jvm.Cond.code y bytes' mxl' rt').before a0 Z = true) (hy : y.cls ≠ "java/lang/invoke/MethodHandle" ∧ y.cls ≠ "java/lang/invoke/VarHandle") (hlen : ∀ sig, parseMethodDescriptor y.desc = some sig → argsL.length = sig.parameters.length) (hstk : stk = argsL.reverse ++ .ref a :: rest) (hW : (rest.map fun v => v.category).sum = Wd) (hf : rm.frames + 1 ≤ R.frames) (hl : Wd + (mxl' + 11) + rm.locals ≤ R.locals) (hL : L.size = mxl) (hsf : ∀ x ∈ ws', Safe Z EL V h x) (hq : ∀ x ∈ ws', x ∈ ws ∨ h0.size ≤ x) (hp : pc + 3 = pc') (hc : cells + rm.cells = cells') (hs : slots + rm.slots = slots') (hc' : cells' ≤ R.cells) (hs' : slots' ≤ R.slots) :
    ∃ V' h' v, Wk p l e R s m args below meth c bytes mxl rt Z a0 EL own n0 h0 ws S0 V' h' cells' slots' (mkF m pc' L (v.toList ++ rest)) ∧ Keep h h' ws' ∧ Q v h' V' ∧ ∀ x, x < h.size → Safe Z EL V h x → Safe Z EL V' h' x := by
  subst hp
  have hml := W.1.2.2.1
  have hEL := W.el
  have H := W.chv
  refine W.called (G := fun v => mkF m (pc + 3) L (v.toList ++ rest)) hq hc hs fun T locs X eT hx hby hZ hown => ?_
  obtain ⟨cl, q1, q2⟩ := (Ins.self E).cell
  exact X.privateBackS hx (y := y) hown (mvT hZ w1) (mvT hZ w2) (mvT hZ ws1) (Cond.privateMethod_at (mvP hZ wp (args := #[]))) (mvT hZ w4) hy (con.back hZ w4 w3 hf hl hEL H hsf) (g := mkF m pc L stk) rfl (hL.trans hml.symm) (Steps.refl _) (a := a) (by rw [eT]; exact q1) q2 (argsL := argsL) (rest := rest) hlen hstk (by subst hW; show 2 * 0 + _ ≤ _; exact Nat.le_of_eq (Nat.zero_add _)) (hb hby hd) (fun _ _ => ⟨rfl, eT, by rw [← hc] at hc'; exact hc', by rw [← hs] at hs'; exact hs'⟩)
/-- .. the entry names a subclass of the declaring one -/
theorem Wk.callU {a : Addr} {C owner : String} (W : Wk p l e R s m args below meth c bytes mxl rt Z a0 EL own n0 h0 ws S0 V h cells slots (mkF m pc L stk)) (hd : decode bytes pc = .ok (.invokevirtual index, 3)) (con : Con l Z EL n0 z bytes' mxl' rt' rm (.ref a :: argsL).toArray h ws' Q []) (E : Exa Z h a C) (w1 : (Jvm.Cond.methodLink own index y).before a0 Z = true) (wsm : (Jvm.Cond.sameMethod y.cls owner y.name y.desc).before a0 Z = true) (wd : (Jvm.Cond.declares ⟨owner, y.name, y.desc⟩).before a0 Z = true) (how : owner ≠ "java/lang/invoke/MethodHandle" ∧ owner ≠ "java/lang/invoke/VarHandle") (ws1 : (Jvm.Cond.selects C y z).before a0 Z = true) (w2 : (Jvm.Cond.instanceMethod z).before a0 Z = true) (w3 : (Jvm.Cond.initialized z.cls).before a0 Z = true) (w4 : (Jvm.Cond.code z bytes' mxl' rt').before a0 Z = true) (hlen : ∀ sig, parseMethodDescriptor y.desc = some sig → argsL.length = sig.parameters.length) (hstk : stk = argsL.reverse ++ .ref a :: rest) (hW : (rest.map fun v => v.category).sum = Wd) (hf : rm.frames + 1 ≤ R.frames) (hl : Wd + (mxl' + 11) + rm.locals ≤ R.locals) (hL : L.size = mxl) (hsf : ∀ x ∈ ws', Safe Z EL V h x) (hq : ∀ x ∈ ws', x ∈ ws ∨ h0.size ≤ x) (hp : pc + 3 = pc') (hc : cells + rm.cells = cells') (hs : slots + rm.slots = slots') (hc' : cells' ≤ R.cells) (hs' : slots' ≤ R.slots) :
    ∃ V' h' v, Wk p l e R s m args below meth c bytes mxl rt Z a0 EL own n0 h0 ws S0 V' h' cells' slots' (mkF m pc' L (v.toList ++ rest)) ∧ Keep h h' ws' ∧ Q v h' V' ∧ ∀ x, x < h.size → Safe Z EL V h x → Safe Z EL V' h' x := by
  subst hp
  have hml := W.1.2.2.1
  have hEL := W.el
  have H := W.chv
  refine W.called (G := fun v => mkF m (pc + 3) L (v.toList ++ rest)) hq hc hs fun T locs X eT hx hby hZ hown => ?_
  obtain ⟨cB, kB, q1, q2, q3⟩ := isOf hZ eT E
  exact X.virtualBackUpS hx (x := y) (y := z) hown (mvT hZ w1) (mvT hZ wsm) (mvT hZ wd) how (mvT hZ ws1) (mvT hZ w2) (con.back hZ w4 w3 hf hl hEL H hsf) q1 q3 (g := mkF m pc L stk) rfl (hL.trans hml.symm) (Steps.refl _) (argsL := argsL) (rest := rest) hlen hstk (by subst hW; show 2 * 0 + _ ≤ _; exact Nat.le_of_eq (Nat.zero_add _)) (hb hby hd) (fun _ _ => ⟨rfl, eT, by rw [← hc] at hc'; exact hc', by rw [← hs] at hs'; exact hs'⟩)
end Calls

/-- 'ldc' of a String constant of EL, its text read -/
theorem Wk.ldcT {index : Nat} {text : String} {vs : List Value} {z : Int32} {n cells' slots' : Nat} (W : Wk p l e R s m args below meth c bytes mxl rt Z a0 EL own n0 h0 ws S0 V h cells slots (mkF m pc L st)) (hd : decode bytes pc = .ok (.ldc index, 2)) (w : (Jvm.Cond.stringLink own index text).before a0 Z = true) (wS : ∀ a ∈ Bundle.stringAtoms, a.before a0 Z = true) (hmem : (own, index) ∈ EL) (ht : (∀ c ∈ text.toList, c.toNat < 256) ∧ text.toList.map (fun c => Value.int (Jvm.Lit.byteI c.toNat.toUInt16)) = vs) (hz : ¬ z < 0) (hl : z.toNatClampNeg = vs.length) (hn : 4 * text.toList.length ≤ n) (hbig : n ≤ 536870912) (hp : pc + 2 = pc') (hc : cells + 2 = cells') (hs : slots + (n + 4) = slots') (hc' : cells' ≤ R.cells) (hs' : slots' ≤ R.slots) :
    ∃ V' h' a b k, Wk p l e R s m args below meth c bytes mxl rt Z a0 EL own n0 h0 ws S0 V' h' cells' slots' (mkF m pc' L (.ref a :: st)) ∧ Ext h h' ∧ Exa Z h' a "java/lang/String" ∧ Fld Z h' a "java/lang/String" "coder" "B" (.int 0) ∧ Fld Z h' a "java/lang/String" "value" "[B" (.ref b) ∧ Arv Z h' b k .byte z vs (.int 0) ∧ Lit (s.setVm V') own index a ∧ (∀ x, Safe Z EL V' h' x → x ≠ a ∧ x ≠ b) ∧ ∀ x, x < h.size → Safe Z EL V h x → Safe Z EL V' h' x := by
  subst hp hc hs
  obtain ⟨a1, b, T, locs, X, eT, N, k⟩ := W
  obtain ⟨k0, hS, hk⟩ := b.2.2.1
  obtain ⟨a, T', h', k1, bb, kk, X', eT', E, hS', hk', hZ', hown', A1, A2, A3, A4, -, -, hC, hL, hne, stp⟩ := ldcCH X a1.1 b.1 b.2.1 w wS eT hS hk a1.2.2.2.2.2.1 hmem b.2.2.2.2.1.1 ht hz hl (g := mkF m pc L st) rfl (hb a1.2.1 hd) hn hbig hc' hs'
  exact ⟨T'.vm, h', a, bb, kk, ⟨a1, ⟨hZ', hown', ⟨k1, hS', hk'⟩, b.2.2.2.1.ext E, b.2.2.2.2.1.trans hC, b.2.2.2.2.2.ext E⟩, T', locs, X', eT', N, fun t q => k t (stp t q)⟩, E, A1, A2, A3, A4, hL, hne, fun x hx sx => hC.safe hx sx⟩
/-- 'ldc' of any String constant, handed on unread -/
theorem Wk.ldcO {index : Nat} {text : String} {n cells' slots' : Nat} (W : Wk p l e R s m args below meth c bytes mxl rt Z a0 EL own n0 h0 ws S0 V h cells slots (mkF m pc L st)) (hd : decode bytes pc = .ok (.ldc index, 2)) (w : (Jvm.Cond.stringLink own index text).before a0 Z = true) (wS : ∀ a ∈ Bundle.stringAtoms, a.before a0 Z = true) (hn : 4 * text.toList.length ≤ n) (hbig : n ≤ 536870912) (hp : pc + 2 = pc') (hc : cells + 2 = cells') (hs : slots + (n + 4) = slots') (hc' : cells' ≤ R.cells) (hs' : slots' ≤ R.slots) :
    ∃ V' h' a, Wk p l e R s m args below meth c bytes mxl rt Z a0 EL own n0 h0 ws S0 V' h' cells' slots' (mkF m pc' L (.ref a :: st)) ∧ Ext h h' ∧ Lit (s.setVm V') own index a ∧ ∀ x, x < h.size → Safe Z EL V h x → Safe Z EL V' h' x := by
  subst hp hc hs
  obtain ⟨a1, b, T, locs, X, eT, N, k⟩ := W
  obtain ⟨k0, hS, hk⟩ := b.2.2.1
  obtain ⟨a, T', h', k1, X', eT', E, hS', hk', hZ', hown', hC, hL, stp⟩ := ldcOH X a1.1 b.1 b.2.1 w wS eT hS hk a1.2.2.2.2.2.1 b.2.2.2.2.1.1 (g := mkF m pc L st) rfl (hb a1.2.1 hd) hn hbig hc' hs'
  exact ⟨T'.vm, h', a, ⟨a1, ⟨hZ', hown', ⟨k1, hS', hk'⟩, b.2.2.2.1.ext E, b.2.2.2.2.1.trans hC, b.2.2.2.2.2.ext E⟩, T', locs, X', eT', N, fun t q => k t (stp t q)⟩, E, hL, fun x hx sx => hC.safe hx sx⟩
/-- the same entry again, the tables' base being the same -/
theorem Wk.ldcA {index : Nat} {text : String} {a : Addr} (W : Wk p l e R s m args below meth c bytes mxl rt Z a0 EL own n0 h0 ws S0 V h cells slots (mkF m pc L st)) (hd : decode bytes pc = .ok (.ldc index, 2)) (w : (Jvm.Cond.stringLink own index text).before a0 Z = true) (hL : Lit (s.setVm V) own index a) (hp : pc + 2 = pc') : Wk p l e R s m args below meth c bytes mxl rt Z a0 EL own n0 h0 ws S0 V h cells slots (mkF m pc' L (.ref a :: st)) := by
  subst hp
  exact W.reads fun T locs X eT hx hby hZ hown => ⟨T, X, eT, ldcAgain X hx hZ hown w hL (g := mkF m pc L st) rfl (hb hby hd)⟩
/-- a String whose value is not yet set is no constant's -/
theorem safeNull {V : Vm} {a : Addr} (hal : Z.vm.Alike V) (E : Exa Z h a "java/lang/String") (F : Fld Z h a "java/lang/String" "value" "[B" .null) : Safe Z EL V h a := fun B => by
  obtain ⟨cell, cf, k, i, f, h1, h2, h3, h4, h5, h6, h7⟩ := F
  obtain ⟨p, -, u, b, -, q, -, G, e1 | e1⟩ := B
  · subst e1
    cases (show h[q.sa]? = some q.sC from G.ha).symm.trans h1
    obtain ⟨cS, ⟨⟨-, -, -, ⟨c1, k1, i1, f1, -⟩, -, -, -, v1, -⟩, -⟩, -⟩ := G
    obtain ⟨k', f2, -⟩ := State.fieldFound?_setVm (s := Z) hal h2
    have f2' : (Wst Z V h).fieldFound? "java/lang/String" "value" "[B" = some (cf, k', i, f) := f2
    have e4 := f2'.symm.trans f1
    simp only [Option.some.injEq, Prod.mk.injEq] at e4
    rw [e4.2.2.2, v1] at h7
    cases h7
  · subst e1
    obtain ⟨cell2, k2, e1, e2, -⟩ := E
    cases (show h[q.sd]? = some q.SA from G.hd).symm.trans e1
    obtain ⟨cS, -, -, f1, -⟩ := G
    have f1 : V.findClass "[B" = some q.SA.cls := f1
    rw [hal.findClass] at f1
    obtain ⟨k3, q1, q2⟩ := Vm.findClass_spec f1
    obtain ⟨k4, q3, q4⟩ := Vm.findClass_spec e2
    cases q1.symm.trans q3
    exact absurd (q2.symm.trans q4) (by decide)

section Calls2
variable {y z : MethodName} {bytes' : ByteArray} {mxl' : Nat} {rt' : Option FieldType} {rm : Room} {ws' : List Addr} {Q : Option Value → Heap → Vm → Prop} {argsL rest stk : List Value} {index Wd cells' slots' : Nat}
theorem Wk.callQ {a : Addr} {C : String} (W : Wk p l e R s m args below meth c bytes mxl rt Z a0 EL own n0 h0 ws S0 V h cells slots (mkF m pc L stk)) (hd : decode bytes pc = .ok (.invokevirtual index, 3)) (con : Con l Z EL n0 y bytes' mxl' rt' rm (.ref a :: argsL).toArray h ws' Q []) (E : Exa Z h a C) (w1 : (Jvm.Cond.methodLink own index y).before a0 Z = true) (w2 : (Jvm.Cond.instanceMethod y).before a0 Z = true) (ws1 : (Jvm.Cond.selects C y y).before a0 Z = true) (wp : (Jvm.Cond.privateMethod y).before a0 Z = true) (w3 : (Jvm.Cond.initialized y.cls).before a0 Z = true) (w4 : (Jvm.Cond.code y bytes' mxl' rt').before a0 Z = true) (hy : y.cls ≠ "java/lang/invoke/MethodHandle" ∧ y.cls ≠ "java/lang/invoke/VarHandle") (hlen : ∀ sig, parseMethodDescriptor y.desc = some sig → argsL.length = sig.parameters.length) (hstk : stk = argsL.reverse ++ .ref a :: rest) (hW : (rest.map fun v => v.category).sum = Wd) (hf : rm.frames + 1 ≤ R.frames) (hl : Wd + (mxl' + 11) + rm.locals ≤ R.locals) (hL : L.size = mxl) (hsf : ∀ x ∈ ws', Safe Z EL V h x) (hq : ∀ x ∈ ws', x ∈ ws ∨ h0.size ≤ x) (hp : pc + 3 = pc') (hc : cells + rm.cells = cells') (hs : slots + rm.slots = slots') (hc' : cells' ≤ R.cells) (hs' : slots' ≤ R.slots) :
    ∃ V' h' v, Wk p l e R s m args below meth c bytes mxl rt Z a0 EL own n0 h0 ws S0 V' h' cells' slots' (mkF m pc' L (v.toList ++ rest)) ∧ Keep h h' ws' ∧ Q v h' V' ∧ ∀ x, x < h.size → Safe Z EL V h x → Safe Z EL V' h' x := by
  subst hp
  have hml := W.1.2.2.1
  have hEL := W.el
  have H := W.chv
  refine W.called (G := fun v => mkF m (pc + 3) L (v.toList ++ rest)) hq hc hs fun T locs X eT hx hby hZ hown => ?_
  obtain ⟨cl, q1, q2⟩ := (Ins.self E).cell
  have q1 : T.heap[a]? = some cl := by rw [eT]; exact q1
  have hK := con.back (s := s) (args := args) (p := p) (e := e) (below := below) (R := R) (len := 3) hZ w4 w3 hf hl hEL H hsf
  have hinst := mvT (args := args) hZ w2
  have hpriv := Cond.privateMethod_at (mvP hZ wp (args := #[]))
  obtain ⟨mk, mt, hnamed, hmt, hst, hab⟩ := Cond.instanceMethod_spec hinst
  obtain ⟨mt', cM, hmt', -, -, -, -, -, -, hsig⟩ := Cond.code_spec hnamed (mvT (args := args) hZ w4)
  cases hmt.symm.trans hmt'
  obtain ⟨c2, r2, m2, -, -, q3, -, kP, hkP, hkPi⟩ := Cond.selects_spec (mvT (args := args) hZ ws1)
  cases hnamed.symm.trans q3
  have hsel : selectMethod e.platform (s.setVm V).vm cl.cls mk = .method mk := selectMethod_private hmt (hpriv mk mt hnamed hmt)
  obtain ⟨vm₁, X₁, stp⟩ := X.invokevirtual hx hown (mvT (args := args) hZ w1) hnamed hmt hst hkP hkPi hy (a := a) (cell := cl) q1 q2 hsel hmt hab hkP hkPi (g := mkF m pc L stk) rfl (argsL := argsL) (rest := rest) (hlen _ hsig) hstk (hb hby hd)
  obtain ⟨v, B, X', hS, hgr, hpost, hsteps⟩ := hK m meth c ⟨T.setVm vm₁, locs, cells, slots⟩ (mkF m pc L rest) (.invokevirtual index) mk (.ref a :: argsL).toArray X₁ rfl (hL.trans hml.symm) (hb hby hd) (by subst hW; show 2 * 0 + _ ≤ _; exact Nat.le_of_eq (Nat.zero_add _)) (X₁.named hnamed) ⟨rfl, eT, by rw [← hc] at hc'; exact hc', by rw [← hs] at hs'; exact hs'⟩
  exact ⟨v, vm₁, B, X₁.warmed, X', hS, hgr, hpost, (stp _ fun acts => by rw [doInvoke_state]; exact Steps.refl _).trans hsteps⟩
theorem Wk.callSup {a : Addr} {K : String} (W : Wk p l e R s m args below meth c bytes mxl rt Z a0 EL own n0 h0 ws S0 V h cells slots (mkF m pc L stk)) (hd : decode bytes pc = .ok (.invokespecial index, 3)) (con : Con l Z EL n0 y bytes' mxl' rt' rm (.ref a :: argsL).toArray h ws' Q []) (I : Ins Z h a K true) (hy1 : y.name ≠ "<init>") (w1 : (Jvm.Cond.methodLink own index y).before a0 Z = true) (wsm : (Jvm.Cond.sameMethod y.cls y.cls y.name y.desc).before a0 Z = true) (w2 : (Jvm.Cond.instanceMethod y).before a0 Z = true) (wsu : (Jvm.Cond.superclass own y.cls).before a0 Z = true) (w3 : (Jvm.Cond.initialized y.cls).before a0 Z = true) (w4 : (Jvm.Cond.code y bytes' mxl' rt').before a0 Z = true) (hlen : ∀ sig, parseMethodDescriptor y.desc = some sig → argsL.length = sig.parameters.length) (hstk : stk = argsL.reverse ++ .ref a :: rest) (hW : (rest.map fun v => v.category).sum = Wd) (hf : rm.frames + 1 ≤ R.frames) (hl : Wd + (mxl' + 11) + rm.locals ≤ R.locals) (hL : L.size = mxl) (hsf : ∀ x ∈ ws', Safe Z EL V h x) (hq : ∀ x ∈ ws', x ∈ ws ∨ h0.size ≤ x) (hp : pc + 3 = pc') (hc : cells + rm.cells = cells') (hs : slots + rm.slots = slots') (hc' : cells' ≤ R.cells) (hs' : slots' ≤ R.slots) :
    ∃ V' h' v, Wk p l e R s m args below meth c bytes mxl rt Z a0 EL own n0 h0 ws S0 V' h' cells' slots' (mkF m pc' L (v.toList ++ rest)) ∧ Keep h h' ws' ∧ Q v h' V' ∧ ∀ x, x < h.size → Safe Z EL V h x → Safe Z EL V' h' x := by
  subst hp
  have hml := W.1.2.2.1
  have hEL := W.el
  have H := W.chv
  refine W.called (G := fun v => mkF m (pc + 3) L (v.toList ++ rest)) hq hc hs fun T locs X eT hx hby hZ hown => ?_
  exact superBackS X hx hZ (K := K) (y := y) hown w1 wsm w2 wsu hy1 (con.back hZ w4 w3 hf hl hEL H hsf) eT (a := a) I (g := mkF m pc L stk) rfl (hL.trans hml.symm) w4 (argsL := argsL) (rest := rest) hlen hstk (by subst hW; show 2 * 0 + _ ≤ _; exact Nat.le_of_eq (Nat.zero_add _)) (hb hby hd) (fun _ _ => ⟨rfl, eT, by rw [← hc] at hc'; exact hc', by rw [← hs] at hs'; exact hs'⟩)
theorem Wk.callF {a : Addr} {C C' : String} {y' : MethodName} (W : Wk p l e R s m args below meth c bytes mxl rt Z a0 EL own n0 h0 ws S0 V h cells slots (mkF m pc L stk)) (hd : decode bytes pc = .ok (.invokevirtual index, 3)) (con : Con l Z EL n0 z bytes' mxl' rt' rm (.ref a :: argsL).toArray h ws' Q []) (E : Exa Z h a C) (w1 : (Jvm.Cond.methodLink own index y).before a0 Z = true) (wd : (Jvm.Cond.declares y).before a0 Z = true) (wn : (Jvm.Cond.selects C' y' y').before a0 Z = true) (hcls : y'.cls = y.cls) (ws1 : (Jvm.Cond.selects C y z).before a0 Z = true) (w2 : (Jvm.Cond.instanceMethod z).before a0 Z = true) (w3 : (Jvm.Cond.initialized z.cls).before a0 Z = true) (w4 : (Jvm.Cond.code z bytes' mxl' rt').before a0 Z = true) (hy : y.cls ≠ "java/lang/invoke/MethodHandle" ∧ y.cls ≠ "java/lang/invoke/VarHandle") (hlen : ∀ sig, parseMethodDescriptor y.desc = some sig → argsL.length = sig.parameters.length) (hstk : stk = argsL.reverse ++ .ref a :: rest) (hW : (rest.map fun v => v.category).sum = Wd) (hf : rm.frames + 1 ≤ R.frames) (hl : Wd + (mxl' + 11) + rm.locals ≤ R.locals) (hL : L.size = mxl) (hsf : ∀ x ∈ ws', Safe Z EL V h x) (hq : ∀ x ∈ ws', x ∈ ws ∨ h0.size ≤ x) (hp : pc + 3 = pc') (hc : cells + rm.cells = cells') (hs : slots + rm.slots = slots') (hc' : cells' ≤ R.cells) (hs' : slots' ≤ R.slots) :
    ∃ V' h' v, Wk p l e R s m args below meth c bytes mxl rt Z a0 EL own n0 h0 ws S0 V' h' cells' slots' (mkF m pc' L (v.toList ++ rest)) ∧ Keep h h' ws' ∧ Q v h' V' ∧ ∀ x, x < h.size → Safe Z EL V h x → Safe Z EL V' h' x := by
  subst hp
  have hml := W.1.2.2.1
  have hEL := W.el
  have H := W.chv
  refine W.called (G := fun v => mkF m (pc + 3) L (v.toList ++ rest)) hq hc hs fun T locs X eT hx hby hZ hown => ?_
  obtain ⟨cB, kB, q1, q2, q3⟩ := isOf hZ eT E
  have hnf : NotFace (s.setVm V) y := fun r0 h0 => by
    obtain ⟨c2, r2, m2, -, -, q3, -, kP, hkP, hkPi⟩ := Cond.selects_spec (mvT (args := #[]) hZ wn)
    have f1 := findClass_of_methodNamed h0
    have f2 := findClass_of_methodNamed q3
    rw [hcls] at f2
    have e : m2.cls = r0.cls := Option.some.inj (f2.symm.trans f1)
    exact ⟨kP, by rw [← e]; exact hkP, hkPi⟩
  exact X.virtualBackS hx (y := y) (z := z) hown (mvT hZ w1) (mvT hZ wd) hnf (mvT hZ ws1) (mvT hZ w2) hy (con.back hZ w4 w3 hf hl hEL H hsf) q1 q3 (g := mkF m pc L stk) rfl (hL.trans hml.symm) (Steps.refl _) (argsL := argsL) (rest := rest) hlen hstk (by subst hW; show 2 * 0 + _ ≤ _; exact Nat.le_of_eq (Nat.zero_add _)) (hb hby hd) (fun _ _ => ⟨rfl, eT, by rw [← hc] at hc'; exact hc', by rw [← hs] at hs'; exact hs'⟩)
end Calls2

theorem Wk.acopy0 {index : Nat} {a b : Addr} {k kb : ClassId} {z zb n : Int32} {vs vb vs' : List Value} {dv db : Value} {nn Wd : Nat} (W : Wk p l e R s m args below meth c bytes mxl rt Z a0 EL own n0 h0 ws S0 V h cells slots (mkF m pc L (.int n :: .int 0 :: .ref a :: .int 0 :: .ref b :: st))) (hd : decode bytes pc = .ok (.invokestatic index, 3)) (w1 : (Jvm.Cond.methodLink own index Jvm.arraycopyName).before a0 Z = true) (w2 : (Jvm.Cond.native Jvm.arraycopyName).before a0 Z = true) (w3 : (Jvm.Cond.static Jvm.arraycopyName).before a0 Z = true) (w4 : (Jvm.Cond.initialized "java/lang/System").before a0 Z = true) (B : Arv Z h b kb .byte zb vb db) (A : Arv Z h a k .byte z vs dv) (hn : ¬ n < 0) (hnn : n.toNatClampNeg = nn) (hnb : nn ≤ zb.toNatClampNeg) (hna : nn ≤ z.toNatClampNeg) (hv : ∀ i, i < z.toNatClampNeg → vs'.getD i dv = if i < nn then vb.getD i db else vs.getD i dv) (hL : L.size = mxl) (hW : (st.map fun v => v.category).sum = Wd) (hf : 1 ≤ R.frames) (hl : Wd + 18 ≤ R.locals) (sf : Safe Z EL V h a) (q : a ∈ ws ∨ h0.size ≤ a) (hp : pc + 3 = pc') :
    ∃ h', Wk p l e R s m args below meth c bytes mxl rt Z a0 EL own n0 h0 ws S0 V h' cells slots (mkF m pc' L st) ∧ Keep h h' [a] ∧ Arv Z h' a k .byte z vs' dv ∧ ∀ y, Safe Z EL V h y → Safe Z EL V h' y := by
  subst hp hW hnn
  have hml := W.1.2.2.1
  obtain ⟨a1, b1, T, locs, X, eT, N, kst⟩ := W
  obtain ⟨cb, B1, r1, SB, MB, HB, GB⟩ := B
  obtain ⟨cl, A1, q1, S, M, H, G⟩ := A
  have hge : n0 ≤ a := q.elim (fun z => a1.2.2.2.2.2.2.1 a z) (fun z => Nat.le_trans a1.2.2.2.2.2.2.2.1 z)
  have hZ : Z.Warmed39 (s.setVm V).vm := b1.1
  have hown : (s.setVm V).vm.findClass own = some m.cls := b1.2.1
  obtain ⟨-, ks, kk1, comps, kk2⟩ := State.isArrayOf_alike (T := s.setVm V) hZ.alike B1.2.1
  obtain ⟨-, kd, kk3, compd, kk4⟩ := State.isArrayOf_alike (T := s.setVm V) hZ.alike A1.2.1
  have en : n.toInt = (n.toNatClampNeg : Int) := by
    have h0 := hn
    rw [Int32.lt_iff_toInt_lt] at h0
    have e0 : (0 : Int32).toInt = 0 := rfl
    have : n.toNatClampNeg = n.toInt.toNat := rfl
    omega
  have ez : (0 : Int32).toInt = 0 := rfl
  have ez' : (0 : Int32).toNatClampNeg = 0 := rfl
  have hvals : ∀ i, i < n.toNatClampNeg → cb.slots[i]? = some (vb.getD i db) := fun i hi => HB i (by omega)
  obtain ⟨vm', X', st'⟩ := X.arraycopy a1.1 hown (mv hZ w1) (mv hZ w2) (mv hZ w3) (mv hZ w4) (src := b) (dst := a) (srcPos := 0) (destPos := 0) (n := n) (by rw [eT]; exact B1.1) (by rw [eT]; exact A1.1) B1.2.1.1 A1.2.1.1 B1.2.2 A1.2.2 kk1 kk3 kk2 kk4 (by decide) (by decide) (by decide) hn (by rw [ez, en]; omega) (by rw [ez, en]; omega)
    (by
      intro vm'' _ i hi
      have e := hvals i hi
      have ef := GB i (by omega)
      rw [ez', Nat.zero_add, Array.getD_eq_getD_getElem?, e]
      refine ⟨ef, ?_⟩
      show State.takes _ _ (vb.getD i db)
      cases hc : vb.getD i db with
      | ref x => rw [hc] at ef; cases ef
      | _ => trivial)
    (g := mkF m pc L (.int n :: .int 0 :: .ref a :: .int 0 :: .ref b :: st)) rfl (hL.trans hml.symm) rfl (hb a1.2.1 hd) hf (by show 2 * 0 + _ + (5 + 2 + 11) ≤ _; omega)
  have estr : ∀ j, j < n.toNatClampNeg → (cb.stretch 0 n.toNatClampNeg)[j]? = some (vb.getD j db) := fun j hj => by
    show ((List.range n.toNatClampNeg).map fun i => cb.slots.getD (0 + i) .null)[j]? = _
    rw [List.getElem?_map, List.getElem?_range hj]
    show some (cb.slots.getD (0 + j) .null) = _
    rw [Nat.zero_add, Array.getD_eq_getD_getElem?, hvals j hj]
    rfl
  have elen : (cb.stretch 0 n.toNatClampNeg).length = n.toNatClampNeg := by
    show ((List.range n.toNatClampNeg).map fun i => cb.slots.getD (0 + i) .null).length = _
    simp
  have F := cl.storeRun_facts 0 (cb.stretch 0 n.toNatClampNeg)
  have hlt : a < h.size := (Array.getElem?_eq_some_iff.mp A1.1).1
  have hget : (h.setIfInBounds a (cl.storeRun 0 (cb.stretch 0 n.toNatClampNeg)))[a]? = some (cl.storeRun 0 (cb.stretch 0 n.toNatClampNeg)) := by
    rw [Array.getElem?_setIfInBounds_self_of_lt hlt]
  have K : Keep h (h.setIfInBounds a (cl.storeRun 0 (cb.stretch 0 n.toNatClampNeg))) [a] := by
    refine ⟨by simp, fun x c q r => ?_, fun x c q => ?_⟩
    · have : a ≠ x := fun z => r (by simp [z])
      rw [Array.getElem?_setIfInBounds_ne this]; exact q
    · by_cases z : a = x
      · subst z; cases A1.1.symm.trans q
        exact ⟨_, hget, F.1, F.2.1, F.2.2.1⟩
      · exact ⟨c, by rw [Array.getElem?_setIfInBounds_ne z]; exact q, rfl, rfl, rfl⟩
  have A' : Arv Z (h.setIfInBounds a (cl.storeRun 0 (cb.stretch 0 n.toNatClampNeg))) a k .byte z vs' dv := by
    have HH : Has (cl.storeRun 0 (cb.stretch 0 n.toNatClampNeg)) vs' dv := fun j hj => by
      rw [F.2.2.1, S] at hj
      rw [cl.storeRun_get 0 _ j (by rw [elen]; omega), elen, hv j hj]
      by_cases u : j < n.toNatClampNeg
      · rw [if_pos ⟨Nat.zero_le _, by omega⟩, if_pos u, Nat.sub_zero, estr j u]
      · rw [if_neg (fun w => u (by omega)), if_neg u]
        exact H j (by omega)
    refine ⟨_, ⟨hget, ⟨by rw [F.2.1]; exact A1.2.1.1, by rw [F.1]; exact A1.2.1.2⟩, by rw [F.2.1]; exact A1.2.2⟩, F.1.trans q1, F.2.2.1.trans S, M, HH, fun j hj => ?_⟩
    rw [F.2.2.1, S] at hj
    rw [hv j hj]
    by_cases u : j < n.toNatClampNeg
    · rw [if_pos u]; exact GB j (by omega)
    · rw [if_neg u]; exact G j (by omega)
  have hsf : ∀ x ∈ [a], Safe Z EL V h x := fun x hx => by cases List.mem_singleton.mp hx; exact sf
  have hq : ∀ x ∈ [a], x ∈ ws ∨ h0.size ≤ x := fun x hx => by cases List.mem_singleton.mp hx; exact q
  have hgeL : ∀ x ∈ [a], n0 ≤ x := fun x hx => by cases List.mem_singleton.mp hx; exact hge
  have Hc := b1.2.2.2.2.1.1
  obtain ⟨k0, hS, hk⟩ := b1.2.2.1
  have eT' : ((T.setVm vm').setCell a (copied cb cl 0 0 n)).heap = h.setIfInBounds a (cl.storeRun 0 (cb.stretch 0 n.toNatClampNeg)) := by
    show (T.heap.setIfInBounds a (copied cb cl 0 0 n)) = _
    rw [eT]
    rfl
  refine ⟨_, ⟨a1, ⟨b1.1, b1.2.1, ⟨k0, hS, Nat.le_trans hk K.1⟩, b1.2.2.2.1.keep K hgeL, b1.2.2.2.2.1.trans (CHr.keep K hsf Hc), b1.2.2.2.2.2.trans K hq⟩, _, _, X', eT', N.app fun y hy => ?_, fun t z => kst t (st' t z)⟩, K, A', fun y sy => Safe.keep K hsf Hc sy⟩
  obtain ⟨w, -, rfl⟩ := List.mem_map.mp hy
  exact hge
end Layer
theorem safe0 {Z : State} {h : Heap} {V : Vm} {a : Addr} : Safe Z [] V h a := fun B => by obtain ⟨p, hp, -⟩ := B; cases hp


theorem own_small {c : Int32} (h0 : ¬ c < 0) (h1 : ¬ (255 : Int32) < c) : ∃ k : Fin 256, c = Int32.ofNat k.val := by
  rw [Int32.lt_iff_toInt_lt] at h0 h1
  have e1 : (255 : Int32).toInt = 255 := rfl
  have e0 : (0 : Int32).toInt = 0 := rfl
  refine ⟨⟨c.toInt.toNat, by omega⟩, ?_⟩
  apply Int32.toInt_inj.mp
  show c.toInt = (Int32.ofNat c.toInt.toNat).toInt
  rw [Int32.toInt_ofNat_of_lt (by omega)]
  omega
theorem own_narb (x : Int32) : nar .byte (x.toInt8.toInt32) = x.toInt8.toInt32 := by
  show (x.toInt8.toInt32).toInt8.toInt32 = x.toInt8.toInt32
  simp
theorem own_narc {c : Int32} (h : ¬ c < 0 ∧ ¬ (65535 : Int32) < c) : nar .char c = c := by
  show c.toUInt32.toUInt16.toUInt32.toInt32 = c
  have h0 := h.1
  have h1 := h.2
  rw [Int32.lt_iff_toInt_lt] at h0 h1
  have e1 : (65535 : Int32).toInt = 65535 := rfl
  have e0 : (0 : Int32).toInt = 0 := rfl
  obtain ⟨q1, q2, q3⟩ := c_i2c c
  apply Int32.toInt_inj.mp
  omega
theorem own_up {c : Int32} (h : ¬ c < 0 ∧ ¬ (255 : Int32) < c) : ¬ c < 0 ∧ ¬ (65535 : Int32) < c := by
  refine ⟨h.1, fun q => h.2 ?_⟩
  rw [Int32.lt_iff_toInt_lt] at q ⊢
  have e1 : (65535 : Int32).toInt = 65535 := rfl
  have e0 : (255 : Int32).toInt = 255 := rfl
  omega
theorem own_narrow_char {c : Int32} (h : ¬ c < 0 ∧ ¬ (65535 : Int32) < c) : narrow .char (.int c) = .int c := congrArg Value.int (own_narc h)
theorem own_and255 (x : Int32) : ¬ (x &&& (255 : Int32)) < 0 ∧ ¬ (255 : Int32) < (x &&& (255 : Int32)) := by
  obtain ⟨q1, q2⟩ := c_and x 255 (by decide)
  rw [Int32.lt_iff_toInt_lt, Int32.lt_iff_toInt_lt]
  have e1 : (255 : Int32).toInt = 255 := rfl
  have e0 : (0 : Int32).toInt = 0 := rfl
  omega
theorem own_fits_ref {t : FieldType} {v : Value} (h : v.isRef = true) (ht : t.isReference = true) : fits t v = true := by
  rcases ref_cases h with rfl | ⟨a, rfl⟩ <;> cases t <;> simp_all [fits, FieldType.isReference]
theorem own_nar_ref {t : FieldType} {v : Value} (h : v.isRef = true) (ht : t.isReference = true) : narrow t v = v := by
  rcases ref_cases h with rfl | ⟨a, rfl⟩ <;> cases t <;> simp_all [narrow, FieldType.isReference]

theorem own_shr0 (c : Int32) : (c >>> ((0 : Int32) &&& 31)) = c := by
  apply Int32.toInt_inj.mp
  rw [c_ishr c 0 0 (by decide)]
  simp
theorem own_small16 {c : Int32} (h : ¬ c < 0 ∧ ¬ (65535 : Int32) < c) : ∃ k : Nat, k < 65536 ∧ c = Int32.ofNat k := by
  obtain ⟨h0, h1⟩ := h
  rw [Int32.lt_iff_toInt_lt] at h0 h1
  have e1 : (65535 : Int32).toInt = 65535 := rfl
  have e0 : (0 : Int32).toInt = 0 := rfl
  refine ⟨c.toInt.toNat, by omega, ?_⟩
  apply Int32.toInt_inj.mp
  rw [Int32.toInt_ofNat_of_lt (by omega)]
  omega
theorem own_byte (x : Int32) : ((x.toInt8.toInt32) &&& (255 : Int32)).toInt = x.toInt % 256 := by
  rw [c_mask _ 255 8 (by decide) (by decide)]
  obtain ⟨q, -, -⟩ := c_i2b x
  omega
theorem own_pair {c : Int32} (h : ¬ c < 0 ∧ ¬ (65535 : Int32) < c) : (((((c.toInt8.toInt32) &&& (255 : Int32)) <<< ((0 : Int32) &&& 31)) ||| ((((c >>> ((8 : Int32) &&& 31)).toInt8.toInt32) &&& (255 : Int32)) <<< ((8 : Int32) &&& 31))).toUInt32.toUInt16.toUInt32.toInt32) = c := by
  have b1 := own_byte c
  have b2 := own_byte (c >>> ((8 : Int32) &&& 31))
  have s2 := c_ishr c 8 8 (by decide)
  generalize ((c.toInt8.toInt32) &&& (255 : Int32)) = u at *
  generalize (((c >>> ((8 : Int32) &&& 31)).toInt8.toInt32) &&& (255 : Int32)) = v at *
  have s1 := c_ishl u 0 0 (by decide)
  have s3 := c_ishl v 8 8 (by decide)
  have r1 := rng32 (u <<< ((0 : Int32) &&& 31))
  have r3 := rng32 (v <<< ((8 : Int32) &&& 31))
  obtain ⟨h0, h1⟩ := h
  rw [Int32.lt_iff_toInt_lt] at h0 h1
  have e1 : (65535 : Int32).toInt = 65535 := rfl
  have e0 : (0 : Int32).toInt = 0 := rfl
  have p0 : ((2 ^ 0 : Nat) : Int) = 1 := rfl
  have p8 : ((2 ^ 8 : Nat) : Int) = 256 := rfl
  rw [p0] at s1
  rw [p8] at s2 s3
  generalize (u <<< ((0 : Int32) &&& 31)) = u' at *
  generalize (v <<< ((8 : Int32) &&& 31)) = v' at *
  have o := c_or' u' v' 8 (by decide) 256 (by decide) (by omega) (by omega) (by omega)
  have r4 := rng32 (u' ||| v')
  obtain ⟨q1, q2, q3⟩ := c_i2c (u' ||| v')
  apply Int32.toInt_inj.mp
  omega
theorem own_and65535 (x : Int32) : ¬ (x &&& (65535 : Int32)) < 0 ∧ ¬ (65535 : Int32) < (x &&& (65535 : Int32)) := by
  obtain ⟨q1, q2⟩ := c_and x 65535 (by decide)
  rw [Int32.lt_iff_toInt_lt, Int32.lt_iff_toInt_lt]
  have e1 : (65535 : Int32).toInt = 65535 := rfl
  have e0 : (0 : Int32).toInt = 0 := rfl
  omega
def lst (n : Nat) (g : Nat → Int32) : List Value := (List.range n).map fun i => Value.int (g i)
def zf : Nat → Int32 := fun _ => 0
def upd (g : Nat → Int32) (i : Nat) (v : Int32) : Nat → Int32 := fun j => if j = i then v else g j
def gl (L : List Int32) : Nat → Int32 := fun i => L.getD i 0
theorem own_lst_set (n : Nat) (g : Nat → Int32) (i : Nat) (v : Int32) : (lst n g).set i (.int v) = lst n (upd g i v) := by
  refine List.ext_getElem (by simp [lst]) fun j h1 h2 => ?_
  simp only [lst, upd, List.getElem_set, List.getElem_map, List.getElem_range]
  by_cases q : i = j
  · subst q; simp
  · have q' : ¬ j = i := fun z => q z.symm
    simp [q, q']
theorem own_lst_get {n i : Nat} {g : Nat → Int32} {dv : Value} (h : i < n) : (lst n g).getD i dv = .int (g i) := by
  simp [lst, List.getD, h]
theorem own_lst_len (n : Nat) (g : Nat → Int32) : (lst n g).length = n := by simp [lst]
theorem own_lst_z (n i : Nat) : (lst n zf).getD i (.int (0 : Int32)) = ([] : List Value).getD i (.int (0 : Int32)) := by
  by_cases h : i < n
  · rw [own_lst_get h]; rfl
  · simp [lst, List.getD, h]
theorem own_lst0 {Z : State} {h : Heap} {a : Addr} {k : ClassId} {ty : FieldType} {z : Int32} {n : Nat} (A : Arv Z h a k ty z [] (.int (0 : Int32))) : Arv Z h a k ty z (lst n zf) (.int (0 : Int32)) := A.pad (own_lst_z n)
theorem own_cg {Z : State} {h : Heap} {a : Addr} {k : ClassId} {ty : FieldType} {z : Int32} {n : Nat} {g g' : Nat → Int32} {dv : Value} (A : Arv Z h a k ty z (lst n g) dv) (q : ∀ i, i < n → g i = g' i) : Arv Z h a k ty z (lst n g') dv := by
  have e : lst n g = lst n g' := List.map_congr_left fun i hi => by rw [q i (List.mem_range.mp hi)]
  rw [← e]; exact A
theorem own_irr (x : Int32) : ¬ x < x := by rw [Int32.lt_iff_toInt_lt]; omega
theorem own_toInt {X : Nat} (h : X < 2147483648) : (Int32.ofNat X).toInt = X := Int32.toInt_ofNat_of_lt (by omega)
theorem own_lt {X Y : Nat} (hX : X < 2147483648) (hY : Y < 2147483648) (h : X < Y) : Int32.ofNat X < Int32.ofNat Y := by
  rw [Int32.lt_iff_toInt_lt, own_toInt hX, own_toInt hY]; omega
theorem own_nlt {X Y : Nat} (hX : X < 2147483648) (hY : Y < 2147483648) (h : Y ≤ X) : ¬ Int32.ofNat X < Int32.ofNat Y := by
  rw [Int32.lt_iff_toInt_lt, own_toInt hX, own_toInt hY]; omega
theorem own_ofNat_inj {X Y : Nat} (hX : X < 2147483648) (hY : Y < 2147483648) (h : Int32.ofNat X = Int32.ofNat Y) : X = Y := by
  have q := congrArg Int32.toInt h
  rw [own_toInt hX, own_toInt hY] at q; omega
theorem own_ne {X Y : Nat} (hX : X < 2147483648) (hY : Y < 2147483648) (h : ¬ X = Y) : ¬ Int32.ofNat X = Int32.ofNat Y := fun q => h (own_ofNat_inj hX hY q)
theorem own_nn {X : Nat} (hX : X < 2147483648) : ¬ Int32.ofNat X < (0 : Int32) := own_nlt (Y := 0) hX (by omega) (by omega)
theorem own_add1 (X : Nat) : Int32.ofNat X + (1 : Int32) = Int32.ofNat (X + 1) := by rw [Int32.ofNat_add]; rfl
theorem own_clamp {X : Nat} (h : X < 2147483648) : (Int32.ofNat X).toNatClampNeg = X := by
  show (Int32.ofNat X).toInt.toNat = X
  rw [own_toInt h]; omega
theorem own_subself (c : Int32) : c - c = (0 : Int32) := by simp


theorem own_same {Z : State} {a0 : Array Value} {C : String} {x y : MethodName} (w : (Jvm.Cond.selects C y y).before a0 Z = true) (w2 : (Jvm.Cond.instanceMethod x).before a0 Z = true) (hc : x.cls = y.cls) (hh : x.cls ≠ "java/lang/invoke/MethodHandle" ∧ x.cls ≠ "java/lang/invoke/VarHandle") : (Jvm.Cond.sameMethod x.cls x.cls x.name x.desc).before a0 Z = true := by
  obtain ⟨c2, r2, m2, -, -, q3, -, kP, hkP, hkPi⟩ := Cond.selects_spec w
  obtain ⟨mk, mt, hnamed, hmt, -, -⟩ := Cond.instanceMethod_spec w2
  have f1 := findClass_of_methodNamed hnamed
  have f2 := findClass_of_methodNamed q3
  rw [← hc] at f2
  have e : m2.cls = mk.cls := Option.some.inj (f2.symm.trans f1)
  have hf := State.methodFound?_of_named hnamed hh
  rw [e] at hkP
  have hn : Z.methodNamed? ⟨x.cls, x.name, x.desc⟩ = some mk := hnamed
  simp only [Cond.before, Cond.holds, Cond.value, f1, hf, hn]
  simp [hkP, hkPi]

def SOK (cd : Int32) (NB : Nat) (fb : Nat → Int32) (N : Nat) (g : Nat → Int32) : Prop :=
  ((0 : Int32) = cd ∧ N = NB ∧ (∀ i, i < N → fb i = (g i).toInt8.toInt32) ∧ ∀ i, i < N → ¬ (255 : Int32) < g i) ∨ ((1 : Int32) = cd ∧ 2 * N = NB ∧ ∀ i, i < N → fb (2 * i) = (g i).toInt8.toInt32 ∧ fb ((2 * i) + 1) = ((g i) >>> ((8 : Int32) &&& 31)).toInt8.toInt32)
theorem own_shl1 {X : Nat} (h : X < 1073741824) : Int32.ofNat X <<< ((1 : Int32) &&& 31) = Int32.ofNat (2 * X) := by
  apply Int32.toInt_inj.mp
  have s1 := c_ishl (Int32.ofNat X) 1 1 (by decide)
  have p1 : ((2 ^ 1 : Nat) : Int) = 2 := rfl
  rw [p1, own_toInt (by omega)] at s1
  have r1 := rng32 (Int32.ofNat X <<< ((1 : Int32) &&& 31))
  rw [own_toInt (by omega)]
  omega
theorem own_shr1 {X : Nat} (h : X < 1073741824) : Int32.ofNat (2 * X) >>> ((1 : Int32) &&& 31) = Int32.ofNat X := by
  apply Int32.toInt_inj.mp
  have s1 := c_ishr (Int32.ofNat (2 * X)) 1 1 (by decide)
  have p1 : ((2 ^ 1 : Nat) : Int) = 2 := rfl
  rw [s1, p1, own_toInt (by omega), own_toInt (by omega)]
  omega
def BOK (cb : Int32) (KB K : Nat) (f : Nat → Int32) (T : Nat) (o : Nat → Int32) : Prop :=
  ((0 : Int32) = cb ∧ K = KB ∧ (∀ i, i < T → f i = (o i).toInt8.toInt32) ∧ ∀ i, i < T → ¬ (255 : Int32) < o i) ∨ ((1 : Int32) = cb ∧ 2 * K = KB ∧ ∀ i, i < T → f (2 * i) = (o i).toInt8.toInt32 ∧ f ((2 * i) + 1) = ((o i) >>> ((8 : Int32) &&& 31)).toInt8.toInt32)
theorem bok_L {K T : Nat} {f o : Nat → Int32} {cz : Int32} (h0 : ∀ i, i < T → f i = (o i).toInt8.toInt32) (hl : ∀ i, i < T → ¬ (255 : Int32) < o i) (hc : ¬ (255 : Int32) < cz) : BOK 0 K K (upd f T (cz.toInt8.toInt32)) (T + 1) (upd o T cz) := by
  refine Or.inl ⟨rfl, rfl, fun i hi => ?_, fun i hi => ?_⟩
  · unfold upd
    by_cases q : i = T
    · rw [if_pos q, if_pos q]
    · rw [if_neg q, if_neg q]; exact h0 i (by omega)
  · unfold upd
    by_cases q : i = T
    · rw [if_pos q]; exact hc
    · rw [if_neg q]; exact hl i (by omega)
theorem bok_U {K T : Nat} {f o : Nat → Int32} {cz : Int32} (hu : ∀ i, i < T → f (2 * i) = (o i).toInt8.toInt32 ∧ f ((2 * i) + 1) = ((o i) >>> ((8 : Int32) &&& 31)).toInt8.toInt32) : BOK 1 (2 * K) K (upd (upd f (2 * T) (cz.toInt8.toInt32)) ((2 * T) + 1) ((cz >>> ((8 : Int32) &&& 31)).toInt8.toInt32)) (T + 1) (upd o T cz) := by
  refine Or.inr ⟨rfl, rfl, fun i hi => ?_⟩
  by_cases q : i = T
  · subst q
    refine ⟨?_, ?_⟩
    · unfold upd; rw [if_neg (show ¬ 2 * i = 2 * i + 1 by omega), if_pos rfl, if_pos rfl]
    · unfold upd; rw [if_pos rfl, if_pos rfl]
  · obtain ⟨h1, h2⟩ := hu i (by omega)
    refine ⟨?_, ?_⟩
    · unfold upd; rw [if_neg (show ¬ 2 * i = 2 * T + 1 by omega), if_neg (show ¬ 2 * i = 2 * T by omega), if_neg q]; exact h1
    · unfold upd; rw [if_neg (show ¬ 2 * i + 1 = 2 * T + 1 by omega), if_neg (show ¬ 2 * i + 1 = 2 * T by omega), if_neg q]; exact h2
theorem pu_bok {o : Nat → Int32} {T : Nat} : ∀ i, i < T → (if 2 * i < 2 * T then (if (2 * i) % 2 = 0 then (o ((2 * i) / 2)).toInt8.toInt32 else ((o ((2 * i) / 2)) >>> ((8 : Int32) &&& 31)).toInt8.toInt32) else 0) = (o i).toInt8.toInt32 ∧ (if (2 * i) + 1 < 2 * T then (if ((2 * i) + 1) % 2 = 0 then (o (((2 * i) + 1) / 2)).toInt8.toInt32 else ((o (((2 * i) + 1) / 2)) >>> ((8 : Int32) &&& 31)).toInt8.toInt32) else 0) = ((o i) >>> ((8 : Int32) &&& 31)).toInt8.toInt32 := fun i hi => by
  have e1 : (2 * i) / 2 = i := by omega
  have e2 : ((2 * i) + 1) / 2 = i := by omega
  rw [if_pos (show 2 * i < 2 * T by omega), if_pos (show (2 * i) % 2 = 0 by omega), e1, if_pos (show (2 * i) + 1 < 2 * T by omega), if_neg (show ¬ ((2 * i) + 1) % 2 = 0 by omega), e2]
  exact ⟨rfl, rfl⟩
def cpf (f : Nat → Int32) (A : Nat) : Nat → Int32 := fun i => if i < A then f i else 0
theorem cpf_lt {f : Nat → Int32} {A i : Nat} (h : i < A) : cpf f A i = f i := if_pos h
theorem own_cpfl {A M : Nat} {f : Nat → Int32} {dv db : Value} (hA : A ≤ M) (hM : M < 2147483648) : ∀ i, i < (Int32.ofNat M).toNatClampNeg → (lst M (cpf f A)).getD i dv = if i < A then (lst A f).getD i db else (lst M zf).getD i dv := fun i hi => by
  rw [own_clamp hM] at hi
  rw [own_lst_get hi]
  by_cases q : i < A
  · rw [if_pos q, own_lst_get q, cpf_lt q]
  · rw [if_neg q, own_lst_get hi]; unfold cpf; rw [if_neg q]; rfl
theorem own_cpr {A B : Nat} {f f0 : Nat → Int32} {dv db : Value} (hB : B ≤ A) (hM : B < 2147483648) : ∀ i, i < (Int32.ofNat B).toNatClampNeg → (lst B f).getD i dv = if i < B then (lst A f).getD i db else (lst B f0).getD i dv := fun i hi => by
  rw [own_clamp hM] at hi
  rw [own_lst_get hi, if_pos hi, own_lst_get (by omega)]
theorem own_room {a b : Nat} (h : a ≤ b) (hb : b ≤ 1000) : ¬ (0 : Int32) < Int32.ofNat a - Int32.ofNat b := by
  rw [Int32.lt_iff_toInt_lt, Int32.toInt_sub, own_toInt (by omega), own_toInt (by omega)]
  have e : (0 : Int32).toInt = 0 := rfl
  rw [e, Int.bmod_eq_of_le (by omega) (by omega)]; omega
theorem own_full {a : Nat} (ha : a ≤ 1000) : (0 : Int32) < Int32.ofNat (a + 1) - Int32.ofNat a := by
  rw [Int32.lt_iff_toInt_lt, Int32.toInt_sub, own_toInt (by omega), own_toInt (by omega)]
  have e : (0 : Int32).toInt = 0 := rfl
  rw [e, Int.bmod_eq_of_le (by omega) (by omega)]; omega
theorem own_subn {a b : Nat} (h : b ≤ a) (ha : a ≤ 1000) : Int32.ofNat a - Int32.ofNat b = Int32.ofNat (a - b) := by
  apply Int32.toInt_inj.mp
  rw [Int32.toInt_sub, own_toInt (by omega), own_toInt (by omega), own_toInt (by omega), Int.bmod_eq_of_le (by omega) (by omega)]; omega
theorem own_d1 {K : Nat} (h : K ≤ 900) : Int32.ofNat (K + 1) - Int32.ofNat K = (1 : Int32) := by
  rw [own_subn (by omega) (by omega)]; have : K + 1 - K = 1 := by omega
  rw [this]; rfl
theorem own_d2 {K : Nat} (h : K ≤ 400) : Int32.ofNat (2 * (K + 1)) - Int32.ofNat (2 * K) = (2 : Int32) := by
  rw [own_subn (by omega) (by omega)]; have : 2 * (K + 1) - 2 * K = 2 := by omega
  rw [this]; rfl
theorem own_addc (K c : Nat) : Int32.ofNat K + Int32.ofNat c = Int32.ofNat (K + c) := (Int32.ofNat_add K c).symm
theorem own_shl0 (c : Int32) : c <<< ((0 : Int32) &&& 31) = c := by
  apply Int32.toInt_inj.mp
  have s1 := c_ishl c 0 0 (by decide)
  have p1 : ((2 ^ 0 : Nat) : Int) = 1 := rfl
  rw [p1] at s1
  have r1 := rng32 (c <<< ((0 : Int32) &&& 31))
  have r2 := rng32 c
  omega
theorem own_shrU {K : Nat} (h : K ≤ 400) : Int32.ofNat ((2 * K) + ((2 * K) + 4)) >>> ((1 : Int32) &&& 31) = Int32.ofNat (K + (K + 2)) := by
  have e : (2 * K) + ((2 * K) + 4) = 2 * (K + (K + 2)) := by omega
  rw [e]; exact own_shr1 (by omega)
theorem own_or3 {K T : Nat} (hK : K ≤ 64) (hT : T ≤ 64) : ¬ ((Int32.ofNat K ||| (0 : Int32)) ||| Int32.ofNat T) < (0 : Int32) := by
  have : ∀ a b : Fin 65, ¬ ((Int32.ofNat a.val ||| (0 : Int32)) ||| Int32.ofNat b.val) < (0 : Int32) := by decide +kernel
  exact this ⟨K, by omega⟩ ⟨T, by omega⟩
theorem own_sub0 (c : Int32) : c - (0 : Int32) = c := by simp
theorem own_ltN {X Y : Nat} (hX : X < 2147483648) (hY : Y < 2147483648) (h : Int32.ofNat X < Int32.ofNat Y) : X < Y := by
  rw [Int32.lt_iff_toInt_lt, own_toInt hX, own_toInt hY] at h; omega
def CH (c : Int32) : Prop := ¬ c < 0 ∧ ¬ (65535 : Int32) < c
def lb (g : Nat → Int32) : Nat → Int32 := fun i => (g i).toInt8.toInt32
def ub (g : Nat → Int32) : Nat → Int32 := fun i => if i % 2 = 0 then (g (i / 2)).toInt8.toInt32 else ((g (i / 2)) >>> ((8 : Int32) &&& 31)).toInt8.toInt32
def pl (g : Nat → Int32) (t : Nat) : Nat → Int32 := fun i => if i < t then lb g i else 0
def pu (g : Nat → Int32) (t : Nat) : Nat → Int32 := fun i => if i < 2 * t then ub g i else 0
theorem own_plS {g : Nat → Int32} {N t : Nat} : ∀ i, i < N → upd (pl g t) t ((g t).toInt8.toInt32) i = pl g (t + 1) i := fun i _ => by
  unfold upd pl lb
  by_cases q : i = t
  · subst q; simp
  · rw [if_neg q]
    by_cases q2 : i < t
    · rw [if_pos q2, if_pos (by omega)]
    · rw [if_neg q2, if_neg (by omega)]
theorem own_plN {g : Nat → Int32} {N : Nat} : ∀ i, i < N → pl g N i = lb g i := fun i h => if_pos h
theorem own_pl0 {g : Nat → Int32} {N : Nat} : ∀ i, i < N → zf i = pl g 0 i := fun i _ => by unfold pl; rw [if_neg (by omega)]; rfl
theorem own_pu0 {g : Nat → Int32} {N : Nat} : ∀ i, i < N → zf i = pu g 0 i := fun i _ => by unfold pu; rw [if_neg (by omega)]; rfl
theorem own_puS {g : Nat → Int32} {N t : Nat} : ∀ i, i < N → upd (upd (pu g t) (2 * t) ((g t).toInt8.toInt32)) ((2 * t) + 1) (((g t) >>> ((8 : Int32) &&& 31)).toInt8.toInt32) i = pu g (t + 1) i := fun i _ => by
  unfold upd pu ub
  by_cases q : i = 2 * t + 1
  · subst q
    have e : (2 * t + 1) / 2 = t := by omega
    rw [if_pos rfl, if_pos (show 2 * t + 1 < 2 * (t + 1) by omega), if_neg (show ¬ (2 * t + 1) % 2 = 0 by omega), e]
  · rw [if_neg q]
    by_cases q1 : i = 2 * t
    · subst q1
      have e : (2 * t) / 2 = t := by omega
      rw [if_pos rfl, if_pos (show 2 * t < 2 * (t + 1) by omega), if_pos (show (2 * t) % 2 = 0 by omega), e]
    · rw [if_neg q1]
      by_cases q2 : i < 2 * t
      · rw [if_pos q2, if_pos (show i < 2 * (t + 1) by omega)]
      · rw [if_neg q2, if_neg (show ¬ i < 2 * (t + 1) by omega)]
theorem own_puN {g : Nat → Int32} {N : Nat} : ∀ i, i < 2 * N → pu g N i = ub g i := fun i h => if_pos h
theorem own_ub0 (g : Nat → Int32) (i : Nat) : ub g (2 * i) = (g i).toInt8.toInt32 := by
  unfold ub
  have e : (2 * i) / 2 = i := by omega
  rw [if_pos (by omega), e]
theorem own_ub1 (g : Nat → Int32) (i : Nat) : ub g ((2 * i) + 1) = ((g i) >>> ((8 : Int32) &&& 31)).toInt8.toInt32 := by
  unfold ub
  have e : (2 * i + 1) / 2 = i := by omega
  rw [if_neg (by omega), e]
def escf (c : Int32) : Int32 := if c = (123 : Int32) then 1 else if c = (125 : Int32) then 1 else if c = (36 : Int32) then 1 else if c = (92 : Int32) then 1 else 0
def oT (g : Nat → Int32) : Nat → Nat
  | 0 => 0
  | t + 1 => if escf (g t) = (0 : Int32) then oT g t + 1 else (oT g t + 1) + 1
def oF (g : Nat → Int32) : Nat → (Nat → Int32)
  | 0 => fun _ => 0
  | t + 1 => if escf (g t) = (0 : Int32) then upd (oF g t) (oT g t) (g t) else upd (upd (oF g t) (oT g t) (92 : Int32)) (oT g t + 1) (g t)
theorem oT_le (g : Nat → Int32) : ∀ t, oT g t ≤ 2 * t := fun t => by
  induction t with
  | zero => exact Nat.le_refl _
  | succ t ih =>
    show (if escf (g t) = (0 : Int32) then oT g t + 1 else (oT g t + 1) + 1) ≤ _
    by_cases h : escf (g t) = (0 : Int32)
    · rw [if_pos h]; omega
    · rw [if_neg h]; omega
theorem upd_ch {o : Nat → Int32} {T : Nat} {c : Int32} (h : ∀ i, i < T → CH (o i)) (hc : CH c) : ∀ i, i < T + 1 → CH (upd o T c i) := fun i hi => by
  unfold upd
  by_cases q : i = T
  · rw [if_pos q]; exact hc
  · rw [if_neg q]; exact h i (by omega)
theorem ch92 : CH (92 : Int32) := ⟨by decide, by decide⟩
theorem oF_ch {g : Nat → Int32} {N : Nat} (hq : ∀ i, i < N → CH (g i)) : ∀ t, t ≤ N → ∀ i, i < oT g t → CH (oF g t i) := fun t => by
  induction t with
  | zero => intro _ i hi; exact absurd hi (Nat.not_lt_zero _)
  | succ t ih =>
    intro ht
    by_cases h : escf (g t) = (0 : Int32)
    · have e1 : oT g (t + 1) = oT g t + 1 := if_pos h
      have e2 : oF g (t + 1) = upd (oF g t) (oT g t) (g t) := if_pos h
      rw [e1, e2]; exact upd_ch (ih (by omega)) (hq t (by omega))
    · have e1 : oT g (t + 1) = (oT g t + 1) + 1 := if_neg h
      have e2 : oF g (t + 1) = upd (upd (oF g t) (oT g t) (92 : Int32)) (oT g t + 1) (g t) := if_neg h
      rw [e1, e2]; exact upd_ch (upd_ch (ih (by omega)) ch92) (hq t (by omega))
theorem own_addsub (a b : Int32) : a + b - a = b := by
  rw [Int32.add_comm, Int32.add_sub_cancel]
theorem own_div {X m : Nat} (hX : X < 2147483648) (hm : 0 < m) (hm' : m < 2147483648) : Int32.ofNat X / Int32.ofNat m = Int32.ofNat (X / m) := by
  apply Int32.toInt_inj.mp
  have hq : X / m ≤ X := Nat.div_le_self _ _
  rw [Int32.toInt_div, own_toInt hX, own_toInt hm', own_toInt (by omega)]
  have e : ((X : Int).tdiv (m : Int)) = ((X / m : Nat) : Int) := by
    rw [Int.tdiv_eq_ediv_of_nonneg (by omega)]; rfl
  rw [e]
  have h1 : ((X / m : Nat) : Int) ≤ X := by exact_mod_cast hq
  have h2 : (0 : Int) ≤ ((X / m : Nat) : Int) := Int.natCast_nonneg _
  generalize ((X / m : Nat) : Int) = y at *
  rw [Int.bmod_eq_of_le (by omega) (by omega)]
theorem own_masked (a : Int32) : ∃ X : Nat, X < 2147483648 ∧ (a &&& (2147483647 : Int32)) = Int32.ofNat X := by
  obtain ⟨q1, q2⟩ := c_and a 2147483647 (by decide)
  have e1 : (2147483647 : Int32).toInt = 2147483647 := rfl
  refine ⟨(a &&& 2147483647).toInt.toNat, by omega, ?_⟩
  apply Int32.toInt_inj.mp
  rw [own_toInt (by omega)]
  omega
theorem own_rem {a : Int32} {m : Nat} (hm : 0 < m) (hm' : m < 2147483648) : ∃ r : Nat, r < m ∧ (a &&& (2147483647 : Int32)) - (a &&& (2147483647 : Int32)) / Int32.ofNat m * Int32.ofNat m = Int32.ofNat r := by
  obtain ⟨X, hX, eX⟩ := own_masked a
  rw [eX]
  refine ⟨X % m, Nat.mod_lt _ hm, ?_⟩
  rw [own_div hX hm hm', ← Int32.ofNat_mul]
  have hs : X = X / m * m + X % m := by rw [Nat.mul_comm]; exact (Nat.div_add_mod X m).symm
  have e2 : Int32.ofNat X = Int32.ofNat (X / m * m) + Int32.ofNat (X % m) := by rw [← Int32.ofNat_add, ← hs]
  rw [e2, own_addsub]

theorem own_rem4 {a q : Int32} (h : ((a &&& (2147483647 : Int32)) - ((a &&& (2147483647 : Int32)) / (4 : Int32)) * (4 : Int32)) = q) : q = (0 : Int32) ∨ q = (1 : Int32) ∨ q = (2 : Int32) ∨ q = (3 : Int32) := by
  obtain ⟨r, hr, e⟩ := own_rem (a := a) (m := 4) (by omega) (by omega)
  have e2 : q = Int32.ofNat r := h.symm.trans e
  rw [e2]
  have : r = 0 ∨ r = 1 ∨ r = 2 ∨ r = 3 := by omega
  rcases this with rfl | rfl | rfl | rfl <;> decide
def AllC (L : List Int32) : Prop := ∀ x ∈ L, CH x
theorem own_allc0 : AllC [] := fun _ h => by cases h
theorem own_allcS {x : Int32} {L : List Int32} (h : CH x) (q : AllC L) : AllC (x :: L) := fun y hy => by
  rcases List.mem_cons.mp hy with rfl | h'
  · exact h
  · exact q y h'
theorem own_glc {L : List Int32} (h : AllC L) : ∀ i, i < L.length → CH (gl L i) := fun i hi => by
  have e : gl L i = L[i] := by simp [gl, List.getD, hi]
  rw [e]; exact h _ (List.getElem_mem hi)
theorem first_wide (g : Nat → Int32) : ∀ N, (∀ i, i < N → ¬ (255 : Int32) < g i) ∨ ∃ k, k < N ∧ (∀ i, i < k → ¬ (255 : Int32) < g i) ∧ (255 : Int32) < g k := fun N => by
  induction N with
  | zero => exact Or.inl fun i hi => absurd hi (Nat.not_lt_zero _)
  | succ N ih =>
    rcases ih with h | ⟨k, h1, h2, h3⟩
    · by_cases q : (255 : Int32) < g N
      · exact Or.inr ⟨N, by omega, h, q⟩
      · refine Or.inl fun i hi => ?_
        by_cases e : i = N
        · subst e; exact q
        · exact h i (by omega)
    · exact Or.inr ⟨k, by omega, h2, h3⟩
theorem ch_i2c (e : Int32) : CH (e.toUInt32.toUInt16.toUInt32.toInt32) := by
  obtain ⟨-, q2, q3⟩ := c_i2c e
  unfold CH
  rw [Int32.lt_iff_toInt_lt, Int32.lt_iff_toInt_lt]
  have e1 : (65535 : Int32).toInt = 65535 := rfl
  have e0 : (0 : Int32).toInt = 0 := rfl
  omega
theorem own_lo8mask {c : Int32} (h : ¬ c < 0 ∧ ¬ (255 : Int32) < c) : (c.toInt8.toInt32 &&& (255 : Int32)) = c := by
  obtain ⟨k, rfl⟩ := own_small h.1 h.2
  revert k; decide +kernel
theorem own_neg31 {N : Nat} (h : 1 ≤ N) (h' : N ≤ 64) : Jvm.Free.XT.ushr (Int32.ofNat N - Int32.ofNat (2 * N)) (31 : Int32) = (1 : Int32) := by
  have : ∀ k : Fin 65, 1 ≤ k.val → Jvm.Free.XT.ushr (Int32.ofNat k.val - Int32.ofNat (2 * k.val)) (31 : Int32) = (1 : Int32) := by decide +kernel
  exact this ⟨N, by omega⟩ h

theorem tw0 {Z : State} {a0 : Array Value} (hw : ∀ d ∈ tables_1, d.before a0 Z = true) : (Jvm.Cond.constant "com/example/input_under_constraint/inputunderconstraint/MessageTemplateLiteralPinLaw" (13 : Nat) (2147483647 : Int32)).before a0 Z = true := hw _ (List.mem_of_getElem? (i := 0) rfl)
theorem tw1 {Z : State} {a0 : Array Value} (hw : ∀ d ∈ tables_1, d.before a0 Z = true) : (Jvm.Cond.methodLink "com/example/input_under_constraint/inputunderconstraint/MessageTemplateLiteralPinLaw" (14 : Nat) ({ cls := "com/example/input_under_constraint/inputunderconstraint/MessageTemplateLiteralPinLaw", name := "pick", desc := "(I)C" } : Jvm.MethodName)).before a0 Z = true := hw _ (List.mem_of_getElem? (i := 1) rfl)
theorem tw2 {Z : State} {a0 : Array Value} (hw : ∀ d ∈ tables_1, d.before a0 Z = true) : (Jvm.Cond.static ({ cls := "com/example/input_under_constraint/inputunderconstraint/MessageTemplateLiteralPinLaw", name := "pick", desc := "(I)C" } : Jvm.MethodName)).before a0 Z = true := hw _ (List.mem_of_getElem? (i := 2) rfl)
theorem tw3 {Z : State} {a0 : Array Value} (hw : ∀ d ∈ tables_1, d.before a0 Z = true) : (Jvm.Cond.initialized "com/example/input_under_constraint/inputunderconstraint/MessageTemplateLiteralPinLaw").before a0 Z = true := hw _ (List.mem_of_getElem? (i := 3) rfl)
theorem tw4 {Z : State} {a0 : Array Value} (hw : ∀ d ∈ tables_1, d.before a0 Z = true) : (Jvm.Cond.code ({ cls := "com/example/input_under_constraint/inputunderconstraint/MessageTemplateLiteralPinLaw", name := "pick", desc := "(I)C" } : Jvm.MethodName) method_2_code (2 : Nat) (Option.some Jvm.ClassFile.FieldType.char)).before a0 Z = true := hw _ (List.mem_of_getElem? (i := 4) rfl)
theorem tw5 {Z : State} {a0 : Array Value} (hw : ∀ d ∈ tables_1, d.before a0 Z = true) : (Jvm.Cond.arrayClass Jvm.ClassFile.FieldType.char).before a0 Z = true := hw _ (List.mem_of_getElem? (i := 5) rfl)
theorem tw6 {Z : State} {a0 : Array Value} (hw : ∀ d ∈ tables_1, d.before a0 Z = true) : (Jvm.Cond.classLink "com/example/input_under_constraint/inputunderconstraint/MessageTemplateLiteralPinLaw" (8 : Nat) "java/lang/String").before a0 Z = true := hw _ (List.mem_of_getElem? (i := 6) rfl)
theorem tw7 {Z : State} {a0 : Array Value} (hw : ∀ d ∈ tables_1, d.before a0 Z = true) : (Jvm.Cond.instantiable "java/lang/String" (4 : Nat)).before a0 Z = true := hw _ (List.mem_of_getElem? (i := 7) rfl)
theorem tw8 {Z : State} {a0 : Array Value} (hw : ∀ d ∈ tables_1, d.before a0 Z = true) : (Jvm.Cond.initialized "java/lang/String").before a0 Z = true := hw _ (List.mem_of_getElem? (i := 8) rfl)
theorem tw9 {Z : State} {a0 : Array Value} (hw : ∀ d ∈ tables_1, d.before a0 Z = true) : (Jvm.Cond.methodLink "com/example/input_under_constraint/inputunderconstraint/MessageTemplateLiteralPinLaw" (23 : Nat) ({ cls := "java/lang/String", name := "<init>", desc := "([C)V" } : Jvm.MethodName)).before a0 Z = true := hw _ (List.mem_of_getElem? (i := 9) rfl)
theorem tw10 {Z : State} {a0 : Array Value} (hw : ∀ d ∈ tables_1, d.before a0 Z = true) : (Jvm.Cond.instanceMethod ({ cls := "java/lang/String", name := "<init>", desc := "([C)V" } : Jvm.MethodName)).before a0 Z = true := hw _ (List.mem_of_getElem? (i := 10) rfl)
theorem tw11 {Z : State} {a0 : Array Value} (hw : ∀ d ∈ tables_1, d.before a0 Z = true) : (Jvm.Cond.code ({ cls := "java/lang/String", name := "<init>", desc := "([C)V" } : Jvm.MethodName) jdk_42_method_3_code (2 : Nat) (Option.none : Option Jvm.ClassFile.FieldType)).before a0 Z = true := hw _ (List.mem_of_getElem? (i := 11) rfl)
theorem tw12 {Z : State} {a0 : Array Value} (hw : ∀ d ∈ tables_1, d.before a0 Z = true) : (Jvm.Cond.methodLink "java/lang/String" (27 : Nat) ({ cls := "java/lang/String", name := "<init>", desc := "([CIILjava/lang/Void;)V" } : Jvm.MethodName)).before a0 Z = true := hw _ (List.mem_of_getElem? (i := 12) rfl)
theorem tw13 {Z : State} {a0 : Array Value} (hw : ∀ d ∈ tables_1, d.before a0 Z = true) : (Jvm.Cond.instanceMethod ({ cls := "java/lang/String", name := "<init>", desc := "([CIILjava/lang/Void;)V" } : Jvm.MethodName)).before a0 Z = true := hw _ (List.mem_of_getElem? (i := 13) rfl)
theorem tw15 {Z : State} {a0 : Array Value} (hw : ∀ d ∈ tables_1, d.before a0 Z = true) : (Jvm.Cond.code ({ cls := "java/lang/String", name := "<init>", desc := "([CIILjava/lang/Void;)V" } : Jvm.MethodName) jdk_42_method_149_code (6 : Nat) (Option.none : Option Jvm.ClassFile.FieldType)).before a0 Z = true := hw _ (List.mem_of_getElem? (i := 15) rfl)
theorem tw16 {Z : State} {a0 : Array Value} (hw : ∀ d ∈ tables_1, d.before a0 Z = true) : (Jvm.Cond.methodLink "java/lang/String" (1 : Nat) ({ cls := "java/lang/Object", name := "<init>", desc := "()V" } : Jvm.MethodName)).before a0 Z = true := hw _ (List.mem_of_getElem? (i := 16) rfl)
theorem tw17 {Z : State} {a0 : Array Value} (hw : ∀ d ∈ tables_1, d.before a0 Z = true) : (Jvm.Cond.instanceMethod ({ cls := "java/lang/Object", name := "<init>", desc := "()V" } : Jvm.MethodName)).before a0 Z = true := hw _ (List.mem_of_getElem? (i := 17) rfl)
theorem tw18 {Z : State} {a0 : Array Value} (hw : ∀ d ∈ tables_1, d.before a0 Z = true) : (Jvm.Cond.code ({ cls := "java/lang/Object", name := "<init>", desc := "()V" } : Jvm.MethodName) object_method_1_code (1 : Nat) (Option.none : Option Jvm.ClassFile.FieldType)).before a0 Z = true := hw _ (List.mem_of_getElem? (i := 18) rfl)
theorem tw19 {Z : State} {a0 : Array Value} (hw : ∀ d ∈ tables_1, d.before a0 Z = true) : (Jvm.Cond.stringLink "java/lang/String" (7 : Nat) "").before a0 Z = true := hw _ (List.mem_of_getElem? (i := 19) rfl)
theorem tw20 {Z : State} {a0 : Array Value} (hw : ∀ d ∈ tables_1, d.before a0 Z = true) : (Jvm.Cond.arrayClass Jvm.ClassFile.FieldType.byte).before a0 Z = true := hw _ (List.mem_of_getElem? (i := 20) rfl)
theorem tw21 {Z : State} {a0 : Array Value} (hw : ∀ d ∈ tables_1, d.before a0 Z = true) : (Jvm.Cond.laysFinal "java/lang/String" "java/lang/String" "value" "[B").before a0 Z = true := hw _ (List.mem_of_getElem? (i := 21) rfl)
theorem tw22 {Z : State} {a0 : Array Value} (hw : ∀ d ∈ tables_1, d.before a0 Z = true) : (Jvm.Cond.laysFinal "java/lang/String" "java/lang/String" "coder" "B").before a0 Z = true := hw _ (List.mem_of_getElem? (i := 22) rfl)
theorem tw25 {Z : State} {a0 : Array Value} (hw : ∀ d ∈ tables_1, d.before a0 Z = true) : (Jvm.Cond.fieldLink "java/lang/String" (9 : Nat) "java/lang/String" "value" "[B").before a0 Z = true := hw _ (List.mem_of_getElem? (i := 25) rfl)
theorem tw26 {Z : State} {a0 : Array Value} (hw : ∀ d ∈ tables_1, d.before a0 Z = true) : (Jvm.Cond.fieldLink "java/lang/String" (15 : Nat) "java/lang/String" "coder" "B").before a0 Z = true := hw _ (List.mem_of_getElem? (i := 26) rfl)
theorem tw27 {Z : State} {a0 : Array Value} (hw : ∀ d ∈ tables_1, d.before a0 Z = true) : (Jvm.Cond.methodLink "com/example/input_under_constraint/inputunderconstraint/MessageTemplateLiteralPinLaw" (26 : Nat) ({ cls := "com/example/input_under_constraint/inputunderconstraint/MessageTemplate", name := "literal", desc := "(Ljava/lang/String;)Ljava/lang/String;" } : Jvm.MethodName)).before a0 Z = true := hw _ (List.mem_of_getElem? (i := 27) rfl)
theorem tw28 {Z : State} {a0 : Array Value} (hw : ∀ d ∈ tables_1, d.before a0 Z = true) : (Jvm.Cond.static ({ cls := "com/example/input_under_constraint/inputunderconstraint/MessageTemplate", name := "literal", desc := "(Ljava/lang/String;)Ljava/lang/String;" } : Jvm.MethodName)).before a0 Z = true := hw _ (List.mem_of_getElem? (i := 28) rfl)
theorem tw29 {Z : State} {a0 : Array Value} (hw : ∀ d ∈ tables_1, d.before a0 Z = true) : (Jvm.Cond.initialized "com/example/input_under_constraint/inputunderconstraint/MessageTemplate").before a0 Z = true := hw _ (List.mem_of_getElem? (i := 29) rfl)
theorem tw30 {Z : State} {a0 : Array Value} (hw : ∀ d ∈ tables_1, d.before a0 Z = true) : (Jvm.Cond.code ({ cls := "com/example/input_under_constraint/inputunderconstraint/MessageTemplate", name := "literal", desc := "(Ljava/lang/String;)Ljava/lang/String;" } : Jvm.MethodName) prog_19_method_4_code (4 : Nat) (Option.some (Jvm.ClassFile.FieldType.object "java/lang/String"))).before a0 Z = true := hw _ (List.mem_of_getElem? (i := 30) rfl)
theorem tw31 {Z : State} {a0 : Array Value} (hw : ∀ d ∈ tables_1, d.before a0 Z = true) : (Jvm.Cond.classLink "com/example/input_under_constraint/inputunderconstraint/MessageTemplate" (59 : Nat) "java/lang/StringBuilder").before a0 Z = true := hw _ (List.mem_of_getElem? (i := 31) rfl)
theorem tw32 {Z : State} {a0 : Array Value} (hw : ∀ d ∈ tables_1, d.before a0 Z = true) : (Jvm.Cond.instantiable "java/lang/StringBuilder" (4 : Nat)).before a0 Z = true := hw _ (List.mem_of_getElem? (i := 32) rfl)
theorem tw33 {Z : State} {a0 : Array Value} (hw : ∀ d ∈ tables_1, d.before a0 Z = true) : (Jvm.Cond.initialized "java/lang/StringBuilder").before a0 Z = true := hw _ (List.mem_of_getElem? (i := 33) rfl)
theorem tw34 {Z : State} {a0 : Array Value} (hw : ∀ d ∈ tables_1, d.before a0 Z = true) : (Jvm.Cond.methodLink "com/example/input_under_constraint/inputunderconstraint/MessageTemplate" (61 : Nat) ({ cls := "java/lang/String", name := "length", desc := "()I" } : Jvm.MethodName)).before a0 Z = true := hw _ (List.mem_of_getElem? (i := 34) rfl)
theorem tw35 {Z : State} {a0 : Array Value} (hw : ∀ d ∈ tables_1, d.before a0 Z = true) : (Jvm.Cond.declares ({ cls := "java/lang/String", name := "length", desc := "()I" } : Jvm.MethodName)).before a0 Z = true := hw _ (List.mem_of_getElem? (i := 35) rfl)
theorem tw36 {Z : State} {a0 : Array Value} (hw : ∀ d ∈ tables_1, d.before a0 Z = true) : (Jvm.Cond.instanceMethod ({ cls := "java/lang/String", name := "length", desc := "()I" } : Jvm.MethodName)).before a0 Z = true := hw _ (List.mem_of_getElem? (i := 36) rfl)
theorem tw37 {Z : State} {a0 : Array Value} (hw : ∀ d ∈ tables_1, d.before a0 Z = true) : (Jvm.Cond.selects "java/lang/String" ({ cls := "java/lang/String", name := "length", desc := "()I" } : Jvm.MethodName) ({ cls := "java/lang/String", name := "length", desc := "()I" } : Jvm.MethodName)).before a0 Z = true := hw _ (List.mem_of_getElem? (i := 37) rfl)
theorem tw38 {Z : State} {a0 : Array Value} (hw : ∀ d ∈ tables_1, d.before a0 Z = true) : (Jvm.Cond.code ({ cls := "java/lang/String", name := "length", desc := "()I" } : Jvm.MethodName) jdk_42_method_54_code (1 : Nat) (Option.some Jvm.ClassFile.FieldType.int)).before a0 Z = true := hw _ (List.mem_of_getElem? (i := 38) rfl)
theorem tw39 {Z : State} {a0 : Array Value} (hw : ∀ d ∈ tables_1, d.before a0 Z = true) : (Jvm.Cond.methodLink "java/lang/String" (335 : Nat) ({ cls := "java/lang/String", name := "coder", desc := "()B" } : Jvm.MethodName)).before a0 Z = true := hw _ (List.mem_of_getElem? (i := 39) rfl)
theorem tw40 {Z : State} {a0 : Array Value} (hw : ∀ d ∈ tables_1, d.before a0 Z = true) : (Jvm.Cond.declares ({ cls := "java/lang/String", name := "coder", desc := "()B" } : Jvm.MethodName)).before a0 Z = true := hw _ (List.mem_of_getElem? (i := 40) rfl)
theorem tw41 {Z : State} {a0 : Array Value} (hw : ∀ d ∈ tables_1, d.before a0 Z = true) : (Jvm.Cond.instanceMethod ({ cls := "java/lang/String", name := "coder", desc := "()B" } : Jvm.MethodName)).before a0 Z = true := hw _ (List.mem_of_getElem? (i := 41) rfl)
theorem tw42 {Z : State} {a0 : Array Value} (hw : ∀ d ∈ tables_1, d.before a0 Z = true) : (Jvm.Cond.selects "java/lang/String" ({ cls := "java/lang/String", name := "coder", desc := "()B" } : Jvm.MethodName) ({ cls := "java/lang/String", name := "coder", desc := "()B" } : Jvm.MethodName)).before a0 Z = true := hw _ (List.mem_of_getElem? (i := 42) rfl)
theorem tw43 {Z : State} {a0 : Array Value} (hw : ∀ d ∈ tables_1, d.before a0 Z = true) : (Jvm.Cond.code ({ cls := "java/lang/String", name := "coder", desc := "()B" } : Jvm.MethodName) jdk_42_method_152_code (1 : Nat) (Option.some Jvm.ClassFile.FieldType.byte)).before a0 Z = true := hw _ (List.mem_of_getElem? (i := 43) rfl)
theorem tw44 {Z : State} {a0 : Array Value} (hw : ∀ d ∈ tables_1, d.before a0 Z = true) : (Jvm.Cond.fieldLink "java/lang/String" (38 : Nat) "java/lang/String" "COMPACT_STRINGS" "Z").before a0 Z = true := hw _ (List.mem_of_getElem? (i := 44) rfl)
theorem tw45 {Z : State} {a0 : Array Value} (hw : ∀ d ∈ tables_1, d.before a0 Z = true) : (Jvm.Cond.methodLink "com/example/input_under_constraint/inputunderconstraint/MessageTemplate" (65 : Nat) ({ cls := "java/lang/StringBuilder", name := "<init>", desc := "(I)V" } : Jvm.MethodName)).before a0 Z = true := hw _ (List.mem_of_getElem? (i := 45) rfl)
theorem tw46 {Z : State} {a0 : Array Value} (hw : ∀ d ∈ tables_1, d.before a0 Z = true) : (Jvm.Cond.instanceMethod ({ cls := "java/lang/StringBuilder", name := "<init>", desc := "(I)V" } : Jvm.MethodName)).before a0 Z = true := hw _ (List.mem_of_getElem? (i := 46) rfl)
theorem tw47 {Z : State} {a0 : Array Value} (hw : ∀ d ∈ tables_1, d.before a0 Z = true) : (Jvm.Cond.code ({ cls := "java/lang/StringBuilder", name := "<init>", desc := "(I)V" } : Jvm.MethodName) jdk_67_method_2_code (2 : Nat) (Option.none : Option Jvm.ClassFile.FieldType)).before a0 Z = true := hw _ (List.mem_of_getElem? (i := 47) rfl)
theorem tw48 {Z : State} {a0 : Array Value} (hw : ∀ d ∈ tables_1, d.before a0 Z = true) : (Jvm.Cond.methodLink "java/lang/StringBuilder" (1 : Nat) ({ cls := "java/lang/AbstractStringBuilder", name := "<init>", desc := "(I)V" } : Jvm.MethodName)).before a0 Z = true := hw _ (List.mem_of_getElem? (i := 48) rfl)
theorem tw49 {Z : State} {a0 : Array Value} (hw : ∀ d ∈ tables_1, d.before a0 Z = true) : (Jvm.Cond.instanceMethod ({ cls := "java/lang/AbstractStringBuilder", name := "<init>", desc := "(I)V" } : Jvm.MethodName)).before a0 Z = true := hw _ (List.mem_of_getElem? (i := 49) rfl)
theorem tw52 {Z : State} {a0 : Array Value} (hw : ∀ d ∈ tables_1, d.before a0 Z = true) : (Jvm.Cond.initialized "java/lang/AbstractStringBuilder").before a0 Z = true := hw _ (List.mem_of_getElem? (i := 52) rfl)
theorem tw53 {Z : State} {a0 : Array Value} (hw : ∀ d ∈ tables_1, d.before a0 Z = true) : (Jvm.Cond.code ({ cls := "java/lang/AbstractStringBuilder", name := "<init>", desc := "(I)V" } : Jvm.MethodName) jdk_68_method_2_code (2 : Nat) (Option.none : Option Jvm.ClassFile.FieldType)).before a0 Z = true := hw _ (List.mem_of_getElem? (i := 53) rfl)
theorem tw54 {Z : State} {a0 : Array Value} (hw : ∀ d ∈ tables_1, d.before a0 Z = true) : (Jvm.Cond.methodLink "java/lang/AbstractStringBuilder" (3 : Nat) ({ cls := "java/lang/Object", name := "<init>", desc := "()V" } : Jvm.MethodName)).before a0 Z = true := hw _ (List.mem_of_getElem? (i := 54) rfl)
theorem tw55 {Z : State} {a0 : Array Value} (hw : ∀ d ∈ tables_1, d.before a0 Z = true) : (Jvm.Cond.fieldLink "java/lang/AbstractStringBuilder" (18 : Nat) "java/lang/String" "COMPACT_STRINGS" "Z").before a0 Z = true := hw _ (List.mem_of_getElem? (i := 55) rfl)
theorem tw56 {Z : State} {a0 : Array Value} (hw : ∀ d ∈ tables_1, d.before a0 Z = true) : (Jvm.Cond.fieldLink "java/lang/AbstractStringBuilder" (15 : Nat) "java/lang/AbstractStringBuilder" "value" "[B").before a0 Z = true := hw _ (List.mem_of_getElem? (i := 56) rfl)
theorem tw57 {Z : State} {a0 : Array Value} (hw : ∀ d ∈ tables_1, d.before a0 Z = true) : (Jvm.Cond.lays "java/lang/StringBuilder" "java/lang/AbstractStringBuilder" "value" "[B").before a0 Z = true := hw _ (List.mem_of_getElem? (i := 57) rfl)
theorem tw58 {Z : State} {a0 : Array Value} (hw : ∀ d ∈ tables_1, d.before a0 Z = true) : (Jvm.Cond.fieldLink "java/lang/AbstractStringBuilder" (22 : Nat) "java/lang/AbstractStringBuilder" "coder" "B").before a0 Z = true := hw _ (List.mem_of_getElem? (i := 58) rfl)
theorem tw59 {Z : State} {a0 : Array Value} (hw : ∀ d ∈ tables_1, d.before a0 Z = true) : (Jvm.Cond.lays "java/lang/StringBuilder" "java/lang/AbstractStringBuilder" "coder" "B").before a0 Z = true := hw _ (List.mem_of_getElem? (i := 59) rfl)
theorem tw60 {Z : State} {a0 : Array Value} (hw : ∀ d ∈ tables_1, d.before a0 Z = true) : (Jvm.Cond.methodLink "com/example/input_under_constraint/inputunderconstraint/MessageTemplate" (78 : Nat) ({ cls := "java/lang/StringBuilder", name := "toString", desc := "()Ljava/lang/String;" } : Jvm.MethodName)).before a0 Z = true := hw _ (List.mem_of_getElem? (i := 60) rfl)
theorem tw61 {Z : State} {a0 : Array Value} (hw : ∀ d ∈ tables_1, d.before a0 Z = true) : (Jvm.Cond.declares ({ cls := "java/lang/StringBuilder", name := "toString", desc := "()Ljava/lang/String;" } : Jvm.MethodName)).before a0 Z = true := hw _ (List.mem_of_getElem? (i := 61) rfl)
theorem tw62 {Z : State} {a0 : Array Value} (hw : ∀ d ∈ tables_1, d.before a0 Z = true) : (Jvm.Cond.instanceMethod ({ cls := "java/lang/StringBuilder", name := "toString", desc := "()Ljava/lang/String;" } : Jvm.MethodName)).before a0 Z = true := hw _ (List.mem_of_getElem? (i := 62) rfl)
theorem tw63 {Z : State} {a0 : Array Value} (hw : ∀ d ∈ tables_1, d.before a0 Z = true) : (Jvm.Cond.selects "java/lang/StringBuilder" ({ cls := "java/lang/StringBuilder", name := "toString", desc := "()Ljava/lang/String;" } : Jvm.MethodName) ({ cls := "java/lang/StringBuilder", name := "toString", desc := "()Ljava/lang/String;" } : Jvm.MethodName)).before a0 Z = true := hw _ (List.mem_of_getElem? (i := 63) rfl)
theorem tw64 {Z : State} {a0 : Array Value} (hw : ∀ d ∈ tables_1, d.before a0 Z = true) : (Jvm.Cond.code ({ cls := "java/lang/StringBuilder", name := "toString", desc := "()Ljava/lang/String;" } : Jvm.MethodName) jdk_67_method_42_code (1 : Nat) (Option.some (Jvm.ClassFile.FieldType.object "java/lang/String"))).before a0 Z = true := hw _ (List.mem_of_getElem? (i := 64) rfl)
theorem tw65 {Z : State} {a0 : Array Value} (hw : ∀ d ∈ tables_1, d.before a0 Z = true) : (Jvm.Cond.classLink "java/lang/StringBuilder" (18 : Nat) "java/lang/String").before a0 Z = true := hw _ (List.mem_of_getElem? (i := 65) rfl)
theorem tw66 {Z : State} {a0 : Array Value} (hw : ∀ d ∈ tables_1, d.before a0 Z = true) : (Jvm.Cond.methodLink "java/lang/StringBuilder" (137 : Nat) ({ cls := "java/lang/String", name := "<init>", desc := "(Ljava/lang/StringBuilder;)V" } : Jvm.MethodName)).before a0 Z = true := hw _ (List.mem_of_getElem? (i := 66) rfl)
theorem tw67 {Z : State} {a0 : Array Value} (hw : ∀ d ∈ tables_1, d.before a0 Z = true) : (Jvm.Cond.instanceMethod ({ cls := "java/lang/String", name := "<init>", desc := "(Ljava/lang/StringBuilder;)V" } : Jvm.MethodName)).before a0 Z = true := hw _ (List.mem_of_getElem? (i := 67) rfl)
theorem tw68 {Z : State} {a0 : Array Value} (hw : ∀ d ∈ tables_1, d.before a0 Z = true) : (Jvm.Cond.code ({ cls := "java/lang/String", name := "<init>", desc := "(Ljava/lang/StringBuilder;)V" } : Jvm.MethodName) jdk_42_method_53_code (2 : Nat) (Option.none : Option Jvm.ClassFile.FieldType)).before a0 Z = true := hw _ (List.mem_of_getElem? (i := 68) rfl)
theorem tw69 {Z : State} {a0 : Array Value} (hw : ∀ d ∈ tables_1, d.before a0 Z = true) : (Jvm.Cond.methodLink "java/lang/String" (489 : Nat) ({ cls := "java/lang/String", name := "<init>", desc := "(Ljava/lang/AbstractStringBuilder;Ljava/lang/Void;)V" } : Jvm.MethodName)).before a0 Z = true := hw _ (List.mem_of_getElem? (i := 69) rfl)
theorem tw70 {Z : State} {a0 : Array Value} (hw : ∀ d ∈ tables_1, d.before a0 Z = true) : (Jvm.Cond.instanceMethod ({ cls := "java/lang/String", name := "<init>", desc := "(Ljava/lang/AbstractStringBuilder;Ljava/lang/Void;)V" } : Jvm.MethodName)).before a0 Z = true := hw _ (List.mem_of_getElem? (i := 70) rfl)
theorem tw71 {Z : State} {a0 : Array Value} (hw : ∀ d ∈ tables_1, d.before a0 Z = true) : (Jvm.Cond.code ({ cls := "java/lang/String", name := "<init>", desc := "(Ljava/lang/AbstractStringBuilder;Ljava/lang/Void;)V" } : Jvm.MethodName) jdk_42_method_150_code (5 : Nat) (Option.none : Option Jvm.ClassFile.FieldType)).before a0 Z = true := hw _ (List.mem_of_getElem? (i := 71) rfl)
theorem tw72 {Z : State} {a0 : Array Value} (hw : ∀ d ∈ tables_1, d.before a0 Z = true) : (Jvm.Cond.methodLink "java/lang/String" (552 : Nat) ({ cls := "java/lang/AbstractStringBuilder", name := "getValue", desc := "()[B" } : Jvm.MethodName)).before a0 Z = true := hw _ (List.mem_of_getElem? (i := 72) rfl)
theorem tw73 {Z : State} {a0 : Array Value} (hw : ∀ d ∈ tables_1, d.before a0 Z = true) : (Jvm.Cond.declares ({ cls := "java/lang/AbstractStringBuilder", name := "getValue", desc := "()[B" } : Jvm.MethodName)).before a0 Z = true := hw _ (List.mem_of_getElem? (i := 73) rfl)
theorem tw74 {Z : State} {a0 : Array Value} (hw : ∀ d ∈ tables_1, d.before a0 Z = true) : (Jvm.Cond.instanceMethod ({ cls := "java/lang/AbstractStringBuilder", name := "getValue", desc := "()[B" } : Jvm.MethodName)).before a0 Z = true := hw _ (List.mem_of_getElem? (i := 74) rfl)
theorem tw75 {Z : State} {a0 : Array Value} (hw : ∀ d ∈ tables_1, d.before a0 Z = true) : (Jvm.Cond.selects "java/lang/StringBuilder" ({ cls := "java/lang/AbstractStringBuilder", name := "getValue", desc := "()[B" } : Jvm.MethodName) ({ cls := "java/lang/AbstractStringBuilder", name := "getValue", desc := "()[B" } : Jvm.MethodName)).before a0 Z = true := hw _ (List.mem_of_getElem? (i := 75) rfl)
theorem tw76 {Z : State} {a0 : Array Value} (hw : ∀ d ∈ tables_1, d.before a0 Z = true) : (Jvm.Cond.code ({ cls := "java/lang/AbstractStringBuilder", name := "getValue", desc := "()[B" } : Jvm.MethodName) jdk_68_method_64_code (1 : Nat) (Option.some (Jvm.ClassFile.FieldType.array Jvm.ClassFile.FieldType.byte))).before a0 Z = true := hw _ (List.mem_of_getElem? (i := 76) rfl)
theorem tw77 {Z : State} {a0 : Array Value} (hw : ∀ d ∈ tables_1, d.before a0 Z = true) : (Jvm.Cond.methodLink "java/lang/String" (549 : Nat) ({ cls := "java/lang/AbstractStringBuilder", name := "length", desc := "()I" } : Jvm.MethodName)).before a0 Z = true := hw _ (List.mem_of_getElem? (i := 77) rfl)
theorem tw78 {Z : State} {a0 : Array Value} (hw : ∀ d ∈ tables_1, d.before a0 Z = true) : (Jvm.Cond.declares ({ cls := "java/lang/AbstractStringBuilder", name := "length", desc := "()I" } : Jvm.MethodName)).before a0 Z = true := hw _ (List.mem_of_getElem? (i := 78) rfl)
theorem tw79 {Z : State} {a0 : Array Value} (hw : ∀ d ∈ tables_1, d.before a0 Z = true) : (Jvm.Cond.instanceMethod ({ cls := "java/lang/AbstractStringBuilder", name := "length", desc := "()I" } : Jvm.MethodName)).before a0 Z = true := hw _ (List.mem_of_getElem? (i := 79) rfl)
theorem tw80 {Z : State} {a0 : Array Value} (hw : ∀ d ∈ tables_1, d.before a0 Z = true) : (Jvm.Cond.selects "java/lang/StringBuilder" ({ cls := "java/lang/AbstractStringBuilder", name := "length", desc := "()I" } : Jvm.MethodName) ({ cls := "java/lang/StringBuilder", name := "length", desc := "()I" } : Jvm.MethodName)).before a0 Z = true := hw _ (List.mem_of_getElem? (i := 80) rfl)
theorem tw81 {Z : State} {a0 : Array Value} (hw : ∀ d ∈ tables_1, d.before a0 Z = true) : (Jvm.Cond.instanceMethod ({ cls := "java/lang/StringBuilder", name := "length", desc := "()I" } : Jvm.MethodName)).before a0 Z = true := hw _ (List.mem_of_getElem? (i := 81) rfl)
theorem tw82 {Z : State} {a0 : Array Value} (hw : ∀ d ∈ tables_1, d.before a0 Z = true) : (Jvm.Cond.code ({ cls := "java/lang/StringBuilder", name := "length", desc := "()I" } : Jvm.MethodName) jdk_67_method_93_code (1 : Nat) (Option.some Jvm.ClassFile.FieldType.int)).before a0 Z = true := hw _ (List.mem_of_getElem? (i := 82) rfl)
theorem tw83 {Z : State} {a0 : Array Value} (hw : ∀ d ∈ tables_1, d.before a0 Z = true) : (Jvm.Cond.methodLink "java/lang/StringBuilder" (343 : Nat) ({ cls := "java/lang/AbstractStringBuilder", name := "length", desc := "()I" } : Jvm.MethodName)).before a0 Z = true := hw _ (List.mem_of_getElem? (i := 83) rfl)
theorem tw84 {Z : State} {a0 : Array Value} (hw : ∀ d ∈ tables_1, d.before a0 Z = true) : (Jvm.Cond.superclass "java/lang/StringBuilder" "java/lang/AbstractStringBuilder").before a0 Z = true := hw _ (List.mem_of_getElem? (i := 84) rfl)
theorem tw85 {Z : State} {a0 : Array Value} (hw : ∀ d ∈ tables_1, d.before a0 Z = true) : (Jvm.Cond.code ({ cls := "java/lang/AbstractStringBuilder", name := "length", desc := "()I" } : Jvm.MethodName) jdk_68_method_6_code (1 : Nat) (Option.some Jvm.ClassFile.FieldType.int)).before a0 Z = true := hw _ (List.mem_of_getElem? (i := 85) rfl)
theorem tw86 {Z : State} {a0 : Array Value} (hw : ∀ d ∈ tables_1, d.before a0 Z = true) : (Jvm.Cond.fieldLink "java/lang/AbstractStringBuilder" (79 : Nat) "java/lang/AbstractStringBuilder" "count" "I").before a0 Z = true := hw _ (List.mem_of_getElem? (i := 86) rfl)
theorem tw87 {Z : State} {a0 : Array Value} (hw : ∀ d ∈ tables_1, d.before a0 Z = true) : (Jvm.Cond.lays "java/lang/StringBuilder" "java/lang/AbstractStringBuilder" "count" "I").before a0 Z = true := hw _ (List.mem_of_getElem? (i := 87) rfl)
theorem tw88 {Z : State} {a0 : Array Value} (hw : ∀ d ∈ tables_1, d.before a0 Z = true) : (Jvm.Cond.methodLink "java/lang/String" (1047 : Nat) ({ cls := "java/lang/AbstractStringBuilder", name := "isLatin1", desc := "()Z" } : Jvm.MethodName)).before a0 Z = true := hw _ (List.mem_of_getElem? (i := 88) rfl)
theorem tw89 {Z : State} {a0 : Array Value} (hw : ∀ d ∈ tables_1, d.before a0 Z = true) : (Jvm.Cond.declares ({ cls := "java/lang/AbstractStringBuilder", name := "isLatin1", desc := "()Z" } : Jvm.MethodName)).before a0 Z = true := hw _ (List.mem_of_getElem? (i := 89) rfl)
theorem tw90 {Z : State} {a0 : Array Value} (hw : ∀ d ∈ tables_1, d.before a0 Z = true) : (Jvm.Cond.instanceMethod ({ cls := "java/lang/AbstractStringBuilder", name := "isLatin1", desc := "()Z" } : Jvm.MethodName)).before a0 Z = true := hw _ (List.mem_of_getElem? (i := 90) rfl)
theorem tw91 {Z : State} {a0 : Array Value} (hw : ∀ d ∈ tables_1, d.before a0 Z = true) : (Jvm.Cond.selects "java/lang/StringBuilder" ({ cls := "java/lang/AbstractStringBuilder", name := "isLatin1", desc := "()Z" } : Jvm.MethodName) ({ cls := "java/lang/AbstractStringBuilder", name := "isLatin1", desc := "()Z" } : Jvm.MethodName)).before a0 Z = true := hw _ (List.mem_of_getElem? (i := 91) rfl)
theorem tw92 {Z : State} {a0 : Array Value} (hw : ∀ d ∈ tables_1, d.before a0 Z = true) : (Jvm.Cond.code ({ cls := "java/lang/AbstractStringBuilder", name := "isLatin1", desc := "()Z" } : Jvm.MethodName) jdk_68_method_68_code (1 : Nat) (Option.some Jvm.ClassFile.FieldType.boolean)).before a0 Z = true := hw _ (List.mem_of_getElem? (i := 92) rfl)
theorem tw93 {Z : State} {a0 : Array Value} (hw : ∀ d ∈ tables_1, d.before a0 Z = true) : (Jvm.Cond.methodLink "java/lang/String" (54 : Nat) ({ cls := "java/util/Arrays", name := "copyOfRange", desc := "([BII)[B" } : Jvm.MethodName)).before a0 Z = true := hw _ (List.mem_of_getElem? (i := 93) rfl)
theorem tw94 {Z : State} {a0 : Array Value} (hw : ∀ d ∈ tables_1, d.before a0 Z = true) : (Jvm.Cond.static ({ cls := "java/util/Arrays", name := "copyOfRange", desc := "([BII)[B" } : Jvm.MethodName)).before a0 Z = true := hw _ (List.mem_of_getElem? (i := 94) rfl)
theorem tw95 {Z : State} {a0 : Array Value} (hw : ∀ d ∈ tables_1, d.before a0 Z = true) : (Jvm.Cond.initialized "java/util/Arrays").before a0 Z = true := hw _ (List.mem_of_getElem? (i := 95) rfl)
theorem tw96 {Z : State} {a0 : Array Value} (hw : ∀ d ∈ tables_1, d.before a0 Z = true) : (Jvm.Cond.code ({ cls := "java/util/Arrays", name := "copyOfRange", desc := "([BII)[B" } : Jvm.MethodName) jdk_65_method_132_code (3 : Nat) (Option.some (Jvm.ClassFile.FieldType.array Jvm.ClassFile.FieldType.byte))).before a0 Z = true := hw _ (List.mem_of_getElem? (i := 96) rfl)
theorem tw97 {Z : State} {a0 : Array Value} (hw : ∀ d ∈ tables_1, d.before a0 Z = true) : (Jvm.Cond.methodLink "java/util/Arrays" (310 : Nat) ({ cls := "[B", name := "clone", desc := "()Ljava/lang/Object;" } : Jvm.MethodName)).before a0 Z = true := hw _ (List.mem_of_getElem? (i := 97) rfl)
theorem tw98 {Z : State} {a0 : Array Value} (hw : ∀ d ∈ tables_1, d.before a0 Z = true) : (Jvm.Cond.sameMethod "[B" "java/lang/Object" "clone" "()Ljava/lang/Object;").before a0 Z = true := hw _ (List.mem_of_getElem? (i := 98) rfl)
theorem tw100 {Z : State} {a0 : Array Value} (hw : ∀ d ∈ tables_1, d.before a0 Z = true) : (Jvm.Cond.instanceMethod ({ cls := "java/lang/Object", name := "clone", desc := "()Ljava/lang/Object;" } : Jvm.MethodName)).before a0 Z = true := hw _ (List.mem_of_getElem? (i := 100) rfl)
theorem tw101 {Z : State} {a0 : Array Value} (hw : ∀ d ∈ tables_1, d.before a0 Z = true) : (Jvm.Cond.selects "[B" ({ cls := "[B", name := "clone", desc := "()Ljava/lang/Object;" } : Jvm.MethodName) ({ cls := "java/lang/Object", name := "clone", desc := "()Ljava/lang/Object;" } : Jvm.MethodName)).before a0 Z = true := hw _ (List.mem_of_getElem? (i := 101) rfl)
theorem tw102 {Z : State} {a0 : Array Value} (hw : ∀ d ∈ tables_1, d.before a0 Z = true) : (Jvm.Cond.native ({ cls := "java/lang/Object", name := "clone", desc := "()Ljava/lang/Object;" } : Jvm.MethodName)).before a0 Z = true := hw _ (List.mem_of_getElem? (i := 102) rfl)
theorem tw103 {Z : State} {a0 : Array Value} (hw : ∀ d ∈ tables_1, d.before a0 Z = true) : (Jvm.Cond.castable "[B" "java/lang/Cloneable").before a0 Z = true := hw _ (List.mem_of_getElem? (i := 103) rfl)
theorem tw104 {Z : State} {a0 : Array Value} (hw : ∀ d ∈ tables_1, d.before a0 Z = true) : (Jvm.Cond.classLink "java/util/Arrays" (311 : Nat) "[B").before a0 Z = true := hw _ (List.mem_of_getElem? (i := 104) rfl)
theorem tw106 {Z : State} {a0 : Array Value} (hw : ∀ d ∈ tables_1, d.before a0 Z = true) : (Jvm.Cond.methodLink "com/example/input_under_constraint/inputunderconstraint/MessageTemplateLiteralPinLaw" (32 : Nat) ({ cls := "java/lang/String", name := "length", desc := "()I" } : Jvm.MethodName)).before a0 Z = true := hw _ (List.mem_of_getElem? (i := 106) rfl)
theorem tw107 {Z : State} {a0 : Array Value} (hw : ∀ d ∈ tables_1, d.before a0 Z = true) : (Jvm.Cond.methodLink "com/example/input_under_constraint/inputunderconstraint/MessageTemplateLiteralPinLaw" (36 : Nat) ({ cls := "com/example/input_under_constraint/inputunderconstraint/MessageTemplateLiteralPinLaw", name := "same", desc := "(Ljava/lang/String;[CII)Z" } : Jvm.MethodName)).before a0 Z = true := hw _ (List.mem_of_getElem? (i := 107) rfl)
theorem tw108 {Z : State} {a0 : Array Value} (hw : ∀ d ∈ tables_1, d.before a0 Z = true) : (Jvm.Cond.static ({ cls := "com/example/input_under_constraint/inputunderconstraint/MessageTemplateLiteralPinLaw", name := "same", desc := "(Ljava/lang/String;[CII)Z" } : Jvm.MethodName)).before a0 Z = true := hw _ (List.mem_of_getElem? (i := 108) rfl)
theorem tw109 {Z : State} {a0 : Array Value} (hw : ∀ d ∈ tables_1, d.before a0 Z = true) : (Jvm.Cond.code ({ cls := "com/example/input_under_constraint/inputunderconstraint/MessageTemplateLiteralPinLaw", name := "same", desc := "(Ljava/lang/String;[CII)Z" } : Jvm.MethodName) method_4_code (4 : Nat) (Option.some Jvm.ClassFile.FieldType.boolean)).before a0 Z = true := hw _ (List.mem_of_getElem? (i := 109) rfl)
theorem tw110 {Z : State} {a0 : Array Value} (hw : ∀ d ∈ tables_1, d.before a0 Z = true) : (Jvm.Cond.methodLink "com/example/input_under_constraint/inputunderconstraint/MessageTemplateLiteralPinLaw" (19 : Nat) ({ cls := "com/example/input_under_constraint/inputunderconstraint/MessageTemplateLiteralPinLaw", name := "esc", desc := "(C)Z" } : Jvm.MethodName)).before a0 Z = true := hw _ (List.mem_of_getElem? (i := 110) rfl)
theorem tw111 {Z : State} {a0 : Array Value} (hw : ∀ d ∈ tables_1, d.before a0 Z = true) : (Jvm.Cond.static ({ cls := "com/example/input_under_constraint/inputunderconstraint/MessageTemplateLiteralPinLaw", name := "esc", desc := "(C)Z" } : Jvm.MethodName)).before a0 Z = true := hw _ (List.mem_of_getElem? (i := 111) rfl)
theorem tw112 {Z : State} {a0 : Array Value} (hw : ∀ d ∈ tables_1, d.before a0 Z = true) : (Jvm.Cond.code ({ cls := "com/example/input_under_constraint/inputunderconstraint/MessageTemplateLiteralPinLaw", name := "esc", desc := "(C)Z" } : Jvm.MethodName) method_3_code (1 : Nat) (Option.some Jvm.ClassFile.FieldType.boolean)).before a0 Z = true := hw _ (List.mem_of_getElem? (i := 112) rfl)
theorem tw113 {Z : State} {a0 : Array Value} (hw : ∀ d ∈ tables_1, d.before a0 Z = true) : (Jvm.Cond.methodLink "java/lang/String" (177 : Nat) ({ cls := "java/lang/StringUTF16", name := "compress", desc := "([CII)[B" } : Jvm.MethodName)).before a0 Z = true := hw _ (List.mem_of_getElem? (i := 113) rfl)
theorem tw114 {Z : State} {a0 : Array Value} (hw : ∀ d ∈ tables_1, d.before a0 Z = true) : (Jvm.Cond.static ({ cls := "java/lang/StringUTF16", name := "compress", desc := "([CII)[B" } : Jvm.MethodName)).before a0 Z = true := hw _ (List.mem_of_getElem? (i := 114) rfl)
theorem tw115 {Z : State} {a0 : Array Value} (hw : ∀ d ∈ tables_1, d.before a0 Z = true) : (Jvm.Cond.initialized "java/lang/StringUTF16").before a0 Z = true := hw _ (List.mem_of_getElem? (i := 115) rfl)
theorem tw116 {Z : State} {a0 : Array Value} (hw : ∀ d ∈ tables_1, d.before a0 Z = true) : (Jvm.Cond.code ({ cls := "java/lang/StringUTF16", name := "compress", desc := "([CII)[B" } : Jvm.MethodName) jdk_52_method_16_code (6 : Nat) (Option.some (Jvm.ClassFile.FieldType.array Jvm.ClassFile.FieldType.byte))).before a0 Z = true := hw _ (List.mem_of_getElem? (i := 116) rfl)
theorem tw117 {Z : State} {a0 : Array Value} (hw : ∀ d ∈ tables_1, d.before a0 Z = true) : (Jvm.Cond.methodLink "java/lang/StringUTF16" (115 : Nat) ({ cls := "java/lang/StringUTF16", name := "compress", desc := "([CI[BII)I" } : Jvm.MethodName)).before a0 Z = true := hw _ (List.mem_of_getElem? (i := 117) rfl)
theorem tw118 {Z : State} {a0 : Array Value} (hw : ∀ d ∈ tables_1, d.before a0 Z = true) : (Jvm.Cond.static ({ cls := "java/lang/StringUTF16", name := "compress", desc := "([CI[BII)I" } : Jvm.MethodName)).before a0 Z = true := hw _ (List.mem_of_getElem? (i := 118) rfl)
theorem tw119 {Z : State} {a0 : Array Value} (hw : ∀ d ∈ tables_1, d.before a0 Z = true) : (Jvm.Cond.code ({ cls := "java/lang/StringUTF16", name := "compress", desc := "([CI[BII)I" } : Jvm.MethodName) jdk_52_method_21_code (7 : Nat) (Option.some Jvm.ClassFile.FieldType.int)).before a0 Z = true := hw _ (List.mem_of_getElem? (i := 119) rfl)
theorem tw120 {Z : State} {a0 : Array Value} (hw : ∀ d ∈ tables_1, d.before a0 Z = true) : (Jvm.Cond.methodLink "java/lang/String" (47 : Nat) ({ cls := "java/lang/StringUTF16", name := "coderFromArrayLen", desc := "([BI)B" } : Jvm.MethodName)).before a0 Z = true := hw _ (List.mem_of_getElem? (i := 120) rfl)
theorem tw121 {Z : State} {a0 : Array Value} (hw : ∀ d ∈ tables_1, d.before a0 Z = true) : (Jvm.Cond.static ({ cls := "java/lang/StringUTF16", name := "coderFromArrayLen", desc := "([BI)B" } : Jvm.MethodName)).before a0 Z = true := hw _ (List.mem_of_getElem? (i := 121) rfl)
theorem tw122 {Z : State} {a0 : Array Value} (hw : ∀ d ∈ tables_1, d.before a0 Z = true) : (Jvm.Cond.code ({ cls := "java/lang/StringUTF16", name := "coderFromArrayLen", desc := "([BI)B" } : Jvm.MethodName) jdk_52_method_15_code (2 : Nat) (Option.some Jvm.ClassFile.FieldType.byte)).before a0 Z = true := hw _ (List.mem_of_getElem? (i := 122) rfl)
theorem tw123 {Z : State} {a0 : Array Value} (hw : ∀ d ∈ tables_1, d.before a0 Z = true) : (Jvm.Cond.methodLink "com/example/input_under_constraint/inputunderconstraint/MessageTemplate" (66 : Nat) ({ cls := "java/lang/String", name := "charAt", desc := "(I)C" } : Jvm.MethodName)).before a0 Z = true := hw _ (List.mem_of_getElem? (i := 123) rfl)
theorem tw124 {Z : State} {a0 : Array Value} (hw : ∀ d ∈ tables_1, d.before a0 Z = true) : (Jvm.Cond.declares ({ cls := "java/lang/String", name := "charAt", desc := "(I)C" } : Jvm.MethodName)).before a0 Z = true := hw _ (List.mem_of_getElem? (i := 124) rfl)
theorem tw125 {Z : State} {a0 : Array Value} (hw : ∀ d ∈ tables_1, d.before a0 Z = true) : (Jvm.Cond.instanceMethod ({ cls := "java/lang/String", name := "charAt", desc := "(I)C" } : Jvm.MethodName)).before a0 Z = true := hw _ (List.mem_of_getElem? (i := 125) rfl)
theorem tw126 {Z : State} {a0 : Array Value} (hw : ∀ d ∈ tables_1, d.before a0 Z = true) : (Jvm.Cond.selects "java/lang/String" ({ cls := "java/lang/String", name := "charAt", desc := "(I)C" } : Jvm.MethodName) ({ cls := "java/lang/String", name := "charAt", desc := "(I)C" } : Jvm.MethodName)).before a0 Z = true := hw _ (List.mem_of_getElem? (i := 126) rfl)
theorem tw127 {Z : State} {a0 : Array Value} (hw : ∀ d ∈ tables_1, d.before a0 Z = true) : (Jvm.Cond.code ({ cls := "java/lang/String", name := "charAt", desc := "(I)C" } : Jvm.MethodName) jdk_42_method_56_code (2 : Nat) (Option.some Jvm.ClassFile.FieldType.char)).before a0 Z = true := hw _ (List.mem_of_getElem? (i := 127) rfl)
theorem tw128 {Z : State} {a0 : Array Value} (hw : ∀ d ∈ tables_1, d.before a0 Z = true) : (Jvm.Cond.methodLink "java/lang/String" (492 : Nat) ({ cls := "java/lang/String", name := "isLatin1", desc := "()Z" } : Jvm.MethodName)).before a0 Z = true := hw _ (List.mem_of_getElem? (i := 128) rfl)
theorem tw129 {Z : State} {a0 : Array Value} (hw : ∀ d ∈ tables_1, d.before a0 Z = true) : (Jvm.Cond.declares ({ cls := "java/lang/String", name := "isLatin1", desc := "()Z" } : Jvm.MethodName)).before a0 Z = true := hw _ (List.mem_of_getElem? (i := 129) rfl)
theorem tw130 {Z : State} {a0 : Array Value} (hw : ∀ d ∈ tables_1, d.before a0 Z = true) : (Jvm.Cond.instanceMethod ({ cls := "java/lang/String", name := "isLatin1", desc := "()Z" } : Jvm.MethodName)).before a0 Z = true := hw _ (List.mem_of_getElem? (i := 130) rfl)
theorem tw131 {Z : State} {a0 : Array Value} (hw : ∀ d ∈ tables_1, d.before a0 Z = true) : (Jvm.Cond.selects "java/lang/String" ({ cls := "java/lang/String", name := "isLatin1", desc := "()Z" } : Jvm.MethodName) ({ cls := "java/lang/String", name := "isLatin1", desc := "()Z" } : Jvm.MethodName)).before a0 Z = true := hw _ (List.mem_of_getElem? (i := 131) rfl)
theorem tw132 {Z : State} {a0 : Array Value} (hw : ∀ d ∈ tables_1, d.before a0 Z = true) : (Jvm.Cond.code ({ cls := "java/lang/String", name := "isLatin1", desc := "()Z" } : Jvm.MethodName) jdk_42_method_154_code (1 : Nat) (Option.some Jvm.ClassFile.FieldType.boolean)).before a0 Z = true := hw _ (List.mem_of_getElem? (i := 132) rfl)
theorem tw133 {Z : State} {a0 : Array Value} (hw : ∀ d ∈ tables_1, d.before a0 Z = true) : (Jvm.Cond.methodLink "java/lang/String" (495 : Nat) ({ cls := "java/lang/StringLatin1", name := "charAt", desc := "([BI)C" } : Jvm.MethodName)).before a0 Z = true := hw _ (List.mem_of_getElem? (i := 133) rfl)
theorem tw134 {Z : State} {a0 : Array Value} (hw : ∀ d ∈ tables_1, d.before a0 Z = true) : (Jvm.Cond.static ({ cls := "java/lang/StringLatin1", name := "charAt", desc := "([BI)C" } : Jvm.MethodName)).before a0 Z = true := hw _ (List.mem_of_getElem? (i := 134) rfl)
theorem tw135 {Z : State} {a0 : Array Value} (hw : ∀ d ∈ tables_1, d.before a0 Z = true) : (Jvm.Cond.initialized "java/lang/StringLatin1").before a0 Z = true := hw _ (List.mem_of_getElem? (i := 135) rfl)
theorem tw136 {Z : State} {a0 : Array Value} (hw : ∀ d ∈ tables_1, d.before a0 Z = true) : (Jvm.Cond.code ({ cls := "java/lang/StringLatin1", name := "charAt", desc := "([BI)C" } : Jvm.MethodName) jdk_43_method_2_code (2 : Nat) (Option.some Jvm.ClassFile.FieldType.char)).before a0 Z = true := hw _ (List.mem_of_getElem? (i := 136) rfl)
theorem tw137 {Z : State} {a0 : Array Value} (hw : ∀ d ∈ tables_1, d.before a0 Z = true) : (Jvm.Cond.methodLink "java/lang/StringLatin1" (9 : Nat) ({ cls := "java/lang/String", name := "checkIndex", desc := "(II)V" } : Jvm.MethodName)).before a0 Z = true := hw _ (List.mem_of_getElem? (i := 137) rfl)
theorem tw138 {Z : State} {a0 : Array Value} (hw : ∀ d ∈ tables_1, d.before a0 Z = true) : (Jvm.Cond.static ({ cls := "java/lang/String", name := "checkIndex", desc := "(II)V" } : Jvm.MethodName)).before a0 Z = true := hw _ (List.mem_of_getElem? (i := 138) rfl)
theorem tw139 {Z : State} {a0 : Array Value} (hw : ∀ d ∈ tables_1, d.before a0 Z = true) : (Jvm.Cond.code ({ cls := "java/lang/String", name := "checkIndex", desc := "(II)V" } : Jvm.MethodName) jdk_42_method_155_code (2 : Nat) (Option.none : Option Jvm.ClassFile.FieldType)).before a0 Z = true := hw _ (List.mem_of_getElem? (i := 139) rfl)
theorem tw140 {Z : State} {a0 : Array Value} (hw : ∀ d ∈ tables_1, d.before a0 Z = true) : (Jvm.Cond.fieldLink "java/lang/String" (1053 : Nat) "jdk/internal/util/Preconditions" "SIOOBE_FORMATTER" "Ljava/util/function/BiFunction;").before a0 Z = true := hw _ (List.mem_of_getElem? (i := 140) rfl)
theorem tw141 {Z : State} {a0 : Array Value} (hw : ∀ d ∈ tables_1, d.before a0 Z = true) : (Jvm.Cond.initialized "jdk/internal/util/Preconditions").before a0 Z = true := hw _ (List.mem_of_getElem? (i := 141) rfl)
theorem tw142 {Z : State} {a0 : Array Value} (hw : ∀ d ∈ tables_1, d.before a0 Z = true) : (Jvm.Cond.methodLink "java/lang/String" (1059 : Nat) ({ cls := "jdk/internal/util/Preconditions", name := "checkIndex", desc := "(IILjava/util/function/BiFunction;)I" } : Jvm.MethodName)).before a0 Z = true := hw _ (List.mem_of_getElem? (i := 142) rfl)
theorem tw143 {Z : State} {a0 : Array Value} (hw : ∀ d ∈ tables_1, d.before a0 Z = true) : (Jvm.Cond.static ({ cls := "jdk/internal/util/Preconditions", name := "checkIndex", desc := "(IILjava/util/function/BiFunction;)I" } : Jvm.MethodName)).before a0 Z = true := hw _ (List.mem_of_getElem? (i := 143) rfl)
theorem tw144 {Z : State} {a0 : Array Value} (hw : ∀ d ∈ tables_1, d.before a0 Z = true) : (Jvm.Cond.code ({ cls := "jdk/internal/util/Preconditions", name := "checkIndex", desc := "(IILjava/util/function/BiFunction;)I" } : Jvm.MethodName) jdk_41_method_11_code (3 : Nat) (Option.some Jvm.ClassFile.FieldType.int)).before a0 Z = true := hw _ (List.mem_of_getElem? (i := 144) rfl)
theorem tw145 {Z : State} {a0 : Array Value} (hw : ∀ d ∈ tables_1, d.before a0 Z = true) : (Jvm.Cond.methodLink "com/example/input_under_constraint/inputunderconstraint/MessageTemplate" (70 : Nat) ({ cls := "com/example/input_under_constraint/inputunderconstraint/MessageTemplate", name := "isEscapable", desc := "(C)Z" } : Jvm.MethodName)).before a0 Z = true := hw _ (List.mem_of_getElem? (i := 145) rfl)
theorem tw146 {Z : State} {a0 : Array Value} (hw : ∀ d ∈ tables_1, d.before a0 Z = true) : (Jvm.Cond.static ({ cls := "com/example/input_under_constraint/inputunderconstraint/MessageTemplate", name := "isEscapable", desc := "(C)Z" } : Jvm.MethodName)).before a0 Z = true := hw _ (List.mem_of_getElem? (i := 146) rfl)
theorem tw147 {Z : State} {a0 : Array Value} (hw : ∀ d ∈ tables_1, d.before a0 Z = true) : (Jvm.Cond.code ({ cls := "com/example/input_under_constraint/inputunderconstraint/MessageTemplate", name := "isEscapable", desc := "(C)Z" } : Jvm.MethodName) prog_19_method_12_code (1 : Nat) (Option.some Jvm.ClassFile.FieldType.boolean)).before a0 Z = true := hw _ (List.mem_of_getElem? (i := 147) rfl)
theorem tw148 {Z : State} {a0 : Array Value} (hw : ∀ d ∈ tables_1, d.before a0 Z = true) : (Jvm.Cond.methodLink "com/example/input_under_constraint/inputunderconstraint/MessageTemplate" (74 : Nat) ({ cls := "java/lang/StringBuilder", name := "append", desc := "(C)Ljava/lang/StringBuilder;" } : Jvm.MethodName)).before a0 Z = true := hw _ (List.mem_of_getElem? (i := 148) rfl)
theorem tw149 {Z : State} {a0 : Array Value} (hw : ∀ d ∈ tables_1, d.before a0 Z = true) : (Jvm.Cond.declares ({ cls := "java/lang/StringBuilder", name := "append", desc := "(C)Ljava/lang/StringBuilder;" } : Jvm.MethodName)).before a0 Z = true := hw _ (List.mem_of_getElem? (i := 149) rfl)
theorem tw150 {Z : State} {a0 : Array Value} (hw : ∀ d ∈ tables_1, d.before a0 Z = true) : (Jvm.Cond.instanceMethod ({ cls := "java/lang/StringBuilder", name := "append", desc := "(C)Ljava/lang/StringBuilder;" } : Jvm.MethodName)).before a0 Z = true := hw _ (List.mem_of_getElem? (i := 150) rfl)
theorem tw151 {Z : State} {a0 : Array Value} (hw : ∀ d ∈ tables_1, d.before a0 Z = true) : (Jvm.Cond.selects "java/lang/StringBuilder" ({ cls := "java/lang/StringBuilder", name := "append", desc := "(C)Ljava/lang/StringBuilder;" } : Jvm.MethodName) ({ cls := "java/lang/StringBuilder", name := "append", desc := "(C)Ljava/lang/StringBuilder;" } : Jvm.MethodName)).before a0 Z = true := hw _ (List.mem_of_getElem? (i := 151) rfl)
theorem tw152 {Z : State} {a0 : Array Value} (hw : ∀ d ∈ tables_1, d.before a0 Z = true) : (Jvm.Cond.code ({ cls := "java/lang/StringBuilder", name := "append", desc := "(C)Ljava/lang/StringBuilder;" } : Jvm.MethodName) jdk_67_method_14_code (2 : Nat) (Option.some (Jvm.ClassFile.FieldType.object "java/lang/StringBuilder"))).before a0 Z = true := hw _ (List.mem_of_getElem? (i := 152) rfl)
theorem tw153 {Z : State} {a0 : Array Value} (hw : ∀ d ∈ tables_1, d.before a0 Z = true) : (Jvm.Cond.methodLink "java/lang/StringBuilder" (50 : Nat) ({ cls := "java/lang/AbstractStringBuilder", name := "append", desc := "(C)Ljava/lang/AbstractStringBuilder;" } : Jvm.MethodName)).before a0 Z = true := hw _ (List.mem_of_getElem? (i := 153) rfl)
theorem tw154 {Z : State} {a0 : Array Value} (hw : ∀ d ∈ tables_1, d.before a0 Z = true) : (Jvm.Cond.instanceMethod ({ cls := "java/lang/AbstractStringBuilder", name := "append", desc := "(C)Ljava/lang/AbstractStringBuilder;" } : Jvm.MethodName)).before a0 Z = true := hw _ (List.mem_of_getElem? (i := 154) rfl)
theorem tw156 {Z : State} {a0 : Array Value} (hw : ∀ d ∈ tables_1, d.before a0 Z = true) : (Jvm.Cond.code ({ cls := "java/lang/AbstractStringBuilder", name := "append", desc := "(C)Ljava/lang/AbstractStringBuilder;" } : Jvm.MethodName) jdk_68_method_31_code (2 : Nat) (Option.some (Jvm.ClassFile.FieldType.object "java/lang/AbstractStringBuilder"))).before a0 Z = true := hw _ (List.mem_of_getElem? (i := 156) rfl)
theorem tw157 {Z : State} {a0 : Array Value} (hw : ∀ d ∈ tables_1, d.before a0 Z = true) : (Jvm.Cond.methodLink "java/lang/AbstractStringBuilder" (100 : Nat) ({ cls := "java/lang/AbstractStringBuilder", name := "ensureCapacityInternal", desc := "(I)V" } : Jvm.MethodName)).before a0 Z = true := hw _ (List.mem_of_getElem? (i := 157) rfl)
theorem tw158 {Z : State} {a0 : Array Value} (hw : ∀ d ∈ tables_1, d.before a0 Z = true) : (Jvm.Cond.instanceMethod ({ cls := "java/lang/AbstractStringBuilder", name := "ensureCapacityInternal", desc := "(I)V" } : Jvm.MethodName)).before a0 Z = true := hw _ (List.mem_of_getElem? (i := 158) rfl)
theorem tw159 {Z : State} {a0 : Array Value} (hw : ∀ d ∈ tables_1, d.before a0 Z = true) : (Jvm.Cond.privateMethod ({ cls := "java/lang/AbstractStringBuilder", name := "ensureCapacityInternal", desc := "(I)V" } : Jvm.MethodName)).before a0 Z = true := hw _ (List.mem_of_getElem? (i := 159) rfl)
theorem tw160 {Z : State} {a0 : Array Value} (hw : ∀ d ∈ tables_1, d.before a0 Z = true) : (Jvm.Cond.selects "java/lang/StringBuilder" ({ cls := "java/lang/AbstractStringBuilder", name := "ensureCapacityInternal", desc := "(I)V" } : Jvm.MethodName) ({ cls := "java/lang/AbstractStringBuilder", name := "ensureCapacityInternal", desc := "(I)V" } : Jvm.MethodName)).before a0 Z = true := hw _ (List.mem_of_getElem? (i := 160) rfl)
theorem tw161 {Z : State} {a0 : Array Value} (hw : ∀ d ∈ tables_1, d.before a0 Z = true) : (Jvm.Cond.code ({ cls := "java/lang/AbstractStringBuilder", name := "ensureCapacityInternal", desc := "(I)V" } : Jvm.MethodName) jdk_68_method_9_code (3 : Nat) (Option.none : Option Jvm.ClassFile.FieldType)).before a0 Z = true := hw _ (List.mem_of_getElem? (i := 161) rfl)
theorem tw162 {Z : State} {a0 : Array Value} (hw : ∀ d ∈ tables_1, d.before a0 Z = true) : (Jvm.Cond.methodLink "java/lang/AbstractStringBuilder" (83 : Nat) ({ cls := "java/lang/AbstractStringBuilder", name := "isLatin1", desc := "()Z" } : Jvm.MethodName)).before a0 Z = true := hw _ (List.mem_of_getElem? (i := 162) rfl)
theorem tw163 {Z : State} {a0 : Array Value} (hw : ∀ d ∈ tables_1, d.before a0 Z = true) : (Jvm.Cond.methodLink "java/lang/AbstractStringBuilder" (191 : Nat) ({ cls := "java/lang/StringLatin1", name := "canEncode", desc := "(C)Z" } : Jvm.MethodName)).before a0 Z = true := hw _ (List.mem_of_getElem? (i := 163) rfl)
theorem tw164 {Z : State} {a0 : Array Value} (hw : ∀ d ∈ tables_1, d.before a0 Z = true) : (Jvm.Cond.static ({ cls := "java/lang/StringLatin1", name := "canEncode", desc := "(C)Z" } : Jvm.MethodName)).before a0 Z = true := hw _ (List.mem_of_getElem? (i := 164) rfl)
theorem tw165 {Z : State} {a0 : Array Value} (hw : ∀ d ∈ tables_1, d.before a0 Z = true) : (Jvm.Cond.code ({ cls := "java/lang/StringLatin1", name := "canEncode", desc := "(C)Z" } : Jvm.MethodName) jdk_43_method_3_code (1 : Nat) (Option.some Jvm.ClassFile.FieldType.boolean)).before a0 Z = true := hw _ (List.mem_of_getElem? (i := 165) rfl)
theorem tw166 {Z : State} {a0 : Array Value} (hw : ∀ d ∈ tables_1, d.before a0 Z = true) : (Jvm.Cond.methodLink "java/lang/AbstractStringBuilder" (104 : Nat) ({ cls := "java/lang/AbstractStringBuilder", name := "newCapacity", desc := "(I)I" } : Jvm.MethodName)).before a0 Z = true := hw _ (List.mem_of_getElem? (i := 166) rfl)
theorem tw167 {Z : State} {a0 : Array Value} (hw : ∀ d ∈ tables_1, d.before a0 Z = true) : (Jvm.Cond.instanceMethod ({ cls := "java/lang/AbstractStringBuilder", name := "newCapacity", desc := "(I)I" } : Jvm.MethodName)).before a0 Z = true := hw _ (List.mem_of_getElem? (i := 167) rfl)
theorem tw168 {Z : State} {a0 : Array Value} (hw : ∀ d ∈ tables_1, d.before a0 Z = true) : (Jvm.Cond.privateMethod ({ cls := "java/lang/AbstractStringBuilder", name := "newCapacity", desc := "(I)I" } : Jvm.MethodName)).before a0 Z = true := hw _ (List.mem_of_getElem? (i := 168) rfl)
theorem tw169 {Z : State} {a0 : Array Value} (hw : ∀ d ∈ tables_1, d.before a0 Z = true) : (Jvm.Cond.selects "java/lang/StringBuilder" ({ cls := "java/lang/AbstractStringBuilder", name := "newCapacity", desc := "(I)I" } : Jvm.MethodName) ({ cls := "java/lang/AbstractStringBuilder", name := "newCapacity", desc := "(I)I" } : Jvm.MethodName)).before a0 Z = true := hw _ (List.mem_of_getElem? (i := 169) rfl)
theorem tw170 {Z : State} {a0 : Array Value} (hw : ∀ d ∈ tables_1, d.before a0 Z = true) : (Jvm.Cond.code ({ cls := "java/lang/AbstractStringBuilder", name := "newCapacity", desc := "(I)I" } : Jvm.MethodName) jdk_68_method_10_code (6 : Nat) (Option.some Jvm.ClassFile.FieldType.int)).before a0 Z = true := hw _ (List.mem_of_getElem? (i := 170) rfl)
theorem tw171 {Z : State} {a0 : Array Value} (hw : ∀ d ∈ tables_1, d.before a0 Z = true) : (Jvm.Cond.methodLink "java/lang/AbstractStringBuilder" (114 : Nat) ({ cls := "jdk/internal/util/ArraysSupport", name := "newLength", desc := "(III)I" } : Jvm.MethodName)).before a0 Z = true := hw _ (List.mem_of_getElem? (i := 171) rfl)
theorem tw172 {Z : State} {a0 : Array Value} (hw : ∀ d ∈ tables_1, d.before a0 Z = true) : (Jvm.Cond.static ({ cls := "jdk/internal/util/ArraysSupport", name := "newLength", desc := "(III)I" } : Jvm.MethodName)).before a0 Z = true := hw _ (List.mem_of_getElem? (i := 172) rfl)
theorem tw173 {Z : State} {a0 : Array Value} (hw : ∀ d ∈ tables_1, d.before a0 Z = true) : (Jvm.Cond.initialized "jdk/internal/util/ArraysSupport").before a0 Z = true := hw _ (List.mem_of_getElem? (i := 173) rfl)
theorem tw174 {Z : State} {a0 : Array Value} (hw : ∀ d ∈ tables_1, d.before a0 Z = true) : (Jvm.Cond.code ({ cls := "jdk/internal/util/ArraysSupport", name := "newLength", desc := "(III)I" } : Jvm.MethodName) jdk_48_method_27_code (4 : Nat) (Option.some Jvm.ClassFile.FieldType.int)).before a0 Z = true := hw _ (List.mem_of_getElem? (i := 174) rfl)
theorem tw175 {Z : State} {a0 : Array Value} (hw : ∀ d ∈ tables_1, d.before a0 Z = true) : (Jvm.Cond.methodLink "jdk/internal/util/ArraysSupport" (194 : Nat) ({ cls := "java/lang/Math", name := "max", desc := "(II)I" } : Jvm.MethodName)).before a0 Z = true := hw _ (List.mem_of_getElem? (i := 175) rfl)
theorem tw176 {Z : State} {a0 : Array Value} (hw : ∀ d ∈ tables_1, d.before a0 Z = true) : (Jvm.Cond.static ({ cls := "java/lang/Math", name := "max", desc := "(II)I" } : Jvm.MethodName)).before a0 Z = true := hw _ (List.mem_of_getElem? (i := 176) rfl)
theorem tw177 {Z : State} {a0 : Array Value} (hw : ∀ d ∈ tables_1, d.before a0 Z = true) : (Jvm.Cond.initialized "java/lang/Math").before a0 Z = true := hw _ (List.mem_of_getElem? (i := 177) rfl)
theorem tw178 {Z : State} {a0 : Array Value} (hw : ∀ d ∈ tables_1, d.before a0 Z = true) : (Jvm.Cond.code ({ cls := "java/lang/Math", name := "max", desc := "(II)I" } : Jvm.MethodName) jdk_29_method_65_code (2 : Nat) (Option.some Jvm.ClassFile.FieldType.int)).before a0 Z = true := hw _ (List.mem_of_getElem? (i := 178) rfl)
theorem tw179 {Z : State} {a0 : Array Value} (hw : ∀ d ∈ tables_1, d.before a0 Z = true) : (Jvm.Cond.constant "jdk/internal/util/ArraysSupport" (200 : Nat) (2147483639 : Int32)).before a0 Z = true := hw _ (List.mem_of_getElem? (i := 179) rfl)
theorem tw180 {Z : State} {a0 : Array Value} (hw : ∀ d ∈ tables_1, d.before a0 Z = true) : (Jvm.Cond.constant "java/lang/AbstractStringBuilder" (39 : Nat) (2147483647 : Int32)).before a0 Z = true := hw _ (List.mem_of_getElem? (i := 180) rfl)
theorem tw181 {Z : State} {a0 : Array Value} (hw : ∀ d ∈ tables_1, d.before a0 Z = true) : (Jvm.Cond.methodLink "java/lang/AbstractStringBuilder" (108 : Nat) ({ cls := "java/util/Arrays", name := "copyOf", desc := "([BI)[B" } : Jvm.MethodName)).before a0 Z = true := hw _ (List.mem_of_getElem? (i := 181) rfl)
theorem tw182 {Z : State} {a0 : Array Value} (hw : ∀ d ∈ tables_1, d.before a0 Z = true) : (Jvm.Cond.static ({ cls := "java/util/Arrays", name := "copyOf", desc := "([BI)[B" } : Jvm.MethodName)).before a0 Z = true := hw _ (List.mem_of_getElem? (i := 182) rfl)
theorem tw183 {Z : State} {a0 : Array Value} (hw : ∀ d ∈ tables_1, d.before a0 Z = true) : (Jvm.Cond.code ({ cls := "java/util/Arrays", name := "copyOf", desc := "([BI)[B" } : Jvm.MethodName) jdk_65_method_121_code (3 : Nat) (Option.some (Jvm.ClassFile.FieldType.array Jvm.ClassFile.FieldType.byte))).before a0 Z = true := hw _ (List.mem_of_getElem? (i := 183) rfl)
theorem tw184 {Z : State} {a0 : Array Value} (hw : ∀ d ∈ tables_1, d.before a0 Z = true) : (Jvm.Cond.methodLink "java/util/Arrays" (304 : Nat) ({ cls := "java/lang/Math", name := "min", desc := "(II)I" } : Jvm.MethodName)).before a0 Z = true := hw _ (List.mem_of_getElem? (i := 184) rfl)
theorem tw185 {Z : State} {a0 : Array Value} (hw : ∀ d ∈ tables_1, d.before a0 Z = true) : (Jvm.Cond.static ({ cls := "java/lang/Math", name := "min", desc := "(II)I" } : Jvm.MethodName)).before a0 Z = true := hw _ (List.mem_of_getElem? (i := 185) rfl)
theorem tw186 {Z : State} {a0 : Array Value} (hw : ∀ d ∈ tables_1, d.before a0 Z = true) : (Jvm.Cond.code ({ cls := "java/lang/Math", name := "min", desc := "(II)I" } : Jvm.MethodName) jdk_29_method_69_code (2 : Nat) (Option.some Jvm.ClassFile.FieldType.int)).before a0 Z = true := hw _ (List.mem_of_getElem? (i := 186) rfl)
theorem tw187 {Z : State} {a0 : Array Value} (hw : ∀ d ∈ tables_1, d.before a0 Z = true) : (Jvm.Cond.methodLink "java/util/Arrays" (150 : Nat) ({ cls := "java/lang/System", name := "arraycopy", desc := "(Ljava/lang/Object;ILjava/lang/Object;II)V" } : Jvm.MethodName)).before a0 Z = true := hw _ (List.mem_of_getElem? (i := 187) rfl)
theorem tw188 {Z : State} {a0 : Array Value} (hw : ∀ d ∈ tables_1, d.before a0 Z = true) : (Jvm.Cond.static ({ cls := "java/lang/System", name := "arraycopy", desc := "(Ljava/lang/Object;ILjava/lang/Object;II)V" } : Jvm.MethodName)).before a0 Z = true := hw _ (List.mem_of_getElem? (i := 188) rfl)
theorem tw189 {Z : State} {a0 : Array Value} (hw : ∀ d ∈ tables_1, d.before a0 Z = true) : (Jvm.Cond.initialized "java/lang/System").before a0 Z = true := hw _ (List.mem_of_getElem? (i := 189) rfl)
theorem tw190 {Z : State} {a0 : Array Value} (hw : ∀ d ∈ tables_1, d.before a0 Z = true) : (Jvm.Cond.native ({ cls := "java/lang/System", name := "arraycopy", desc := "(Ljava/lang/Object;ILjava/lang/Object;II)V" } : Jvm.MethodName)).before a0 Z = true := hw _ (List.mem_of_getElem? (i := 190) rfl)
theorem tw191 {Z : State} {a0 : Array Value} (hw : ∀ d ∈ tables_1, d.before a0 Z = true) : (Jvm.Cond.methodLink "java/util/Arrays" (339 : Nat) ({ cls := "java/util/Arrays", name := "copyOfRangeByte", desc := "([BII)[B" } : Jvm.MethodName)).before a0 Z = true := hw _ (List.mem_of_getElem? (i := 191) rfl)
theorem tw192 {Z : State} {a0 : Array Value} (hw : ∀ d ∈ tables_1, d.before a0 Z = true) : (Jvm.Cond.static ({ cls := "java/util/Arrays", name := "copyOfRangeByte", desc := "([BII)[B" } : Jvm.MethodName)).before a0 Z = true := hw _ (List.mem_of_getElem? (i := 192) rfl)
theorem tw193 {Z : State} {a0 : Array Value} (hw : ∀ d ∈ tables_1, d.before a0 Z = true) : (Jvm.Cond.code ({ cls := "java/util/Arrays", name := "copyOfRangeByte", desc := "([BII)[B" } : Jvm.MethodName) jdk_65_method_133_code (5 : Nat) (Option.some (Jvm.ClassFile.FieldType.array Jvm.ClassFile.FieldType.byte))).before a0 Z = true := hw _ (List.mem_of_getElem? (i := 193) rfl)
theorem tw194 {Z : State} {a0 : Array Value} (hw : ∀ d ∈ tables_1, d.before a0 Z = true) : (Jvm.Cond.methodLink "java/util/Arrays" (343 : Nat) ({ cls := "java/util/Arrays", name := "checkLength", desc := "(II)V" } : Jvm.MethodName)).before a0 Z = true := hw _ (List.mem_of_getElem? (i := 194) rfl)
theorem tw195 {Z : State} {a0 : Array Value} (hw : ∀ d ∈ tables_1, d.before a0 Z = true) : (Jvm.Cond.static ({ cls := "java/util/Arrays", name := "checkLength", desc := "(II)V" } : Jvm.MethodName)).before a0 Z = true := hw _ (List.mem_of_getElem? (i := 195) rfl)
theorem tw196 {Z : State} {a0 : Array Value} (hw : ∀ d ∈ tables_1, d.before a0 Z = true) : (Jvm.Cond.code ({ cls := "java/util/Arrays", name := "checkLength", desc := "(II)V" } : Jvm.MethodName) jdk_65_method_131_code (2 : Nat) (Option.none : Option Jvm.ClassFile.FieldType)).before a0 Z = true := hw _ (List.mem_of_getElem? (i := 196) rfl)
theorem tw197 {Z : State} {a0 : Array Value} (hw : ∀ d ∈ tables_1, d.before a0 Z = true) : (Jvm.Cond.methodLink "com/example/input_under_constraint/inputunderconstraint/MessageTemplateLiteralPinLaw" (7 : Nat) ({ cls := "java/lang/String", name := "charAt", desc := "(I)C" } : Jvm.MethodName)).before a0 Z = true := hw _ (List.mem_of_getElem? (i := 197) rfl)
theorem tw198 {Z : State} {a0 : Array Value} (hw : ∀ d ∈ tables_1, d.before a0 Z = true) : (Jvm.Cond.methodLink "java/lang/StringUTF16" (119 : Nat) ({ cls := "java/lang/StringUTF16", name := "toBytes", desc := "([CII)[B" } : Jvm.MethodName)).before a0 Z = true := hw _ (List.mem_of_getElem? (i := 198) rfl)
theorem tw199 {Z : State} {a0 : Array Value} (hw : ∀ d ∈ tables_1, d.before a0 Z = true) : (Jvm.Cond.static ({ cls := "java/lang/StringUTF16", name := "toBytes", desc := "([CII)[B" } : Jvm.MethodName)).before a0 Z = true := hw _ (List.mem_of_getElem? (i := 199) rfl)
theorem tw200 {Z : State} {a0 : Array Value} (hw : ∀ d ∈ tables_1, d.before a0 Z = true) : (Jvm.Cond.code ({ cls := "java/lang/StringUTF16", name := "toBytes", desc := "([CII)[B" } : Jvm.MethodName) jdk_52_method_14_code (5 : Nat) (Option.some (Jvm.ClassFile.FieldType.array Jvm.ClassFile.FieldType.byte))).before a0 Z = true := hw _ (List.mem_of_getElem? (i := 200) rfl)
theorem tw201 {Z : State} {a0 : Array Value} (hw : ∀ d ∈ tables_1, d.before a0 Z = true) : (Jvm.Cond.methodLink "java/lang/StringUTF16" (107 : Nat) ({ cls := "java/lang/StringUTF16", name := "newBytesFor", desc := "(I)[B" } : Jvm.MethodName)).before a0 Z = true := hw _ (List.mem_of_getElem? (i := 201) rfl)
theorem tw202 {Z : State} {a0 : Array Value} (hw : ∀ d ∈ tables_1, d.before a0 Z = true) : (Jvm.Cond.static ({ cls := "java/lang/StringUTF16", name := "newBytesFor", desc := "(I)[B" } : Jvm.MethodName)).before a0 Z = true := hw _ (List.mem_of_getElem? (i := 202) rfl)
theorem tw203 {Z : State} {a0 : Array Value} (hw : ∀ d ∈ tables_1, d.before a0 Z = true) : (Jvm.Cond.code ({ cls := "java/lang/StringUTF16", name := "newBytesFor", desc := "(I)[B" } : Jvm.MethodName) jdk_52_method_2_code (1 : Nat) (Option.some (Jvm.ClassFile.FieldType.array Jvm.ClassFile.FieldType.byte))).before a0 Z = true := hw _ (List.mem_of_getElem? (i := 203) rfl)
theorem tw204 {Z : State} {a0 : Array Value} (hw : ∀ d ∈ tables_1, d.before a0 Z = true) : (Jvm.Cond.methodLink "java/lang/StringUTF16" (11 : Nat) ({ cls := "java/lang/StringUTF16", name := "newBytesLength", desc := "(I)I" } : Jvm.MethodName)).before a0 Z = true := hw _ (List.mem_of_getElem? (i := 204) rfl)
theorem tw205 {Z : State} {a0 : Array Value} (hw : ∀ d ∈ tables_1, d.before a0 Z = true) : (Jvm.Cond.static ({ cls := "java/lang/StringUTF16", name := "newBytesLength", desc := "(I)I" } : Jvm.MethodName)).before a0 Z = true := hw _ (List.mem_of_getElem? (i := 205) rfl)
theorem tw206 {Z : State} {a0 : Array Value} (hw : ∀ d ∈ tables_1, d.before a0 Z = true) : (Jvm.Cond.code ({ cls := "java/lang/StringUTF16", name := "newBytesLength", desc := "(I)I" } : Jvm.MethodName) jdk_52_method_3_code (1 : Nat) (Option.some Jvm.ClassFile.FieldType.int)).before a0 Z = true := hw _ (List.mem_of_getElem? (i := 206) rfl)
theorem tw207 {Z : State} {a0 : Array Value} (hw : ∀ d ∈ tables_1, d.before a0 Z = true) : (Jvm.Cond.constant "java/lang/StringUTF16" (20 : Nat) (1073741823 : Int32)).before a0 Z = true := hw _ (List.mem_of_getElem? (i := 207) rfl)
theorem tw208 {Z : State} {a0 : Array Value} (hw : ∀ d ∈ tables_1, d.before a0 Z = true) : (Jvm.Cond.methodLink "java/lang/StringUTF16" (111 : Nat) ({ cls := "java/lang/StringUTF16", name := "putChar", desc := "([BII)V" } : Jvm.MethodName)).before a0 Z = true := hw _ (List.mem_of_getElem? (i := 208) rfl)
theorem tw209 {Z : State} {a0 : Array Value} (hw : ∀ d ∈ tables_1, d.before a0 Z = true) : (Jvm.Cond.static ({ cls := "java/lang/StringUTF16", name := "putChar", desc := "([BII)V" } : Jvm.MethodName)).before a0 Z = true := hw _ (List.mem_of_getElem? (i := 209) rfl)
theorem tw210 {Z : State} {a0 : Array Value} (hw : ∀ d ∈ tables_1, d.before a0 Z = true) : (Jvm.Cond.code ({ cls := "java/lang/StringUTF16", name := "putChar", desc := "([BII)V" } : Jvm.MethodName) jdk_52_method_4_code (3 : Nat) (Option.none : Option Jvm.ClassFile.FieldType)).before a0 Z = true := hw _ (List.mem_of_getElem? (i := 210) rfl)
theorem tw211 {Z : State} {a0 : Array Value} (hw : ∀ d ∈ tables_1, d.before a0 Z = true) : (Jvm.Cond.fieldLink "java/lang/StringUTF16" (44 : Nat) "java/lang/StringUTF16" "$assertionsDisabled" "Z").before a0 Z = true := hw _ (List.mem_of_getElem? (i := 211) rfl)
theorem tw212 {Z : State} {a0 : Array Value} (hw : ∀ d ∈ tables_1, d.before a0 Z = true) : (Jvm.Cond.fieldLink "java/lang/StringUTF16" (59 : Nat) "java/lang/StringUTF16" "HI_BYTE_SHIFT" "I").before a0 Z = true := hw _ (List.mem_of_getElem? (i := 212) rfl)
theorem tw213 {Z : State} {a0 : Array Value} (hw : ∀ d ∈ tables_1, d.before a0 Z = true) : (Jvm.Cond.fieldLink "java/lang/StringUTF16" (63 : Nat) "java/lang/StringUTF16" "LO_BYTE_SHIFT" "I").before a0 Z = true := hw _ (List.mem_of_getElem? (i := 213) rfl)
theorem tw214 {Z : State} {a0 : Array Value} (hw : ∀ d ∈ tables_1, d.before a0 Z = true) : (Jvm.Cond.methodLink "java/lang/StringUTF16" (71 : Nat) ({ cls := "java/lang/StringUTF16", name := "getChar", desc := "([BI)C" } : Jvm.MethodName)).before a0 Z = true := hw _ (List.mem_of_getElem? (i := 214) rfl)
theorem tw215 {Z : State} {a0 : Array Value} (hw : ∀ d ∈ tables_1, d.before a0 Z = true) : (Jvm.Cond.static ({ cls := "java/lang/StringUTF16", name := "getChar", desc := "([BI)C" } : Jvm.MethodName)).before a0 Z = true := hw _ (List.mem_of_getElem? (i := 215) rfl)
theorem tw216 {Z : State} {a0 : Array Value} (hw : ∀ d ∈ tables_1, d.before a0 Z = true) : (Jvm.Cond.code ({ cls := "java/lang/StringUTF16", name := "getChar", desc := "([BI)C" } : Jvm.MethodName) jdk_52_method_5_code (2 : Nat) (Option.some Jvm.ClassFile.FieldType.char)).before a0 Z = true := hw _ (List.mem_of_getElem? (i := 216) rfl)
theorem tw217 {Z : State} {a0 : Array Value} (hw : ∀ d ∈ tables_1, d.before a0 Z = true) : (Jvm.Cond.methodLink "java/lang/String" (498 : Nat) ({ cls := "java/lang/StringUTF16", name := "charAt", desc := "([BI)C" } : Jvm.MethodName)).before a0 Z = true := hw _ (List.mem_of_getElem? (i := 217) rfl)
theorem tw218 {Z : State} {a0 : Array Value} (hw : ∀ d ∈ tables_1, d.before a0 Z = true) : (Jvm.Cond.static ({ cls := "java/lang/StringUTF16", name := "charAt", desc := "([BI)C" } : Jvm.MethodName)).before a0 Z = true := hw _ (List.mem_of_getElem? (i := 218) rfl)
theorem tw219 {Z : State} {a0 : Array Value} (hw : ∀ d ∈ tables_1, d.before a0 Z = true) : (Jvm.Cond.code ({ cls := "java/lang/StringUTF16", name := "charAt", desc := "([BI)C" } : Jvm.MethodName) jdk_52_method_83_code (2 : Nat) (Option.some Jvm.ClassFile.FieldType.char)).before a0 Z = true := hw _ (List.mem_of_getElem? (i := 219) rfl)
theorem tw220 {Z : State} {a0 : Array Value} (hw : ∀ d ∈ tables_1, d.before a0 Z = true) : (Jvm.Cond.methodLink "java/lang/StringUTF16" (67 : Nat) ({ cls := "java/lang/StringUTF16", name := "checkIndex", desc := "(I[B)V" } : Jvm.MethodName)).before a0 Z = true := hw _ (List.mem_of_getElem? (i := 220) rfl)
theorem tw221 {Z : State} {a0 : Array Value} (hw : ∀ d ∈ tables_1, d.before a0 Z = true) : (Jvm.Cond.static ({ cls := "java/lang/StringUTF16", name := "checkIndex", desc := "(I[B)V" } : Jvm.MethodName)).before a0 Z = true := hw _ (List.mem_of_getElem? (i := 221) rfl)
theorem tw222 {Z : State} {a0 : Array Value} (hw : ∀ d ∈ tables_1, d.before a0 Z = true) : (Jvm.Cond.code ({ cls := "java/lang/StringUTF16", name := "checkIndex", desc := "(I[B)V" } : Jvm.MethodName) jdk_52_method_91_code (2 : Nat) (Option.none : Option Jvm.ClassFile.FieldType)).before a0 Z = true := hw _ (List.mem_of_getElem? (i := 222) rfl)
theorem tw223 {Z : State} {a0 : Array Value} (hw : ∀ d ∈ tables_1, d.before a0 Z = true) : (Jvm.Cond.methodLink "java/lang/StringUTF16" (48 : Nat) ({ cls := "java/lang/StringUTF16", name := "length", desc := "([B)I" } : Jvm.MethodName)).before a0 Z = true := hw _ (List.mem_of_getElem? (i := 223) rfl)
theorem tw224 {Z : State} {a0 : Array Value} (hw : ∀ d ∈ tables_1, d.before a0 Z = true) : (Jvm.Cond.static ({ cls := "java/lang/StringUTF16", name := "length", desc := "([B)I" } : Jvm.MethodName)).before a0 Z = true := hw _ (List.mem_of_getElem? (i := 224) rfl)
theorem tw225 {Z : State} {a0 : Array Value} (hw : ∀ d ∈ tables_1, d.before a0 Z = true) : (Jvm.Cond.code ({ cls := "java/lang/StringUTF16", name := "length", desc := "([B)I" } : Jvm.MethodName) jdk_52_method_6_code (1 : Nat) (Option.some Jvm.ClassFile.FieldType.int)).before a0 Z = true := hw _ (List.mem_of_getElem? (i := 225) rfl)
theorem tw226 {Z : State} {a0 : Array Value} (hw : ∀ d ∈ tables_1, d.before a0 Z = true) : (Jvm.Cond.methodLink "java/lang/StringUTF16" (414 : Nat) ({ cls := "java/lang/String", name := "checkIndex", desc := "(II)V" } : Jvm.MethodName)).before a0 Z = true := hw _ (List.mem_of_getElem? (i := 226) rfl)
theorem tw227 {Z : State} {a0 : Array Value} (hw : ∀ d ∈ tables_1, d.before a0 Z = true) : (Jvm.Cond.methodLink "java/lang/AbstractStringBuilder" (195 : Nat) ({ cls := "java/lang/AbstractStringBuilder", name := "inflate", desc := "()V" } : Jvm.MethodName)).before a0 Z = true := hw _ (List.mem_of_getElem? (i := 227) rfl)
theorem tw228 {Z : State} {a0 : Array Value} (hw : ∀ d ∈ tables_1, d.before a0 Z = true) : (Jvm.Cond.instanceMethod ({ cls := "java/lang/AbstractStringBuilder", name := "inflate", desc := "()V" } : Jvm.MethodName)).before a0 Z = true := hw _ (List.mem_of_getElem? (i := 228) rfl)
theorem tw229 {Z : State} {a0 : Array Value} (hw : ∀ d ∈ tables_1, d.before a0 Z = true) : (Jvm.Cond.privateMethod ({ cls := "java/lang/AbstractStringBuilder", name := "inflate", desc := "()V" } : Jvm.MethodName)).before a0 Z = true := hw _ (List.mem_of_getElem? (i := 229) rfl)
theorem tw230 {Z : State} {a0 : Array Value} (hw : ∀ d ∈ tables_1, d.before a0 Z = true) : (Jvm.Cond.selects "java/lang/StringBuilder" ({ cls := "java/lang/AbstractStringBuilder", name := "inflate", desc := "()V" } : Jvm.MethodName) ({ cls := "java/lang/AbstractStringBuilder", name := "inflate", desc := "()V" } : Jvm.MethodName)).before a0 Z = true := hw _ (List.mem_of_getElem? (i := 230) rfl)
theorem tw231 {Z : State} {a0 : Array Value} (hw : ∀ d ∈ tables_1, d.before a0 Z = true) : (Jvm.Cond.code ({ cls := "java/lang/AbstractStringBuilder", name := "inflate", desc := "()V" } : Jvm.MethodName) jdk_68_method_11_code (2 : Nat) (Option.none : Option Jvm.ClassFile.FieldType)).before a0 Z = true := hw _ (List.mem_of_getElem? (i := 231) rfl)
theorem tw232 {Z : State} {a0 : Array Value} (hw : ∀ d ∈ tables_1, d.before a0 Z = true) : (Jvm.Cond.methodLink "java/lang/AbstractStringBuilder" (26 : Nat) ({ cls := "java/lang/StringUTF16", name := "newBytesFor", desc := "(I)[B" } : Jvm.MethodName)).before a0 Z = true := hw _ (List.mem_of_getElem? (i := 232) rfl)
theorem tw233 {Z : State} {a0 : Array Value} (hw : ∀ d ∈ tables_1, d.before a0 Z = true) : (Jvm.Cond.methodLink "java/lang/AbstractStringBuilder" (125 : Nat) ({ cls := "java/lang/StringLatin1", name := "inflate", desc := "([BI[BII)V" } : Jvm.MethodName)).before a0 Z = true := hw _ (List.mem_of_getElem? (i := 233) rfl)
theorem tw234 {Z : State} {a0 : Array Value} (hw : ∀ d ∈ tables_1, d.before a0 Z = true) : (Jvm.Cond.static ({ cls := "java/lang/StringLatin1", name := "inflate", desc := "([BI[BII)V" } : Jvm.MethodName)).before a0 Z = true := hw _ (List.mem_of_getElem? (i := 234) rfl)
theorem tw235 {Z : State} {a0 : Array Value} (hw : ∀ d ∈ tables_1, d.before a0 Z = true) : (Jvm.Cond.code ({ cls := "java/lang/StringLatin1", name := "inflate", desc := "([BI[BII)V" } : Jvm.MethodName) jdk_43_method_50_code (5 : Nat) (Option.none : Option Jvm.ClassFile.FieldType)).before a0 Z = true := hw _ (List.mem_of_getElem? (i := 235) rfl)
theorem tw236 {Z : State} {a0 : Array Value} (hw : ∀ d ∈ tables_1, d.before a0 Z = true) : (Jvm.Cond.methodLink "java/lang/StringLatin1" (240 : Nat) ({ cls := "java/lang/StringUTF16", name := "inflate", desc := "([BI[BII)V" } : Jvm.MethodName)).before a0 Z = true := hw _ (List.mem_of_getElem? (i := 236) rfl)
theorem tw237 {Z : State} {a0 : Array Value} (hw : ∀ d ∈ tables_1, d.before a0 Z = true) : (Jvm.Cond.static ({ cls := "java/lang/StringUTF16", name := "inflate", desc := "([BI[BII)V" } : Jvm.MethodName)).before a0 Z = true := hw _ (List.mem_of_getElem? (i := 237) rfl)
theorem tw238 {Z : State} {a0 : Array Value} (hw : ∀ d ∈ tables_1, d.before a0 Z = true) : (Jvm.Cond.code ({ cls := "java/lang/StringUTF16", name := "inflate", desc := "([BI[BII)V" } : Jvm.MethodName) jdk_52_method_86_code (6 : Nat) (Option.none : Option Jvm.ClassFile.FieldType)).before a0 Z = true := hw _ (List.mem_of_getElem? (i := 238) rfl)
theorem tw239 {Z : State} {a0 : Array Value} (hw : ∀ d ∈ tables_1, d.before a0 Z = true) : (Jvm.Cond.methodLink "java/lang/StringUTF16" (173 : Nat) ({ cls := "java/lang/StringUTF16", name := "checkBoundsOffCount", desc := "(II[B)V" } : Jvm.MethodName)).before a0 Z = true := hw _ (List.mem_of_getElem? (i := 239) rfl)
theorem tw240 {Z : State} {a0 : Array Value} (hw : ∀ d ∈ tables_1, d.before a0 Z = true) : (Jvm.Cond.static ({ cls := "java/lang/StringUTF16", name := "checkBoundsOffCount", desc := "(II[B)V" } : Jvm.MethodName)).before a0 Z = true := hw _ (List.mem_of_getElem? (i := 240) rfl)
theorem tw241 {Z : State} {a0 : Array Value} (hw : ∀ d ∈ tables_1, d.before a0 Z = true) : (Jvm.Cond.code ({ cls := "java/lang/StringUTF16", name := "checkBoundsOffCount", desc := "(II[B)V" } : Jvm.MethodName) jdk_52_method_94_code (3 : Nat) (Option.none : Option Jvm.ClassFile.FieldType)).before a0 Z = true := hw _ (List.mem_of_getElem? (i := 241) rfl)
theorem tw242 {Z : State} {a0 : Array Value} (hw : ∀ d ∈ tables_1, d.before a0 Z = true) : (Jvm.Cond.methodLink "java/lang/StringUTF16" (419 : Nat) ({ cls := "java/lang/String", name := "checkBoundsOffCount", desc := "(III)I" } : Jvm.MethodName)).before a0 Z = true := hw _ (List.mem_of_getElem? (i := 242) rfl)
theorem tw243 {Z : State} {a0 : Array Value} (hw : ∀ d ∈ tables_1, d.before a0 Z = true) : (Jvm.Cond.static ({ cls := "java/lang/String", name := "checkBoundsOffCount", desc := "(III)I" } : Jvm.MethodName)).before a0 Z = true := hw _ (List.mem_of_getElem? (i := 243) rfl)
theorem tw244 {Z : State} {a0 : Array Value} (hw : ∀ d ∈ tables_1, d.before a0 Z = true) : (Jvm.Cond.code ({ cls := "java/lang/String", name := "checkBoundsOffCount", desc := "(III)I" } : Jvm.MethodName) jdk_42_method_157_code (3 : Nat) (Option.some Jvm.ClassFile.FieldType.int)).before a0 Z = true := hw _ (List.mem_of_getElem? (i := 244) rfl)
theorem tw245 {Z : State} {a0 : Array Value} (hw : ∀ d ∈ tables_1, d.before a0 Z = true) : (Jvm.Cond.methodLink "java/lang/String" (1065 : Nat) ({ cls := "jdk/internal/util/Preconditions", name := "checkFromIndexSize", desc := "(IIILjava/util/function/BiFunction;)I" } : Jvm.MethodName)).before a0 Z = true := hw _ (List.mem_of_getElem? (i := 245) rfl)
theorem tw246 {Z : State} {a0 : Array Value} (hw : ∀ d ∈ tables_1, d.before a0 Z = true) : (Jvm.Cond.static ({ cls := "jdk/internal/util/Preconditions", name := "checkFromIndexSize", desc := "(IIILjava/util/function/BiFunction;)I" } : Jvm.MethodName)).before a0 Z = true := hw _ (List.mem_of_getElem? (i := 246) rfl)
theorem tw247 {Z : State} {a0 : Array Value} (hw : ∀ d ∈ tables_1, d.before a0 Z = true) : (Jvm.Cond.code ({ cls := "jdk/internal/util/Preconditions", name := "checkFromIndexSize", desc := "(IIILjava/util/function/BiFunction;)I" } : Jvm.MethodName) jdk_41_method_13_code (4 : Nat) (Option.some Jvm.ClassFile.FieldType.int)).before a0 Z = true := hw _ (List.mem_of_getElem? (i := 247) rfl)
theorem tw248 {Z : State} {a0 : Array Value} (hw : ∀ d ∈ tables_1, d.before a0 Z = true) : (Jvm.Cond.methodLink "java/lang/AbstractStringBuilder" (197 : Nat) ({ cls := "java/lang/StringUTF16", name := "putCharSB", desc := "([BII)V" } : Jvm.MethodName)).before a0 Z = true := hw _ (List.mem_of_getElem? (i := 248) rfl)
theorem tw249 {Z : State} {a0 : Array Value} (hw : ∀ d ∈ tables_1, d.before a0 Z = true) : (Jvm.Cond.static ({ cls := "java/lang/StringUTF16", name := "putCharSB", desc := "([BII)V" } : Jvm.MethodName)).before a0 Z = true := hw _ (List.mem_of_getElem? (i := 249) rfl)
theorem tw250 {Z : State} {a0 : Array Value} (hw : ∀ d ∈ tables_1, d.before a0 Z = true) : (Jvm.Cond.code ({ cls := "java/lang/StringUTF16", name := "putCharSB", desc := "([BII)V" } : Jvm.MethodName) jdk_52_method_71_code (3 : Nat) (Option.none : Option Jvm.ClassFile.FieldType)).before a0 Z = true := hw _ (List.mem_of_getElem? (i := 250) rfl)
theorem tw251 {Z : State} {a0 : Array Value} (hw : ∀ d ∈ tables_1, d.before a0 Z = true) : (Jvm.Cond.fieldLink "java/lang/String" (1048 : Nat) "java/lang/AbstractStringBuilder" "maybeLatin1" "Z").before a0 Z = true := hw _ (List.mem_of_getElem? (i := 251) rfl)
theorem tw252 {Z : State} {a0 : Array Value} (hw : ∀ d ∈ tables_1, d.before a0 Z = true) : (Jvm.Cond.lays "java/lang/StringBuilder" "java/lang/AbstractStringBuilder" "maybeLatin1" "Z").before a0 Z = true := hw _ (List.mem_of_getElem? (i := 252) rfl)
theorem pd0 : parseMethodDescriptor "(I)I" = some ⟨[.int], some .int⟩ := by decide +kernel
theorem pd1 : parseMethodDescriptor "([BII)V" = some ⟨[(.array .byte), .int, .int], none⟩ := by decide +kernel
theorem pd2 : parseMethodDescriptor "(I)[B" = some ⟨[.int], some (.array .byte)⟩ := by decide +kernel
theorem pd3 : parseMethodDescriptor "([CI[BII)I" = some ⟨[(.array .char), .int, (.array .byte), .int, .int], some .int⟩ := by decide +kernel
theorem pd4 : parseMethodDescriptor "([CII)[B" = some ⟨[(.array .char), .int, .int], some (.array .byte)⟩ := by decide +kernel
theorem pd5 : parseMethodDescriptor "([BI)C" = some ⟨[(.array .byte), .int], some .char⟩ := by decide +kernel
theorem pd6 : parseMethodDescriptor "([BI)B" = some ⟨[(.array .byte), .int], some .byte⟩ := by decide +kernel
theorem pd7 : parseMethodDescriptor "([CIILjava/lang/Void;)V" = some ⟨[(.array .char), .int, .int, (.object "java/lang/Void")], none⟩ := by decide +kernel
theorem pd8 : parseMethodDescriptor "()B" = some ⟨[], some .byte⟩ := by decide +kernel
theorem pd9 : parseMethodDescriptor "(IILjava/util/function/BiFunction;)I" = some ⟨[.int, .int, (.object "java/util/function/BiFunction")], some .int⟩ := by decide +kernel
theorem pd10 : parseMethodDescriptor "(II)V" = some ⟨[.int, .int], none⟩ := by decide +kernel
theorem pd11 : parseMethodDescriptor "([B)I" = some ⟨[(.array .byte)], some .int⟩ := by decide +kernel
theorem pd12 : parseMethodDescriptor "(I[B)V" = some ⟨[.int, (.array .byte)], none⟩ := by decide +kernel
theorem pd13 : parseMethodDescriptor "()Z" = some ⟨[], some .boolean⟩ := by decide +kernel
theorem pd14 : parseMethodDescriptor "(I)V" = some ⟨[.int], none⟩ := by decide +kernel
theorem pd15 : parseMethodDescriptor "()I" = some ⟨[], some .int⟩ := by decide +kernel
theorem pd16 : parseMethodDescriptor "(II)I" = some ⟨[.int, .int], some .int⟩ := by decide +kernel
theorem pd17 : parseMethodDescriptor "(III)I" = some ⟨[.int, .int, .int], some .int⟩ := by decide +kernel
theorem pd18 : parseMethodDescriptor "([BI)[B" = some ⟨[(.array .byte), .int], some (.array .byte)⟩ := by decide +kernel
theorem pd19 : parseMethodDescriptor "(IIILjava/util/function/BiFunction;)I" = some ⟨[.int, .int, .int, (.object "java/util/function/BiFunction")], some .int⟩ := by decide +kernel
theorem pd20 : parseMethodDescriptor "(II[B)V" = some ⟨[.int, .int, (.array .byte)], none⟩ := by decide +kernel
theorem pd21 : parseMethodDescriptor "([BI[BII)V" = some ⟨[(.array .byte), .int, (.array .byte), .int, .int], none⟩ := by decide +kernel
theorem pd22 : parseMethodDescriptor "(C)Z" = some ⟨[.char], some .boolean⟩ := by decide +kernel
theorem pd23 : parseMethodDescriptor "()V" = some ⟨[], none⟩ := by decide +kernel
theorem pd24 : parseMethodDescriptor "(C)Ljava/lang/AbstractStringBuilder;" = some ⟨[.char], some (.object "java/lang/AbstractStringBuilder")⟩ := by decide +kernel
theorem pd25 : parseMethodDescriptor "([BII)[B" = some ⟨[(.array .byte), .int, .int], some (.array .byte)⟩ := by decide +kernel
theorem pd26 : parseMethodDescriptor "()[B" = some ⟨[], some (.array .byte)⟩ := by decide +kernel
theorem pd27 : parseMethodDescriptor "(Ljava/lang/AbstractStringBuilder;Ljava/lang/Void;)V" = some ⟨[(.object "java/lang/AbstractStringBuilder"), (.object "java/lang/Void")], none⟩ := by decide +kernel
theorem pd28 : parseMethodDescriptor "(Ljava/lang/StringBuilder;)V" = some ⟨[(.object "java/lang/StringBuilder")], none⟩ := by decide +kernel
theorem pd29 : parseMethodDescriptor "()Ljava/lang/String;" = some ⟨[], some (.object "java/lang/String")⟩ := by decide +kernel
theorem pd30 : parseMethodDescriptor "(I)C" = some ⟨[.int], some .char⟩ := by decide +kernel
theorem pd31 : parseMethodDescriptor "(C)Ljava/lang/StringBuilder;" = some ⟨[.char], some (.object "java/lang/StringBuilder")⟩ := by decide +kernel
theorem pd32 : parseMethodDescriptor "([C)V" = some ⟨[(.array .char)], none⟩ := by decide +kernel
theorem pd33 : parseMethodDescriptor "(Ljava/lang/String;)Ljava/lang/String;" = some ⟨[(.object "java/lang/String")], some (.object "java/lang/String")⟩ := by decide +kernel
theorem pd34 : parseMethodDescriptor "(Ljava/lang/String;[CII)Z" = some ⟨[(.object "java/lang/String"), (.array .char), .int, .int], some .boolean⟩ := by decide +kernel
theorem djdk_52_3_0 : decode jdk_52_method_3_code 0 = .ok (.iload_n 0, 1) := by decide +kernel
theorem djdk_52_3_1 : decode jdk_52_method_3_code 1 = .ok (.ifCond .ge 11, 3) := by decide +kernel
theorem djdk_52_3_12 : decode jdk_52_method_3_code 12 = .ok (.iload_n 0, 1) := by decide +kernel
theorem djdk_52_3_13 : decode jdk_52_method_3_code 13 = .ok (.ldc 20, 2) := by decide +kernel
theorem djdk_52_3_15 : decode jdk_52_method_3_code 15 = .ok (.if_icmp .lt 40, 3) := by decide +kernel
theorem djdk_52_3_55 : decode jdk_52_method_3_code 55 = .ok (.iload_n 0, 1) := by decide +kernel
theorem djdk_52_3_56 : decode jdk_52_method_3_code 56 = .ok (.iconst 1, 1) := by decide +kernel
theorem djdk_52_3_57 : decode jdk_52_method_3_code 57 = .ok (.ishl, 1) := by decide +kernel
theorem djdk_52_3_58 : decode jdk_52_method_3_code 58 = .ok (.ireturn, 1) := by decide +kernel
theorem djdk_52_2_0 : decode jdk_52_method_2_code 0 = .ok (.iload_n 0, 1) := by decide +kernel
theorem djdk_52_2_1 : decode jdk_52_method_2_code 1 = .ok (.invokestatic 11, 3) := by decide +kernel
theorem djdk_52_2_4 : decode jdk_52_method_2_code 4 = .ok (.newarray .byte, 2) := by decide +kernel
theorem djdk_52_2_6 : decode jdk_52_method_2_code 6 = .ok (.areturn, 1) := by decide +kernel
theorem djdk_52_4_0 : decode jdk_52_method_4_code 0 = .ok (.getstatic 44, 3) := by decide +kernel
theorem djdk_52_4_3 : decode jdk_52_method_4_code 3 = .ok (.ifCond .ne 25, 3) := by decide +kernel
theorem djdk_52_4_28 : decode jdk_52_method_4_code 28 = .ok (.iload_n 1, 1) := by decide +kernel
theorem djdk_52_4_29 : decode jdk_52_method_4_code 29 = .ok (.iconst 1, 1) := by decide +kernel
theorem djdk_52_4_30 : decode jdk_52_method_4_code 30 = .ok (.ishl, 1) := by decide +kernel
theorem djdk_52_4_31 : decode jdk_52_method_4_code 31 = .ok (.istore_n 1, 1) := by decide +kernel
theorem djdk_52_4_32 : decode jdk_52_method_4_code 32 = .ok (.aload_n 0, 1) := by decide +kernel
theorem djdk_52_4_33 : decode jdk_52_method_4_code 33 = .ok (.iload_n 1, 1) := by decide +kernel
theorem djdk_52_4_34 : decode jdk_52_method_4_code 34 = .ok (.iinc 1 1, 3) := by decide +kernel
theorem djdk_52_4_37 : decode jdk_52_method_4_code 37 = .ok (.iload_n 2, 1) := by decide +kernel
theorem djdk_52_4_38 : decode jdk_52_method_4_code 38 = .ok (.getstatic 59, 3) := by decide +kernel
theorem djdk_52_4_41 : decode jdk_52_method_4_code 41 = .ok (.ishr, 1) := by decide +kernel
theorem djdk_52_4_42 : decode jdk_52_method_4_code 42 = .ok (.i2b, 1) := by decide +kernel
theorem djdk_52_4_43 : decode jdk_52_method_4_code 43 = .ok (.bastore, 1) := by decide +kernel
theorem djdk_52_4_44 : decode jdk_52_method_4_code 44 = .ok (.aload_n 0, 1) := by decide +kernel
theorem djdk_52_4_45 : decode jdk_52_method_4_code 45 = .ok (.iload_n 1, 1) := by decide +kernel
theorem djdk_52_4_46 : decode jdk_52_method_4_code 46 = .ok (.iload_n 2, 1) := by decide +kernel
theorem djdk_52_4_47 : decode jdk_52_method_4_code 47 = .ok (.getstatic 63, 3) := by decide +kernel
theorem djdk_52_4_50 : decode jdk_52_method_4_code 50 = .ok (.ishr, 1) := by decide +kernel
theorem djdk_52_4_51 : decode jdk_52_method_4_code 51 = .ok (.i2b, 1) := by decide +kernel
theorem djdk_52_4_52 : decode jdk_52_method_4_code 52 = .ok (.bastore, 1) := by decide +kernel
theorem djdk_52_4_53 : decode jdk_52_method_4_code 53 = .ok (.return_, 1) := by decide +kernel
theorem djdk_52_5_0 : decode jdk_52_method_5_code 0 = .ok (.getstatic 44, 3) := by decide +kernel
theorem djdk_52_5_3 : decode jdk_52_method_5_code 3 = .ok (.ifCond .ne 25, 3) := by decide +kernel
theorem djdk_52_5_28 : decode jdk_52_method_5_code 28 = .ok (.iload_n 1, 1) := by decide +kernel
theorem djdk_52_5_29 : decode jdk_52_method_5_code 29 = .ok (.iconst 1, 1) := by decide +kernel
theorem djdk_52_5_30 : decode jdk_52_method_5_code 30 = .ok (.ishl, 1) := by decide +kernel
theorem djdk_52_5_31 : decode jdk_52_method_5_code 31 = .ok (.istore_n 1, 1) := by decide +kernel
theorem djdk_52_5_32 : decode jdk_52_method_5_code 32 = .ok (.aload_n 0, 1) := by decide +kernel
theorem djdk_52_5_33 : decode jdk_52_method_5_code 33 = .ok (.iload_n 1, 1) := by decide +kernel
theorem djdk_52_5_34 : decode jdk_52_method_5_code 34 = .ok (.iinc 1 1, 3) := by decide +kernel
theorem djdk_52_5_37 : decode jdk_52_method_5_code 37 = .ok (.baload, 1) := by decide +kernel
theorem djdk_52_5_38 : decode jdk_52_method_5_code 38 = .ok (.sipush 255, 3) := by decide +kernel
theorem djdk_52_5_41 : decode jdk_52_method_5_code 41 = .ok (.iand, 1) := by decide +kernel
theorem djdk_52_5_42 : decode jdk_52_method_5_code 42 = .ok (.getstatic 59, 3) := by decide +kernel
theorem djdk_52_5_45 : decode jdk_52_method_5_code 45 = .ok (.ishl, 1) := by decide +kernel
theorem djdk_52_5_46 : decode jdk_52_method_5_code 46 = .ok (.aload_n 0, 1) := by decide +kernel
theorem djdk_52_5_47 : decode jdk_52_method_5_code 47 = .ok (.iload_n 1, 1) := by decide +kernel
theorem djdk_52_5_48 : decode jdk_52_method_5_code 48 = .ok (.baload, 1) := by decide +kernel
theorem djdk_52_5_49 : decode jdk_52_method_5_code 49 = .ok (.sipush 255, 3) := by decide +kernel
theorem djdk_52_5_52 : decode jdk_52_method_5_code 52 = .ok (.iand, 1) := by decide +kernel
theorem djdk_52_5_53 : decode jdk_52_method_5_code 53 = .ok (.getstatic 63, 3) := by decide +kernel
theorem djdk_52_5_56 : decode jdk_52_method_5_code 56 = .ok (.ishl, 1) := by decide +kernel
theorem djdk_52_5_57 : decode jdk_52_method_5_code 57 = .ok (.ior, 1) := by decide +kernel
theorem djdk_52_5_58 : decode jdk_52_method_5_code 58 = .ok (.i2c, 1) := by decide +kernel
theorem djdk_52_5_59 : decode jdk_52_method_5_code 59 = .ok (.ireturn, 1) := by decide +kernel
theorem djdk_52_14_8 : decode jdk_52_method_14_code 8 = .ok (.iload 4, 2) := by decide +kernel
theorem djdk_52_14_10 : decode jdk_52_method_14_code 10 = .ok (.iload_n 2, 1) := by decide +kernel
theorem djdk_52_14_11 : decode jdk_52_method_14_code 11 = .ok (.if_icmp .ge 21, 3) := by decide +kernel
theorem djdk_52_14_32 : decode jdk_52_method_14_code 32 = .ok (.aload_n 3, 1) := by decide +kernel
theorem djdk_52_14_33 : decode jdk_52_method_14_code 33 = .ok (.areturn, 1) := by decide +kernel
theorem djdk_52_14_14 : decode jdk_52_method_14_code 14 = .ok (.aload_n 3, 1) := by decide +kernel
theorem djdk_52_14_15 : decode jdk_52_method_14_code 15 = .ok (.iload 4, 2) := by decide +kernel
theorem djdk_52_14_17 : decode jdk_52_method_14_code 17 = .ok (.aload_n 0, 1) := by decide +kernel
theorem djdk_52_14_18 : decode jdk_52_method_14_code 18 = .ok (.iload_n 1, 1) := by decide +kernel
theorem djdk_52_14_19 : decode jdk_52_method_14_code 19 = .ok (.caload, 1) := by decide +kernel
theorem djdk_52_14_20 : decode jdk_52_method_14_code 20 = .ok (.invokestatic 111, 3) := by decide +kernel
theorem djdk_52_14_23 : decode jdk_52_method_14_code 23 = .ok (.iinc 1 1, 3) := by decide +kernel
theorem djdk_52_14_26 : decode jdk_52_method_14_code 26 = .ok (.iinc 4 1, 3) := by decide +kernel
theorem djdk_52_14_29 : decode jdk_52_method_14_code 29 = .ok (.goto (-21), 3) := by decide +kernel
theorem djdk_52_14_0 : decode jdk_52_method_14_code 0 = .ok (.iload_n 2, 1) := by decide +kernel
theorem djdk_52_14_1 : decode jdk_52_method_14_code 1 = .ok (.invokestatic 107, 3) := by decide +kernel
theorem djdk_52_14_4 : decode jdk_52_method_14_code 4 = .ok (.astore_n 3, 1) := by decide +kernel
theorem djdk_52_14_5 : decode jdk_52_method_14_code 5 = .ok (.iconst 0, 1) := by decide +kernel
theorem djdk_52_14_6 : decode jdk_52_method_14_code 6 = .ok (.istore 4, 2) := by decide +kernel
theorem djdk_52_21_3 : decode jdk_52_method_21_code 3 = .ok (.iload 5, 2) := by decide +kernel
theorem djdk_52_21_5 : decode jdk_52_method_21_code 5 = .ok (.iload 4, 2) := by decide +kernel
theorem djdk_52_21_7 : decode jdk_52_method_21_code 7 = .ok (.if_icmp .ge 37, 3) := by decide +kernel
theorem djdk_52_21_44 : decode jdk_52_method_21_code 44 = .ok (.iload 4, 2) := by decide +kernel
theorem djdk_52_21_46 : decode jdk_52_method_21_code 46 = .ok (.ireturn, 1) := by decide +kernel
theorem djdk_52_21_10 : decode jdk_52_method_21_code 10 = .ok (.aload_n 0, 1) := by decide +kernel
theorem djdk_52_21_11 : decode jdk_52_method_21_code 11 = .ok (.iload_n 1, 1) := by decide +kernel
theorem djdk_52_21_12 : decode jdk_52_method_21_code 12 = .ok (.caload, 1) := by decide +kernel
theorem djdk_52_21_13 : decode jdk_52_method_21_code 13 = .ok (.istore 6, 2) := by decide +kernel
theorem djdk_52_21_15 : decode jdk_52_method_21_code 15 = .ok (.iload 6, 2) := by decide +kernel
theorem djdk_52_21_17 : decode jdk_52_method_21_code 17 = .ok (.sipush 255, 3) := by decide +kernel
theorem djdk_52_21_20 : decode jdk_52_method_21_code 20 = .ok (.if_icmp .le 6, 3) := by decide +kernel
theorem djdk_52_21_26 : decode jdk_52_method_21_code 26 = .ok (.aload_n 2, 1) := by decide +kernel
theorem djdk_52_21_27 : decode jdk_52_method_21_code 27 = .ok (.iload_n 3, 1) := by decide +kernel
theorem djdk_52_21_28 : decode jdk_52_method_21_code 28 = .ok (.iload 6, 2) := by decide +kernel
theorem djdk_52_21_30 : decode jdk_52_method_21_code 30 = .ok (.i2b, 1) := by decide +kernel
theorem djdk_52_21_31 : decode jdk_52_method_21_code 31 = .ok (.bastore, 1) := by decide +kernel
theorem djdk_52_21_32 : decode jdk_52_method_21_code 32 = .ok (.iinc 1 1, 3) := by decide +kernel
theorem djdk_52_21_35 : decode jdk_52_method_21_code 35 = .ok (.iinc 3 1, 3) := by decide +kernel
theorem djdk_52_21_38 : decode jdk_52_method_21_code 38 = .ok (.iinc 5 1, 3) := by decide +kernel
theorem djdk_52_21_41 : decode jdk_52_method_21_code 41 = .ok (.goto (-38), 3) := by decide +kernel
theorem djdk_52_21_0 : decode jdk_52_method_21_code 0 = .ok (.iconst 0, 1) := by decide +kernel
theorem djdk_52_21_1 : decode jdk_52_method_21_code 1 = .ok (.istore 5, 2) := by decide +kernel
theorem djdk_52_21_23 : decode jdk_52_method_21_code 23 = .ok (.iload 5, 2) := by decide +kernel
theorem djdk_52_21_25 : decode jdk_52_method_21_code 25 = .ok (.ireturn, 1) := by decide +kernel
theorem djdk_52_16_0 : decode jdk_52_method_16_code 0 = .ok (.iload_n 2, 1) := by decide +kernel
theorem djdk_52_16_1 : decode jdk_52_method_16_code 1 = .ok (.newarray .byte, 2) := by decide +kernel
theorem djdk_52_16_3 : decode jdk_52_method_16_code 3 = .ok (.astore_n 3, 1) := by decide +kernel
theorem djdk_52_16_4 : decode jdk_52_method_16_code 4 = .ok (.aload_n 0, 1) := by decide +kernel
theorem djdk_52_16_5 : decode jdk_52_method_16_code 5 = .ok (.iload_n 1, 1) := by decide +kernel
theorem djdk_52_16_6 : decode jdk_52_method_16_code 6 = .ok (.aload_n 3, 1) := by decide +kernel
theorem djdk_52_16_7 : decode jdk_52_method_16_code 7 = .ok (.iconst 0, 1) := by decide +kernel
theorem djdk_52_16_8 : decode jdk_52_method_16_code 8 = .ok (.iload_n 2, 1) := by decide +kernel
theorem djdk_52_16_9 : decode jdk_52_method_16_code 9 = .ok (.invokestatic 115, 3) := by decide +kernel
theorem djdk_52_16_12 : decode jdk_52_method_16_code 12 = .ok (.istore 4, 2) := by decide +kernel
theorem djdk_52_16_14 : decode jdk_52_method_16_code 14 = .ok (.iload 4, 2) := by decide +kernel
theorem djdk_52_16_16 : decode jdk_52_method_16_code 16 = .ok (.iload_n 2, 1) := by decide +kernel
theorem djdk_52_16_17 : decode jdk_52_method_16_code 17 = .ok (.if_icmp .eq 40, 3) := by decide +kernel
theorem djdk_52_16_57 : decode jdk_52_method_16_code 57 = .ok (.aload_n 3, 1) := by decide +kernel
theorem djdk_52_16_58 : decode jdk_52_method_16_code 58 = .ok (.areturn, 1) := by decide +kernel
theorem djdk_52_16_20 : decode jdk_52_method_16_code 20 = .ok (.aload_n 0, 1) := by decide +kernel
theorem djdk_52_16_21 : decode jdk_52_method_16_code 21 = .ok (.iload_n 1, 1) := by decide +kernel
theorem djdk_52_16_22 : decode jdk_52_method_16_code 22 = .ok (.iload_n 2, 1) := by decide +kernel
theorem djdk_52_16_23 : decode jdk_52_method_16_code 23 = .ok (.invokestatic 119, 3) := by decide +kernel
theorem djdk_52_16_26 : decode jdk_52_method_16_code 26 = .ok (.astore 5, 2) := by decide +kernel
theorem djdk_52_16_28 : decode jdk_52_method_16_code 28 = .ok (.aload 5, 2) := by decide +kernel
theorem djdk_52_16_30 : decode jdk_52_method_16_code 30 = .ok (.iload 4, 2) := by decide +kernel
theorem djdk_52_16_32 : decode jdk_52_method_16_code 32 = .ok (.invokestatic 71, 3) := by decide +kernel
theorem djdk_52_16_35 : decode jdk_52_method_16_code 35 = .ok (.sipush 255, 3) := by decide +kernel
theorem djdk_52_16_38 : decode jdk_52_method_16_code 38 = .ok (.if_icmp .gt 16, 3) := by decide +kernel
theorem djdk_52_16_54 : decode jdk_52_method_16_code 54 = .ok (.aload 5, 2) := by decide +kernel
theorem djdk_52_16_56 : decode jdk_52_method_16_code 56 = .ok (.areturn, 1) := by decide +kernel
theorem djdk_52_15_0 : decode jdk_52_method_15_code 0 = .ok (.iload_n 1, 1) := by decide +kernel
theorem djdk_52_15_1 : decode jdk_52_method_15_code 1 = .ok (.aload_n 0, 1) := by decide +kernel
theorem djdk_52_15_2 : decode jdk_52_method_15_code 2 = .ok (.arraylength, 1) := by decide +kernel
theorem djdk_52_15_3 : decode jdk_52_method_15_code 3 = .ok (.isub, 1) := by decide +kernel
theorem djdk_52_15_4 : decode jdk_52_method_15_code 4 = .ok (.bipush 31, 2) := by decide +kernel
theorem djdk_52_15_6 : decode jdk_52_method_15_code 6 = .ok (.iushr, 1) := by decide +kernel
theorem djdk_52_15_7 : decode jdk_52_method_15_code 7 = .ok (.i2b, 1) := by decide +kernel
theorem djdk_52_15_8 : decode jdk_52_method_15_code 8 = .ok (.ireturn, 1) := by decide +kernel
theorem djdk_42_149_0 : decode jdk_42_method_149_code 0 = .ok (.aload_n 0, 1) := by decide +kernel
theorem djdk_42_149_1 : decode jdk_42_method_149_code 1 = .ok (.invokespecial 1, 3) := by decide +kernel
theorem djdk_42_149_4 : decode jdk_42_method_149_code 4 = .ok (.iload_n 3, 1) := by decide +kernel
theorem djdk_42_149_5 : decode jdk_42_method_149_code 5 = .ok (.ifCond .ne 22, 3) := by decide +kernel
theorem djdk_42_149_27 : decode jdk_42_method_149_code 27 = .ok (.getstatic 38, 3) := by decide +kernel
theorem djdk_42_149_30 : decode jdk_42_method_149_code 30 = .ok (.ifCond .eq 28, 3) := by decide +kernel
theorem djdk_42_149_33 : decode jdk_42_method_149_code 33 = .ok (.aload_n 1, 1) := by decide +kernel
theorem djdk_42_149_34 : decode jdk_42_method_149_code 34 = .ok (.iload_n 2, 1) := by decide +kernel
theorem djdk_42_149_35 : decode jdk_42_method_149_code 35 = .ok (.iload_n 3, 1) := by decide +kernel
theorem djdk_42_149_36 : decode jdk_42_method_149_code 36 = .ok (.invokestatic 177, 3) := by decide +kernel
theorem djdk_42_149_39 : decode jdk_42_method_149_code 39 = .ok (.astore 5, 2) := by decide +kernel
theorem djdk_42_149_41 : decode jdk_42_method_149_code 41 = .ok (.aload_n 0, 1) := by decide +kernel
theorem djdk_42_149_42 : decode jdk_42_method_149_code 42 = .ok (.aload 5, 2) := by decide +kernel
theorem djdk_42_149_44 : decode jdk_42_method_149_code 44 = .ok (.iload_n 3, 1) := by decide +kernel
theorem djdk_42_149_45 : decode jdk_42_method_149_code 45 = .ok (.invokestatic 47, 3) := by decide +kernel
theorem djdk_42_149_48 : decode jdk_42_method_149_code 48 = .ok (.putfield 15, 3) := by decide +kernel
theorem djdk_42_149_51 : decode jdk_42_method_149_code 51 = .ok (.aload_n 0, 1) := by decide +kernel
theorem djdk_42_149_52 : decode jdk_42_method_149_code 52 = .ok (.aload 5, 2) := by decide +kernel
theorem djdk_42_149_54 : decode jdk_42_method_149_code 54 = .ok (.putfield 9, 3) := by decide +kernel
theorem djdk_42_149_57 : decode jdk_42_method_149_code 57 = .ok (.return_, 1) := by decide +kernel
theorem djdk_42_3_0 : decode jdk_42_method_3_code 0 = .ok (.aload_n 0, 1) := by decide +kernel
theorem djdk_42_3_1 : decode jdk_42_method_3_code 1 = .ok (.aload_n 1, 1) := by decide +kernel
theorem djdk_42_3_2 : decode jdk_42_method_3_code 2 = .ok (.iconst 0, 1) := by decide +kernel
theorem djdk_42_3_3 : decode jdk_42_method_3_code 3 = .ok (.aload_n 1, 1) := by decide +kernel
theorem djdk_42_3_4 : decode jdk_42_method_3_code 4 = .ok (.arraylength, 1) := by decide +kernel
theorem djdk_42_3_5 : decode jdk_42_method_3_code 5 = .ok (.aconst_null, 1) := by decide +kernel
theorem djdk_42_3_6 : decode jdk_42_method_3_code 6 = .ok (.invokespecial 27, 3) := by decide +kernel
theorem djdk_42_3_9 : decode jdk_42_method_3_code 9 = .ok (.return_, 1) := by decide +kernel
theorem djdk_42_154_0 : decode jdk_42_method_154_code 0 = .ok (.getstatic 38, 3) := by decide +kernel
theorem djdk_42_154_3 : decode jdk_42_method_154_code 3 = .ok (.ifCond .eq 14, 3) := by decide +kernel
theorem djdk_42_154_6 : decode jdk_42_method_154_code 6 = .ok (.aload_n 0, 1) := by decide +kernel
theorem djdk_42_154_7 : decode jdk_42_method_154_code 7 = .ok (.getfield 15, 3) := by decide +kernel
theorem djdk_42_154_10 : decode jdk_42_method_154_code 10 = .ok (.ifCond .ne 7, 3) := by decide +kernel
theorem djdk_42_154_13 : decode jdk_42_method_154_code 13 = .ok (.iconst 1, 1) := by decide +kernel
theorem djdk_42_154_14 : decode jdk_42_method_154_code 14 = .ok (.goto 4, 3) := by decide +kernel
theorem djdk_42_154_18 : decode jdk_42_method_154_code 18 = .ok (.ireturn, 1) := by decide +kernel
theorem djdk_42_154_17 : decode jdk_42_method_154_code 17 = .ok (.iconst 0, 1) := by decide +kernel
theorem djdk_42_152_0 : decode jdk_42_method_152_code 0 = .ok (.getstatic 38, 3) := by decide +kernel
theorem djdk_42_152_3 : decode jdk_42_method_152_code 3 = .ok (.ifCond .eq 10, 3) := by decide +kernel
theorem djdk_42_152_6 : decode jdk_42_method_152_code 6 = .ok (.aload_n 0, 1) := by decide +kernel
theorem djdk_42_152_7 : decode jdk_42_method_152_code 7 = .ok (.getfield 15, 3) := by decide +kernel
theorem djdk_42_152_10 : decode jdk_42_method_152_code 10 = .ok (.goto 4, 3) := by decide +kernel
theorem djdk_42_152_14 : decode jdk_42_method_152_code 14 = .ok (.ireturn, 1) := by decide +kernel
theorem djdk_42_54_0 : decode jdk_42_method_54_code 0 = .ok (.aload_n 0, 1) := by decide +kernel
theorem djdk_42_54_1 : decode jdk_42_method_54_code 1 = .ok (.getfield 9, 3) := by decide +kernel
theorem djdk_42_54_4 : decode jdk_42_method_54_code 4 = .ok (.arraylength, 1) := by decide +kernel
theorem djdk_42_54_5 : decode jdk_42_method_54_code 5 = .ok (.aload_n 0, 1) := by decide +kernel
theorem djdk_42_54_6 : decode jdk_42_method_54_code 6 = .ok (.invokevirtual 335, 3) := by decide +kernel
theorem djdk_42_54_9 : decode jdk_42_method_54_code 9 = .ok (.ishr, 1) := by decide +kernel
theorem djdk_42_54_10 : decode jdk_42_method_54_code 10 = .ok (.ireturn, 1) := by decide +kernel
theorem djdk_41_11_0 : decode jdk_41_method_11_code 0 = .ok (.iload_n 0, 1) := by decide +kernel
theorem djdk_41_11_1 : decode jdk_41_method_11_code 1 = .ok (.ifCond .lt 8, 3) := by decide +kernel
theorem djdk_41_11_4 : decode jdk_41_method_11_code 4 = .ok (.iload_n 0, 1) := by decide +kernel
theorem djdk_41_11_5 : decode jdk_41_method_11_code 5 = .ok (.iload_n 1, 1) := by decide +kernel
theorem djdk_41_11_6 : decode jdk_41_method_11_code 6 = .ok (.if_icmp .lt 10, 3) := by decide +kernel
theorem djdk_41_11_16 : decode jdk_41_method_11_code 16 = .ok (.iload_n 0, 1) := by decide +kernel
theorem djdk_41_11_17 : decode jdk_41_method_11_code 17 = .ok (.ireturn, 1) := by decide +kernel
theorem djdk_42_155_0 : decode jdk_42_method_155_code 0 = .ok (.iload_n 0, 1) := by decide +kernel
theorem djdk_42_155_1 : decode jdk_42_method_155_code 1 = .ok (.iload_n 1, 1) := by decide +kernel
theorem djdk_42_155_2 : decode jdk_42_method_155_code 2 = .ok (.getstatic 1053, 3) := by decide +kernel
theorem djdk_42_155_5 : decode jdk_42_method_155_code 5 = .ok (.invokestatic 1059, 3) := by decide +kernel
theorem djdk_42_155_8 : decode jdk_42_method_155_code 8 = .ok (.pop, 1) := by decide +kernel
theorem djdk_42_155_9 : decode jdk_42_method_155_code 9 = .ok (.return_, 1) := by decide +kernel
theorem djdk_43_2_0 : decode jdk_43_method_2_code 0 = .ok (.iload_n 1, 1) := by decide +kernel
theorem djdk_43_2_1 : decode jdk_43_method_2_code 1 = .ok (.aload_n 0, 1) := by decide +kernel
theorem djdk_43_2_2 : decode jdk_43_method_2_code 2 = .ok (.arraylength, 1) := by decide +kernel
theorem djdk_43_2_3 : decode jdk_43_method_2_code 3 = .ok (.invokestatic 9, 3) := by decide +kernel
theorem djdk_43_2_6 : decode jdk_43_method_2_code 6 = .ok (.aload_n 0, 1) := by decide +kernel
theorem djdk_43_2_7 : decode jdk_43_method_2_code 7 = .ok (.iload_n 1, 1) := by decide +kernel
theorem djdk_43_2_8 : decode jdk_43_method_2_code 8 = .ok (.baload, 1) := by decide +kernel
theorem djdk_43_2_9 : decode jdk_43_method_2_code 9 = .ok (.sipush 255, 3) := by decide +kernel
theorem djdk_43_2_12 : decode jdk_43_method_2_code 12 = .ok (.iand, 1) := by decide +kernel
theorem djdk_43_2_13 : decode jdk_43_method_2_code 13 = .ok (.i2c, 1) := by decide +kernel
theorem djdk_43_2_14 : decode jdk_43_method_2_code 14 = .ok (.ireturn, 1) := by decide +kernel
theorem djdk_52_6_0 : decode jdk_52_method_6_code 0 = .ok (.aload_n 0, 1) := by decide +kernel
theorem djdk_52_6_1 : decode jdk_52_method_6_code 1 = .ok (.arraylength, 1) := by decide +kernel
theorem djdk_52_6_2 : decode jdk_52_method_6_code 2 = .ok (.iconst 1, 1) := by decide +kernel
theorem djdk_52_6_3 : decode jdk_52_method_6_code 3 = .ok (.ishr, 1) := by decide +kernel
theorem djdk_52_6_4 : decode jdk_52_method_6_code 4 = .ok (.ireturn, 1) := by decide +kernel
theorem djdk_52_91_0 : decode jdk_52_method_91_code 0 = .ok (.iload_n 0, 1) := by decide +kernel
theorem djdk_52_91_1 : decode jdk_52_method_91_code 1 = .ok (.aload_n 1, 1) := by decide +kernel
theorem djdk_52_91_2 : decode jdk_52_method_91_code 2 = .ok (.invokestatic 48, 3) := by decide +kernel
theorem djdk_52_91_5 : decode jdk_52_method_91_code 5 = .ok (.invokestatic 414, 3) := by decide +kernel
theorem djdk_52_91_8 : decode jdk_52_method_91_code 8 = .ok (.return_, 1) := by decide +kernel
theorem djdk_52_83_0 : decode jdk_52_method_83_code 0 = .ok (.iload_n 1, 1) := by decide +kernel
theorem djdk_52_83_1 : decode jdk_52_method_83_code 1 = .ok (.aload_n 0, 1) := by decide +kernel
theorem djdk_52_83_2 : decode jdk_52_method_83_code 2 = .ok (.invokestatic 67, 3) := by decide +kernel
theorem djdk_52_83_5 : decode jdk_52_method_83_code 5 = .ok (.aload_n 0, 1) := by decide +kernel
theorem djdk_52_83_6 : decode jdk_52_method_83_code 6 = .ok (.iload_n 1, 1) := by decide +kernel
theorem djdk_52_83_7 : decode jdk_52_method_83_code 7 = .ok (.invokestatic 71, 3) := by decide +kernel
theorem djdk_52_83_10 : decode jdk_52_method_83_code 10 = .ok (.ireturn, 1) := by decide +kernel
theorem djdk_42_56_0 : decode jdk_42_method_56_code 0 = .ok (.aload_n 0, 1) := by decide +kernel
theorem djdk_42_56_1 : decode jdk_42_method_56_code 1 = .ok (.invokevirtual 492, 3) := by decide +kernel
theorem djdk_42_56_4 : decode jdk_42_method_56_code 4 = .ok (.ifCond .eq 12, 3) := by decide +kernel
theorem djdk_42_56_7 : decode jdk_42_method_56_code 7 = .ok (.aload_n 0, 1) := by decide +kernel
theorem djdk_42_56_8 : decode jdk_42_method_56_code 8 = .ok (.getfield 9, 3) := by decide +kernel
theorem djdk_42_56_11 : decode jdk_42_method_56_code 11 = .ok (.iload_n 1, 1) := by decide +kernel
theorem djdk_42_56_12 : decode jdk_42_method_56_code 12 = .ok (.invokestatic 495, 3) := by decide +kernel
theorem djdk_42_56_15 : decode jdk_42_method_56_code 15 = .ok (.ireturn, 1) := by decide +kernel
theorem djdk_42_56_16 : decode jdk_42_method_56_code 16 = .ok (.aload_n 0, 1) := by decide +kernel
theorem djdk_42_56_17 : decode jdk_42_method_56_code 17 = .ok (.getfield 9, 3) := by decide +kernel
theorem djdk_42_56_20 : decode jdk_42_method_56_code 20 = .ok (.iload_n 1, 1) := by decide +kernel
theorem djdk_42_56_21 : decode jdk_42_method_56_code 21 = .ok (.invokestatic 498, 3) := by decide +kernel
theorem djdk_42_56_24 : decode jdk_42_method_56_code 24 = .ok (.ireturn, 1) := by decide +kernel
theorem djdk_68_2_0 : decode jdk_68_method_2_code 0 = .ok (.aload_n 0, 1) := by decide +kernel
theorem djdk_68_2_1 : decode jdk_68_method_2_code 1 = .ok (.invokespecial 3, 3) := by decide +kernel
theorem djdk_68_2_4 : decode jdk_68_method_2_code 4 = .ok (.getstatic 18, 3) := by decide +kernel
theorem djdk_68_2_7 : decode jdk_68_method_2_code 7 = .ok (.ifCond .eq 18, 3) := by decide +kernel
theorem djdk_68_2_10 : decode jdk_68_method_2_code 10 = .ok (.aload_n 0, 1) := by decide +kernel
theorem djdk_68_2_11 : decode jdk_68_method_2_code 11 = .ok (.iload_n 1, 1) := by decide +kernel
theorem djdk_68_2_12 : decode jdk_68_method_2_code 12 = .ok (.newarray .byte, 2) := by decide +kernel
theorem djdk_68_2_14 : decode jdk_68_method_2_code 14 = .ok (.putfield 15, 3) := by decide +kernel
theorem djdk_68_2_17 : decode jdk_68_method_2_code 17 = .ok (.aload_n 0, 1) := by decide +kernel
theorem djdk_68_2_18 : decode jdk_68_method_2_code 18 = .ok (.iconst 0, 1) := by decide +kernel
theorem djdk_68_2_19 : decode jdk_68_method_2_code 19 = .ok (.putfield 22, 3) := by decide +kernel
theorem djdk_68_2_22 : decode jdk_68_method_2_code 22 = .ok (.goto 16, 3) := by decide +kernel
theorem djdk_68_2_38 : decode jdk_68_method_2_code 38 = .ok (.return_, 1) := by decide +kernel
theorem djdk_67_2_0 : decode jdk_67_method_2_code 0 = .ok (.aload_n 0, 1) := by decide +kernel
theorem djdk_67_2_1 : decode jdk_67_method_2_code 1 = .ok (.iload_n 1, 1) := by decide +kernel
theorem djdk_67_2_2 : decode jdk_67_method_2_code 2 = .ok (.invokespecial 1, 3) := by decide +kernel
theorem djdk_67_2_5 : decode jdk_67_method_2_code 5 = .ok (.return_, 1) := by decide +kernel
theorem djdk_68_68_0 : decode jdk_68_method_68_code 0 = .ok (.getstatic 18, 3) := by decide +kernel
theorem djdk_68_68_3 : decode jdk_68_method_68_code 3 = .ok (.ifCond .eq 14, 3) := by decide +kernel
theorem djdk_68_68_6 : decode jdk_68_method_68_code 6 = .ok (.aload_n 0, 1) := by decide +kernel
theorem djdk_68_68_7 : decode jdk_68_method_68_code 7 = .ok (.getfield 22, 3) := by decide +kernel
theorem djdk_68_68_10 : decode jdk_68_method_68_code 10 = .ok (.ifCond .ne 7, 3) := by decide +kernel
theorem djdk_68_68_13 : decode jdk_68_method_68_code 13 = .ok (.iconst 1, 1) := by decide +kernel
theorem djdk_68_68_14 : decode jdk_68_method_68_code 14 = .ok (.goto 4, 3) := by decide +kernel
theorem djdk_68_68_18 : decode jdk_68_method_68_code 18 = .ok (.ireturn, 1) := by decide +kernel
theorem djdk_68_68_17 : decode jdk_68_method_68_code 17 = .ok (.iconst 0, 1) := by decide +kernel
theorem djdk_68_64_0 : decode jdk_68_method_64_code 0 = .ok (.aload_n 0, 1) := by decide +kernel
theorem djdk_68_64_1 : decode jdk_68_method_64_code 1 = .ok (.getfield 15, 3) := by decide +kernel
theorem djdk_68_64_4 : decode jdk_68_method_64_code 4 = .ok (.areturn, 1) := by decide +kernel
theorem djdk_68_6_0 : decode jdk_68_method_6_code 0 = .ok (.aload_n 0, 1) := by decide +kernel
theorem djdk_68_6_1 : decode jdk_68_method_6_code 1 = .ok (.getfield 79, 3) := by decide +kernel
theorem djdk_68_6_4 : decode jdk_68_method_6_code 4 = .ok (.ireturn, 1) := by decide +kernel
theorem djdk_67_93_0 : decode jdk_67_method_93_code 0 = .ok (.aload_n 0, 1) := by decide +kernel
theorem djdk_67_93_1 : decode jdk_67_method_93_code 1 = .ok (.invokespecial 343, 3) := by decide +kernel
theorem djdk_67_93_4 : decode jdk_67_method_93_code 4 = .ok (.ireturn, 1) := by decide +kernel
theorem djdk_29_65_0 : decode jdk_29_method_65_code 0 = .ok (.iload_n 0, 1) := by decide +kernel
theorem djdk_29_65_1 : decode jdk_29_method_65_code 1 = .ok (.iload_n 1, 1) := by decide +kernel
theorem djdk_29_65_2 : decode jdk_29_method_65_code 2 = .ok (.if_icmp .lt 7, 3) := by decide +kernel
theorem djdk_29_65_9 : decode jdk_29_method_65_code 9 = .ok (.iload_n 1, 1) := by decide +kernel
theorem djdk_29_65_10 : decode jdk_29_method_65_code 10 = .ok (.ireturn, 1) := by decide +kernel
theorem djdk_29_69_0 : decode jdk_29_method_69_code 0 = .ok (.iload_n 0, 1) := by decide +kernel
theorem djdk_29_69_1 : decode jdk_29_method_69_code 1 = .ok (.iload_n 1, 1) := by decide +kernel
theorem djdk_29_69_2 : decode jdk_29_method_69_code 2 = .ok (.if_icmp .gt 7, 3) := by decide +kernel
theorem djdk_29_69_5 : decode jdk_29_method_69_code 5 = .ok (.iload_n 0, 1) := by decide +kernel
theorem djdk_29_69_6 : decode jdk_29_method_69_code 6 = .ok (.goto 4, 3) := by decide +kernel
theorem djdk_29_69_10 : decode jdk_29_method_69_code 10 = .ok (.ireturn, 1) := by decide +kernel
theorem djdk_29_69_9 : decode jdk_29_method_69_code 9 = .ok (.iload_n 1, 1) := by decide +kernel
theorem djdk_48_27_0 : decode jdk_48_method_27_code 0 = .ok (.iload_n 0, 1) := by decide +kernel
theorem djdk_48_27_1 : decode jdk_48_method_27_code 1 = .ok (.iload_n 1, 1) := by decide +kernel
theorem djdk_48_27_2 : decode jdk_48_method_27_code 2 = .ok (.iload_n 2, 1) := by decide +kernel
theorem djdk_48_27_3 : decode jdk_48_method_27_code 3 = .ok (.invokestatic 194, 3) := by decide +kernel
theorem djdk_48_27_6 : decode jdk_48_method_27_code 6 = .ok (.iadd, 1) := by decide +kernel
theorem djdk_48_27_7 : decode jdk_48_method_27_code 7 = .ok (.istore_n 3, 1) := by decide +kernel
theorem djdk_48_27_8 : decode jdk_48_method_27_code 8 = .ok (.iconst 0, 1) := by decide +kernel
theorem djdk_48_27_9 : decode jdk_48_method_27_code 9 = .ok (.iload_n 3, 1) := by decide +kernel
theorem djdk_48_27_10 : decode jdk_48_method_27_code 10 = .ok (.if_icmp .ge 11, 3) := by decide +kernel
theorem djdk_48_27_13 : decode jdk_48_method_27_code 13 = .ok (.iload_n 3, 1) := by decide +kernel
theorem djdk_48_27_14 : decode jdk_48_method_27_code 14 = .ok (.ldc 200, 2) := by decide +kernel
theorem djdk_48_27_16 : decode jdk_48_method_27_code 16 = .ok (.if_icmp .gt 5, 3) := by decide +kernel
theorem djdk_48_27_19 : decode jdk_48_method_27_code 19 = .ok (.iload_n 3, 1) := by decide +kernel
theorem djdk_48_27_20 : decode jdk_48_method_27_code 20 = .ok (.ireturn, 1) := by decide +kernel
theorem djdk_65_121_0 : decode jdk_65_method_121_code 0 = .ok (.iload_n 1, 1) := by decide +kernel
theorem djdk_65_121_1 : decode jdk_65_method_121_code 1 = .ok (.aload_n 0, 1) := by decide +kernel
theorem djdk_65_121_2 : decode jdk_65_method_121_code 2 = .ok (.arraylength, 1) := by decide +kernel
theorem djdk_65_121_3 : decode jdk_65_method_121_code 3 = .ok (.if_icmp .ne 11, 3) := by decide +kernel
theorem djdk_65_121_14 : decode jdk_65_method_121_code 14 = .ok (.iload_n 1, 1) := by decide +kernel
theorem djdk_65_121_15 : decode jdk_65_method_121_code 15 = .ok (.newarray .byte, 2) := by decide +kernel
theorem djdk_65_121_17 : decode jdk_65_method_121_code 17 = .ok (.astore_n 2, 1) := by decide +kernel
theorem djdk_65_121_18 : decode jdk_65_method_121_code 18 = .ok (.aload_n 0, 1) := by decide +kernel
theorem djdk_65_121_19 : decode jdk_65_method_121_code 19 = .ok (.iconst 0, 1) := by decide +kernel
theorem djdk_65_121_20 : decode jdk_65_method_121_code 20 = .ok (.aload_n 2, 1) := by decide +kernel
theorem djdk_65_121_21 : decode jdk_65_method_121_code 21 = .ok (.iconst 0, 1) := by decide +kernel
theorem djdk_65_121_22 : decode jdk_65_method_121_code 22 = .ok (.aload_n 0, 1) := by decide +kernel
theorem djdk_65_121_23 : decode jdk_65_method_121_code 23 = .ok (.arraylength, 1) := by decide +kernel
theorem djdk_65_121_24 : decode jdk_65_method_121_code 24 = .ok (.iload_n 1, 1) := by decide +kernel
theorem djdk_65_121_25 : decode jdk_65_method_121_code 25 = .ok (.invokestatic 304, 3) := by decide +kernel
theorem djdk_65_121_28 : decode jdk_65_method_121_code 28 = .ok (.invokestatic 150, 3) := by decide +kernel
theorem djdk_65_121_31 : decode jdk_65_method_121_code 31 = .ok (.aload_n 2, 1) := by decide +kernel
theorem djdk_65_121_32 : decode jdk_65_method_121_code 32 = .ok (.areturn, 1) := by decide +kernel
theorem djdk_68_10_0 : decode jdk_68_method_10_code 0 = .ok (.aload_n 0, 1) := by decide +kernel
theorem djdk_68_10_1 : decode jdk_68_method_10_code 1 = .ok (.getfield 15, 3) := by decide +kernel
theorem djdk_68_10_4 : decode jdk_68_method_10_code 4 = .ok (.arraylength, 1) := by decide +kernel
theorem djdk_68_10_5 : decode jdk_68_method_10_code 5 = .ok (.istore_n 2, 1) := by decide +kernel
theorem djdk_68_10_6 : decode jdk_68_method_10_code 6 = .ok (.iload_n 1, 1) := by decide +kernel
theorem djdk_68_10_7 : decode jdk_68_method_10_code 7 = .ok (.aload_n 0, 1) := by decide +kernel
theorem djdk_68_10_8 : decode jdk_68_method_10_code 8 = .ok (.getfield 22, 3) := by decide +kernel
theorem djdk_68_10_11 : decode jdk_68_method_10_code 11 = .ok (.ishl, 1) := by decide +kernel
theorem djdk_68_10_12 : decode jdk_68_method_10_code 12 = .ok (.istore_n 3, 1) := by decide +kernel
theorem djdk_68_10_13 : decode jdk_68_method_10_code 13 = .ok (.iload_n 3, 1) := by decide +kernel
theorem djdk_68_10_14 : decode jdk_68_method_10_code 14 = .ok (.iload_n 2, 1) := by decide +kernel
theorem djdk_68_10_15 : decode jdk_68_method_10_code 15 = .ok (.isub, 1) := by decide +kernel
theorem djdk_68_10_16 : decode jdk_68_method_10_code 16 = .ok (.istore 4, 2) := by decide +kernel
theorem djdk_68_10_18 : decode jdk_68_method_10_code 18 = .ok (.iload_n 2, 1) := by decide +kernel
theorem djdk_68_10_19 : decode jdk_68_method_10_code 19 = .ok (.iload 4, 2) := by decide +kernel
theorem djdk_68_10_21 : decode jdk_68_method_10_code 21 = .ok (.iload_n 2, 1) := by decide +kernel
theorem djdk_68_10_22 : decode jdk_68_method_10_code 22 = .ok (.iconst 2, 1) := by decide +kernel
theorem djdk_68_10_23 : decode jdk_68_method_10_code 23 = .ok (.aload_n 0, 1) := by decide +kernel
theorem djdk_68_10_24 : decode jdk_68_method_10_code 24 = .ok (.getfield 22, 3) := by decide +kernel
theorem djdk_68_10_27 : decode jdk_68_method_10_code 27 = .ok (.ishl, 1) := by decide +kernel
theorem djdk_68_10_28 : decode jdk_68_method_10_code 28 = .ok (.iadd, 1) := by decide +kernel
theorem djdk_68_10_29 : decode jdk_68_method_10_code 29 = .ok (.invokestatic 114, 3) := by decide +kernel
theorem djdk_68_10_32 : decode jdk_68_method_10_code 32 = .ok (.istore 5, 2) := by decide +kernel
theorem djdk_68_10_34 : decode jdk_68_method_10_code 34 = .ok (.iload 5, 2) := by decide +kernel
theorem djdk_68_10_36 : decode jdk_68_method_10_code 36 = .ok (.ldc 39, 2) := by decide +kernel
theorem djdk_68_10_38 : decode jdk_68_method_10_code 38 = .ok (.if_icmp .ne 13, 3) := by decide +kernel
theorem djdk_68_10_51 : decode jdk_68_method_10_code 51 = .ok (.iload 5, 2) := by decide +kernel
theorem djdk_68_10_53 : decode jdk_68_method_10_code 53 = .ok (.aload_n 0, 1) := by decide +kernel
theorem djdk_68_10_54 : decode jdk_68_method_10_code 54 = .ok (.getfield 22, 3) := by decide +kernel
theorem djdk_68_10_57 : decode jdk_68_method_10_code 57 = .ok (.ishr, 1) := by decide +kernel
theorem djdk_68_10_58 : decode jdk_68_method_10_code 58 = .ok (.ireturn, 1) := by decide +kernel
theorem djdk_68_9_0 : decode jdk_68_method_9_code 0 = .ok (.aload_n 0, 1) := by decide +kernel
theorem djdk_68_9_1 : decode jdk_68_method_9_code 1 = .ok (.getfield 15, 3) := by decide +kernel
theorem djdk_68_9_4 : decode jdk_68_method_9_code 4 = .ok (.arraylength, 1) := by decide +kernel
theorem djdk_68_9_5 : decode jdk_68_method_9_code 5 = .ok (.aload_n 0, 1) := by decide +kernel
theorem djdk_68_9_6 : decode jdk_68_method_9_code 6 = .ok (.getfield 22, 3) := by decide +kernel
theorem djdk_68_9_9 : decode jdk_68_method_9_code 9 = .ok (.ishr, 1) := by decide +kernel
theorem djdk_68_9_10 : decode jdk_68_method_9_code 10 = .ok (.istore_n 2, 1) := by decide +kernel
theorem djdk_68_9_11 : decode jdk_68_method_9_code 11 = .ok (.iload_n 1, 1) := by decide +kernel
theorem djdk_68_9_12 : decode jdk_68_method_9_code 12 = .ok (.iload_n 2, 1) := by decide +kernel
theorem djdk_68_9_13 : decode jdk_68_method_9_code 13 = .ok (.isub, 1) := by decide +kernel
theorem djdk_68_9_14 : decode jdk_68_method_9_code 14 = .ok (.ifCond .le 24, 3) := by decide +kernel
theorem djdk_68_9_38 : decode jdk_68_method_9_code 38 = .ok (.return_, 1) := by decide +kernel
theorem djdk_68_9_17 : decode jdk_68_method_9_code 17 = .ok (.aload_n 0, 1) := by decide +kernel
theorem djdk_68_9_18 : decode jdk_68_method_9_code 18 = .ok (.aload_n 0, 1) := by decide +kernel
theorem djdk_68_9_19 : decode jdk_68_method_9_code 19 = .ok (.getfield 15, 3) := by decide +kernel
theorem djdk_68_9_22 : decode jdk_68_method_9_code 22 = .ok (.aload_n 0, 1) := by decide +kernel
theorem djdk_68_9_23 : decode jdk_68_method_9_code 23 = .ok (.iload_n 1, 1) := by decide +kernel
theorem djdk_68_9_24 : decode jdk_68_method_9_code 24 = .ok (.invokevirtual 104, 3) := by decide +kernel
theorem djdk_68_9_27 : decode jdk_68_method_9_code 27 = .ok (.aload_n 0, 1) := by decide +kernel
theorem djdk_68_9_28 : decode jdk_68_method_9_code 28 = .ok (.getfield 22, 3) := by decide +kernel
theorem djdk_68_9_31 : decode jdk_68_method_9_code 31 = .ok (.ishl, 1) := by decide +kernel
theorem djdk_68_9_32 : decode jdk_68_method_9_code 32 = .ok (.invokestatic 108, 3) := by decide +kernel
theorem djdk_68_9_35 : decode jdk_68_method_9_code 35 = .ok (.putfield 15, 3) := by decide +kernel
theorem djdk_43_3_0 : decode jdk_43_method_3_code 0 = .ok (.iload_n 0, 1) := by decide +kernel
theorem djdk_43_3_1 : decode jdk_43_method_3_code 1 = .ok (.sipush 255, 3) := by decide +kernel
theorem djdk_43_3_4 : decode jdk_43_method_3_code 4 = .ok (.if_icmp .gt 7, 3) := by decide +kernel
theorem djdk_43_3_11 : decode jdk_43_method_3_code 11 = .ok (.iconst 0, 1) := by decide +kernel
theorem djdk_43_3_12 : decode jdk_43_method_3_code 12 = .ok (.ireturn, 1) := by decide +kernel
theorem djdk_43_3_7 : decode jdk_43_method_3_code 7 = .ok (.iconst 1, 1) := by decide +kernel
theorem djdk_43_3_8 : decode jdk_43_method_3_code 8 = .ok (.goto 4, 3) := by decide +kernel
theorem djdk_41_13_0 : decode jdk_41_method_13_code 0 = .ok (.iload_n 2, 1) := by decide +kernel
theorem djdk_41_13_1 : decode jdk_41_method_13_code 1 = .ok (.iload_n 0, 1) := by decide +kernel
theorem djdk_41_13_2 : decode jdk_41_method_13_code 2 = .ok (.ior, 1) := by decide +kernel
theorem djdk_41_13_3 : decode jdk_41_method_13_code 3 = .ok (.iload_n 1, 1) := by decide +kernel
theorem djdk_41_13_4 : decode jdk_41_method_13_code 4 = .ok (.ior, 1) := by decide +kernel
theorem djdk_41_13_5 : decode jdk_41_method_13_code 5 = .ok (.ifCond .lt 10, 3) := by decide +kernel
theorem djdk_41_13_8 : decode jdk_41_method_13_code 8 = .ok (.iload_n 1, 1) := by decide +kernel
theorem djdk_41_13_9 : decode jdk_41_method_13_code 9 = .ok (.iload_n 2, 1) := by decide +kernel
theorem djdk_41_13_10 : decode jdk_41_method_13_code 10 = .ok (.iload_n 0, 1) := by decide +kernel
theorem djdk_41_13_11 : decode jdk_41_method_13_code 11 = .ok (.isub, 1) := by decide +kernel
theorem djdk_41_13_12 : decode jdk_41_method_13_code 12 = .ok (.if_icmp .le 11, 3) := by decide +kernel
theorem djdk_41_13_23 : decode jdk_41_method_13_code 23 = .ok (.iload_n 0, 1) := by decide +kernel
theorem djdk_41_13_24 : decode jdk_41_method_13_code 24 = .ok (.ireturn, 1) := by decide +kernel
theorem djdk_42_157_0 : decode jdk_42_method_157_code 0 = .ok (.iload_n 0, 1) := by decide +kernel
theorem djdk_42_157_1 : decode jdk_42_method_157_code 1 = .ok (.iload_n 1, 1) := by decide +kernel
theorem djdk_42_157_2 : decode jdk_42_method_157_code 2 = .ok (.iload_n 2, 1) := by decide +kernel
theorem djdk_42_157_3 : decode jdk_42_method_157_code 3 = .ok (.getstatic 1053, 3) := by decide +kernel
theorem djdk_42_157_6 : decode jdk_42_method_157_code 6 = .ok (.invokestatic 1065, 3) := by decide +kernel
theorem djdk_42_157_9 : decode jdk_42_method_157_code 9 = .ok (.ireturn, 1) := by decide +kernel
theorem djdk_52_94_0 : decode jdk_52_method_94_code 0 = .ok (.iload_n 0, 1) := by decide +kernel
theorem djdk_52_94_1 : decode jdk_52_method_94_code 1 = .ok (.iload_n 1, 1) := by decide +kernel
theorem djdk_52_94_2 : decode jdk_52_method_94_code 2 = .ok (.aload_n 2, 1) := by decide +kernel
theorem djdk_52_94_3 : decode jdk_52_method_94_code 3 = .ok (.invokestatic 48, 3) := by decide +kernel
theorem djdk_52_94_6 : decode jdk_52_method_94_code 6 = .ok (.invokestatic 419, 3) := by decide +kernel
theorem djdk_52_94_9 : decode jdk_52_method_94_code 9 = .ok (.pop, 1) := by decide +kernel
theorem djdk_52_94_10 : decode jdk_52_method_94_code 10 = .ok (.return_, 1) := by decide +kernel
theorem djdk_52_86_10 : decode jdk_52_method_86_code 10 = .ok (.iload 5, 2) := by decide +kernel
theorem djdk_52_86_12 : decode jdk_52_method_86_code 12 = .ok (.iload 4, 2) := by decide +kernel
theorem djdk_52_86_14 : decode jdk_52_method_86_code 14 = .ok (.if_icmp .ge 27, 3) := by decide +kernel
theorem djdk_52_86_41 : decode jdk_52_method_86_code 41 = .ok (.return_, 1) := by decide +kernel
theorem djdk_52_86_17 : decode jdk_52_method_86_code 17 = .ok (.aload_n 2, 1) := by decide +kernel
theorem djdk_52_86_18 : decode jdk_52_method_86_code 18 = .ok (.iload_n 3, 1) := by decide +kernel
theorem djdk_52_86_19 : decode jdk_52_method_86_code 19 = .ok (.iinc 3 1, 3) := by decide +kernel
theorem djdk_52_86_22 : decode jdk_52_method_86_code 22 = .ok (.aload_n 0, 1) := by decide +kernel
theorem djdk_52_86_23 : decode jdk_52_method_86_code 23 = .ok (.iload_n 1, 1) := by decide +kernel
theorem djdk_52_86_24 : decode jdk_52_method_86_code 24 = .ok (.iinc 1 1, 3) := by decide +kernel
theorem djdk_52_86_27 : decode jdk_52_method_86_code 27 = .ok (.baload, 1) := by decide +kernel
theorem djdk_52_86_28 : decode jdk_52_method_86_code 28 = .ok (.sipush 255, 3) := by decide +kernel
theorem djdk_52_86_31 : decode jdk_52_method_86_code 31 = .ok (.iand, 1) := by decide +kernel
theorem djdk_52_86_32 : decode jdk_52_method_86_code 32 = .ok (.invokestatic 111, 3) := by decide +kernel
theorem djdk_52_86_35 : decode jdk_52_method_86_code 35 = .ok (.iinc 5 1, 3) := by decide +kernel
theorem djdk_52_86_38 : decode jdk_52_method_86_code 38 = .ok (.goto (-28), 3) := by decide +kernel
theorem djdk_52_86_0 : decode jdk_52_method_86_code 0 = .ok (.iload_n 3, 1) := by decide +kernel
theorem djdk_52_86_1 : decode jdk_52_method_86_code 1 = .ok (.iload 4, 2) := by decide +kernel
theorem djdk_52_86_3 : decode jdk_52_method_86_code 3 = .ok (.aload_n 2, 1) := by decide +kernel
theorem djdk_52_86_4 : decode jdk_52_method_86_code 4 = .ok (.invokestatic 173, 3) := by decide +kernel
theorem djdk_52_86_7 : decode jdk_52_method_86_code 7 = .ok (.iconst 0, 1) := by decide +kernel
theorem djdk_52_86_8 : decode jdk_52_method_86_code 8 = .ok (.istore 5, 2) := by decide +kernel
theorem djdk_43_50_0 : decode jdk_43_method_50_code 0 = .ok (.aload_n 0, 1) := by decide +kernel
theorem djdk_43_50_1 : decode jdk_43_method_50_code 1 = .ok (.iload_n 1, 1) := by decide +kernel
theorem djdk_43_50_2 : decode jdk_43_method_50_code 2 = .ok (.aload_n 2, 1) := by decide +kernel
theorem djdk_43_50_3 : decode jdk_43_method_50_code 3 = .ok (.iload_n 3, 1) := by decide +kernel
theorem djdk_43_50_4 : decode jdk_43_method_50_code 4 = .ok (.iload 4, 2) := by decide +kernel
theorem djdk_43_50_6 : decode jdk_43_method_50_code 6 = .ok (.invokestatic 240, 3) := by decide +kernel
theorem djdk_43_50_9 : decode jdk_43_method_50_code 9 = .ok (.return_, 1) := by decide +kernel
theorem djdk_68_11_0 : decode jdk_68_method_11_code 0 = .ok (.aload_n 0, 1) := by decide +kernel
theorem djdk_68_11_1 : decode jdk_68_method_11_code 1 = .ok (.invokevirtual 83, 3) := by decide +kernel
theorem djdk_68_11_4 : decode jdk_68_method_11_code 4 = .ok (.ifCond .ne 4, 3) := by decide +kernel
theorem djdk_68_11_8 : decode jdk_68_method_11_code 8 = .ok (.aload_n 0, 1) := by decide +kernel
theorem djdk_68_11_9 : decode jdk_68_method_11_code 9 = .ok (.getfield 15, 3) := by decide +kernel
theorem djdk_68_11_12 : decode jdk_68_method_11_code 12 = .ok (.arraylength, 1) := by decide +kernel
theorem djdk_68_11_13 : decode jdk_68_method_11_code 13 = .ok (.invokestatic 26, 3) := by decide +kernel
theorem djdk_68_11_16 : decode jdk_68_method_11_code 16 = .ok (.astore_n 1, 1) := by decide +kernel
theorem djdk_68_11_17 : decode jdk_68_method_11_code 17 = .ok (.aload_n 0, 1) := by decide +kernel
theorem djdk_68_11_18 : decode jdk_68_method_11_code 18 = .ok (.getfield 15, 3) := by decide +kernel
theorem djdk_68_11_21 : decode jdk_68_method_11_code 21 = .ok (.iconst 0, 1) := by decide +kernel
theorem djdk_68_11_22 : decode jdk_68_method_11_code 22 = .ok (.aload_n 1, 1) := by decide +kernel
theorem djdk_68_11_23 : decode jdk_68_method_11_code 23 = .ok (.iconst 0, 1) := by decide +kernel
theorem djdk_68_11_24 : decode jdk_68_method_11_code 24 = .ok (.aload_n 0, 1) := by decide +kernel
theorem djdk_68_11_25 : decode jdk_68_method_11_code 25 = .ok (.getfield 79, 3) := by decide +kernel
theorem djdk_68_11_28 : decode jdk_68_method_11_code 28 = .ok (.invokestatic 125, 3) := by decide +kernel
theorem djdk_68_11_31 : decode jdk_68_method_11_code 31 = .ok (.aload_n 0, 1) := by decide +kernel
theorem djdk_68_11_32 : decode jdk_68_method_11_code 32 = .ok (.aload_n 1, 1) := by decide +kernel
theorem djdk_68_11_33 : decode jdk_68_method_11_code 33 = .ok (.putfield 15, 3) := by decide +kernel
theorem djdk_68_11_36 : decode jdk_68_method_11_code 36 = .ok (.aload_n 0, 1) := by decide +kernel
theorem djdk_68_11_37 : decode jdk_68_method_11_code 37 = .ok (.iconst 1, 1) := by decide +kernel
theorem djdk_68_11_38 : decode jdk_68_method_11_code 38 = .ok (.putfield 22, 3) := by decide +kernel
theorem djdk_68_11_41 : decode jdk_68_method_11_code 41 = .ok (.return_, 1) := by decide +kernel
theorem djdk_52_71_0 : decode jdk_52_method_71_code 0 = .ok (.iload_n 1, 1) := by decide +kernel
theorem djdk_52_71_1 : decode jdk_52_method_71_code 1 = .ok (.aload_n 0, 1) := by decide +kernel
theorem djdk_52_71_2 : decode jdk_52_method_71_code 2 = .ok (.invokestatic 67, 3) := by decide +kernel
theorem djdk_52_71_5 : decode jdk_52_method_71_code 5 = .ok (.aload_n 0, 1) := by decide +kernel
theorem djdk_52_71_6 : decode jdk_52_method_71_code 6 = .ok (.iload_n 1, 1) := by decide +kernel
theorem djdk_52_71_7 : decode jdk_52_method_71_code 7 = .ok (.iload_n 2, 1) := by decide +kernel
theorem djdk_52_71_8 : decode jdk_52_method_71_code 8 = .ok (.invokestatic 111, 3) := by decide +kernel
theorem djdk_52_71_11 : decode jdk_52_method_71_code 11 = .ok (.return_, 1) := by decide +kernel
theorem djdk_68_31_0 : decode jdk_68_method_31_code 0 = .ok (.aload_n 0, 1) := by decide +kernel
theorem djdk_68_31_1 : decode jdk_68_method_31_code 1 = .ok (.aload_n 0, 1) := by decide +kernel
theorem djdk_68_31_2 : decode jdk_68_method_31_code 2 = .ok (.getfield 79, 3) := by decide +kernel
theorem djdk_68_31_5 : decode jdk_68_method_31_code 5 = .ok (.iconst 1, 1) := by decide +kernel
theorem djdk_68_31_6 : decode jdk_68_method_31_code 6 = .ok (.iadd, 1) := by decide +kernel
theorem djdk_68_31_7 : decode jdk_68_method_31_code 7 = .ok (.invokevirtual 100, 3) := by decide +kernel
theorem djdk_68_31_10 : decode jdk_68_method_31_code 10 = .ok (.aload_n 0, 1) := by decide +kernel
theorem djdk_68_31_11 : decode jdk_68_method_31_code 11 = .ok (.invokevirtual 83, 3) := by decide +kernel
theorem djdk_68_31_14 : decode jdk_68_method_31_code 14 = .ok (.ifCond .eq 31, 3) := by decide +kernel
theorem djdk_68_31_17 : decode jdk_68_method_31_code 17 = .ok (.iload_n 1, 1) := by decide +kernel
theorem djdk_68_31_18 : decode jdk_68_method_31_code 18 = .ok (.invokestatic 191, 3) := by decide +kernel
theorem djdk_68_31_21 : decode jdk_68_method_31_code 21 = .ok (.ifCond .eq 24, 3) := by decide +kernel
theorem djdk_68_31_45 : decode jdk_68_method_31_code 45 = .ok (.aload_n 0, 1) := by decide +kernel
theorem djdk_68_31_46 : decode jdk_68_method_31_code 46 = .ok (.invokevirtual 83, 3) := by decide +kernel
theorem djdk_68_31_49 : decode jdk_68_method_31_code 49 = .ok (.ifCond .eq 7, 3) := by decide +kernel
theorem djdk_68_31_52 : decode jdk_68_method_31_code 52 = .ok (.aload_n 0, 1) := by decide +kernel
theorem djdk_68_31_53 : decode jdk_68_method_31_code 53 = .ok (.invokevirtual 195, 3) := by decide +kernel
theorem djdk_68_31_56 : decode jdk_68_method_31_code 56 = .ok (.aload_n 0, 1) := by decide +kernel
theorem djdk_68_31_57 : decode jdk_68_method_31_code 57 = .ok (.getfield 15, 3) := by decide +kernel
theorem djdk_68_31_60 : decode jdk_68_method_31_code 60 = .ok (.aload_n 0, 1) := by decide +kernel
theorem djdk_68_31_61 : decode jdk_68_method_31_code 61 = .ok (.dup, 1) := by decide +kernel
theorem djdk_68_31_62 : decode jdk_68_method_31_code 62 = .ok (.getfield 79, 3) := by decide +kernel
theorem djdk_68_31_65 : decode jdk_68_method_31_code 65 = .ok (.dup_x1, 1) := by decide +kernel
theorem djdk_68_31_66 : decode jdk_68_method_31_code 66 = .ok (.iconst 1, 1) := by decide +kernel
theorem djdk_68_31_67 : decode jdk_68_method_31_code 67 = .ok (.iadd, 1) := by decide +kernel
theorem djdk_68_31_68 : decode jdk_68_method_31_code 68 = .ok (.putfield 79, 3) := by decide +kernel
theorem djdk_68_31_71 : decode jdk_68_method_31_code 71 = .ok (.iload_n 1, 1) := by decide +kernel
theorem djdk_68_31_72 : decode jdk_68_method_31_code 72 = .ok (.invokestatic 197, 3) := by decide +kernel
theorem djdk_68_31_75 : decode jdk_68_method_31_code 75 = .ok (.aload_n 0, 1) := by decide +kernel
theorem djdk_68_31_76 : decode jdk_68_method_31_code 76 = .ok (.areturn, 1) := by decide +kernel
theorem djdk_68_31_24 : decode jdk_68_method_31_code 24 = .ok (.aload_n 0, 1) := by decide +kernel
theorem djdk_68_31_25 : decode jdk_68_method_31_code 25 = .ok (.getfield 15, 3) := by decide +kernel
theorem djdk_68_31_28 : decode jdk_68_method_31_code 28 = .ok (.aload_n 0, 1) := by decide +kernel
theorem djdk_68_31_29 : decode jdk_68_method_31_code 29 = .ok (.dup, 1) := by decide +kernel
theorem djdk_68_31_30 : decode jdk_68_method_31_code 30 = .ok (.getfield 79, 3) := by decide +kernel
theorem djdk_68_31_33 : decode jdk_68_method_31_code 33 = .ok (.dup_x1, 1) := by decide +kernel
theorem djdk_68_31_34 : decode jdk_68_method_31_code 34 = .ok (.iconst 1, 1) := by decide +kernel
theorem djdk_68_31_35 : decode jdk_68_method_31_code 35 = .ok (.iadd, 1) := by decide +kernel
theorem djdk_68_31_36 : decode jdk_68_method_31_code 36 = .ok (.putfield 79, 3) := by decide +kernel
theorem djdk_68_31_39 : decode jdk_68_method_31_code 39 = .ok (.iload_n 1, 1) := by decide +kernel
theorem djdk_68_31_40 : decode jdk_68_method_31_code 40 = .ok (.i2b, 1) := by decide +kernel
theorem djdk_68_31_41 : decode jdk_68_method_31_code 41 = .ok (.bastore, 1) := by decide +kernel
theorem djdk_68_31_42 : decode jdk_68_method_31_code 42 = .ok (.goto 33, 3) := by decide +kernel
theorem djdk_67_14_0 : decode jdk_67_method_14_code 0 = .ok (.aload_n 0, 1) := by decide +kernel
theorem djdk_67_14_1 : decode jdk_67_method_14_code 1 = .ok (.iload_n 1, 1) := by decide +kernel
theorem djdk_67_14_2 : decode jdk_67_method_14_code 2 = .ok (.invokespecial 50, 3) := by decide +kernel
theorem djdk_67_14_5 : decode jdk_67_method_14_code 5 = .ok (.pop, 1) := by decide +kernel
theorem djdk_67_14_6 : decode jdk_67_method_14_code 6 = .ok (.aload_n 0, 1) := by decide +kernel
theorem djdk_67_14_7 : decode jdk_67_method_14_code 7 = .ok (.areturn, 1) := by decide +kernel
theorem djdk_65_131_0 : decode jdk_65_method_131_code 0 = .ok (.iload_n 1, 1) := by decide +kernel
theorem djdk_65_131_1 : decode jdk_65_method_131_code 1 = .ok (.iload_n 0, 1) := by decide +kernel
theorem djdk_65_131_2 : decode jdk_65_method_131_code 2 = .ok (.if_icmp .ge 35, 3) := by decide +kernel
theorem djdk_65_131_37 : decode jdk_65_method_131_code 37 = .ok (.return_, 1) := by decide +kernel
theorem djdk_65_133_0 : decode jdk_65_method_133_code 0 = .ok (.iload_n 1, 1) := by decide +kernel
theorem djdk_65_133_1 : decode jdk_65_method_133_code 1 = .ok (.iload_n 2, 1) := by decide +kernel
theorem djdk_65_133_2 : decode jdk_65_method_133_code 2 = .ok (.invokestatic 343, 3) := by decide +kernel
theorem djdk_65_133_5 : decode jdk_65_method_133_code 5 = .ok (.iload_n 2, 1) := by decide +kernel
theorem djdk_65_133_6 : decode jdk_65_method_133_code 6 = .ok (.iload_n 1, 1) := by decide +kernel
theorem djdk_65_133_7 : decode jdk_65_method_133_code 7 = .ok (.isub, 1) := by decide +kernel
theorem djdk_65_133_8 : decode jdk_65_method_133_code 8 = .ok (.istore_n 3, 1) := by decide +kernel
theorem djdk_65_133_9 : decode jdk_65_method_133_code 9 = .ok (.iload_n 3, 1) := by decide +kernel
theorem djdk_65_133_10 : decode jdk_65_method_133_code 10 = .ok (.newarray .byte, 2) := by decide +kernel
theorem djdk_65_133_12 : decode jdk_65_method_133_code 12 = .ok (.astore 4, 2) := by decide +kernel
theorem djdk_65_133_14 : decode jdk_65_method_133_code 14 = .ok (.aload_n 0, 1) := by decide +kernel
theorem djdk_65_133_15 : decode jdk_65_method_133_code 15 = .ok (.iload_n 1, 1) := by decide +kernel
theorem djdk_65_133_16 : decode jdk_65_method_133_code 16 = .ok (.aload 4, 2) := by decide +kernel
theorem djdk_65_133_18 : decode jdk_65_method_133_code 18 = .ok (.iconst 0, 1) := by decide +kernel
theorem djdk_65_133_19 : decode jdk_65_method_133_code 19 = .ok (.aload_n 0, 1) := by decide +kernel
theorem djdk_65_133_20 : decode jdk_65_method_133_code 20 = .ok (.arraylength, 1) := by decide +kernel
theorem djdk_65_133_21 : decode jdk_65_method_133_code 21 = .ok (.iload_n 1, 1) := by decide +kernel
theorem djdk_65_133_22 : decode jdk_65_method_133_code 22 = .ok (.isub, 1) := by decide +kernel
theorem djdk_65_133_23 : decode jdk_65_method_133_code 23 = .ok (.iload_n 3, 1) := by decide +kernel
theorem djdk_65_133_24 : decode jdk_65_method_133_code 24 = .ok (.invokestatic 304, 3) := by decide +kernel
theorem djdk_65_133_27 : decode jdk_65_method_133_code 27 = .ok (.invokestatic 150, 3) := by decide +kernel
theorem djdk_65_133_30 : decode jdk_65_method_133_code 30 = .ok (.aload 4, 2) := by decide +kernel
theorem djdk_65_133_32 : decode jdk_65_method_133_code 32 = .ok (.areturn, 1) := by decide +kernel
theorem djdk_65_132_0 : decode jdk_65_method_132_code 0 = .ok (.iload_n 1, 1) := by decide +kernel
theorem djdk_65_132_1 : decode jdk_65_method_132_code 1 = .ok (.ifCond .ne 9, 3) := by decide +kernel
theorem djdk_65_132_4 : decode jdk_65_method_132_code 4 = .ok (.iload_n 2, 1) := by decide +kernel
theorem djdk_65_132_5 : decode jdk_65_method_132_code 5 = .ok (.aload_n 0, 1) := by decide +kernel
theorem djdk_65_132_6 : decode jdk_65_method_132_code 6 = .ok (.arraylength, 1) := by decide +kernel
theorem djdk_65_132_7 : decode jdk_65_method_132_code 7 = .ok (.if_icmp .eq 10, 3) := by decide +kernel
theorem djdk_65_132_17 : decode jdk_65_method_132_code 17 = .ok (.aload_n 0, 1) := by decide +kernel
theorem djdk_65_132_18 : decode jdk_65_method_132_code 18 = .ok (.invokevirtual 310, 3) := by decide +kernel
theorem djdk_65_132_21 : decode jdk_65_method_132_code 21 = .ok (.checkcast 311, 3) := by decide +kernel
theorem djdk_65_132_24 : decode jdk_65_method_132_code 24 = .ok (.areturn, 1) := by decide +kernel
theorem djdk_65_132_10 : decode jdk_65_method_132_code 10 = .ok (.aload_n 0, 1) := by decide +kernel
theorem djdk_65_132_11 : decode jdk_65_method_132_code 11 = .ok (.iload_n 1, 1) := by decide +kernel
theorem djdk_65_132_12 : decode jdk_65_method_132_code 12 = .ok (.iload_n 2, 1) := by decide +kernel
theorem djdk_65_132_13 : decode jdk_65_method_132_code 13 = .ok (.invokestatic 339, 3) := by decide +kernel
theorem djdk_65_132_16 : decode jdk_65_method_132_code 16 = .ok (.areturn, 1) := by decide +kernel
theorem djdk_42_150_0 : decode jdk_42_method_150_code 0 = .ok (.aload_n 0, 1) := by decide +kernel
theorem djdk_42_150_1 : decode jdk_42_method_150_code 1 = .ok (.invokespecial 1, 3) := by decide +kernel
theorem djdk_42_150_4 : decode jdk_42_method_150_code 4 = .ok (.aload_n 1, 1) := by decide +kernel
theorem djdk_42_150_5 : decode jdk_42_method_150_code 5 = .ok (.invokevirtual 552, 3) := by decide +kernel
theorem djdk_42_150_8 : decode jdk_42_method_150_code 8 = .ok (.astore_n 3, 1) := by decide +kernel
theorem djdk_42_150_9 : decode jdk_42_method_150_code 9 = .ok (.aload_n 1, 1) := by decide +kernel
theorem djdk_42_150_10 : decode jdk_42_method_150_code 10 = .ok (.invokevirtual 549, 3) := by decide +kernel
theorem djdk_42_150_13 : decode jdk_42_method_150_code 13 = .ok (.istore 4, 2) := by decide +kernel
theorem djdk_42_150_15 : decode jdk_42_method_150_code 15 = .ok (.aload_n 1, 1) := by decide +kernel
theorem djdk_42_150_16 : decode jdk_42_method_150_code 16 = .ok (.invokevirtual 1047, 3) := by decide +kernel
theorem djdk_42_150_19 : decode jdk_42_method_150_code 19 = .ok (.ifCond .eq 22, 3) := by decide +kernel
theorem djdk_42_150_22 : decode jdk_42_method_150_code 22 = .ok (.aload_n 0, 1) := by decide +kernel
theorem djdk_42_150_23 : decode jdk_42_method_150_code 23 = .ok (.iconst 0, 1) := by decide +kernel
theorem djdk_42_150_24 : decode jdk_42_method_150_code 24 = .ok (.putfield 15, 3) := by decide +kernel
theorem djdk_42_150_27 : decode jdk_42_method_150_code 27 = .ok (.aload_n 0, 1) := by decide +kernel
theorem djdk_42_150_28 : decode jdk_42_method_150_code 28 = .ok (.aload_n 3, 1) := by decide +kernel
theorem djdk_42_150_29 : decode jdk_42_method_150_code 29 = .ok (.iconst 0, 1) := by decide +kernel
theorem djdk_42_150_30 : decode jdk_42_method_150_code 30 = .ok (.iload 4, 2) := by decide +kernel
theorem djdk_42_150_32 : decode jdk_42_method_150_code 32 = .ok (.invokestatic 54, 3) := by decide +kernel
theorem djdk_42_150_35 : decode jdk_42_method_150_code 35 = .ok (.putfield 9, 3) := by decide +kernel
theorem djdk_42_150_38 : decode jdk_42_method_150_code 38 = .ok (.goto 59, 3) := by decide +kernel
theorem djdk_42_150_97 : decode jdk_42_method_150_code 97 = .ok (.return_, 1) := by decide +kernel
theorem djdk_42_150_41 : decode jdk_42_method_150_code 41 = .ok (.getstatic 38, 3) := by decide +kernel
theorem djdk_42_150_44 : decode jdk_42_method_150_code 44 = .ok (.ifCond .eq 35, 3) := by decide +kernel
theorem djdk_42_150_47 : decode jdk_42_method_150_code 47 = .ok (.aload_n 1, 1) := by decide +kernel
theorem djdk_42_150_48 : decode jdk_42_method_150_code 48 = .ok (.getfield 1048, 3) := by decide +kernel
theorem djdk_42_150_51 : decode jdk_42_method_150_code 51 = .ok (.ifCond .eq 28, 3) := by decide +kernel
theorem djdk_42_150_79 : decode jdk_42_method_150_code 79 = .ok (.aload_n 0, 1) := by decide +kernel
theorem djdk_42_150_80 : decode jdk_42_method_150_code 80 = .ok (.iconst 1, 1) := by decide +kernel
theorem djdk_42_150_81 : decode jdk_42_method_150_code 81 = .ok (.putfield 15, 3) := by decide +kernel
theorem djdk_42_150_84 : decode jdk_42_method_150_code 84 = .ok (.aload_n 0, 1) := by decide +kernel
theorem djdk_42_150_85 : decode jdk_42_method_150_code 85 = .ok (.aload_n 3, 1) := by decide +kernel
theorem djdk_42_150_86 : decode jdk_42_method_150_code 86 = .ok (.iconst 0, 1) := by decide +kernel
theorem djdk_42_150_87 : decode jdk_42_method_150_code 87 = .ok (.iload 4, 2) := by decide +kernel
theorem djdk_42_150_89 : decode jdk_42_method_150_code 89 = .ok (.iconst 1, 1) := by decide +kernel
theorem djdk_42_150_90 : decode jdk_42_method_150_code 90 = .ok (.ishl, 1) := by decide +kernel
theorem djdk_42_150_91 : decode jdk_42_method_150_code 91 = .ok (.invokestatic 54, 3) := by decide +kernel
theorem djdk_42_150_94 : decode jdk_42_method_150_code 94 = .ok (.putfield 9, 3) := by decide +kernel
theorem djdk_42_53_0 : decode jdk_42_method_53_code 0 = .ok (.aload_n 0, 1) := by decide +kernel
theorem djdk_42_53_1 : decode jdk_42_method_53_code 1 = .ok (.aload_n 1, 1) := by decide +kernel
theorem djdk_42_53_2 : decode jdk_42_method_53_code 2 = .ok (.aconst_null, 1) := by decide +kernel
theorem djdk_42_53_3 : decode jdk_42_method_53_code 3 = .ok (.invokespecial 489, 3) := by decide +kernel
theorem djdk_42_53_6 : decode jdk_42_method_53_code 6 = .ok (.return_, 1) := by decide +kernel
theorem djdk_67_42_0 : decode jdk_67_method_42_code 0 = .ok (.new 18, 3) := by decide +kernel
theorem djdk_67_42_3 : decode jdk_67_method_42_code 3 = .ok (.dup, 1) := by decide +kernel
theorem djdk_67_42_4 : decode jdk_67_method_42_code 4 = .ok (.aload_n 0, 1) := by decide +kernel
theorem djdk_67_42_5 : decode jdk_67_method_42_code 5 = .ok (.invokespecial 137, 3) := by decide +kernel
theorem djdk_67_42_8 : decode jdk_67_method_42_code 8 = .ok (.areturn, 1) := by decide +kernel
theorem dm_2_0 : decode method_2_code 0 = .ok (.iload_n 0, 1) := by decide +kernel
theorem dm_2_1 : decode method_2_code 1 = .ok (.bipush 7, 2) := by decide +kernel
theorem dm_2_3 : decode method_2_code 3 = .ok (.iand, 1) := by decide +kernel
theorem dm_2_4 : decode method_2_code 4 = .ok (.istore_n 1, 1) := by decide +kernel
theorem dm_2_5 : decode method_2_code 5 = .ok (.iload_n 1, 1) := by decide +kernel
theorem dm_2_6 : decode method_2_code 6 = .ok (.ifCond .ne 6, 3) := by decide +kernel
theorem dm_2_9 : decode method_2_code 9 = .ok (.bipush 123, 2) := by decide +kernel
theorem dm_2_11 : decode method_2_code 11 = .ok (.ireturn, 1) := by decide +kernel
theorem dm_2_12 : decode method_2_code 12 = .ok (.iload_n 1, 1) := by decide +kernel
theorem dm_2_13 : decode method_2_code 13 = .ok (.iconst 1, 1) := by decide +kernel
theorem dm_2_14 : decode method_2_code 14 = .ok (.if_icmp .ne 6, 3) := by decide +kernel
theorem dm_2_17 : decode method_2_code 17 = .ok (.bipush 125, 2) := by decide +kernel
theorem dm_2_19 : decode method_2_code 19 = .ok (.ireturn, 1) := by decide +kernel
theorem dm_2_20 : decode method_2_code 20 = .ok (.iload_n 1, 1) := by decide +kernel
theorem dm_2_21 : decode method_2_code 21 = .ok (.iconst 2, 1) := by decide +kernel
theorem dm_2_22 : decode method_2_code 22 = .ok (.if_icmp .ne 6, 3) := by decide +kernel
theorem dm_2_25 : decode method_2_code 25 = .ok (.bipush 36, 2) := by decide +kernel
theorem dm_2_27 : decode method_2_code 27 = .ok (.ireturn, 1) := by decide +kernel
theorem dm_2_28 : decode method_2_code 28 = .ok (.iload_n 1, 1) := by decide +kernel
theorem dm_2_29 : decode method_2_code 29 = .ok (.iconst 3, 1) := by decide +kernel
theorem dm_2_30 : decode method_2_code 30 = .ok (.if_icmp .ne 6, 3) := by decide +kernel
theorem dm_2_33 : decode method_2_code 33 = .ok (.bipush 92, 2) := by decide +kernel
theorem dm_2_35 : decode method_2_code 35 = .ok (.ireturn, 1) := by decide +kernel
theorem dm_2_36 : decode method_2_code 36 = .ok (.iload_n 0, 1) := by decide +kernel
theorem dm_2_37 : decode method_2_code 37 = .ok (.bipush 16, 2) := by decide +kernel
theorem dm_2_39 : decode method_2_code 39 = .ok (.iushr, 1) := by decide +kernel
theorem dm_2_40 : decode method_2_code 40 = .ok (.i2c, 1) := by decide +kernel
theorem dm_2_41 : decode method_2_code 41 = .ok (.ireturn, 1) := by decide +kernel
theorem dm_3_0 : decode method_3_code 0 = .ok (.iload_n 0, 1) := by decide +kernel
theorem dm_3_1 : decode method_3_code 1 = .ok (.bipush 123, 2) := by decide +kernel
theorem dm_3_3 : decode method_3_code 3 = .ok (.if_icmp .eq 21, 3) := by decide +kernel
theorem dm_3_24 : decode method_3_code 24 = .ok (.iconst 1, 1) := by decide +kernel
theorem dm_3_25 : decode method_3_code 25 = .ok (.goto 4, 3) := by decide +kernel
theorem dm_3_29 : decode method_3_code 29 = .ok (.ireturn, 1) := by decide +kernel
theorem dm_3_6 : decode method_3_code 6 = .ok (.iload_n 0, 1) := by decide +kernel
theorem dm_3_7 : decode method_3_code 7 = .ok (.bipush 125, 2) := by decide +kernel
theorem dm_3_9 : decode method_3_code 9 = .ok (.if_icmp .eq 15, 3) := by decide +kernel
theorem dm_3_12 : decode method_3_code 12 = .ok (.iload_n 0, 1) := by decide +kernel
theorem dm_3_13 : decode method_3_code 13 = .ok (.bipush 36, 2) := by decide +kernel
theorem dm_3_15 : decode method_3_code 15 = .ok (.if_icmp .eq 9, 3) := by decide +kernel
theorem dm_3_18 : decode method_3_code 18 = .ok (.iload_n 0, 1) := by decide +kernel
theorem dm_3_19 : decode method_3_code 19 = .ok (.bipush 92, 2) := by decide +kernel
theorem dm_3_21 : decode method_3_code 21 = .ok (.if_icmp .ne 7, 3) := by decide +kernel
theorem dm_3_28 : decode method_3_code 28 = .ok (.iconst 0, 1) := by decide +kernel
theorem dprog_19_12_0 : decode prog_19_method_12_code 0 = .ok (.iload_n 0, 1) := by decide +kernel
theorem dprog_19_12_1 : decode prog_19_method_12_code 1 = .ok (.bipush 123, 2) := by decide +kernel
theorem dprog_19_12_3 : decode prog_19_method_12_code 3 = .ok (.if_icmp .eq 21, 3) := by decide +kernel
theorem dprog_19_12_24 : decode prog_19_method_12_code 24 = .ok (.iconst 1, 1) := by decide +kernel
theorem dprog_19_12_25 : decode prog_19_method_12_code 25 = .ok (.goto 4, 3) := by decide +kernel
theorem dprog_19_12_29 : decode prog_19_method_12_code 29 = .ok (.ireturn, 1) := by decide +kernel
theorem dprog_19_12_6 : decode prog_19_method_12_code 6 = .ok (.iload_n 0, 1) := by decide +kernel
theorem dprog_19_12_7 : decode prog_19_method_12_code 7 = .ok (.bipush 125, 2) := by decide +kernel
theorem dprog_19_12_9 : decode prog_19_method_12_code 9 = .ok (.if_icmp .eq 15, 3) := by decide +kernel
theorem dprog_19_12_12 : decode prog_19_method_12_code 12 = .ok (.iload_n 0, 1) := by decide +kernel
theorem dprog_19_12_13 : decode prog_19_method_12_code 13 = .ok (.bipush 36, 2) := by decide +kernel
theorem dprog_19_12_15 : decode prog_19_method_12_code 15 = .ok (.if_icmp .eq 9, 3) := by decide +kernel
theorem dprog_19_12_18 : decode prog_19_method_12_code 18 = .ok (.iload_n 0, 1) := by decide +kernel
theorem dprog_19_12_19 : decode prog_19_method_12_code 19 = .ok (.bipush 92, 2) := by decide +kernel
theorem dprog_19_12_21 : decode prog_19_method_12_code 21 = .ok (.if_icmp .ne 7, 3) := by decide +kernel
theorem dprog_19_12_28 : decode prog_19_method_12_code 28 = .ok (.iconst 0, 1) := by decide +kernel
theorem dprog_19_4_14 : decode prog_19_method_4_code 14 = .ok (.iload_n 2, 1) := by decide +kernel
theorem dprog_19_4_15 : decode prog_19_method_4_code 15 = .ok (.aload_n 0, 1) := by decide +kernel
theorem dprog_19_4_16 : decode prog_19_method_4_code 16 = .ok (.invokevirtual 61, 3) := by decide +kernel
theorem dprog_19_4_19 : decode prog_19_method_4_code 19 = .ok (.if_icmp .ge 35, 3) := by decide +kernel
theorem dprog_19_4_54 : decode prog_19_method_4_code 54 = .ok (.aload_n 1, 1) := by decide +kernel
theorem dprog_19_4_55 : decode prog_19_method_4_code 55 = .ok (.invokevirtual 78, 3) := by decide +kernel
theorem dprog_19_4_58 : decode prog_19_method_4_code 58 = .ok (.areturn, 1) := by decide +kernel
theorem dprog_19_4_22 : decode prog_19_method_4_code 22 = .ok (.aload_n 0, 1) := by decide +kernel
theorem dprog_19_4_23 : decode prog_19_method_4_code 23 = .ok (.iload_n 2, 1) := by decide +kernel
theorem dprog_19_4_24 : decode prog_19_method_4_code 24 = .ok (.invokevirtual 66, 3) := by decide +kernel
theorem dprog_19_4_27 : decode prog_19_method_4_code 27 = .ok (.istore_n 3, 1) := by decide +kernel
theorem dprog_19_4_28 : decode prog_19_method_4_code 28 = .ok (.iload_n 3, 1) := by decide +kernel
theorem dprog_19_4_29 : decode prog_19_method_4_code 29 = .ok (.invokestatic 70, 3) := by decide +kernel
theorem dprog_19_4_32 : decode prog_19_method_4_code 32 = .ok (.ifCond .eq 10, 3) := by decide +kernel
theorem dprog_19_4_42 : decode prog_19_method_4_code 42 = .ok (.aload_n 1, 1) := by decide +kernel
theorem dprog_19_4_43 : decode prog_19_method_4_code 43 = .ok (.iload_n 3, 1) := by decide +kernel
theorem dprog_19_4_44 : decode prog_19_method_4_code 44 = .ok (.invokevirtual 74, 3) := by decide +kernel
theorem dprog_19_4_47 : decode prog_19_method_4_code 47 = .ok (.pop, 1) := by decide +kernel
theorem dprog_19_4_48 : decode prog_19_method_4_code 48 = .ok (.iinc 2 1, 3) := by decide +kernel
theorem dprog_19_4_51 : decode prog_19_method_4_code 51 = .ok (.goto (-37), 3) := by decide +kernel
theorem dprog_19_4_35 : decode prog_19_method_4_code 35 = .ok (.aload_n 1, 1) := by decide +kernel
theorem dprog_19_4_36 : decode prog_19_method_4_code 36 = .ok (.bipush 92, 2) := by decide +kernel
theorem dprog_19_4_38 : decode prog_19_method_4_code 38 = .ok (.invokevirtual 74, 3) := by decide +kernel
theorem dprog_19_4_41 : decode prog_19_method_4_code 41 = .ok (.pop, 1) := by decide +kernel
theorem dprog_19_4_0 : decode prog_19_method_4_code 0 = .ok (.new 59, 3) := by decide +kernel
theorem dprog_19_4_3 : decode prog_19_method_4_code 3 = .ok (.dup, 1) := by decide +kernel
theorem dprog_19_4_4 : decode prog_19_method_4_code 4 = .ok (.aload_n 0, 1) := by decide +kernel
theorem dprog_19_4_5 : decode prog_19_method_4_code 5 = .ok (.invokevirtual 61, 3) := by decide +kernel
theorem dprog_19_4_8 : decode prog_19_method_4_code 8 = .ok (.invokespecial 65, 3) := by decide +kernel
theorem dprog_19_4_11 : decode prog_19_method_4_code 11 = .ok (.astore_n 1, 1) := by decide +kernel
theorem dprog_19_4_12 : decode prog_19_method_4_code 12 = .ok (.iconst 0, 1) := by decide +kernel
theorem dprog_19_4_13 : decode prog_19_method_4_code 13 = .ok (.istore_n 2, 1) := by decide +kernel
theorem dm_4_0 : decode method_4_code 0 = .ok (.iload_n 3, 1) := by decide +kernel
theorem dm_4_1 : decode method_4_code 1 = .ok (.iload_n 2, 1) := by decide +kernel
theorem dm_4_2 : decode method_4_code 2 = .ok (.if_icmp .ge 14, 3) := by decide +kernel
theorem dm_4_5 : decode method_4_code 5 = .ok (.aload_n 0, 1) := by decide +kernel
theorem dm_4_6 : decode method_4_code 6 = .ok (.iload_n 3, 1) := by decide +kernel
theorem dm_4_7 : decode method_4_code 7 = .ok (.invokevirtual 7, 3) := by decide +kernel
theorem dm_4_10 : decode method_4_code 10 = .ok (.aload_n 1, 1) := by decide +kernel
theorem dm_4_11 : decode method_4_code 11 = .ok (.iload_n 3, 1) := by decide +kernel
theorem dm_4_12 : decode method_4_code 12 = .ok (.caload, 1) := by decide +kernel
theorem dm_4_13 : decode method_4_code 13 = .ok (.if_icmp .ne 7, 3) := by decide +kernel
theorem dm_4_16 : decode method_4_code 16 = .ok (.iconst 1, 1) := by decide +kernel
theorem dm_4_17 : decode method_4_code 17 = .ok (.goto 4, 3) := by decide +kernel
theorem dm_4_21 : decode method_4_code 21 = .ok (.ireturn, 1) := by decide +kernel
theorem djdk_42_149_8 : decode jdk_42_method_149_code 8 = .ok (.aload_n 0, 1) := by decide +kernel
theorem djdk_42_149_9 : decode jdk_42_method_149_code 9 = .ok (.ldc 7, 2) := by decide +kernel
theorem djdk_42_149_11 : decode jdk_42_method_149_code 11 = .ok (.getfield 9, 3) := by decide +kernel
theorem djdk_42_149_14 : decode jdk_42_method_149_code 14 = .ok (.putfield 9, 3) := by decide +kernel
theorem djdk_42_149_17 : decode jdk_42_method_149_code 17 = .ok (.aload_n 0, 1) := by decide +kernel
theorem djdk_42_149_18 : decode jdk_42_method_149_code 18 = .ok (.ldc 7, 2) := by decide +kernel
theorem djdk_42_149_20 : decode jdk_42_method_149_code 20 = .ok (.getfield 15, 3) := by decide +kernel
theorem djdk_42_149_23 : decode jdk_42_method_149_code 23 = .ok (.putfield 15, 3) := by decide +kernel
theorem djdk_42_149_26 : decode jdk_42_method_149_code 26 = .ok (.return_, 1) := by decide +kernel
theorem pf0 : plainFor (⟨"java/lang/StringUTF16", "newBytesLength", "(I)I"⟩ : MethodName) = true := by first | exact plainFor_of_name (by first | (simp [plainName, overriddenIn]; done) | decide +kernel) | decide +kernel
theorem pf1 : plainFor (⟨"java/lang/StringUTF16", "newBytesFor", "(I)[B"⟩ : MethodName) = true := by first | exact plainFor_of_name (by first | (simp [plainName, overriddenIn]; done) | decide +kernel) | decide +kernel
theorem pf2 : plainFor (⟨"java/lang/StringUTF16", "putChar", "([BII)V"⟩ : MethodName) = true := by first | exact plainFor_of_name (by first | (simp [plainName, overriddenIn]; done) | decide +kernel) | decide +kernel
theorem pf3 : plainFor (⟨"java/lang/StringUTF16", "getChar", "([BI)C"⟩ : MethodName) = true := by first | exact plainFor_of_name (by first | (simp [plainName, overriddenIn]; done) | decide +kernel) | decide +kernel
theorem pf4 : plainFor (⟨"java/lang/StringUTF16", "toBytes", "([CII)[B"⟩ : MethodName) = true := by first | exact plainFor_of_name (by first | (simp [plainName, overriddenIn]; done) | decide +kernel) | decide +kernel
theorem pf5 : plainFor (⟨"java/lang/StringUTF16", "compress", "([CI[BII)I"⟩ : MethodName) = true := by first | exact plainFor_of_name (by first | (simp [plainName, overriddenIn]; done) | decide +kernel) | decide +kernel
theorem pf6 : plainFor (⟨"java/lang/StringUTF16", "compress", "([CII)[B"⟩ : MethodName) = true := by first | exact plainFor_of_name (by first | (simp [plainName, overriddenIn]; done) | decide +kernel) | decide +kernel
theorem pf7 : plainFor (⟨"java/lang/StringUTF16", "coderFromArrayLen", "([BI)B"⟩ : MethodName) = true := by first | exact plainFor_of_name (by first | (simp [plainName, overriddenIn]; done) | decide +kernel) | decide +kernel
theorem pf8 : plainFor (⟨"java/lang/String", "<init>", "([CIILjava/lang/Void;)V"⟩ : MethodName) = true := by first | exact plainFor_of_name (by first | (simp [plainName, overriddenIn]; done) | decide +kernel) | decide +kernel
theorem pf9 : plainFor (⟨"java/lang/String", "<init>", "([C)V"⟩ : MethodName) = true := by first | exact plainFor_of_name (by first | (simp [plainName, overriddenIn]; done) | decide +kernel) | decide +kernel
theorem pf10 : plainFor (⟨"java/lang/String", "isLatin1", "()Z"⟩ : MethodName) = true := by first | exact plainFor_of_name (by first | (simp [plainName, overriddenIn]; done) | decide +kernel) | decide +kernel
theorem pf11 : plainFor (⟨"java/lang/String", "coder", "()B"⟩ : MethodName) = true := by first | exact plainFor_of_name (by first | (simp [plainName, overriddenIn]; done) | decide +kernel) | decide +kernel
theorem pf12 : plainFor (⟨"java/lang/String", "length", "()I"⟩ : MethodName) = true := by first | exact plainFor_of_name (by first | (simp [plainName, overriddenIn]; done) | decide +kernel) | decide +kernel
theorem pf13 : plainFor (⟨"jdk/internal/util/Preconditions", "checkIndex", "(IILjava/util/function/BiFunction;)I"⟩ : MethodName) = true := by first | exact plainFor_of_name (by first | (simp [plainName, overriddenIn]; done) | decide +kernel) | decide +kernel
theorem pf14 : plainFor (⟨"java/lang/String", "checkIndex", "(II)V"⟩ : MethodName) = true := by first | exact plainFor_of_name (by first | (simp [plainName, overriddenIn]; done) | decide +kernel) | decide +kernel
theorem pf15 : plainFor (⟨"java/lang/StringLatin1", "charAt", "([BI)C"⟩ : MethodName) = true := by first | exact plainFor_of_name (by first | (simp [plainName, overriddenIn]; done) | decide +kernel) | decide +kernel
theorem pf16 : plainFor (⟨"java/lang/StringUTF16", "length", "([B)I"⟩ : MethodName) = true := by first | exact plainFor_of_name (by first | (simp [plainName, overriddenIn]; done) | decide +kernel) | decide +kernel
theorem pf17 : plainFor (⟨"java/lang/StringUTF16", "checkIndex", "(I[B)V"⟩ : MethodName) = true := by first | exact plainFor_of_name (by first | (simp [plainName, overriddenIn]; done) | decide +kernel) | decide +kernel
theorem pf18 : plainFor (⟨"java/lang/StringUTF16", "charAt", "([BI)C"⟩ : MethodName) = true := by first | exact plainFor_of_name (by first | (simp [plainName, overriddenIn]; done) | decide +kernel) | decide +kernel
theorem pf19 : plainFor (⟨"java/lang/String", "charAt", "(I)C"⟩ : MethodName) = true := by first | exact plainFor_of_name (by first | (simp [plainName, overriddenIn]; done) | decide +kernel) | decide +kernel
theorem pf20 : plainFor (⟨"java/lang/AbstractStringBuilder", "<init>", "(I)V"⟩ : MethodName) = true := by first | exact plainFor_of_name (by first | (simp [plainName, overriddenIn]; done) | decide +kernel) | decide +kernel
theorem pf21 : plainFor (⟨"java/lang/StringBuilder", "<init>", "(I)V"⟩ : MethodName) = true := by first | exact plainFor_of_name (by first | (simp [plainName, overriddenIn]; done) | decide +kernel) | decide +kernel
theorem pf22 : plainFor (⟨"java/lang/AbstractStringBuilder", "isLatin1", "()Z"⟩ : MethodName) = true := by first | exact plainFor_of_name (by first | (simp [plainName, overriddenIn]; done) | decide +kernel) | decide +kernel
theorem pf23 : plainFor (⟨"java/lang/AbstractStringBuilder", "getValue", "()[B"⟩ : MethodName) = true := by first | exact plainFor_of_name (by first | (simp [plainName, overriddenIn]; done) | decide +kernel) | decide +kernel
theorem pf24 : plainFor (⟨"java/lang/AbstractStringBuilder", "length", "()I"⟩ : MethodName) = true := by first | exact plainFor_of_name (by first | (simp [plainName, overriddenIn]; done) | decide +kernel) | decide +kernel
theorem pf25 : plainFor (⟨"java/lang/StringBuilder", "length", "()I"⟩ : MethodName) = true := by first | exact plainFor_of_name (by first | (simp [plainName, overriddenIn]; done) | decide +kernel) | decide +kernel
theorem pf26 : plainFor (⟨"java/lang/Math", "max", "(II)I"⟩ : MethodName) = true := by first | exact plainFor_of_name (by first | (simp [plainName, overriddenIn]; done) | decide +kernel) | decide +kernel
theorem pf27 : plainFor (⟨"java/lang/Math", "min", "(II)I"⟩ : MethodName) = true := by first | exact plainFor_of_name (by first | (simp [plainName, overriddenIn]; done) | decide +kernel) | decide +kernel
theorem pf28 : plainFor (⟨"jdk/internal/util/ArraysSupport", "newLength", "(III)I"⟩ : MethodName) = true := by first | exact plainFor_of_name (by first | (simp [plainName, overriddenIn]; done) | decide +kernel) | decide +kernel
theorem pf29 : plainFor (⟨"java/util/Arrays", "copyOf", "([BI)[B"⟩ : MethodName) = true := by first | exact plainFor_of_name (by first | (simp [plainName, overriddenIn]; done) | decide +kernel) | decide +kernel
theorem pf30 : plainFor (⟨"java/lang/AbstractStringBuilder", "newCapacity", "(I)I"⟩ : MethodName) = true := by first | exact plainFor_of_name (by first | (simp [plainName, overriddenIn]; done) | decide +kernel) | decide +kernel
theorem pf31 : plainFor (⟨"java/lang/AbstractStringBuilder", "ensureCapacityInternal", "(I)V"⟩ : MethodName) = true := by first | exact plainFor_of_name (by first | (simp [plainName, overriddenIn]; done) | decide +kernel) | decide +kernel
theorem pf32 : plainFor (⟨"java/lang/StringLatin1", "canEncode", "(C)Z"⟩ : MethodName) = true := by first | exact plainFor_of_name (by first | (simp [plainName, overriddenIn]; done) | decide +kernel) | decide +kernel
theorem pf33 : plainFor (⟨"jdk/internal/util/Preconditions", "checkFromIndexSize", "(IIILjava/util/function/BiFunction;)I"⟩ : MethodName) = true := by first | exact plainFor_of_name (by first | (simp [plainName, overriddenIn]; done) | decide +kernel) | decide +kernel
theorem pf34 : plainFor (⟨"java/lang/String", "checkBoundsOffCount", "(III)I"⟩ : MethodName) = true := by first | exact plainFor_of_name (by first | (simp [plainName, overriddenIn]; done) | decide +kernel) | decide +kernel
theorem pf35 : plainFor (⟨"java/lang/StringUTF16", "checkBoundsOffCount", "(II[B)V"⟩ : MethodName) = true := by first | exact plainFor_of_name (by first | (simp [plainName, overriddenIn]; done) | decide +kernel) | decide +kernel
theorem pf36 : plainFor (⟨"java/lang/StringUTF16", "inflate", "([BI[BII)V"⟩ : MethodName) = true := by first | exact plainFor_of_name (by first | (simp [plainName, overriddenIn]; done) | decide +kernel) | decide +kernel
theorem pf37 : plainFor (⟨"java/lang/StringLatin1", "inflate", "([BI[BII)V"⟩ : MethodName) = true := by first | exact plainFor_of_name (by first | (simp [plainName, overriddenIn]; done) | decide +kernel) | decide +kernel
theorem pf38 : plainFor (⟨"java/lang/AbstractStringBuilder", "inflate", "()V"⟩ : MethodName) = true := by first | exact plainFor_of_name (by first | (simp [plainName, overriddenIn]; done) | decide +kernel) | decide +kernel
theorem pf39 : plainFor (⟨"java/lang/StringUTF16", "putCharSB", "([BII)V"⟩ : MethodName) = true := by first | exact plainFor_of_name (by first | (simp [plainName, overriddenIn]; done) | decide +kernel) | decide +kernel
theorem pf40 : plainFor (⟨"java/lang/AbstractStringBuilder", "append", "(C)Ljava/lang/AbstractStringBuilder;"⟩ : MethodName) = true := by first | exact plainFor_of_name (by first | (simp [plainName, overriddenIn]; done) | decide +kernel) | decide +kernel
theorem pf41 : plainFor (⟨"java/lang/StringBuilder", "append", "(C)Ljava/lang/StringBuilder;"⟩ : MethodName) = true := by first | exact plainFor_of_name (by first | (simp [plainName, overriddenIn]; done) | decide +kernel) | decide +kernel
theorem pf42 : plainFor (⟨"java/util/Arrays", "checkLength", "(II)V"⟩ : MethodName) = true := by first | exact plainFor_of_name (by first | (simp [plainName, overriddenIn]; done) | decide +kernel) | decide +kernel
theorem pf43 : plainFor (⟨"java/util/Arrays", "copyOfRangeByte", "([BII)[B"⟩ : MethodName) = true := by first | exact plainFor_of_name (by first | (simp [plainName, overriddenIn]; done) | decide +kernel) | decide +kernel
theorem pf44 : plainFor (⟨"java/util/Arrays", "copyOfRange", "([BII)[B"⟩ : MethodName) = true := by first | exact plainFor_of_name (by first | (simp [plainName, overriddenIn]; done) | decide +kernel) | decide +kernel
theorem pf45 : plainFor (⟨"java/lang/String", "<init>", "(Ljava/lang/AbstractStringBuilder;Ljava/lang/Void;)V"⟩ : MethodName) = true := by first | exact plainFor_of_name (by first | (simp [plainName, overriddenIn]; done) | decide +kernel) | decide +kernel
theorem pf46 : plainFor (⟨"java/lang/String", "<init>", "(Ljava/lang/StringBuilder;)V"⟩ : MethodName) = true := by first | exact plainFor_of_name (by first | (simp [plainName, overriddenIn]; done) | decide +kernel) | decide +kernel
theorem pf47 : plainFor (⟨"java/lang/StringBuilder", "toString", "()Ljava/lang/String;"⟩ : MethodName) = true := by first | exact plainFor_of_name (by first | (simp [plainName, overriddenIn]; done) | decide +kernel) | decide +kernel
theorem pf48 : plainFor (⟨"com/example/input_under_constraint/inputunderconstraint/MessageTemplateLiteralPinLaw", "pick", "(I)C"⟩ : MethodName) = true := by first | exact plainFor_of_name (by first | (simp [plainName, overriddenIn]; done) | decide +kernel) | decide +kernel
theorem pf49 : plainFor (⟨"com/example/input_under_constraint/inputunderconstraint/MessageTemplateLiteralPinLaw", "esc", "(C)Z"⟩ : MethodName) = true := by first | exact plainFor_of_name (by first | (simp [plainName, overriddenIn]; done) | decide +kernel) | decide +kernel
theorem pf50 : plainFor (⟨"com/example/input_under_constraint/inputunderconstraint/MessageTemplate", "isEscapable", "(C)Z"⟩ : MethodName) = true := by first | exact plainFor_of_name (by first | (simp [plainName, overriddenIn]; done) | decide +kernel) | decide +kernel
theorem pf51 : plainFor (⟨"com/example/input_under_constraint/inputunderconstraint/MessageTemplate", "literal", "(Ljava/lang/String;)Ljava/lang/String;"⟩ : MethodName) = true := by first | exact plainFor_of_name (by first | (simp [plainName, overriddenIn]; done) | decide +kernel) | decide +kernel
theorem pf52 : plainFor (⟨"com/example/input_under_constraint/inputunderconstraint/MessageTemplateLiteralPinLaw", "same", "(Ljava/lang/String;[CII)Z"⟩ : MethodName) = true := by first | exact plainFor_of_name (by first | (simp [plainName, overriddenIn]; done) | decide +kernel) | decide +kernel
theorem pf53 : plainFor (⟨"com/example/input_under_constraint/inputunderconstraint/MessageTemplateLiteralPinLaw", "law", "(IIII)Z"⟩ : MethodName) = true := by first | exact plainFor_of_name (by first | (simp [plainName, overriddenIn]; done) | decide +kernel) | decide +kernel
theorem hSA {Z : State} {a0 : Array Value} (hw : ∀ d ∈ tables_1, d.before a0 Z = true) : ∀ a ∈ Bundle.stringAtoms, a.before a0 Z = true := fun d hd => hw d ((by decide +kernel : ∀ d ∈ Bundle.stringAtoms, d ∈ tables_1) d hd)
theorem hELs {Z : State} {a0 : Array Value} (hw : ∀ d ∈ tables_1, d.before a0 Z = true) : EW Z a0 consts_1 := (EW.cons (tw19 hw) (by decide) EW.nil)
theorem ef_nbl (m : MethodId) (K : Nat) : entryFrame m #[(.int (Int32.ofNat K))] 1 = mkF m 0 #[.val (.int (Int32.ofNat K))] [] := by first | (simp [entryFrame, mkF, argsToLocals, Value.category]; done) | rfl
set_option maxRecDepth 65536 in
set_option maxHeartbeats 40000000 in
theorem nbl (l : Launch) (Z : State) (a0 : Array Value) (n0 : Nat) (hw : ∀ d ∈ tables_1, d.before a0 Z = true) (hEL : EW Z a0 consts_1) (G1 : Int32) (O1 : Sta Z Z.heap "java/lang/String" "COMPACT_STRINGS" "Z" (.int G1)) (P1 : ¬ (G1 = (0 : Int32))) (O_as : Sta Z Z.heap "java/lang/StringUTF16" "$assertionsDisabled" "Z" (.int (1 : Int32))) (O_hi : Sta Z Z.heap "java/lang/StringUTF16" "HI_BYTE_SHIFT" "I" (.int (0 : Int32))) (O_lo : Sta Z Z.heap "java/lang/StringUTF16" "LO_BYTE_SHIFT" "I" (.int (8 : Int32))) (G3 : Value) (O3 : Sta Z Z.heap "jdk/internal/util/Preconditions" "SIOOBE_FORMATTER" "Ljava/util/function/BiFunction;" G3) (rG3 : G3.isRef = true) (K : Nat) (h0 : Heap) (hO : Old Z n0 h0) (hK : K ≤ 32) :
    Con l Z consts_1 n0 (⟨"java/lang/StringUTF16", "newBytesLength", "(I)I"⟩ : MethodName) jdk_52_method_3_code 1 (some .int) ({ frames := 0, cells := 0, slots := 0, locals := 0 } : Room) #[(.int (Int32.ofNat K))] h0 [] (fun v h V' => v = some (.int (Int32.ofNat (2 * K))) ∧ h0 = h) [] := by
  refine Con.of (a0 := a0) pf0 (fun m => ef_nbl m K) all0 hO hEL ?_
  intro p e s m below meth c S0 hnm hsf W
  replace W := W.iloadN (pc' := 1) djdk_52_3_0 rfl rfl
  replace W := W.ifT (pc' := 12) djdk_52_3_1 (flt (own_nlt (X := K) (Y := 0) (by omega) (by omega) (by omega))).2.1 (by decide) (by decide)
  replace W := W.iloadN (pc' := 13) djdk_52_3_12 rfl rfl
  replace W := W.ldcI (pc' := 15) djdk_52_3_13 (tw207 hw) rfl
  replace W := W.icmpT (pc' := 55) djdk_52_3_15 (tlt (own_lt (X := K) (Y := 1073741823) (by omega) (by omega) (by omega))).1 (by decide) (by decide)
  replace W := W.iloadN (pc' := 56) djdk_52_3_55 rfl rfl
  replace W := W.iconst (pc' := 57) (v := (1 : Int32)) djdk_52_3_56 rfl rfl
  replace W := W.ishl (pc' := 58) (v := (Int32.ofNat (2 * K))) djdk_52_3_57 (own_shl1 (by omega)) rfl
  exact W.iret (t := .int) djdk_52_3_58 rfl (by simp) rfl (by decide) (by decide) (fun V' cv => ⟨rfl, rfl⟩)
theorem ef_nbf (m : MethodId) (K : Nat) : entryFrame m #[(.int (Int32.ofNat K))] 1 = mkF m 0 #[.val (.int (Int32.ofNat K))] [] := by first | (simp [entryFrame, mkF, argsToLocals, Value.category]; done) | rfl
set_option maxRecDepth 65536 in
set_option maxHeartbeats 40000000 in
theorem nbf (l : Launch) (Z : State) (a0 : Array Value) (n0 : Nat) (hw : ∀ d ∈ tables_1, d.before a0 Z = true) (hEL : EW Z a0 consts_1) (G1 : Int32) (O1 : Sta Z Z.heap "java/lang/String" "COMPACT_STRINGS" "Z" (.int G1)) (P1 : ¬ (G1 = (0 : Int32))) (O_as : Sta Z Z.heap "java/lang/StringUTF16" "$assertionsDisabled" "Z" (.int (1 : Int32))) (O_hi : Sta Z Z.heap "java/lang/StringUTF16" "HI_BYTE_SHIFT" "I" (.int (0 : Int32))) (O_lo : Sta Z Z.heap "java/lang/StringUTF16" "LO_BYTE_SHIFT" "I" (.int (8 : Int32))) (G3 : Value) (O3 : Sta Z Z.heap "jdk/internal/util/Preconditions" "SIOOBE_FORMATTER" "Ljava/util/function/BiFunction;" G3) (rG3 : G3.isRef = true) (K : Nat) (h0 : Heap) (hO : Old Z n0 h0) (hK : K ≤ 32) :
    Con l Z consts_1 n0 (⟨"java/lang/StringUTF16", "newBytesFor", "(I)[B"⟩ : MethodName) jdk_52_method_2_code 1 (some (.array .byte)) ({ frames := 1, cells := 1, slots := 64, locals := 12 } : Room) #[(.int (Int32.ofNat K))] h0 [] (fun v h V' => ∃ (r : Addr) (kr : ClassId), v = some (.ref r) ∧ Arv Z h r kr .byte (Int32.ofNat (2 * K)) (lst (2 * K) zf) (.int (0 : Int32)) ∧ Exa Z h r "[B" ∧ h0.size ≤ r ∧ Safe Z consts_1 V' h r) [] := by
  refine Con.of (a0 := a0) pf1 (fun m => ef_nbf m K) all0 hO hEL ?_
  intro p e s m below meth c S0 hnm hsf W
  replace W := W.iloadN (pc' := 1) djdk_52_2_0 rfl rfl
  obtain ⟨V1, h1, r1, W1, K1, hQ1, SF1⟩ := W.callS (pc' := 4) (argsL := [(.int (Int32.ofNat K))]) (rest := []) (Wd := 0) (cells' := 0) (slots' := 0) (y := (⟨"java/lang/StringUTF16", "newBytesLength", "(I)I"⟩ : MethodName)) djdk_52_2_1 (nbl l Z a0 n0 hw hEL G1 O1 P1 O_as O_hi O_lo G3 O3 rG3 K h0 W.old (by omega)) (tw204 hw) (tw205 hw) (tw115 hw) (tw206 hw) (by decide) (lenOf pd0 rfl) rfl rfl (by decide) (by decide) rfl sf0 all0 rfl rfl rfl (by decide) (by decide)
  clear W
  obtain ⟨rfl, hs1⟩ := hQ1
  subst hs1
  replace W1 := W1.cast (st' := [(.int (Int32.ofNat (2 * K)))]) rfl
  obtain ⟨h2, a2, W2, E2, g2, ⟨⟨k2, A2⟩, B2⟩, sf2, SF2⟩ := W1.newarrE (pc' := 6) (ad := "[B") (cap := 64) (cells' := 1) (slots' := 64) djdk_52_2_4 (tw20 hw) (by decide) (own_nn (by omega)) (by rw [own_clamp (by omega)]; omega) (by decide) rfl rfl rfl (by decide) (by decide)
  clear W1
  rw [← g2] at A2 B2
  have z2 : h0.size ≤ h2.size := E2.1
  have v2 : Arv Z h2 a2 k2 .byte (Int32.ofNat (2 * K)) (lst (2 * K) zf) (.int (0 : Int32)) := own_lst0 A2
  exact W2.aret (t := (.array .byte)) djdk_52_2_6 rfl rfl rfl rfl (by decide) (by decide) (fun V' cv => ⟨a2, k2, rfl, v2, B2, (Nat.le_of_eq g2.symm), (cv a2 v2.lt sf2)⟩)
theorem ef_putc (m : MethodId) (ba : Addr) (kb : ClassId) (K : Nat) (f : Nat → Int32) (i : Nat) (cz : Int32) : entryFrame m #[(.ref ba), (.int (Int32.ofNat i)), (.int cz)] 3 = mkF m 0 #[.val (.ref ba), .val (.int (Int32.ofNat i)), .val (.int cz)] [] := by first | (simp [entryFrame, mkF, argsToLocals, Value.category]; done) | rfl
set_option maxRecDepth 65536 in
set_option maxHeartbeats 40000000 in
theorem putc (l : Launch) (Z : State) (a0 : Array Value) (n0 : Nat) (hw : ∀ d ∈ tables_1, d.before a0 Z = true) (hEL : EW Z a0 consts_1) (G1 : Int32) (O1 : Sta Z Z.heap "java/lang/String" "COMPACT_STRINGS" "Z" (.int G1)) (P1 : ¬ (G1 = (0 : Int32))) (O_as : Sta Z Z.heap "java/lang/StringUTF16" "$assertionsDisabled" "Z" (.int (1 : Int32))) (O_hi : Sta Z Z.heap "java/lang/StringUTF16" "HI_BYTE_SHIFT" "I" (.int (0 : Int32))) (O_lo : Sta Z Z.heap "java/lang/StringUTF16" "LO_BYTE_SHIFT" "I" (.int (8 : Int32))) (G3 : Value) (O3 : Sta Z Z.heap "jdk/internal/util/Preconditions" "SIOOBE_FORMATTER" "Ljava/util/function/BiFunction;" G3) (rG3 : G3.isRef = true) (ba : Addr) (kb : ClassId) (K : Nat) (f : Nat → Int32) (i : Nat) (cz : Int32) (h0 : Heap) (hO : Old Z n0 h0) (V_ba : Arv Z h0 ba kb .byte (Int32.ofNat (2 * K)) (lst (2 * K) f) (.int (0 : Int32))) (hK : K ≤ 32) (hi : i < K) (g_ba : n0 ≤ ba) :
    Con l Z consts_1 n0 (⟨"java/lang/StringUTF16", "putChar", "([BII)V"⟩ : MethodName) jdk_52_method_4_code 3 none ({ frames := 0, cells := 0, slots := 0, locals := 0 } : Room) #[(.ref ba), (.int (Int32.ofNat i)), (.int cz)] h0 [ba] (fun v h V' => v = none ∧ Arv Z h ba kb .byte (Int32.ofNat (2 * K)) (lst (2 * K) (upd (upd f (2 * i) (cz.toInt8.toInt32)) ((2 * i) + 1) ((cz >>> ((8 : Int32) &&& 31)).toInt8.toInt32))) (.int (0 : Int32))) [] := by
  refine Con.of (a0 := a0) pf2 (fun m => ef_putc m ba kb K f i cz) (allS g_ba all0) hO hEL ?_
  intro p e s m below meth c S0 hnm hsf W
  replace W := W.gets (pc' := 3) djdk_52_4_0 (tw211 hw) O_as rfl
  replace W := W.ifT (pc' := 28) djdk_52_4_3 (feq (by decide : ¬ ((1 : Int32) = (0 : Int32)))).2 (by decide) (by decide)
  replace W := W.iloadN (pc' := 29) djdk_52_4_28 rfl rfl
  replace W := W.iconst (pc' := 30) (v := (1 : Int32)) djdk_52_4_29 rfl rfl
  replace W := W.ishl (pc' := 31) (v := (Int32.ofNat (2 * i))) djdk_52_4_30 (own_shl1 (by omega)) rfl
  replace W := W.istoreN (pc' := 32) (L' := #[.val (.ref ba), .val (.int (Int32.ofNat (2 * i))), .val (.int cz)]) djdk_52_4_31 rfl rfl
  replace W := W.aloadN (pc' := 33) djdk_52_4_32 rfl rfl rfl
  replace W := W.iloadN (pc' := 34) djdk_52_4_33 rfl rfl
  replace W := W.iinc (pc' := 37) (v := (Int32.ofNat ((2 * i) + 1))) (L' := #[.val (.ref ba), .val (.int (Int32.ofNat ((2 * i) + 1))), .val (.int cz)]) djdk_52_4_34 rfl (own_add1 _) rfl rfl
  replace W := W.iloadN (pc' := 38) djdk_52_4_37 rfl rfl
  replace W := W.gets (pc' := 41) djdk_52_4_38 (tw212 hw) O_hi rfl
  replace W := W.ishr (pc' := 42) (v := cz) djdk_52_4_41 (own_shr0 _) rfl
  replace W := W.i2b (pc' := 43) (v := (cz.toInt8.toInt32)) djdk_52_4_42 rfl rfl
  obtain ⟨h1, W1, w1, A1, SF1⟩ := W.bastore (pc' := 44) (i := (2 * i)) (x' := (cz.toInt8.toInt32)) djdk_52_4_43 V_ba ⟨own_nn (by omega), own_lt (by omega) (by omega) (by omega)⟩ (own_clamp (by omega)) (by rw [own_lst_len]; omega) (own_narb _) (hsf _ (List.mem_of_getElem? (i := 0) rfl)) (Or.inl (List.mem_of_getElem? (i := 0) rfl)) rfl
  clear W
  have z1 : h0.size ≤ h1.size := Nat.le_of_eq w1.size.symm
  have v1 : Arv Z h1 ba kb .byte (Int32.ofNat (2 * K)) (lst (2 * K) (upd f (2 * i) (cz.toInt8.toInt32))) (.int (0 : Int32)) := (by rw [← own_lst_set]; exact A1)
  replace W1 := W1.aloadN (pc' := 45) djdk_52_4_44 rfl rfl rfl
  replace W1 := W1.iloadN (pc' := 46) djdk_52_4_45 rfl rfl
  replace W1 := W1.iloadN (pc' := 47) djdk_52_4_46 rfl rfl
  replace W1 := W1.gets (pc' := 50) djdk_52_4_47 (tw213 hw) O_lo rfl
  replace W1 := W1.ishr (pc' := 51) (v := (cz >>> ((8 : Int32) &&& 31))) djdk_52_4_50 rfl rfl
  replace W1 := W1.i2b (pc' := 52) (v := ((cz >>> ((8 : Int32) &&& 31)).toInt8.toInt32)) djdk_52_4_51 rfl rfl
  have sf2 := (SF1 ba (hsf _ (List.mem_of_getElem? (i := 0) rfl)))
  obtain ⟨h3, W3, w3, A3, SF3⟩ := W1.bastore (pc' := 53) (i := ((2 * i) + 1)) (x' := ((cz >>> ((8 : Int32) &&& 31)).toInt8.toInt32)) djdk_52_4_52 v1 ⟨own_nn (by omega), own_lt (by omega) (by omega) (by omega)⟩ (own_clamp (by omega)) (by rw [own_lst_len]; omega) (own_narb _) sf2 (Or.inl (List.mem_of_getElem? (i := 0) rfl)) rfl
  clear W1
  have z3 : h1.size ≤ h3.size := Nat.le_of_eq w3.size.symm
  have v3 : Arv Z h3 ba kb .byte (Int32.ofNat (2 * K)) (lst (2 * K) (upd (upd f (2 * i) (cz.toInt8.toInt32)) ((2 * i) + 1) ((cz >>> ((8 : Int32) &&& 31)).toInt8.toInt32))) (.int (0 : Int32)) := (by rw [← own_lst_set]; exact A3)
  exact W3.vret djdk_52_4_53 rfl (by decide) (by decide) (fun V' cv => ⟨rfl, v3⟩)
theorem ef_getc (m : MethodId) (ba : Addr) (kb : ClassId) (K : Nat) (f : Nat → Int32) (i : Nat) (cz : Int32) : entryFrame m #[(.ref ba), (.int (Int32.ofNat i))] 2 = mkF m 0 #[.val (.ref ba), .val (.int (Int32.ofNat i))] [] := by first | (simp [entryFrame, mkF, argsToLocals, Value.category]; done) | rfl
set_option maxRecDepth 65536 in
set_option maxHeartbeats 40000000 in
theorem getc (l : Launch) (Z : State) (a0 : Array Value) (n0 : Nat) (hw : ∀ d ∈ tables_1, d.before a0 Z = true) (hEL : EW Z a0 consts_1) (G1 : Int32) (O1 : Sta Z Z.heap "java/lang/String" "COMPACT_STRINGS" "Z" (.int G1)) (P1 : ¬ (G1 = (0 : Int32))) (O_as : Sta Z Z.heap "java/lang/StringUTF16" "$assertionsDisabled" "Z" (.int (1 : Int32))) (O_hi : Sta Z Z.heap "java/lang/StringUTF16" "HI_BYTE_SHIFT" "I" (.int (0 : Int32))) (O_lo : Sta Z Z.heap "java/lang/StringUTF16" "LO_BYTE_SHIFT" "I" (.int (8 : Int32))) (G3 : Value) (O3 : Sta Z Z.heap "jdk/internal/util/Preconditions" "SIOOBE_FORMATTER" "Ljava/util/function/BiFunction;" G3) (rG3 : G3.isRef = true) (ba : Addr) (kb : ClassId) (K : Nat) (f : Nat → Int32) (i : Nat) (cz : Int32) (h0 : Heap) (hO : Old Z n0 h0) (V_ba : Arv Z h0 ba kb .byte (Int32.ofNat (2 * K)) (lst (2 * K) f) (.int (0 : Int32))) (hK : K ≤ 32) (hi : i < K) (e0 : f (2 * i) = (cz.toInt8.toInt32)) (e1 : f ((2 * i) + 1) = ((cz >>> ((8 : Int32) &&& 31)).toInt8.toInt32)) (hq_cz : CH cz) :
    Con l Z consts_1 n0 (⟨"java/lang/StringUTF16", "getChar", "([BI)C"⟩ : MethodName) jdk_52_method_5_code 2 (some .char) ({ frames := 0, cells := 0, slots := 0, locals := 0 } : Room) #[(.ref ba), (.int (Int32.ofNat i))] h0 [] (fun v h V' => v = some (.int cz) ∧ h0 = h) [] := by
  refine Con.of (a0 := a0) pf3 (fun m => ef_getc m ba kb K f i cz) all0 hO hEL ?_
  intro p e s m below meth c S0 hnm hsf W
  replace W := W.gets (pc' := 3) djdk_52_5_0 (tw211 hw) O_as rfl
  replace W := W.ifT (pc' := 28) djdk_52_5_3 (feq (by decide : ¬ ((1 : Int32) = (0 : Int32)))).2 (by decide) (by decide)
  replace W := W.iloadN (pc' := 29) djdk_52_5_28 rfl rfl
  replace W := W.iconst (pc' := 30) (v := (1 : Int32)) djdk_52_5_29 rfl rfl
  replace W := W.ishl (pc' := 31) (v := (Int32.ofNat (2 * i))) djdk_52_5_30 (own_shl1 (by omega)) rfl
  replace W := W.istoreN (pc' := 32) (L' := #[.val (.ref ba), .val (.int (Int32.ofNat (2 * i)))]) djdk_52_5_31 rfl rfl
  replace W := W.aloadN (pc' := 33) djdk_52_5_32 rfl rfl rfl
  replace W := W.iloadN (pc' := 34) djdk_52_5_33 rfl rfl
  replace W := W.iinc (pc' := 37) (v := (Int32.ofNat ((2 * i) + 1))) (L' := #[.val (.ref ba), .val (.int (Int32.ofNat ((2 * i) + 1)))]) djdk_52_5_34 rfl (own_add1 _) rfl rfl
  replace W := W.baload (pc' := 38) (w := (.int (cz.toInt8.toInt32))) djdk_52_5_37 V_ba ⟨own_nn (by omega), own_lt (by omega) (by omega) (by omega)⟩ (by rw [own_clamp (by omega), own_lst_get (by omega)]; exact congrArg Value.int e0) rfl
  replace W := W.sipush (pc' := 41) (v := (255 : Int32)) djdk_52_5_38 rfl rfl
  replace W := W.iand (pc' := 42) (v := ((cz.toInt8.toInt32) &&& (255 : Int32))) djdk_52_5_41 rfl rfl
  replace W := W.gets (pc' := 45) djdk_52_5_42 (tw212 hw) O_hi rfl
  replace W := W.ishl (pc' := 46) (v := (((cz.toInt8.toInt32) &&& (255 : Int32)) <<< ((0 : Int32) &&& 31))) djdk_52_5_45 rfl rfl
  replace W := W.aloadN (pc' := 47) djdk_52_5_46 rfl rfl rfl
  replace W := W.iloadN (pc' := 48) djdk_52_5_47 rfl rfl
  replace W := W.baload (pc' := 49) (w := (.int ((cz >>> ((8 : Int32) &&& 31)).toInt8.toInt32))) djdk_52_5_48 V_ba ⟨own_nn (by omega), own_lt (by omega) (by omega) (by omega)⟩ (by rw [own_clamp (by omega), own_lst_get (by omega)]; exact congrArg Value.int e1) rfl
  replace W := W.sipush (pc' := 52) (v := (255 : Int32)) djdk_52_5_49 rfl rfl
  replace W := W.iand (pc' := 53) (v := (((cz >>> ((8 : Int32) &&& 31)).toInt8.toInt32) &&& (255 : Int32))) djdk_52_5_52 rfl rfl
  replace W := W.gets (pc' := 56) djdk_52_5_53 (tw213 hw) O_lo rfl
  replace W := W.ishl (pc' := 57) (v := ((((cz >>> ((8 : Int32) &&& 31)).toInt8.toInt32) &&& (255 : Int32)) <<< ((8 : Int32) &&& 31))) djdk_52_5_56 rfl rfl
  replace W := W.ior (pc' := 58) (v := ((((cz.toInt8.toInt32) &&& (255 : Int32)) <<< ((0 : Int32) &&& 31)) ||| ((((cz >>> ((8 : Int32) &&& 31)).toInt8.toInt32) &&& (255 : Int32)) <<< ((8 : Int32) &&& 31)))) djdk_52_5_57 rfl rfl
  replace W := W.i2c (pc' := 59) (v := cz) djdk_52_5_58 (own_pair hq_cz) rfl
  exact W.iret (t := .char) djdk_52_5_59 rfl (by simp) (own_narrow_char hq_cz) (by decide) (by decide) (fun V' cv => ⟨rfl, rfl⟩)
set_option maxRecDepth 65536 in
set_option maxHeartbeats 40000000 in
theorem tb_lp (l : Launch) (Z : State) (a0 : Array Value) (n0 : Nat) (hw : ∀ d ∈ tables_1, d.before a0 Z = true) (hEL : EW Z a0 consts_1) (G1 : Int32) (O1 : Sta Z Z.heap "java/lang/String" "COMPACT_STRINGS" "Z" (.int G1)) (P1 : ¬ (G1 = (0 : Int32))) (O_as : Sta Z Z.heap "java/lang/StringUTF16" "$assertionsDisabled" "Z" (.int (1 : Int32))) (O_hi : Sta Z Z.heap "java/lang/StringUTF16" "HI_BYTE_SHIFT" "I" (.int (0 : Int32))) (O_lo : Sta Z Z.heap "java/lang/StringUTF16" "LO_BYTE_SHIFT" "I" (.int (8 : Int32))) (G3 : Value) (O3 : Sta Z Z.heap "jdk/internal/util/Preconditions" "SIOOBE_FORMATTER" "Ljava/util/function/BiFunction;" G3) (rG3 : G3.isRef = true) (ca : Addr) (kc : ClassId) (N : Nat) (g : Nat → Int32) (ba : Addr) (kb : ClassId) (t : Nat) (p : Program) (e : Env) (s : State) (m : MethodId) (below : List Frame) (meth : Method) (c : Code) (S0 : State) (V : Vm) (h0 h : Heap) (hO0 : Old Z n0 h0) (V_ca : Arv Z h ca kc .char (Int32.ofNat N) (lst N g) (.int (0 : Int32))) (V_ba : Arv Z h ba kb .byte (Int32.ofNat (2 * N)) (lst (2 * N) (pu g t)) (.int (0 : Int32))) (E_ba : Exa Z h ba "[B") (S_ba : Safe Z consts_1 V h ba) (G_ba : h0.size ≤ ba) (N_ca_ba : ca ≠ ba) (hN : N ≤ 20) (ht : t ≤ N) (hnm : meth.name = "toBytes") (W : Wk p l e ({ frames := 2, cells := 1, slots := 64, locals := 24 } : Room) s m #[(.ref ca), (.int (0 : Int32)), (.int (Int32.ofNat N))] below meth c jdk_52_method_14_code 5 (some (.array .byte)) Z a0 consts_1 "java/lang/StringUTF16" n0 h0 [] S0 V h 1 64 (mkF m 8 #[.val (.ref ca), .val (.int (Int32.ofNat t)), .val (.int (Int32.ofNat N)), .val (.ref ba), .val (.int (Int32.ofNat t))] [])) : Done p e below S0 s Z consts_1 n0 h0 [] ({ frames := 2, cells := 1, slots := 64, locals := 24 } : Room) (fun v h V' => ∃ (r : Addr) (kr : ClassId), v = some (.ref r) ∧ Arv Z h r kr .byte (Int32.ofNat (2 * N)) (lst (2 * N) (ub g)) (.int (0 : Int32)) ∧ Exa Z h r "[B" ∧ h0.size ≤ r ∧ Safe Z consts_1 V' h r) := by
  have z0 : h0.size ≤ h.size := W.kept.1
  clear z0
  obtain ⟨d, hd⟩ : ∃ d, t + d = N := ⟨_, Nat.add_sub_of_le ht⟩
  clear ht
  induction d generalizing t V h with
  | zero =>
    have htN : t = N := hd
    subst htN
    have z0 : h0.size ≤ h.size := W.kept.1
    replace W := W.iload (pc' := 10) djdk_52_14_8 rfl rfl
    replace W := W.iloadN (pc' := 11) djdk_52_14_10 rfl rfl
    replace W := W.icmpT (pc' := 32) djdk_52_14_11 (flt (own_irr _)).2.1 (by decide) (by decide)
    replace W := W.aloadN (pc' := 33) djdk_52_14_32 rfl rfl rfl
    exact W.aret (t := (.array .byte)) djdk_52_14_33 rfl rfl rfl rfl (by decide) (by decide) (fun V' cv => ⟨ba, kb, rfl, (own_cg V_ba own_puN), E_ba, G_ba, (cv ba V_ba.lt S_ba)⟩)
  | succ d ih =>
    have z0 : h0.size ≤ h.size := W.kept.1
    replace W := W.iload (pc' := 10) djdk_52_14_8 rfl rfl
    replace W := W.iloadN (pc' := 11) djdk_52_14_10 rfl rfl
    replace W := W.icmpF (pc' := 14) djdk_52_14_11 (tlt (own_lt (by omega) (by omega) (by omega))).2.1 rfl
    replace W := W.aloadN (pc' := 15) djdk_52_14_14 rfl rfl rfl
    replace W := W.iload (pc' := 17) djdk_52_14_15 rfl rfl
    replace W := W.aloadN (pc' := 18) djdk_52_14_17 rfl rfl rfl
    replace W := W.iloadN (pc' := 19) djdk_52_14_18 rfl rfl
    replace W := W.caload (pc' := 20) (w := (.int (g t))) djdk_52_14_19 V_ca ⟨own_nn (by omega), own_lt (by omega) (by omega) (by omega)⟩ (by rw [own_clamp (by omega), own_lst_get (by omega)]) rfl
    obtain ⟨V1, h1, r1, W1, K1, hQ1, SF1⟩ := W.callS (pc' := 23) (argsL := [(.ref ba), (.int (Int32.ofNat t)), (.int (g t))]) (rest := []) (Wd := 0) (cells' := 1) (slots' := 64) (y := (⟨"java/lang/StringUTF16", "putChar", "([BII)V"⟩ : MethodName)) djdk_52_14_20 (putc l Z a0 n0 hw hEL G1 O1 P1 O_as O_hi O_lo G3 O3 rG3 ba kb N (pu g t) t (g t) h W.old V_ba (by omega) (by omega) (Nat.le_trans W.1.2.2.2.2.2.2.2.1 G_ba)) (tw208 hw) (tw209 hw) (tw115 hw) (tw210 hw) (by decide) (lenOf pd1 rfl) rfl rfl (by decide) (by decide) rfl (sfS S_ba sf0) (allS (Or.inr G_ba) all0) rfl rfl rfl (by decide) (by decide)
    clear W
    obtain ⟨rfl, q1_1⟩ := hQ1
    have z1 : h.size ≤ h1.size := K1.1
    replace W1 := W1.cast (st' := []) rfl
    replace W1 := W1.iinc (pc' := 26) (v := (Int32.ofNat (t + 1))) (L' := #[.val (.ref ca), .val (.int (Int32.ofNat (t + 1))), .val (.int (Int32.ofNat N)), .val (.ref ba), .val (.int (Int32.ofNat t))]) djdk_52_14_23 rfl (own_add1 _) rfl rfl
    replace W1 := W1.iinc (pc' := 29) (v := (Int32.ofNat (t + 1))) (L' := #[.val (.ref ca), .val (.int (Int32.ofNat (t + 1))), .val (.int (Int32.ofNat N)), .val (.ref ba), .val (.int (Int32.ofNat (t + 1)))]) djdk_52_14_26 rfl (own_add1 _) rfl rfl
    replace W1 := W1.goto (pc' := 8) djdk_52_14_29 (by decide) (by decide)
    have v2 := own_cg (g' := (pu g (t + 1))) q1_1 own_puS
    have v3 := (V_ca.keep K1 (ninS N_ca_ba nin0))
    have e4 := (E_ba.keep K1)
    have sf5 := (SF1 ba V_ba.lt S_ba)
    exact ih (t + 1) _ _ v3 v2 e4 sf5 W1 (by omega)
theorem ef_tob (m : MethodId) (ca : Addr) (kc : ClassId) (N : Nat) (g : Nat → Int32) : entryFrame m #[(.ref ca), (.int (0 : Int32)), (.int (Int32.ofNat N))] 5 = mkF m 0 #[.val (.ref ca), .val (.int (0 : Int32)), .val (.int (Int32.ofNat N)), .unset, .unset] [] := by first | (simp [entryFrame, mkF, argsToLocals, Value.category]; done) | rfl
set_option maxRecDepth 65536 in
set_option maxHeartbeats 40000000 in
theorem tob (l : Launch) (Z : State) (a0 : Array Value) (n0 : Nat) (hw : ∀ d ∈ tables_1, d.before a0 Z = true) (hEL : EW Z a0 consts_1) (G1 : Int32) (O1 : Sta Z Z.heap "java/lang/String" "COMPACT_STRINGS" "Z" (.int G1)) (P1 : ¬ (G1 = (0 : Int32))) (O_as : Sta Z Z.heap "java/lang/StringUTF16" "$assertionsDisabled" "Z" (.int (1 : Int32))) (O_hi : Sta Z Z.heap "java/lang/StringUTF16" "HI_BYTE_SHIFT" "I" (.int (0 : Int32))) (O_lo : Sta Z Z.heap "java/lang/StringUTF16" "LO_BYTE_SHIFT" "I" (.int (8 : Int32))) (G3 : Value) (O3 : Sta Z Z.heap "jdk/internal/util/Preconditions" "SIOOBE_FORMATTER" "Ljava/util/function/BiFunction;" G3) (rG3 : G3.isRef = true) (ca : Addr) (kc : ClassId) (N : Nat) (g : Nat → Int32) (h0 : Heap) (hO : Old Z n0 h0) (V_ca : Arv Z h0 ca kc .char (Int32.ofNat N) (lst N g) (.int (0 : Int32))) (hN : N ≤ 20) :
    Con l Z consts_1 n0 (⟨"java/lang/StringUTF16", "toBytes", "([CII)[B"⟩ : MethodName) jdk_52_method_14_code 5 (some (.array .byte)) ({ frames := 2, cells := 1, slots := 64, locals := 24 } : Room) #[(.ref ca), (.int (0 : Int32)), (.int (Int32.ofNat N))] h0 [] (fun v h V' => ∃ (r : Addr) (kr : ClassId), v = some (.ref r) ∧ Arv Z h r kr .byte (Int32.ofNat (2 * N)) (lst (2 * N) (ub g)) (.int (0 : Int32)) ∧ Exa Z h r "[B" ∧ h0.size ≤ r ∧ Safe Z consts_1 V' h r) [] := by
  refine Con.of (a0 := a0) pf4 (fun m => ef_tob m ca kc N g) all0 hO hEL ?_
  intro p e s m below meth c S0 hnm hsf W
  replace W := W.iloadN (pc' := 1) djdk_52_14_0 rfl rfl
  obtain ⟨V1, h1, r1, W1, K1, hQ1, SF1⟩ := W.callS (pc' := 4) (argsL := [(.int (Int32.ofNat N))]) (rest := []) (Wd := 0) (cells' := 1) (slots' := 64) (y := (⟨"java/lang/StringUTF16", "newBytesFor", "(I)[B"⟩ : MethodName)) djdk_52_14_1 (nbf l Z a0 n0 hw hEL G1 O1 P1 O_as O_hi O_lo G3 O3 rG3 N h0 W.old (by omega)) (tw201 hw) (tw202 hw) (tw115 hw) (tw203 hw) (by decide) (lenOf pd2 rfl) rfl rfl (by decide) (by decide) rfl sf0 all0 rfl rfl rfl (by decide) (by decide)
  clear W
  obtain ⟨r1, kr1, rfl, q1_1, q1_2, q1_3, q1_4⟩ := hQ1
  have z1 : h0.size ≤ h1.size := K1.1
  replace W1 := W1.cast (st' := [(.ref r1)]) rfl
  replace W1 := W1.astoreN (pc' := 5) (L' := #[.val (.ref ca), .val (.int (0 : Int32)), .val (.int (Int32.ofNat N)), .val (.ref r1), .unset]) djdk_52_14_4 rfl rfl rfl
  replace W1 := W1.iconst (pc' := 6) (v := (0 : Int32)) djdk_52_14_5 rfl rfl
  replace W1 := W1.istore (pc' := 8) (L' := #[.val (.ref ca), .val (.int (0 : Int32)), .val (.int (Int32.ofNat N)), .val (.ref r1), .val (.int (0 : Int32))]) djdk_52_14_6 rfl rfl
  replace W1 := W1.castL (L' := #[.val (.ref ca), .val (.int (Int32.ofNat 0)), .val (.int (Int32.ofNat N)), .val (.ref r1), .val (.int (Int32.ofNat 0))]) rfl
  have v2 := own_cg (g' := (pu g 0)) q1_1 own_pu0
  have v3 := (V_ca.keep K1 nin0)
  exact tb_lp l Z a0 n0 hw hEL G1 O1 P1 O_as O_hi O_lo G3 O3 rG3 ca kc N g r1 kr1 0 p e s m below meth c S0 V1 h0 h1 hO v3 v2 q1_2 q1_4 q1_3 (Nat.ne_of_lt (Nat.lt_of_lt_of_le V_ca.lt q1_3)) hN (by omega) hnm W1
set_option maxRecDepth 65536 in
set_option maxHeartbeats 40000000 in
theorem c5_lp (l : Launch) (Z : State) (a0 : Array Value) (n0 : Nat) (hw : ∀ d ∈ tables_1, d.before a0 Z = true) (hEL : EW Z a0 consts_1) (G1 : Int32) (O1 : Sta Z Z.heap "java/lang/String" "COMPACT_STRINGS" "Z" (.int G1)) (P1 : ¬ (G1 = (0 : Int32))) (O_as : Sta Z Z.heap "java/lang/StringUTF16" "$assertionsDisabled" "Z" (.int (1 : Int32))) (O_hi : Sta Z Z.heap "java/lang/StringUTF16" "HI_BYTE_SHIFT" "I" (.int (0 : Int32))) (O_lo : Sta Z Z.heap "java/lang/StringUTF16" "LO_BYTE_SHIFT" "I" (.int (8 : Int32))) (G3 : Value) (O3 : Sta Z Z.heap "jdk/internal/util/Preconditions" "SIOOBE_FORMATTER" "Ljava/util/function/BiFunction;" G3) (rG3 : G3.isRef = true) (ca : Addr) (kc : ClassId) (ba : Addr) (kb : ClassId) (N : Nat) (g : Nat → Int32) (t : Nat) (xv : Int32) (p : Program) (e : Env) (s : State) (m : MethodId) (below : List Frame) (meth : Method) (c : Code) (S0 : State) (V : Vm) (h0 h : Heap) (hO0 : Old Z n0 h0) (V_ca : Arv Z h ca kc .char (Int32.ofNat N) (lst N g) (.int (0 : Int32))) (V_ba : Arv Z h ba kb .byte (Int32.ofNat N) (lst N (pl g t)) (.int (0 : Int32))) (S_ba : Safe Z consts_1 V h ba) (N_ca_ba : ca ≠ ba) (hN : N ≤ 20) (hl : ∀ i, i < N → ¬ (255 : Int32) < g i) (ht : t ≤ N) (g_ba : n0 ≤ ba) (hnm : meth.name = "compress") (W : Wk p l e ({ frames := 0, cells := 0, slots := 0, locals := 0 } : Room) s m #[(.ref ca), (.int (0 : Int32)), (.ref ba), (.int (0 : Int32)), (.int (Int32.ofNat N))] below meth c jdk_52_method_21_code 7 (some .int) Z a0 consts_1 "java/lang/StringUTF16" n0 h0 [ba] S0 V h 0 0 (mkF m 3 #[.val (.ref ca), .val (.int (Int32.ofNat t)), .val (.ref ba), .val (.int (Int32.ofNat t)), .val (.int (Int32.ofNat N)), .val (.int (Int32.ofNat t)), .val (.int xv)] [])) : Done p e below S0 s Z consts_1 n0 h0 [ba] ({ frames := 0, cells := 0, slots := 0, locals := 0 } : Room) (fun v h V' => v = some (.int (Int32.ofNat N)) ∧ Arv Z h ba kb .byte (Int32.ofNat N) (lst N (lb g)) (.int (0 : Int32))) := by
  have z0 : h0.size ≤ h.size := W.kept.1
  clear z0
  obtain ⟨d, hd⟩ : ∃ d, t + d = N := ⟨_, Nat.add_sub_of_le ht⟩
  clear ht
  induction d generalizing t xv V h with
  | zero =>
    have htN : t = N := hd
    subst htN
    have z0 : h0.size ≤ h.size := W.kept.1
    replace W := W.iload (pc' := 5) djdk_52_21_3 rfl rfl
    replace W := W.iload (pc' := 7) djdk_52_21_5 rfl rfl
    replace W := W.icmpT (pc' := 44) djdk_52_21_7 (flt (own_irr _)).2.1 (by decide) (by decide)
    replace W := W.iload (pc' := 46) djdk_52_21_44 rfl rfl
    exact W.iret (t := .int) djdk_52_21_46 rfl (by simp) rfl (by decide) (by decide) (fun V' cv => ⟨rfl, (own_cg V_ba own_plN)⟩)
  | succ d ih =>
    have z0 : h0.size ≤ h.size := W.kept.1
    replace W := W.iload (pc' := 5) djdk_52_21_3 rfl rfl
    replace W := W.iload (pc' := 7) djdk_52_21_5 rfl rfl
    replace W := W.icmpF (pc' := 10) djdk_52_21_7 (tlt (own_lt (by omega) (by omega) (by omega))).2.1 rfl
    replace W := W.aloadN (pc' := 11) djdk_52_21_10 rfl rfl rfl
    replace W := W.iloadN (pc' := 12) djdk_52_21_11 rfl rfl
    replace W := W.caload (pc' := 13) (w := (.int (g t))) djdk_52_21_12 V_ca ⟨own_nn (by omega), own_lt (by omega) (by omega) (by omega)⟩ (by rw [own_clamp (by omega), own_lst_get (by omega)]) rfl
    replace W := W.istore (pc' := 15) (L' := #[.val (.ref ca), .val (.int (Int32.ofNat t)), .val (.ref ba), .val (.int (Int32.ofNat t)), .val (.int (Int32.ofNat N)), .val (.int (Int32.ofNat t)), .val (.int (g t))]) djdk_52_21_13 rfl rfl
    replace W := W.iload (pc' := 17) djdk_52_21_15 rfl rfl
    replace W := W.sipush (pc' := 20) (v := (255 : Int32)) djdk_52_21_17 rfl rfl
    replace W := W.icmpT (pc' := 26) djdk_52_21_20 (flt (hl _ (by omega))).2.2.2 (by decide) (by decide)
    replace W := W.aloadN (pc' := 27) djdk_52_21_26 rfl rfl rfl
    replace W := W.iloadN (pc' := 28) djdk_52_21_27 rfl rfl
    replace W := W.iload (pc' := 30) djdk_52_21_28 rfl rfl
    replace W := W.i2b (pc' := 31) (v := ((g t).toInt8.toInt32)) djdk_52_21_30 rfl rfl
    obtain ⟨h1, W1, w1, A1, SF1⟩ := W.bastore (pc' := 32) (i := t) (x' := ((g t).toInt8.toInt32)) djdk_52_21_31 V_ba ⟨own_nn (by omega), own_lt (by omega) (by omega) (by omega)⟩ (own_clamp (by omega)) (by rw [own_lst_len]; omega) (own_narb _) S_ba (Or.inl (List.mem_of_getElem? (i := 0) rfl)) rfl
    clear W
    have z1 : h.size ≤ h1.size := Nat.le_of_eq w1.size.symm
    have v1 : Arv Z h1 ba kb .byte (Int32.ofNat N) (lst N (upd (pl g t) t ((g t).toInt8.toInt32))) (.int (0 : Int32)) := (by rw [← own_lst_set]; exact A1)
    replace W1 := W1.iinc (pc' := 35) (v := (Int32.ofNat (t + 1))) (L' := #[.val (.ref ca), .val (.int (Int32.ofNat (t + 1))), .val (.ref ba), .val (.int (Int32.ofNat t)), .val (.int (Int32.ofNat N)), .val (.int (Int32.ofNat t)), .val (.int (g t))]) djdk_52_21_32 rfl (own_add1 _) rfl rfl
    replace W1 := W1.iinc (pc' := 38) (v := (Int32.ofNat (t + 1))) (L' := #[.val (.ref ca), .val (.int (Int32.ofNat (t + 1))), .val (.ref ba), .val (.int (Int32.ofNat (t + 1))), .val (.int (Int32.ofNat N)), .val (.int (Int32.ofNat t)), .val (.int (g t))]) djdk_52_21_35 rfl (own_add1 _) rfl rfl
    replace W1 := W1.iinc (pc' := 41) (v := (Int32.ofNat (t + 1))) (L' := #[.val (.ref ca), .val (.int (Int32.ofNat (t + 1))), .val (.ref ba), .val (.int (Int32.ofNat (t + 1))), .val (.int (Int32.ofNat N)), .val (.int (Int32.ofNat (t + 1))), .val (.int (g t))]) djdk_52_21_38 rfl (own_add1 _) rfl rfl
    replace W1 := W1.goto (pc' := 3) djdk_52_21_41 (by decide) (by decide)
    have v2 := own_cg (g' := (pl g (t + 1))) v1 own_plS
    have v3 := (V_ca.other w1 N_ca_ba)
    have sf4 := (SF1 ba S_ba)
    exact ih (t + 1) _ _ _ v3 v2 sf4 W1 (by omega)
theorem ef_c5 (m : MethodId) (ca : Addr) (kc : ClassId) (ba : Addr) (kb : ClassId) (N : Nat) (g : Nat → Int32) : entryFrame m #[(.ref ca), (.int (0 : Int32)), (.ref ba), (.int (0 : Int32)), (.int (Int32.ofNat N))] 7 = mkF m 0 #[.val (.ref ca), .val (.int (0 : Int32)), .val (.ref ba), .val (.int (0 : Int32)), .val (.int (Int32.ofNat N)), .unset, .unset] [] := by first | (simp [entryFrame, mkF, argsToLocals, Value.category]; done) | rfl
set_option maxRecDepth 65536 in
set_option maxHeartbeats 40000000 in
theorem c5 (l : Launch) (Z : State) (a0 : Array Value) (n0 : Nat) (hw : ∀ d ∈ tables_1, d.before a0 Z = true) (hEL : EW Z a0 consts_1) (G1 : Int32) (O1 : Sta Z Z.heap "java/lang/String" "COMPACT_STRINGS" "Z" (.int G1)) (P1 : ¬ (G1 = (0 : Int32))) (O_as : Sta Z Z.heap "java/lang/StringUTF16" "$assertionsDisabled" "Z" (.int (1 : Int32))) (O_hi : Sta Z Z.heap "java/lang/StringUTF16" "HI_BYTE_SHIFT" "I" (.int (0 : Int32))) (O_lo : Sta Z Z.heap "java/lang/StringUTF16" "LO_BYTE_SHIFT" "I" (.int (8 : Int32))) (G3 : Value) (O3 : Sta Z Z.heap "jdk/internal/util/Preconditions" "SIOOBE_FORMATTER" "Ljava/util/function/BiFunction;" G3) (rG3 : G3.isRef = true) (ca : Addr) (kc : ClassId) (ba : Addr) (kb : ClassId) (N : Nat) (g : Nat → Int32) (h0 : Heap) (hO : Old Z n0 h0) (V_ca : Arv Z h0 ca kc .char (Int32.ofNat N) (lst N g) (.int (0 : Int32))) (V_ba : Arv Z h0 ba kb .byte (Int32.ofNat N) (lst N zf) (.int (0 : Int32))) (N_ca_ba : ca ≠ ba) (hN : N ≤ 20) (hge1 : 1 ≤ N) (hl : ∀ i, i < N → ¬ (255 : Int32) < g i) (g_ba : n0 ≤ ba) :
    Con l Z consts_1 n0 (⟨"java/lang/StringUTF16", "compress", "([CI[BII)I"⟩ : MethodName) jdk_52_method_21_code 7 (some .int) ({ frames := 0, cells := 0, slots := 0, locals := 0 } : Room) #[(.ref ca), (.int (0 : Int32)), (.ref ba), (.int (0 : Int32)), (.int (Int32.ofNat N))] h0 [ba] (fun v h V' => v = some (.int (Int32.ofNat N)) ∧ Arv Z h ba kb .byte (Int32.ofNat N) (lst N (lb g)) (.int (0 : Int32))) [] := by
  refine Con.of (a0 := a0) pf5 (fun m => ef_c5 m ca kc ba kb N g) (allS g_ba all0) hO hEL ?_
  intro p e s m below meth c S0 hnm hsf W
  replace W := W.iconst (pc' := 1) (v := (0 : Int32)) djdk_52_21_0 rfl rfl
  replace W := W.istore (pc' := 3) (L' := #[.val (.ref ca), .val (.int (0 : Int32)), .val (.ref ba), .val (.int (0 : Int32)), .val (.int (Int32.ofNat N)), .val (.int (0 : Int32)), .unset]) djdk_52_21_1 rfl rfl
  replace W := W.castL (L' := #[.val (.ref ca), .val (.int (Int32.ofNat 0)), .val (.ref ba), .val (.int (Int32.ofNat 0)), .val (.int (Int32.ofNat N)), .val (.int (Int32.ofNat 0)), .unset]) rfl
  have v1 := own_cg (g' := (pl g 0)) V_ba own_pl0
  replace W := W.iload (pc' := 5) djdk_52_21_3 rfl rfl
  replace W := W.iload (pc' := 7) djdk_52_21_5 rfl rfl
  replace W := W.icmpF (pc' := 10) djdk_52_21_7 (tlt (own_lt (X := 0) (Y := N) (by omega) (by omega) (by omega))).2.1 rfl
  replace W := W.aloadN (pc' := 11) djdk_52_21_10 rfl rfl rfl
  replace W := W.iloadN (pc' := 12) djdk_52_21_11 rfl rfl
  replace W := W.caload (pc' := 13) (w := (.int (g 0))) djdk_52_21_12 V_ca ⟨own_nn (by omega), own_lt (by omega) (by omega) (by omega)⟩ (by rw [own_clamp (by omega), own_lst_get (by omega)]) rfl
  replace W := W.istore (pc' := 15) (L' := #[.val (.ref ca), .val (.int (Int32.ofNat 0)), .val (.ref ba), .val (.int (Int32.ofNat 0)), .val (.int (Int32.ofNat N)), .val (.int (Int32.ofNat 0)), .val (.int (g 0))]) djdk_52_21_13 rfl rfl
  replace W := W.iload (pc' := 17) djdk_52_21_15 rfl rfl
  replace W := W.sipush (pc' := 20) (v := (255 : Int32)) djdk_52_21_17 rfl rfl
  replace W := W.icmpT (pc' := 26) djdk_52_21_20 (flt (hl _ (by omega))).2.2.2 (by decide) (by decide)
  replace W := W.aloadN (pc' := 27) djdk_52_21_26 rfl rfl rfl
  replace W := W.iloadN (pc' := 28) djdk_52_21_27 rfl rfl
  replace W := W.iload (pc' := 30) djdk_52_21_28 rfl rfl
  replace W := W.i2b (pc' := 31) (v := ((g 0).toInt8.toInt32)) djdk_52_21_30 rfl rfl
  obtain ⟨h2, W2, w2, A2, SF2⟩ := W.bastore (pc' := 32) (i := 0) (x' := ((g 0).toInt8.toInt32)) djdk_52_21_31 v1 ⟨own_nn (by omega), own_lt (by omega) (by omega) (by omega)⟩ (own_clamp (by omega)) (by rw [own_lst_len]; omega) (own_narb _) (hsf _ (List.mem_of_getElem? (i := 0) rfl)) (Or.inl (List.mem_of_getElem? (i := 0) rfl)) rfl
  clear W
  have z2 : h0.size ≤ h2.size := Nat.le_of_eq w2.size.symm
  have v2 : Arv Z h2 ba kb .byte (Int32.ofNat N) (lst N (upd (pl g 0) 0 ((g 0).toInt8.toInt32))) (.int (0 : Int32)) := (by rw [← own_lst_set]; exact A2)
  replace W2 := W2.iinc (pc' := 35) (v := (Int32.ofNat (0 + 1))) (L' := #[.val (.ref ca), .val (.int (Int32.ofNat (0 + 1))), .val (.ref ba), .val (.int (Int32.ofNat 0)), .val (.int (Int32.ofNat N)), .val (.int (Int32.ofNat 0)), .val (.int (g 0))]) djdk_52_21_32 rfl (own_add1 _) rfl rfl
  replace W2 := W2.iinc (pc' := 38) (v := (Int32.ofNat (0 + 1))) (L' := #[.val (.ref ca), .val (.int (Int32.ofNat (0 + 1))), .val (.ref ba), .val (.int (Int32.ofNat (0 + 1))), .val (.int (Int32.ofNat N)), .val (.int (Int32.ofNat 0)), .val (.int (g 0))]) djdk_52_21_35 rfl (own_add1 _) rfl rfl
  replace W2 := W2.iinc (pc' := 41) (v := (Int32.ofNat (0 + 1))) (L' := #[.val (.ref ca), .val (.int (Int32.ofNat (0 + 1))), .val (.ref ba), .val (.int (Int32.ofNat (0 + 1))), .val (.int (Int32.ofNat N)), .val (.int (Int32.ofNat (0 + 1))), .val (.int (g 0))]) djdk_52_21_38 rfl (own_add1 _) rfl rfl
  replace W2 := W2.goto (pc' := 3) djdk_52_21_41 (by decide) (by decide)
  have v3 := own_cg (g' := (pl g (0 + 1))) v2 own_plS
  have v4 := (V_ca.other w2 N_ca_ba)
  have sf5 := (SF2 ba (hsf _ (List.mem_of_getElem? (i := 0) rfl)))
  exact c5_lp l Z a0 n0 hw hEL G1 O1 P1 O_as O_hi O_lo G3 O3 rG3 ca kc ba kb N g (0 + 1) (g 0) p e s m below meth c S0 s.vm h0 h2 hO v4 v3 sf5 N_ca_ba hN hl (by omega) g_ba hnm W2
set_option maxRecDepth 65536 in
set_option maxHeartbeats 40000000 in
theorem c5f_lp (l : Launch) (Z : State) (a0 : Array Value) (n0 : Nat) (hw : ∀ d ∈ tables_1, d.before a0 Z = true) (hEL : EW Z a0 consts_1) (G1 : Int32) (O1 : Sta Z Z.heap "java/lang/String" "COMPACT_STRINGS" "Z" (.int G1)) (P1 : ¬ (G1 = (0 : Int32))) (O_as : Sta Z Z.heap "java/lang/StringUTF16" "$assertionsDisabled" "Z" (.int (1 : Int32))) (O_hi : Sta Z Z.heap "java/lang/StringUTF16" "HI_BYTE_SHIFT" "I" (.int (0 : Int32))) (O_lo : Sta Z Z.heap "java/lang/StringUTF16" "LO_BYTE_SHIFT" "I" (.int (8 : Int32))) (G3 : Value) (O3 : Sta Z Z.heap "jdk/internal/util/Preconditions" "SIOOBE_FORMATTER" "Ljava/util/function/BiFunction;" G3) (rG3 : G3.isRef = true) (ca : Addr) (kc : ClassId) (ba : Addr) (kb : ClassId) (N : Nat) (g : Nat → Int32) (k : Nat) (t : Nat) (xv : Int32) (p : Program) (e : Env) (s : State) (m : MethodId) (below : List Frame) (meth : Method) (c : Code) (S0 : State) (V : Vm) (h0 h : Heap) (hO0 : Old Z n0 h0) (V_ca : Arv Z h ca kc .char (Int32.ofNat N) (lst N g) (.int (0 : Int32))) (V_ba : Arv Z h ba kb .byte (Int32.ofNat N) (lst N (pl g t)) (.int (0 : Int32))) (S_ba : Safe Z consts_1 V h ba) (N_ca_ba : ca ≠ ba) (hN : N ≤ 20) (hkl : ∀ i, i < k → ¬ (255 : Int32) < g i) (hkN : k < N) (gk : (255 : Int32) < g k) (ht : t ≤ k) (g_ba : n0 ≤ ba) (hnm : meth.name = "compress") (W : Wk p l e ({ frames := 0, cells := 0, slots := 0, locals := 0 } : Room) s m #[(.ref ca), (.int (0 : Int32)), (.ref ba), (.int (0 : Int32)), (.int (Int32.ofNat N))] below meth c jdk_52_method_21_code 7 (some .int) Z a0 consts_1 "java/lang/StringUTF16" n0 h0 [ba] S0 V h 0 0 (mkF m 3 #[.val (.ref ca), .val (.int (Int32.ofNat t)), .val (.ref ba), .val (.int (Int32.ofNat t)), .val (.int (Int32.ofNat N)), .val (.int (Int32.ofNat t)), .val (.int xv)] [])) : Done p e below S0 s Z consts_1 n0 h0 [ba] ({ frames := 0, cells := 0, slots := 0, locals := 0 } : Room) (fun v h V' => v = some (.int (Int32.ofNat k))) := by
  have z0 : h0.size ≤ h.size := W.kept.1
  clear z0
  obtain ⟨d, hd⟩ : ∃ d, t + d = k := ⟨_, Nat.add_sub_of_le ht⟩
  clear ht
  induction d generalizing t xv V h with
  | zero =>
    have htN : t = k := hd
    subst htN
    have z0 : h0.size ≤ h.size := W.kept.1
    replace W := W.iload (pc' := 5) djdk_52_21_3 rfl rfl
    replace W := W.iload (pc' := 7) djdk_52_21_5 rfl rfl
    replace W := W.icmpF (pc' := 10) djdk_52_21_7 (tlt (own_lt (X := t) (Y := N) (by omega) (by omega) (by omega))).2.1 rfl
    replace W := W.aloadN (pc' := 11) djdk_52_21_10 rfl rfl rfl
    replace W := W.iloadN (pc' := 12) djdk_52_21_11 rfl rfl
    replace W := W.caload (pc' := 13) (w := (.int (g t))) djdk_52_21_12 V_ca ⟨own_nn (by omega), own_lt (by omega) (by omega) (by omega)⟩ (by rw [own_clamp (by omega), own_lst_get (by omega)]) rfl
    replace W := W.istore (pc' := 15) (L' := #[.val (.ref ca), .val (.int (Int32.ofNat t)), .val (.ref ba), .val (.int (Int32.ofNat t)), .val (.int (Int32.ofNat N)), .val (.int (Int32.ofNat t)), .val (.int (g t))]) djdk_52_21_13 rfl rfl
    replace W := W.iload (pc' := 17) djdk_52_21_15 rfl rfl
    replace W := W.sipush (pc' := 20) (v := (255 : Int32)) djdk_52_21_17 rfl rfl
    replace W := W.icmpF (pc' := 23) djdk_52_21_20 (tlt gk).2.2.2 rfl
    replace W := W.iload (pc' := 25) djdk_52_21_23 rfl rfl
    exact W.iret (t := .int) djdk_52_21_25 rfl (by simp) rfl (by decide) (by decide) (fun V' cv => rfl)
  | succ d ih =>
    have z0 : h0.size ≤ h.size := W.kept.1
    replace W := W.iload (pc' := 5) djdk_52_21_3 rfl rfl
    replace W := W.iload (pc' := 7) djdk_52_21_5 rfl rfl
    replace W := W.icmpF (pc' := 10) djdk_52_21_7 (tlt (own_lt (X := t) (Y := N) (by omega) (by omega) (by omega))).2.1 rfl
    replace W := W.aloadN (pc' := 11) djdk_52_21_10 rfl rfl rfl
    replace W := W.iloadN (pc' := 12) djdk_52_21_11 rfl rfl
    replace W := W.caload (pc' := 13) (w := (.int (g t))) djdk_52_21_12 V_ca ⟨own_nn (by omega), own_lt (by omega) (by omega) (by omega)⟩ (by rw [own_clamp (by omega), own_lst_get (by omega)]) rfl
    replace W := W.istore (pc' := 15) (L' := #[.val (.ref ca), .val (.int (Int32.ofNat t)), .val (.ref ba), .val (.int (Int32.ofNat t)), .val (.int (Int32.ofNat N)), .val (.int (Int32.ofNat t)), .val (.int (g t))]) djdk_52_21_13 rfl rfl
    replace W := W.iload (pc' := 17) djdk_52_21_15 rfl rfl
    replace W := W.sipush (pc' := 20) (v := (255 : Int32)) djdk_52_21_17 rfl rfl
    replace W := W.icmpT (pc' := 26) djdk_52_21_20 (flt (hkl _ (by omega))).2.2.2 (by decide) (by decide)
    replace W := W.aloadN (pc' := 27) djdk_52_21_26 rfl rfl rfl
    replace W := W.iloadN (pc' := 28) djdk_52_21_27 rfl rfl
    replace W := W.iload (pc' := 30) djdk_52_21_28 rfl rfl
    replace W := W.i2b (pc' := 31) (v := ((g t).toInt8.toInt32)) djdk_52_21_30 rfl rfl
    obtain ⟨h1, W1, w1, A1, SF1⟩ := W.bastore (pc' := 32) (i := t) (x' := ((g t).toInt8.toInt32)) djdk_52_21_31 V_ba ⟨own_nn (by omega), own_lt (by omega) (by omega) (by omega)⟩ (own_clamp (by omega)) (by rw [own_lst_len]; omega) (own_narb _) S_ba (Or.inl (List.mem_of_getElem? (i := 0) rfl)) rfl
    clear W
    have z1 : h.size ≤ h1.size := Nat.le_of_eq w1.size.symm
    have v1 : Arv Z h1 ba kb .byte (Int32.ofNat N) (lst N (upd (pl g t) t ((g t).toInt8.toInt32))) (.int (0 : Int32)) := (by rw [← own_lst_set]; exact A1)
    replace W1 := W1.iinc (pc' := 35) (v := (Int32.ofNat (t + 1))) (L' := #[.val (.ref ca), .val (.int (Int32.ofNat (t + 1))), .val (.ref ba), .val (.int (Int32.ofNat t)), .val (.int (Int32.ofNat N)), .val (.int (Int32.ofNat t)), .val (.int (g t))]) djdk_52_21_32 rfl (own_add1 _) rfl rfl
    replace W1 := W1.iinc (pc' := 38) (v := (Int32.ofNat (t + 1))) (L' := #[.val (.ref ca), .val (.int (Int32.ofNat (t + 1))), .val (.ref ba), .val (.int (Int32.ofNat (t + 1))), .val (.int (Int32.ofNat N)), .val (.int (Int32.ofNat t)), .val (.int (g t))]) djdk_52_21_35 rfl (own_add1 _) rfl rfl
    replace W1 := W1.iinc (pc' := 41) (v := (Int32.ofNat (t + 1))) (L' := #[.val (.ref ca), .val (.int (Int32.ofNat (t + 1))), .val (.ref ba), .val (.int (Int32.ofNat (t + 1))), .val (.int (Int32.ofNat N)), .val (.int (Int32.ofNat (t + 1))), .val (.int (g t))]) djdk_52_21_38 rfl (own_add1 _) rfl rfl
    replace W1 := W1.goto (pc' := 3) djdk_52_21_41 (by decide) (by decide)
    have v2 := own_cg (g' := (pl g (t + 1))) v1 own_plS
    have v3 := (V_ca.other w1 N_ca_ba)
    have sf4 := (SF1 ba S_ba)
    exact ih (t + 1) _ _ _ v3 v2 sf4 W1 (by omega)
theorem ef_c5f (m : MethodId) (ca : Addr) (kc : ClassId) (ba : Addr) (kb : ClassId) (N : Nat) (g : Nat → Int32) (k : Nat) : entryFrame m #[(.ref ca), (.int (0 : Int32)), (.ref ba), (.int (0 : Int32)), (.int (Int32.ofNat N))] 7 = mkF m 0 #[.val (.ref ca), .val (.int (0 : Int32)), .val (.ref ba), .val (.int (0 : Int32)), .val (.int (Int32.ofNat N)), .unset, .unset] [] := by first | (simp [entryFrame, mkF, argsToLocals, Value.category]; done) | rfl
set_option maxRecDepth 65536 in
set_option maxHeartbeats 40000000 in
theorem c5f (l : Launch) (Z : State) (a0 : Array Value) (n0 : Nat) (hw : ∀ d ∈ tables_1, d.before a0 Z = true) (hEL : EW Z a0 consts_1) (G1 : Int32) (O1 : Sta Z Z.heap "java/lang/String" "COMPACT_STRINGS" "Z" (.int G1)) (P1 : ¬ (G1 = (0 : Int32))) (O_as : Sta Z Z.heap "java/lang/StringUTF16" "$assertionsDisabled" "Z" (.int (1 : Int32))) (O_hi : Sta Z Z.heap "java/lang/StringUTF16" "HI_BYTE_SHIFT" "I" (.int (0 : Int32))) (O_lo : Sta Z Z.heap "java/lang/StringUTF16" "LO_BYTE_SHIFT" "I" (.int (8 : Int32))) (G3 : Value) (O3 : Sta Z Z.heap "jdk/internal/util/Preconditions" "SIOOBE_FORMATTER" "Ljava/util/function/BiFunction;" G3) (rG3 : G3.isRef = true) (ca : Addr) (kc : ClassId) (ba : Addr) (kb : ClassId) (N : Nat) (g : Nat → Int32) (k : Nat) (h0 : Heap) (hO : Old Z n0 h0) (V_ca : Arv Z h0 ca kc .char (Int32.ofNat N) (lst N g) (.int (0 : Int32))) (V_ba : Arv Z h0 ba kb .byte (Int32.ofNat N) (lst N zf) (.int (0 : Int32))) (N_ca_ba : ca ≠ ba) (hN : N ≤ 20) (hkl : ∀ i, i < k → ¬ (255 : Int32) < g i) (hkN : k < N) (gk : (255 : Int32) < g k) (g_ba : n0 ≤ ba) :
    Con l Z consts_1 n0 (⟨"java/lang/StringUTF16", "compress", "([CI[BII)I"⟩ : MethodName) jdk_52_method_21_code 7 (some .int) ({ frames := 0, cells := 0, slots := 0, locals := 0 } : Room) #[(.ref ca), (.int (0 : Int32)), (.ref ba), (.int (0 : Int32)), (.int (Int32.ofNat N))] h0 [ba] (fun v h V' => v = some (.int (Int32.ofNat k))) [] := by
  refine Con.of (a0 := a0) pf5 (fun m => ef_c5f m ca kc ba kb N g k) (allS g_ba all0) hO hEL ?_
  intro p e s m below meth c S0 hnm hsf W
  replace W := W.iconst (pc' := 1) (v := (0 : Int32)) djdk_52_21_0 rfl rfl
  replace W := W.istore (pc' := 3) (L' := #[.val (.ref ca), .val (.int (0 : Int32)), .val (.ref ba), .val (.int (0 : Int32)), .val (.int (Int32.ofNat N)), .val (.int (0 : Int32)), .unset]) djdk_52_21_1 rfl rfl
  replace W := W.castL (L' := #[.val (.ref ca), .val (.int (Int32.ofNat 0)), .val (.ref ba), .val (.int (Int32.ofNat 0)), .val (.int (Int32.ofNat N)), .val (.int (Int32.ofNat 0)), .unset]) rfl
  have v1 := own_cg (g' := (pl g 0)) V_ba own_pl0
  by_cases hk0 : k = 0
  · subst hk0
    replace W := W.iload (pc' := 5) djdk_52_21_3 rfl rfl
    replace W := W.iload (pc' := 7) djdk_52_21_5 rfl rfl
    replace W := W.icmpF (pc' := 10) djdk_52_21_7 (tlt (own_lt (X := 0) (Y := N) (by omega) (by omega) (by omega))).2.1 rfl
    replace W := W.aloadN (pc' := 11) djdk_52_21_10 rfl rfl rfl
    replace W := W.iloadN (pc' := 12) djdk_52_21_11 rfl rfl
    replace W := W.caload (pc' := 13) (w := (.int (g 0))) djdk_52_21_12 V_ca ⟨own_nn (by omega), own_lt (by omega) (by omega) (by omega)⟩ (by rw [own_clamp (by omega), own_lst_get (by omega)]) rfl
    replace W := W.istore (pc' := 15) (L' := #[.val (.ref ca), .val (.int (Int32.ofNat 0)), .val (.ref ba), .val (.int (Int32.ofNat 0)), .val (.int (Int32.ofNat N)), .val (.int (Int32.ofNat 0)), .val (.int (g 0))]) djdk_52_21_13 rfl rfl
    replace W := W.iload (pc' := 17) djdk_52_21_15 rfl rfl
    replace W := W.sipush (pc' := 20) (v := (255 : Int32)) djdk_52_21_17 rfl rfl
    replace W := W.icmpF (pc' := 23) djdk_52_21_20 (tlt gk).2.2.2 rfl
    replace W := W.iload (pc' := 25) djdk_52_21_23 rfl rfl
    exact W.iret (t := .int) djdk_52_21_25 rfl (by simp) rfl (by decide) (by decide) (fun V' cv => rfl)
  · replace W := W.iload (pc' := 5) djdk_52_21_3 rfl rfl
    replace W := W.iload (pc' := 7) djdk_52_21_5 rfl rfl
    replace W := W.icmpF (pc' := 10) djdk_52_21_7 (tlt (own_lt (X := 0) (Y := N) (by omega) (by omega) (by omega))).2.1 rfl
    replace W := W.aloadN (pc' := 11) djdk_52_21_10 rfl rfl rfl
    replace W := W.iloadN (pc' := 12) djdk_52_21_11 rfl rfl
    replace W := W.caload (pc' := 13) (w := (.int (g 0))) djdk_52_21_12 V_ca ⟨own_nn (by omega), own_lt (by omega) (by omega) (by omega)⟩ (by rw [own_clamp (by omega), own_lst_get (by omega)]) rfl
    replace W := W.istore (pc' := 15) (L' := #[.val (.ref ca), .val (.int (Int32.ofNat 0)), .val (.ref ba), .val (.int (Int32.ofNat 0)), .val (.int (Int32.ofNat N)), .val (.int (Int32.ofNat 0)), .val (.int (g 0))]) djdk_52_21_13 rfl rfl
    replace W := W.iload (pc' := 17) djdk_52_21_15 rfl rfl
    replace W := W.sipush (pc' := 20) (v := (255 : Int32)) djdk_52_21_17 rfl rfl
    replace W := W.icmpT (pc' := 26) djdk_52_21_20 (flt (hkl _ (by omega))).2.2.2 (by decide) (by decide)
    replace W := W.aloadN (pc' := 27) djdk_52_21_26 rfl rfl rfl
    replace W := W.iloadN (pc' := 28) djdk_52_21_27 rfl rfl
    replace W := W.iload (pc' := 30) djdk_52_21_28 rfl rfl
    replace W := W.i2b (pc' := 31) (v := ((g 0).toInt8.toInt32)) djdk_52_21_30 rfl rfl
    obtain ⟨h2, W2, w2, A2, SF2⟩ := W.bastore (pc' := 32) (i := 0) (x' := ((g 0).toInt8.toInt32)) djdk_52_21_31 v1 ⟨own_nn (by omega), own_lt (by omega) (by omega) (by omega)⟩ (own_clamp (by omega)) (by rw [own_lst_len]; omega) (own_narb _) (hsf _ (List.mem_of_getElem? (i := 0) rfl)) (Or.inl (List.mem_of_getElem? (i := 0) rfl)) rfl
    clear W
    have z2 : h0.size ≤ h2.size := Nat.le_of_eq w2.size.symm
    have v2 : Arv Z h2 ba kb .byte (Int32.ofNat N) (lst N (upd (pl g 0) 0 ((g 0).toInt8.toInt32))) (.int (0 : Int32)) := (by rw [← own_lst_set]; exact A2)
    replace W2 := W2.iinc (pc' := 35) (v := (Int32.ofNat (0 + 1))) (L' := #[.val (.ref ca), .val (.int (Int32.ofNat (0 + 1))), .val (.ref ba), .val (.int (Int32.ofNat 0)), .val (.int (Int32.ofNat N)), .val (.int (Int32.ofNat 0)), .val (.int (g 0))]) djdk_52_21_32 rfl (own_add1 _) rfl rfl
    replace W2 := W2.iinc (pc' := 38) (v := (Int32.ofNat (0 + 1))) (L' := #[.val (.ref ca), .val (.int (Int32.ofNat (0 + 1))), .val (.ref ba), .val (.int (Int32.ofNat (0 + 1))), .val (.int (Int32.ofNat N)), .val (.int (Int32.ofNat 0)), .val (.int (g 0))]) djdk_52_21_35 rfl (own_add1 _) rfl rfl
    replace W2 := W2.iinc (pc' := 41) (v := (Int32.ofNat (0 + 1))) (L' := #[.val (.ref ca), .val (.int (Int32.ofNat (0 + 1))), .val (.ref ba), .val (.int (Int32.ofNat (0 + 1))), .val (.int (Int32.ofNat N)), .val (.int (Int32.ofNat (0 + 1))), .val (.int (g 0))]) djdk_52_21_38 rfl (own_add1 _) rfl rfl
    replace W2 := W2.goto (pc' := 3) djdk_52_21_41 (by decide) (by decide)
    have v3 := own_cg (g' := (pl g (0 + 1))) v2 own_plS
    have v4 := (V_ca.other w2 N_ca_ba)
    have sf5 := (SF2 ba (hsf _ (List.mem_of_getElem? (i := 0) rfl)))
    exact c5f_lp l Z a0 n0 hw hEL G1 O1 P1 O_as O_hi O_lo G3 O3 rG3 ca kc ba kb N g k (0 + 1) (g 0) p e s m below meth c S0 s.vm h0 h2 hO v4 v3 sf5 N_ca_ba hN hkl hkN gk (by omega) g_ba hnm W2
theorem ef_c3 (m : MethodId) (ca : Addr) (kc : ClassId) (N : Nat) (g : Nat → Int32) : entryFrame m #[(.ref ca), (.int (0 : Int32)), (.int (Int32.ofNat N))] 6 = mkF m 0 #[.val (.ref ca), .val (.int (0 : Int32)), .val (.int (Int32.ofNat N)), .unset, .unset, .unset] [] := by first | (simp [entryFrame, mkF, argsToLocals, Value.category]; done) | rfl
set_option maxRecDepth 65536 in
set_option maxHeartbeats 40000000 in
theorem c3 (l : Launch) (Z : State) (a0 : Array Value) (n0 : Nat) (hw : ∀ d ∈ tables_1, d.before a0 Z = true) (hEL : EW Z a0 consts_1) (G1 : Int32) (O1 : Sta Z Z.heap "java/lang/String" "COMPACT_STRINGS" "Z" (.int G1)) (P1 : ¬ (G1 = (0 : Int32))) (O_as : Sta Z Z.heap "java/lang/StringUTF16" "$assertionsDisabled" "Z" (.int (1 : Int32))) (O_hi : Sta Z Z.heap "java/lang/StringUTF16" "HI_BYTE_SHIFT" "I" (.int (0 : Int32))) (O_lo : Sta Z Z.heap "java/lang/StringUTF16" "LO_BYTE_SHIFT" "I" (.int (8 : Int32))) (G3 : Value) (O3 : Sta Z Z.heap "jdk/internal/util/Preconditions" "SIOOBE_FORMATTER" "Ljava/util/function/BiFunction;" G3) (rG3 : G3.isRef = true) (ca : Addr) (kc : ClassId) (N : Nat) (g : Nat → Int32) (h0 : Heap) (hO : Old Z n0 h0) (V_ca : Arv Z h0 ca kc .char (Int32.ofNat N) (lst N g) (.int (0 : Int32))) (hN : N ≤ 20) (hge1 : 1 ≤ N) (hl : ∀ i, i < N → ¬ (255 : Int32) < g i) :
    Con l Z consts_1 n0 (⟨"java/lang/StringUTF16", "compress", "([CII)[B"⟩ : MethodName) jdk_52_method_16_code 6 (some (.array .byte)) ({ frames := 1, cells := 1, slots := 20, locals := 18 } : Room) #[(.ref ca), (.int (0 : Int32)), (.int (Int32.ofNat N))] h0 [] (fun v h V' => ∃ (r : Addr) (kr : ClassId), v = some (.ref r) ∧ Arv Z h r kr .byte (Int32.ofNat N) (lst N (lb g)) (.int (0 : Int32)) ∧ Exa Z h r "[B" ∧ h0.size ≤ r ∧ Safe Z consts_1 V' h r) [] := by
  refine Con.of (a0 := a0) pf6 (fun m => ef_c3 m ca kc N g) all0 hO hEL ?_
  intro p e s m below meth c S0 hnm hsf W
  replace W := W.iloadN (pc' := 1) djdk_52_16_0 rfl rfl
  obtain ⟨h1, a1, W1, E1, g1, ⟨⟨k1, A1⟩, B1⟩, sf1, SF1⟩ := W.newarrE (pc' := 3) (ad := "[B") (cap := 20) (cells' := 1) (slots' := 20) djdk_52_16_1 (tw20 hw) (by decide) (own_nn (by omega)) (by rw [own_clamp (by omega)]; omega) (by decide) rfl rfl rfl (by decide) (by decide)
  clear W
  rw [← g1] at A1 B1
  have z1 : h0.size ≤ h1.size := E1.1
  have v1 : Arv Z h1 a1 k1 .byte (Int32.ofNat N) (lst N zf) (.int (0 : Int32)) := own_lst0 A1
  replace W1 := W1.astoreN (pc' := 4) (L' := #[.val (.ref ca), .val (.int (0 : Int32)), .val (.int (Int32.ofNat N)), .val (.ref a1), .unset, .unset]) djdk_52_16_3 rfl rfl rfl
  replace W1 := W1.aloadN (pc' := 5) djdk_52_16_4 rfl rfl rfl
  replace W1 := W1.iloadN (pc' := 6) djdk_52_16_5 rfl rfl
  replace W1 := W1.aloadN (pc' := 7) djdk_52_16_6 rfl rfl rfl
  replace W1 := W1.iconst (pc' := 8) (v := (0 : Int32)) djdk_52_16_7 rfl rfl
  replace W1 := W1.iloadN (pc' := 9) djdk_52_16_8 rfl rfl
  have v2 := (V_ca.ext E1)
  obtain ⟨V3, h3, r3, W3, K3, hQ3, SF3⟩ := W1.callS (pc' := 12) (argsL := [(.ref ca), (.int (0 : Int32)), (.ref a1), (.int (0 : Int32)), (.int (Int32.ofNat N))]) (rest := []) (Wd := 0) (cells' := 1) (slots' := 20) (y := (⟨"java/lang/StringUTF16", "compress", "([CI[BII)I"⟩ : MethodName)) djdk_52_16_9 (c5 l Z a0 n0 hw hEL G1 O1 P1 O_as O_hi O_lo G3 O3 rG3 ca kc a1 k1 N g h1 W1.old v2 v1 (Nat.ne_of_lt (Nat.lt_of_lt_of_le V_ca.lt (Nat.le_of_eq g1.symm))) (by omega) (by omega) hl (Nat.le_trans W1.1.2.2.2.2.2.2.2.1 (Nat.le_of_eq g1.symm))) (tw117 hw) (tw118 hw) (tw115 hw) (tw119 hw) (by decide) (lenOf pd3 rfl) rfl rfl (by decide) (by decide) rfl (sfS sf1 sf0) (allS (Or.inr (Nat.le_of_eq g1.symm)) all0) rfl rfl rfl (by decide) (by decide)
  clear W1
  obtain ⟨rfl, q3_1⟩ := hQ3
  have z3 : h1.size ≤ h3.size := K3.1
  replace W3 := W3.cast (st' := [(.int (Int32.ofNat N))]) rfl
  replace W3 := W3.istore (pc' := 14) (L' := #[.val (.ref ca), .val (.int (0 : Int32)), .val (.int (Int32.ofNat N)), .val (.ref a1), .val (.int (Int32.ofNat N)), .unset]) djdk_52_16_12 rfl rfl
  replace W3 := W3.iload (pc' := 16) djdk_52_16_14 rfl rfl
  replace W3 := W3.iloadN (pc' := 17) djdk_52_16_16 rfl rfl
  replace W3 := W3.icmpT (pc' := 57) djdk_52_16_17 (teq rfl).1 (by decide) (by decide)
  replace W3 := W3.aloadN (pc' := 58) djdk_52_16_57 rfl rfl rfl
  have e4 := (B1.keep K3)
  have sf5 := (SF3 a1 v1.lt sf1)
  exact W3.aret (t := (.array .byte)) djdk_52_16_58 rfl rfl rfl rfl (by decide) (by decide) (fun V' cv => ⟨a1, k1, rfl, q3_1, e4, (Nat.le_of_eq g1.symm), (cv a1 q3_1.lt sf5)⟩)
theorem ef_c3f (m : MethodId) (ca : Addr) (kc : ClassId) (N : Nat) (g : Nat → Int32) (k : Nat) : entryFrame m #[(.ref ca), (.int (0 : Int32)), (.int (Int32.ofNat N))] 6 = mkF m 0 #[.val (.ref ca), .val (.int (0 : Int32)), .val (.int (Int32.ofNat N)), .unset, .unset, .unset] [] := by first | (simp [entryFrame, mkF, argsToLocals, Value.category]; done) | rfl
set_option maxRecDepth 65536 in
set_option maxHeartbeats 40000000 in
theorem c3f (l : Launch) (Z : State) (a0 : Array Value) (n0 : Nat) (hw : ∀ d ∈ tables_1, d.before a0 Z = true) (hEL : EW Z a0 consts_1) (G1 : Int32) (O1 : Sta Z Z.heap "java/lang/String" "COMPACT_STRINGS" "Z" (.int G1)) (P1 : ¬ (G1 = (0 : Int32))) (O_as : Sta Z Z.heap "java/lang/StringUTF16" "$assertionsDisabled" "Z" (.int (1 : Int32))) (O_hi : Sta Z Z.heap "java/lang/StringUTF16" "HI_BYTE_SHIFT" "I" (.int (0 : Int32))) (O_lo : Sta Z Z.heap "java/lang/StringUTF16" "LO_BYTE_SHIFT" "I" (.int (8 : Int32))) (G3 : Value) (O3 : Sta Z Z.heap "jdk/internal/util/Preconditions" "SIOOBE_FORMATTER" "Ljava/util/function/BiFunction;" G3) (rG3 : G3.isRef = true) (ca : Addr) (kc : ClassId) (N : Nat) (g : Nat → Int32) (k : Nat) (h0 : Heap) (hO : Old Z n0 h0) (V_ca : Arv Z h0 ca kc .char (Int32.ofNat N) (lst N g) (.int (0 : Int32))) (hN : N ≤ 20) (hq : ∀ i, i < N → CH (g i)) (hkl : ∀ i, i < k → ¬ (255 : Int32) < g i) (hkN : k < N) (gk : (255 : Int32) < g k) :
    Con l Z consts_1 n0 (⟨"java/lang/StringUTF16", "compress", "([CII)[B"⟩ : MethodName) jdk_52_method_16_code 6 (some (.array .byte)) ({ frames := 3, cells := 2, slots := 84, locals := 40 } : Room) #[(.ref ca), (.int (0 : Int32)), (.int (Int32.ofNat N))] h0 [] (fun v h V' => ∃ (r : Addr) (kr : ClassId), v = some (.ref r) ∧ Arv Z h r kr .byte (Int32.ofNat (2 * N)) (lst (2 * N) (ub g)) (.int (0 : Int32)) ∧ Exa Z h r "[B" ∧ h0.size ≤ r ∧ Safe Z consts_1 V' h r) [] := by
  refine Con.of (a0 := a0) pf6 (fun m => ef_c3f m ca kc N g k) all0 hO hEL ?_
  intro p e s m below meth c S0 hnm hsf W
  replace W := W.iloadN (pc' := 1) djdk_52_16_0 rfl rfl
  obtain ⟨h1, a1, W1, E1, g1, ⟨⟨k1, A1⟩, B1⟩, sf1, SF1⟩ := W.newarrE (pc' := 3) (ad := "[B") (cap := 20) (cells' := 1) (slots' := 20) djdk_52_16_1 (tw20 hw) (by decide) (own_nn (by omega)) (by rw [own_clamp (by omega)]; omega) (by decide) rfl rfl rfl (by decide) (by decide)
  clear W
  rw [← g1] at A1 B1
  have z1 : h0.size ≤ h1.size := E1.1
  have v1 : Arv Z h1 a1 k1 .byte (Int32.ofNat N) (lst N zf) (.int (0 : Int32)) := own_lst0 A1
  replace W1 := W1.astoreN (pc' := 4) (L' := #[.val (.ref ca), .val (.int (0 : Int32)), .val (.int (Int32.ofNat N)), .val (.ref a1), .unset, .unset]) djdk_52_16_3 rfl rfl rfl
  replace W1 := W1.aloadN (pc' := 5) djdk_52_16_4 rfl rfl rfl
  replace W1 := W1.iloadN (pc' := 6) djdk_52_16_5 rfl rfl
  replace W1 := W1.aloadN (pc' := 7) djdk_52_16_6 rfl rfl rfl
  replace W1 := W1.iconst (pc' := 8) (v := (0 : Int32)) djdk_52_16_7 rfl rfl
  replace W1 := W1.iloadN (pc' := 9) djdk_52_16_8 rfl rfl
  have v2 := (V_ca.ext E1)
  obtain ⟨V3, h3, r3, W3, K3, hQ3, SF3⟩ := W1.callS (pc' := 12) (argsL := [(.ref ca), (.int (0 : Int32)), (.ref a1), (.int (0 : Int32)), (.int (Int32.ofNat N))]) (rest := []) (Wd := 0) (cells' := 1) (slots' := 20) (y := (⟨"java/lang/StringUTF16", "compress", "([CI[BII)I"⟩ : MethodName)) djdk_52_16_9 (c5f l Z a0 n0 hw hEL G1 O1 P1 O_as O_hi O_lo G3 O3 rG3 ca kc a1 k1 N g k h1 W1.old v2 v1 (Nat.ne_of_lt (Nat.lt_of_lt_of_le V_ca.lt (Nat.le_of_eq g1.symm))) (by omega) hkl (by omega) gk (Nat.le_trans W1.1.2.2.2.2.2.2.2.1 (Nat.le_of_eq g1.symm))) (tw117 hw) (tw118 hw) (tw115 hw) (tw119 hw) (by decide) (lenOf pd3 rfl) rfl rfl (by decide) (by decide) rfl (sfS sf1 sf0) (allS (Or.inr (Nat.le_of_eq g1.symm)) all0) rfl rfl rfl (by decide) (by decide)
  clear W1
  obtain ⟨rfl⟩ := hQ3
  have z3 : h1.size ≤ h3.size := K3.1
  replace W3 := W3.cast (st' := [(.int (Int32.ofNat k))]) rfl
  replace W3 := W3.istore (pc' := 14) (L' := #[.val (.ref ca), .val (.int (0 : Int32)), .val (.int (Int32.ofNat N)), .val (.ref a1), .val (.int (Int32.ofNat k)), .unset]) djdk_52_16_12 rfl rfl
  replace W3 := W3.iload (pc' := 16) djdk_52_16_14 rfl rfl
  replace W3 := W3.iloadN (pc' := 17) djdk_52_16_16 rfl rfl
  replace W3 := W3.icmpF (pc' := 20) djdk_52_16_17 (feq (own_ne (X := k) (Y := N) (by omega) (by omega) (by omega))).1 rfl
  replace W3 := W3.aloadN (pc' := 21) djdk_52_16_20 rfl rfl rfl
  replace W3 := W3.iloadN (pc' := 22) djdk_52_16_21 rfl rfl
  replace W3 := W3.iloadN (pc' := 23) djdk_52_16_22 rfl rfl
  have v4 := (v2.keep K3 (ninS (Nat.ne_of_lt (Nat.lt_of_lt_of_le V_ca.lt (Nat.le_of_eq g1.symm))) nin0))
  obtain ⟨V5, h5, r5, W5, K5, hQ5, SF5⟩ := W3.callS (pc' := 26) (argsL := [(.ref ca), (.int (0 : Int32)), (.int (Int32.ofNat N))]) (rest := []) (Wd := 0) (cells' := 2) (slots' := 84) (y := (⟨"java/lang/StringUTF16", "toBytes", "([CII)[B"⟩ : MethodName)) djdk_52_16_23 (tob l Z a0 n0 hw hEL G1 O1 P1 O_as O_hi O_lo G3 O3 rG3 ca kc N g h3 W3.old v4 (by omega)) (tw198 hw) (tw199 hw) (tw115 hw) (tw200 hw) (by decide) (lenOf pd4 rfl) rfl rfl (by decide) (by decide) rfl sf0 all0 rfl rfl rfl (by decide) (by decide)
  clear W3
  obtain ⟨r5, kr5, rfl, q5_1, q5_2, q5_3, q5_4⟩ := hQ5
  have z5 : h3.size ≤ h5.size := K5.1
  replace W5 := W5.cast (st' := [(.ref r5)]) rfl
  replace W5 := W5.astore (pc' := 28) (L' := #[.val (.ref ca), .val (.int (0 : Int32)), .val (.int (Int32.ofNat N)), .val (.ref a1), .val (.int (Int32.ofNat k)), .val (.ref r5)]) djdk_52_16_26 rfl rfl rfl
  replace W5 := W5.aload (pc' := 30) djdk_52_16_28 rfl rfl rfl
  replace W5 := W5.iload (pc' := 32) djdk_52_16_30 rfl rfl
  obtain ⟨V6, h6, r6, W6, K6, hQ6, SF6⟩ := W5.callS (pc' := 35) (argsL := [(.ref r5), (.int (Int32.ofNat k))]) (rest := []) (Wd := 0) (cells' := 2) (slots' := 84) (y := (⟨"java/lang/StringUTF16", "getChar", "([BI)C"⟩ : MethodName)) djdk_52_16_32 (getc l Z a0 n0 hw hEL G1 O1 P1 O_as O_hi O_lo G3 O3 rG3 r5 kr5 N (ub g) k (g k) h5 W5.old q5_1 (by omega) (by omega) (own_ub0 g k) (own_ub1 g k) (hq _ (by omega))) (tw214 hw) (tw215 hw) (tw115 hw) (tw216 hw) (by decide) (lenOf pd5 rfl) rfl rfl (by decide) (by decide) rfl sf0 all0 rfl rfl rfl (by decide) (by decide)
  clear W5
  obtain ⟨rfl, hs6⟩ := hQ6
  subst hs6
  have sf7 := (SF5 a1 (Nat.lt_of_lt_of_le v1.lt z3) (SF3 a1 v1.lt sf1))
  have sf8 := SF6 a1 (Nat.lt_of_lt_of_le v1.lt (Nat.le_trans z3 z5)) sf7
  have sf9 := SF6 r5 q5_1.lt q5_4
  replace W6 := W6.cast (st' := [(.int (g k))]) rfl
  replace W6 := W6.sipush (pc' := 38) (v := (255 : Int32)) djdk_52_16_35 rfl rfl
  replace W6 := W6.icmpT (pc' := 54) djdk_52_16_38 (tlt gk).2.2.1 (by decide) (by decide)
  replace W6 := W6.aload (pc' := 56) djdk_52_16_54 rfl rfl rfl
  exact W6.aret (t := (.array .byte)) djdk_52_16_56 rfl rfl rfl rfl (by decide) (by decide) (fun V' cv => ⟨r5, kr5, rfl, q5_1, q5_2, (Nat.le_trans (Nat.le_trans z1 z3) q5_3), (cv r5 q5_1.lt sf9)⟩)
theorem ef_cod0 (m : MethodId) (ba : Addr) (kb : ClassId) (N : Nat) (f : Nat → Int32) : entryFrame m #[(.ref ba), (.int (Int32.ofNat N))] 2 = mkF m 0 #[.val (.ref ba), .val (.int (Int32.ofNat N))] [] := by first | (simp [entryFrame, mkF, argsToLocals, Value.category]; done) | rfl
set_option maxRecDepth 65536 in
set_option maxHeartbeats 40000000 in
theorem cod0 (l : Launch) (Z : State) (a0 : Array Value) (n0 : Nat) (hw : ∀ d ∈ tables_1, d.before a0 Z = true) (hEL : EW Z a0 consts_1) (G1 : Int32) (O1 : Sta Z Z.heap "java/lang/String" "COMPACT_STRINGS" "Z" (.int G1)) (P1 : ¬ (G1 = (0 : Int32))) (O_as : Sta Z Z.heap "java/lang/StringUTF16" "$assertionsDisabled" "Z" (.int (1 : Int32))) (O_hi : Sta Z Z.heap "java/lang/StringUTF16" "HI_BYTE_SHIFT" "I" (.int (0 : Int32))) (O_lo : Sta Z Z.heap "java/lang/StringUTF16" "LO_BYTE_SHIFT" "I" (.int (8 : Int32))) (G3 : Value) (O3 : Sta Z Z.heap "jdk/internal/util/Preconditions" "SIOOBE_FORMATTER" "Ljava/util/function/BiFunction;" G3) (rG3 : G3.isRef = true) (ba : Addr) (kb : ClassId) (N : Nat) (f : Nat → Int32) (h0 : Heap) (hO : Old Z n0 h0) (V_ba : Arv Z h0 ba kb .byte (Int32.ofNat N) (lst N f) (.int (0 : Int32))) :
    Con l Z consts_1 n0 (⟨"java/lang/StringUTF16", "coderFromArrayLen", "([BI)B"⟩ : MethodName) jdk_52_method_15_code 2 (some .byte) ({ frames := 0, cells := 0, slots := 0, locals := 0 } : Room) #[(.ref ba), (.int (Int32.ofNat N))] h0 [] (fun v h V' => v = some (.int (0 : Int32)) ∧ h0 = h) [] := by
  refine Con.of (a0 := a0) pf7 (fun m => ef_cod0 m ba kb N f) all0 hO hEL ?_
  intro p e s m below meth c S0 hnm hsf W
  replace W := W.iloadN (pc' := 1) djdk_52_15_0 rfl rfl
  replace W := W.aloadN (pc' := 2) djdk_52_15_1 rfl rfl rfl
  replace W := W.alen (pc' := 3) djdk_52_15_2 V_ba rfl
  replace W := W.isub (pc' := 4) (v := (0 : Int32)) djdk_52_15_3 (own_subself _) rfl
  replace W := W.bipush (pc' := 6) (v := (31 : Int32)) djdk_52_15_4 rfl rfl
  replace W := W.iushr (pc' := 7) (v := (0 : Int32)) djdk_52_15_6 (by decide) rfl
  replace W := W.i2b (pc' := 8) (v := (0 : Int32)) djdk_52_15_7 (by decide) rfl
  exact W.iret (t := .byte) djdk_52_15_8 rfl (by simp) (by decide) (by decide) (by decide) (fun V' cv => ⟨rfl, rfl⟩)
theorem ef_cod1 (m : MethodId) (ba : Addr) (kb : ClassId) (N : Nat) (f : Nat → Int32) : entryFrame m #[(.ref ba), (.int (Int32.ofNat N))] 2 = mkF m 0 #[.val (.ref ba), .val (.int (Int32.ofNat N))] [] := by first | (simp [entryFrame, mkF, argsToLocals, Value.category]; done) | rfl
set_option maxRecDepth 65536 in
set_option maxHeartbeats 40000000 in
theorem cod1 (l : Launch) (Z : State) (a0 : Array Value) (n0 : Nat) (hw : ∀ d ∈ tables_1, d.before a0 Z = true) (hEL : EW Z a0 consts_1) (G1 : Int32) (O1 : Sta Z Z.heap "java/lang/String" "COMPACT_STRINGS" "Z" (.int G1)) (P1 : ¬ (G1 = (0 : Int32))) (O_as : Sta Z Z.heap "java/lang/StringUTF16" "$assertionsDisabled" "Z" (.int (1 : Int32))) (O_hi : Sta Z Z.heap "java/lang/StringUTF16" "HI_BYTE_SHIFT" "I" (.int (0 : Int32))) (O_lo : Sta Z Z.heap "java/lang/StringUTF16" "LO_BYTE_SHIFT" "I" (.int (8 : Int32))) (G3 : Value) (O3 : Sta Z Z.heap "jdk/internal/util/Preconditions" "SIOOBE_FORMATTER" "Ljava/util/function/BiFunction;" G3) (rG3 : G3.isRef = true) (ba : Addr) (kb : ClassId) (N : Nat) (f : Nat → Int32) (h0 : Heap) (hO : Old Z n0 h0) (V_ba : Arv Z h0 ba kb .byte (Int32.ofNat (2 * N)) (lst (2 * N) f) (.int (0 : Int32))) (hN : N ≤ 20) (hge1 : 1 ≤ N) :
    Con l Z consts_1 n0 (⟨"java/lang/StringUTF16", "coderFromArrayLen", "([BI)B"⟩ : MethodName) jdk_52_method_15_code 2 (some .byte) ({ frames := 0, cells := 0, slots := 0, locals := 0 } : Room) #[(.ref ba), (.int (Int32.ofNat N))] h0 [] (fun v h V' => v = some (.int (1 : Int32)) ∧ h0 = h) [] := by
  refine Con.of (a0 := a0) pf7 (fun m => ef_cod1 m ba kb N f) all0 hO hEL ?_
  intro p e s m below meth c S0 hnm hsf W
  replace W := W.iloadN (pc' := 1) djdk_52_15_0 rfl rfl
  replace W := W.aloadN (pc' := 2) djdk_52_15_1 rfl rfl rfl
  replace W := W.alen (pc' := 3) djdk_52_15_2 V_ba rfl
  replace W := W.isub (pc' := 4) (v := ((Int32.ofNat N) - (Int32.ofNat (2 * N)))) djdk_52_15_3 rfl rfl
  replace W := W.bipush (pc' := 6) (v := (31 : Int32)) djdk_52_15_4 rfl rfl
  replace W := W.iushr (pc' := 7) (v := (1 : Int32)) djdk_52_15_6 (own_neg31 hge1 (by omega)) rfl
  replace W := W.i2b (pc' := 8) (v := (1 : Int32)) djdk_52_15_7 (by decide) rfl
  exact W.iret (t := .byte) djdk_52_15_8 rfl (by simp) (by decide) (by decide) (by decide) (fun V' cv => ⟨rfl, rfl⟩)
theorem ef_new4l (m : MethodId) (xa : Addr) (ca : Addr) (kc : ClassId) (N : Nat) (g : Nat → Int32) : entryFrame m #[(.ref xa), (.ref ca), (.int (0 : Int32)), (.int (Int32.ofNat N)), .null] 6 = mkF m 0 #[.val (.ref xa), .val (.ref ca), .val (.int (0 : Int32)), .val (.int (Int32.ofNat N)), .val .null, .unset] [] := by first | (simp [entryFrame, mkF, argsToLocals, Value.category]; done) | rfl
set_option maxRecDepth 65536 in
set_option maxHeartbeats 40000000 in
theorem new4l (l : Launch) (Z : State) (a0 : Array Value) (n0 : Nat) (hw : ∀ d ∈ tables_1, d.before a0 Z = true) (hEL : EW Z a0 consts_1) (G1 : Int32) (O1 : Sta Z Z.heap "java/lang/String" "COMPACT_STRINGS" "Z" (.int G1)) (P1 : ¬ (G1 = (0 : Int32))) (O_as : Sta Z Z.heap "java/lang/StringUTF16" "$assertionsDisabled" "Z" (.int (1 : Int32))) (O_hi : Sta Z Z.heap "java/lang/StringUTF16" "HI_BYTE_SHIFT" "I" (.int (0 : Int32))) (O_lo : Sta Z Z.heap "java/lang/StringUTF16" "LO_BYTE_SHIFT" "I" (.int (8 : Int32))) (G3 : Value) (O3 : Sta Z Z.heap "jdk/internal/util/Preconditions" "SIOOBE_FORMATTER" "Ljava/util/function/BiFunction;" G3) (rG3 : G3.isRef = true) (xa : Addr) (ca : Addr) (kc : ClassId) (N : Nat) (g : Nat → Int32) (h0 : Heap) (hO : Old Z n0 h0) (E_xa : Exa Z h0 xa "java/lang/String") (F_xa_value : Fld Z h0 xa "java/lang/String" "value" "[B" .null) (F_xa_coder : Fld Z h0 xa "java/lang/String" "coder" "B" (.int (0 : Int32))) (V_ca : Arv Z h0 ca kc .char (Int32.ofNat N) (lst N g) (.int (0 : Int32))) (hN : N ≤ 20) (hge1 : 1 ≤ N) (hl : ∀ i, i < N → ¬ (255 : Int32) < g i) (g_xa : n0 ≤ xa) :
    Con l Z consts_1 n0 (⟨"java/lang/String", "<init>", "([CIILjava/lang/Void;)V"⟩ : MethodName) jdk_42_method_149_code 6 none ({ frames := 2, cells := 1, slots := 20, locals := 35 } : Room) #[(.ref xa), (.ref ca), (.int (0 : Int32)), (.int (Int32.ofNat N)), .null] h0 [xa] (fun v h V' => ∃ (ba : Addr) (kb : ClassId), v = none ∧ Exa Z h xa "java/lang/String" ∧ Fld Z h xa "java/lang/String" "coder" "B" (.int (0 : Int32)) ∧ Fld Z h xa "java/lang/String" "value" "[B" (.ref ba) ∧ Arv Z h ba kb .byte (Int32.ofNat N) (lst N (lb g)) (.int (0 : Int32)) ∧ Exa Z h ba "[B" ∧ h0.size ≤ ba) [] := by
  refine Con.of (a0 := a0) pf8 (fun m => ef_new4l m xa ca kc N g) (allS g_xa all0) hO hEL ?_
  intro p e s m below meth c S0 hnm hsf W
  replace W := W.aloadN (pc' := 1) djdk_42_149_0 rfl rfl rfl
  replace W := W.initO (pc' := 4) (Wd := 0) djdk_42_149_1 (tw16 hw) (tw17 hw) (tw18 hw) rfl rfl (by decide) (by decide) rfl
  replace W := W.iloadN (pc' := 5) djdk_42_149_4 rfl rfl
  replace W := W.ifT (pc' := 27) djdk_42_149_5 (feq (own_ne (X := N) (Y := 0) (by omega) (by omega) (by omega))).2 (by decide) (by decide)
  replace W := W.gets (pc' := 30) djdk_42_149_27 (tw44 hw) O1 rfl
  replace W := W.ifF (pc' := 33) djdk_42_149_30 (feq P1).1 rfl
  replace W := W.aloadN (pc' := 34) djdk_42_149_33 rfl rfl rfl
  replace W := W.iloadN (pc' := 35) djdk_42_149_34 rfl rfl
  replace W := W.iloadN (pc' := 36) djdk_42_149_35 rfl rfl
  obtain ⟨V1, h1, r1, W1, K1, hQ1, SF1⟩ := W.callS (pc' := 39) (argsL := [(.ref ca), (.int (0 : Int32)), (.int (Int32.ofNat N))]) (rest := []) (Wd := 0) (cells' := 1) (slots' := 20) (y := (⟨"java/lang/StringUTF16", "compress", "([CII)[B"⟩ : MethodName)) djdk_42_149_36 (c3 l Z a0 n0 hw hEL G1 O1 P1 O_as O_hi O_lo G3 O3 rG3 ca kc N g h0 W.old V_ca (by omega) (by omega) hl) (tw113 hw) (tw114 hw) (tw115 hw) (tw116 hw) (by decide) (lenOf pd4 rfl) rfl rfl (by decide) (by decide) rfl sf0 all0 rfl rfl rfl (by decide) (by decide)
  clear W
  obtain ⟨r1, kr1, rfl, q1_1, q1_2, q1_3, q1_4⟩ := hQ1
  have z1 : h0.size ≤ h1.size := K1.1
  replace W1 := W1.cast (st' := [(.ref r1)]) rfl
  replace W1 := W1.astore (pc' := 41) (L' := #[.val (.ref xa), .val (.ref ca), .val (.int (0 : Int32)), .val (.int (Int32.ofNat N)), .val .null, .val (.ref r1)]) djdk_42_149_39 rfl rfl rfl
  replace W1 := W1.aloadN (pc' := 42) djdk_42_149_41 rfl rfl rfl
  replace W1 := W1.aload (pc' := 44) djdk_42_149_42 rfl rfl rfl
  replace W1 := W1.iloadN (pc' := 45) djdk_42_149_44 rfl rfl
  obtain ⟨V2, h2, r2, W2, K2, hQ2, SF2⟩ := W1.callS (pc' := 48) (argsL := [(.ref r1), (.int (Int32.ofNat N))]) (rest := [(.ref xa)]) (Wd := 1) (cells' := 1) (slots' := 20) (y := (⟨"java/lang/StringUTF16", "coderFromArrayLen", "([BI)B"⟩ : MethodName)) djdk_42_149_45 (cod0 l Z a0 n0 hw hEL G1 O1 P1 O_as O_hi O_lo G3 O3 rG3 r1 kr1 N (lb g) h1 W1.old q1_1) (tw120 hw) (tw121 hw) (tw115 hw) (tw122 hw) (by decide) (lenOf pd6 rfl) rfl rfl (by decide) (by decide) rfl sf0 all0 rfl rfl rfl (by decide) (by decide)
  clear W1
  obtain ⟨rfl, hs2⟩ := hQ2
  subst hs2
  have sf3 := (SF1 xa E_xa.lt (hsf _ (List.mem_of_getElem? (i := 0) rfl)))
  have sf4 := SF2 xa (Nat.lt_of_lt_of_le E_xa.lt z1) sf3
  have sf5 := SF2 r1 q1_1.lt q1_4
  replace W2 := W2.cast (st' := [(.int (0 : Int32)), (.ref xa)]) rfl
  have f6 := (F_xa_coder.keep K1 nin0)
  have e7 := (E_xa.keep K1)
  obtain ⟨h8, W8, w8, SF8⟩ := W2.putf (pc' := 51) (ty := .byte) djdk_42_149_48 (tw26 hw) Via.refl f6 e7 (Or.inr ⟨(tw22 hw), rfl, hnm⟩) (tw7 hw) (by decide) rfl rfl sf4 (Or.inl (List.mem_of_getElem? (i := 0) rfl)) rfl
  clear W2
  have z8 : h1.size ≤ h8.size := Nat.le_of_eq w8.size.symm
  have f8 := f6.same w8
  replace W8 := W8.aloadN (pc' := 52) djdk_42_149_51 rfl rfl rfl
  replace W8 := W8.aload (pc' := 54) djdk_42_149_52 rfl rfl rfl
  have f9 := ((F_xa_value.keep K1 nin0).other w8 (Or.inr (slot_ne (C := "java/lang/String") (Or.inr (tw21 hw)) (Or.inr (tw22 hw)) (by decide) (t := (.array .byte)) (t' := .byte) (by decide) (by decide))))
  have e10 := (e7.wr w8)
  have sf11 := (SF8 xa sf4)
  obtain ⟨h12, W12, w12, SF12⟩ := W8.putf (pc' := 57) (ty := (.array .byte)) djdk_42_149_54 (tw25 hw) Via.refl f9 e10 (Or.inr ⟨(tw21 hw), rfl, hnm⟩) (tw7 hw) (by decide) rfl rfl sf11 (Or.inl (List.mem_of_getElem? (i := 0) rfl)) rfl
  clear W8
  have z12 : h8.size ≤ h12.size := Nat.le_of_eq w12.size.symm
  have f12 := f9.same w12
  have e13 := (e10.wr w12)
  have f14 := (f8.other w12 (Or.inr (slot_ne (C := "java/lang/String") (Or.inr (tw22 hw)) (Or.inr (tw21 hw)) (by decide) (t := .byte) (t' := (.array .byte)) (by decide) (by decide))))
  have v15 := ((q1_1.other w8 (Nat.ne_of_gt (Nat.lt_of_lt_of_le E_xa.lt q1_3))).other w12 (Nat.ne_of_gt (Nat.lt_of_lt_of_le E_xa.lt q1_3)))
  have e16 := ((q1_2.wr w8).wr w12)
  exact W12.vret djdk_42_149_57 rfl (by decide) (by decide) (fun V' cv => ⟨r1, kr1, rfl, e13, f14, f12, v15, e16, q1_3⟩)
theorem ef_new1l (m : MethodId) (xa : Addr) (ca : Addr) (kc : ClassId) (N : Nat) (g : Nat → Int32) : entryFrame m #[(.ref xa), (.ref ca)] 2 = mkF m 0 #[.val (.ref xa), .val (.ref ca)] [] := by first | (simp [entryFrame, mkF, argsToLocals, Value.category]; done) | rfl
set_option maxRecDepth 65536 in
set_option maxHeartbeats 40000000 in
theorem new1l (l : Launch) (Z : State) (a0 : Array Value) (n0 : Nat) (hw : ∀ d ∈ tables_1, d.before a0 Z = true) (hEL : EW Z a0 consts_1) (G1 : Int32) (O1 : Sta Z Z.heap "java/lang/String" "COMPACT_STRINGS" "Z" (.int G1)) (P1 : ¬ (G1 = (0 : Int32))) (O_as : Sta Z Z.heap "java/lang/StringUTF16" "$assertionsDisabled" "Z" (.int (1 : Int32))) (O_hi : Sta Z Z.heap "java/lang/StringUTF16" "HI_BYTE_SHIFT" "I" (.int (0 : Int32))) (O_lo : Sta Z Z.heap "java/lang/StringUTF16" "LO_BYTE_SHIFT" "I" (.int (8 : Int32))) (G3 : Value) (O3 : Sta Z Z.heap "jdk/internal/util/Preconditions" "SIOOBE_FORMATTER" "Ljava/util/function/BiFunction;" G3) (rG3 : G3.isRef = true) (xa : Addr) (ca : Addr) (kc : ClassId) (N : Nat) (g : Nat → Int32) (h0 : Heap) (hO : Old Z n0 h0) (E_xa : Exa Z h0 xa "java/lang/String") (F_xa_value : Fld Z h0 xa "java/lang/String" "value" "[B" .null) (F_xa_coder : Fld Z h0 xa "java/lang/String" "coder" "B" (.int (0 : Int32))) (V_ca : Arv Z h0 ca kc .char (Int32.ofNat N) (lst N g) (.int (0 : Int32))) (hN : N ≤ 20) (hge1 : 1 ≤ N) (hl : ∀ i, i < N → ¬ (255 : Int32) < g i) (g_xa : n0 ≤ xa) :
    Con l Z consts_1 n0 (⟨"java/lang/String", "<init>", "([C)V"⟩ : MethodName) jdk_42_method_3_code 2 none ({ frames := 3, cells := 1, slots := 20, locals := 52 } : Room) #[(.ref xa), (.ref ca)] h0 [xa] (fun v h V' => ∃ (ba : Addr) (kb : ClassId), v = none ∧ Exa Z h xa "java/lang/String" ∧ Fld Z h xa "java/lang/String" "coder" "B" (.int (0 : Int32)) ∧ Fld Z h xa "java/lang/String" "value" "[B" (.ref ba) ∧ Arv Z h ba kb .byte (Int32.ofNat N) (lst N (lb g)) (.int (0 : Int32)) ∧ Exa Z h ba "[B" ∧ h0.size ≤ ba) [] := by
  refine Con.of (a0 := a0) pf9 (fun m => ef_new1l m xa ca kc N g) (allS g_xa all0) hO hEL ?_
  intro p e s m below meth c S0 hnm hsf W
  replace W := W.aloadN (pc' := 1) djdk_42_3_0 rfl rfl rfl
  replace W := W.aloadN (pc' := 2) djdk_42_3_1 rfl rfl rfl
  replace W := W.iconst (pc' := 3) (v := (0 : Int32)) djdk_42_3_2 rfl rfl
  replace W := W.aloadN (pc' := 4) djdk_42_3_3 rfl rfl rfl
  replace W := W.alen (pc' := 5) djdk_42_3_4 V_ca rfl
  replace W := W.aconstNull (pc' := 6) djdk_42_3_5 rfl
  obtain ⟨V1, h1, r1, W1, K1, hQ1, SF1⟩ := W.callI (pc' := 9) (argsL := [(.ref ca), (.int (0 : Int32)), (.int (Int32.ofNat N)), .null]) (rest := []) (Wd := 0) (cells' := 1) (slots' := 20) (a := xa) (y := (⟨"java/lang/String", "<init>", "([CIILjava/lang/Void;)V"⟩ : MethodName)) djdk_42_3_6 (new4l l Z a0 n0 hw hEL G1 O1 P1 O_as O_hi O_lo G3 O3 rG3 xa ca kc N g h0 W.old E_xa F_xa_value F_xa_coder V_ca (by omega) (by omega) hl g_xa) rfl (tw12 hw) (tw13 hw) (tw8 hw) (tw15 hw) (by decide) (lenOf pd7 rfl) rfl rfl (by decide) (by decide) rfl (sfS (hsf _ (List.mem_of_getElem? (i := 0) rfl)) sf0) (allS (Or.inl (List.mem_of_getElem? (i := 0) rfl)) all0) rfl rfl rfl (by decide) (by decide)
  clear W
  obtain ⟨ba1, kb1, rfl, q1_1, q1_2, q1_3, q1_4, q1_5, q1_6⟩ := hQ1
  have z1 : h0.size ≤ h1.size := K1.1
  replace W1 := W1.cast (st' := []) rfl
  exact W1.vret djdk_42_3_9 rfl (by decide) (by decide) (fun V' cv => ⟨ba1, kb1, rfl, q1_1, q1_2, q1_3, q1_4, q1_5, q1_6⟩)
theorem ef_new4w (m : MethodId) (xa : Addr) (ca : Addr) (kc : ClassId) (N : Nat) (g : Nat → Int32) (k : Nat) : entryFrame m #[(.ref xa), (.ref ca), (.int (0 : Int32)), (.int (Int32.ofNat N)), .null] 6 = mkF m 0 #[.val (.ref xa), .val (.ref ca), .val (.int (0 : Int32)), .val (.int (Int32.ofNat N)), .val .null, .unset] [] := by first | (simp [entryFrame, mkF, argsToLocals, Value.category]; done) | rfl
set_option maxRecDepth 65536 in
set_option maxHeartbeats 40000000 in
theorem new4w (l : Launch) (Z : State) (a0 : Array Value) (n0 : Nat) (hw : ∀ d ∈ tables_1, d.before a0 Z = true) (hEL : EW Z a0 consts_1) (G1 : Int32) (O1 : Sta Z Z.heap "java/lang/String" "COMPACT_STRINGS" "Z" (.int G1)) (P1 : ¬ (G1 = (0 : Int32))) (O_as : Sta Z Z.heap "java/lang/StringUTF16" "$assertionsDisabled" "Z" (.int (1 : Int32))) (O_hi : Sta Z Z.heap "java/lang/StringUTF16" "HI_BYTE_SHIFT" "I" (.int (0 : Int32))) (O_lo : Sta Z Z.heap "java/lang/StringUTF16" "LO_BYTE_SHIFT" "I" (.int (8 : Int32))) (G3 : Value) (O3 : Sta Z Z.heap "jdk/internal/util/Preconditions" "SIOOBE_FORMATTER" "Ljava/util/function/BiFunction;" G3) (rG3 : G3.isRef = true) (xa : Addr) (ca : Addr) (kc : ClassId) (N : Nat) (g : Nat → Int32) (k : Nat) (h0 : Heap) (hO : Old Z n0 h0) (E_xa : Exa Z h0 xa "java/lang/String") (F_xa_value : Fld Z h0 xa "java/lang/String" "value" "[B" .null) (F_xa_coder : Fld Z h0 xa "java/lang/String" "coder" "B" (.int (0 : Int32))) (V_ca : Arv Z h0 ca kc .char (Int32.ofNat N) (lst N g) (.int (0 : Int32))) (hN : N ≤ 20) (hq : ∀ i, i < N → CH (g i)) (hkl : ∀ i, i < k → ¬ (255 : Int32) < g i) (hkN : k < N) (gk : (255 : Int32) < g k) (g_xa : n0 ≤ xa) :
    Con l Z consts_1 n0 (⟨"java/lang/String", "<init>", "([CIILjava/lang/Void;)V"⟩ : MethodName) jdk_42_method_149_code 6 none ({ frames := 4, cells := 2, slots := 84, locals := 57 } : Room) #[(.ref xa), (.ref ca), (.int (0 : Int32)), (.int (Int32.ofNat N)), .null] h0 [xa] (fun v h V' => ∃ (ba : Addr) (kb : ClassId), v = none ∧ Exa Z h xa "java/lang/String" ∧ Fld Z h xa "java/lang/String" "coder" "B" (.int (1 : Int32)) ∧ Fld Z h xa "java/lang/String" "value" "[B" (.ref ba) ∧ Arv Z h ba kb .byte (Int32.ofNat (2 * N)) (lst (2 * N) (ub g)) (.int (0 : Int32)) ∧ Exa Z h ba "[B" ∧ h0.size ≤ ba) [] := by
  refine Con.of (a0 := a0) pf8 (fun m => ef_new4w m xa ca kc N g k) (allS g_xa all0) hO hEL ?_
  intro p e s m below meth c S0 hnm hsf W
  replace W := W.aloadN (pc' := 1) djdk_42_149_0 rfl rfl rfl
  replace W := W.initO (pc' := 4) (Wd := 0) djdk_42_149_1 (tw16 hw) (tw17 hw) (tw18 hw) rfl rfl (by decide) (by decide) rfl
  replace W := W.iloadN (pc' := 5) djdk_42_149_4 rfl rfl
  replace W := W.ifT (pc' := 27) djdk_42_149_5 (feq (own_ne (X := N) (Y := 0) (by omega) (by omega) (by omega))).2 (by decide) (by decide)
  replace W := W.gets (pc' := 30) djdk_42_149_27 (tw44 hw) O1 rfl
  replace W := W.ifF (pc' := 33) djdk_42_149_30 (feq P1).1 rfl
  replace W := W.aloadN (pc' := 34) djdk_42_149_33 rfl rfl rfl
  replace W := W.iloadN (pc' := 35) djdk_42_149_34 rfl rfl
  replace W := W.iloadN (pc' := 36) djdk_42_149_35 rfl rfl
  obtain ⟨V1, h1, r1, W1, K1, hQ1, SF1⟩ := W.callS (pc' := 39) (argsL := [(.ref ca), (.int (0 : Int32)), (.int (Int32.ofNat N))]) (rest := []) (Wd := 0) (cells' := 2) (slots' := 84) (y := (⟨"java/lang/StringUTF16", "compress", "([CII)[B"⟩ : MethodName)) djdk_42_149_36 (c3f l Z a0 n0 hw hEL G1 O1 P1 O_as O_hi O_lo G3 O3 rG3 ca kc N g k h0 W.old V_ca (by omega) hq hkl (by omega) gk) (tw113 hw) (tw114 hw) (tw115 hw) (tw116 hw) (by decide) (lenOf pd4 rfl) rfl rfl (by decide) (by decide) rfl sf0 all0 rfl rfl rfl (by decide) (by decide)
  clear W
  obtain ⟨r1, kr1, rfl, q1_1, q1_2, q1_3, q1_4⟩ := hQ1
  have z1 : h0.size ≤ h1.size := K1.1
  replace W1 := W1.cast (st' := [(.ref r1)]) rfl
  replace W1 := W1.astore (pc' := 41) (L' := #[.val (.ref xa), .val (.ref ca), .val (.int (0 : Int32)), .val (.int (Int32.ofNat N)), .val .null, .val (.ref r1)]) djdk_42_149_39 rfl rfl rfl
  replace W1 := W1.aloadN (pc' := 42) djdk_42_149_41 rfl rfl rfl
  replace W1 := W1.aload (pc' := 44) djdk_42_149_42 rfl rfl rfl
  replace W1 := W1.iloadN (pc' := 45) djdk_42_149_44 rfl rfl
  obtain ⟨V2, h2, r2, W2, K2, hQ2, SF2⟩ := W1.callS (pc' := 48) (argsL := [(.ref r1), (.int (Int32.ofNat N))]) (rest := [(.ref xa)]) (Wd := 1) (cells' := 2) (slots' := 84) (y := (⟨"java/lang/StringUTF16", "coderFromArrayLen", "([BI)B"⟩ : MethodName)) djdk_42_149_45 (cod1 l Z a0 n0 hw hEL G1 O1 P1 O_as O_hi O_lo G3 O3 rG3 r1 kr1 N (ub g) h1 W1.old q1_1 (by omega) (by omega)) (tw120 hw) (tw121 hw) (tw115 hw) (tw122 hw) (by decide) (lenOf pd6 rfl) rfl rfl (by decide) (by decide) rfl sf0 all0 rfl rfl rfl (by decide) (by decide)
  clear W1
  obtain ⟨rfl, hs2⟩ := hQ2
  subst hs2
  have sf3 := (SF1 xa E_xa.lt (hsf _ (List.mem_of_getElem? (i := 0) rfl)))
  have sf4 := SF2 xa (Nat.lt_of_lt_of_le E_xa.lt z1) sf3
  have sf5 := SF2 r1 q1_1.lt q1_4
  replace W2 := W2.cast (st' := [(.int (1 : Int32)), (.ref xa)]) rfl
  have f6 := (F_xa_coder.keep K1 nin0)
  have e7 := (E_xa.keep K1)
  obtain ⟨h8, W8, w8, SF8⟩ := W2.putf (pc' := 51) (ty := .byte) djdk_42_149_48 (tw26 hw) Via.refl f6 e7 (Or.inr ⟨(tw22 hw), rfl, hnm⟩) (tw7 hw) (by decide) rfl rfl sf4 (Or.inl (List.mem_of_getElem? (i := 0) rfl)) rfl
  clear W2
  have z8 : h1.size ≤ h8.size := Nat.le_of_eq w8.size.symm
  have f8 := f6.same w8
  replace W8 := W8.aloadN (pc' := 52) djdk_42_149_51 rfl rfl rfl
  replace W8 := W8.aload (pc' := 54) djdk_42_149_52 rfl rfl rfl
  have f9 := ((F_xa_value.keep K1 nin0).other w8 (Or.inr (slot_ne (C := "java/lang/String") (Or.inr (tw21 hw)) (Or.inr (tw22 hw)) (by decide) (t := (.array .byte)) (t' := .byte) (by decide) (by decide))))
  have e10 := (e7.wr w8)
  have sf11 := (SF8 xa sf4)
  obtain ⟨h12, W12, w12, SF12⟩ := W8.putf (pc' := 57) (ty := (.array .byte)) djdk_42_149_54 (tw25 hw) Via.refl f9 e10 (Or.inr ⟨(tw21 hw), rfl, hnm⟩) (tw7 hw) (by decide) rfl rfl sf11 (Or.inl (List.mem_of_getElem? (i := 0) rfl)) rfl
  clear W8
  have z12 : h8.size ≤ h12.size := Nat.le_of_eq w12.size.symm
  have f12 := f9.same w12
  have e13 := (e10.wr w12)
  have f14 := (f8.other w12 (Or.inr (slot_ne (C := "java/lang/String") (Or.inr (tw22 hw)) (Or.inr (tw21 hw)) (by decide) (t := .byte) (t' := (.array .byte)) (by decide) (by decide))))
  have v15 := ((q1_1.other w8 (Nat.ne_of_gt (Nat.lt_of_lt_of_le E_xa.lt q1_3))).other w12 (Nat.ne_of_gt (Nat.lt_of_lt_of_le E_xa.lt q1_3)))
  have e16 := ((q1_2.wr w8).wr w12)
  exact W12.vret djdk_42_149_57 rfl (by decide) (by decide) (fun V' cv => ⟨r1, kr1, rfl, e13, f14, f12, v15, e16, q1_3⟩)
theorem ef_new1w (m : MethodId) (xa : Addr) (ca : Addr) (kc : ClassId) (N : Nat) (g : Nat → Int32) (k : Nat) : entryFrame m #[(.ref xa), (.ref ca)] 2 = mkF m 0 #[.val (.ref xa), .val (.ref ca)] [] := by first | (simp [entryFrame, mkF, argsToLocals, Value.category]; done) | rfl
set_option maxRecDepth 65536 in
set_option maxHeartbeats 40000000 in
theorem new1w (l : Launch) (Z : State) (a0 : Array Value) (n0 : Nat) (hw : ∀ d ∈ tables_1, d.before a0 Z = true) (hEL : EW Z a0 consts_1) (G1 : Int32) (O1 : Sta Z Z.heap "java/lang/String" "COMPACT_STRINGS" "Z" (.int G1)) (P1 : ¬ (G1 = (0 : Int32))) (O_as : Sta Z Z.heap "java/lang/StringUTF16" "$assertionsDisabled" "Z" (.int (1 : Int32))) (O_hi : Sta Z Z.heap "java/lang/StringUTF16" "HI_BYTE_SHIFT" "I" (.int (0 : Int32))) (O_lo : Sta Z Z.heap "java/lang/StringUTF16" "LO_BYTE_SHIFT" "I" (.int (8 : Int32))) (G3 : Value) (O3 : Sta Z Z.heap "jdk/internal/util/Preconditions" "SIOOBE_FORMATTER" "Ljava/util/function/BiFunction;" G3) (rG3 : G3.isRef = true) (xa : Addr) (ca : Addr) (kc : ClassId) (N : Nat) (g : Nat → Int32) (k : Nat) (h0 : Heap) (hO : Old Z n0 h0) (E_xa : Exa Z h0 xa "java/lang/String") (F_xa_value : Fld Z h0 xa "java/lang/String" "value" "[B" .null) (F_xa_coder : Fld Z h0 xa "java/lang/String" "coder" "B" (.int (0 : Int32))) (V_ca : Arv Z h0 ca kc .char (Int32.ofNat N) (lst N g) (.int (0 : Int32))) (hN : N ≤ 20) (hq : ∀ i, i < N → CH (g i)) (hkl : ∀ i, i < k → ¬ (255 : Int32) < g i) (hkN : k < N) (gk : (255 : Int32) < g k) (g_xa : n0 ≤ xa) :
    Con l Z consts_1 n0 (⟨"java/lang/String", "<init>", "([C)V"⟩ : MethodName) jdk_42_method_3_code 2 none ({ frames := 5, cells := 2, slots := 84, locals := 74 } : Room) #[(.ref xa), (.ref ca)] h0 [xa] (fun v h V' => ∃ (ba : Addr) (kb : ClassId), v = none ∧ Exa Z h xa "java/lang/String" ∧ Fld Z h xa "java/lang/String" "coder" "B" (.int (1 : Int32)) ∧ Fld Z h xa "java/lang/String" "value" "[B" (.ref ba) ∧ Arv Z h ba kb .byte (Int32.ofNat (2 * N)) (lst (2 * N) (ub g)) (.int (0 : Int32)) ∧ Exa Z h ba "[B" ∧ h0.size ≤ ba) [] := by
  refine Con.of (a0 := a0) pf9 (fun m => ef_new1w m xa ca kc N g k) (allS g_xa all0) hO hEL ?_
  intro p e s m below meth c S0 hnm hsf W
  replace W := W.aloadN (pc' := 1) djdk_42_3_0 rfl rfl rfl
  replace W := W.aloadN (pc' := 2) djdk_42_3_1 rfl rfl rfl
  replace W := W.iconst (pc' := 3) (v := (0 : Int32)) djdk_42_3_2 rfl rfl
  replace W := W.aloadN (pc' := 4) djdk_42_3_3 rfl rfl rfl
  replace W := W.alen (pc' := 5) djdk_42_3_4 V_ca rfl
  replace W := W.aconstNull (pc' := 6) djdk_42_3_5 rfl
  obtain ⟨V1, h1, r1, W1, K1, hQ1, SF1⟩ := W.callI (pc' := 9) (argsL := [(.ref ca), (.int (0 : Int32)), (.int (Int32.ofNat N)), .null]) (rest := []) (Wd := 0) (cells' := 2) (slots' := 84) (a := xa) (y := (⟨"java/lang/String", "<init>", "([CIILjava/lang/Void;)V"⟩ : MethodName)) djdk_42_3_6 (new4w l Z a0 n0 hw hEL G1 O1 P1 O_as O_hi O_lo G3 O3 rG3 xa ca kc N g k h0 W.old E_xa F_xa_value F_xa_coder V_ca (by omega) hq hkl (by omega) gk g_xa) rfl (tw12 hw) (tw13 hw) (tw8 hw) (tw15 hw) (by decide) (lenOf pd7 rfl) rfl rfl (by decide) (by decide) rfl (sfS (hsf _ (List.mem_of_getElem? (i := 0) rfl)) sf0) (allS (Or.inl (List.mem_of_getElem? (i := 0) rfl)) all0) rfl rfl rfl (by decide) (by decide)
  clear W
  obtain ⟨ba1, kb1, rfl, q1_1, q1_2, q1_3, q1_4, q1_5, q1_6⟩ := hQ1
  have z1 : h0.size ≤ h1.size := K1.1
  replace W1 := W1.cast (st' := []) rfl
  exact W1.vret djdk_42_3_9 rfl (by decide) (by decide) (fun V' cv => ⟨ba1, kb1, rfl, q1_1, q1_2, q1_3, q1_4, q1_5, q1_6⟩)
theorem ef_isl0 (m : MethodId) (xa : Addr) : entryFrame m #[(.ref xa)] 1 = mkF m 0 #[.val (.ref xa)] [] := by first | (simp [entryFrame, mkF, argsToLocals, Value.category]; done) | rfl
set_option maxRecDepth 65536 in
set_option maxHeartbeats 40000000 in
theorem isl0 (l : Launch) (Z : State) (a0 : Array Value) (n0 : Nat) (hw : ∀ d ∈ tables_1, d.before a0 Z = true) (hEL : EW Z a0 consts_1) (G1 : Int32) (O1 : Sta Z Z.heap "java/lang/String" "COMPACT_STRINGS" "Z" (.int G1)) (P1 : ¬ (G1 = (0 : Int32))) (O_as : Sta Z Z.heap "java/lang/StringUTF16" "$assertionsDisabled" "Z" (.int (1 : Int32))) (O_hi : Sta Z Z.heap "java/lang/StringUTF16" "HI_BYTE_SHIFT" "I" (.int (0 : Int32))) (O_lo : Sta Z Z.heap "java/lang/StringUTF16" "LO_BYTE_SHIFT" "I" (.int (8 : Int32))) (G3 : Value) (O3 : Sta Z Z.heap "jdk/internal/util/Preconditions" "SIOOBE_FORMATTER" "Ljava/util/function/BiFunction;" G3) (rG3 : G3.isRef = true) (xa : Addr) (h0 : Heap) (hO : Old Z n0 h0) (F_xa_coder : Fld Z h0 xa "java/lang/String" "coder" "B" (.int (0 : Int32))) :
    Con l Z consts_1 n0 (⟨"java/lang/String", "isLatin1", "()Z"⟩ : MethodName) jdk_42_method_154_code 1 (some .boolean) ({ frames := 0, cells := 0, slots := 0, locals := 0 } : Room) #[(.ref xa)] h0 [] (fun v h V' => v = some (.int (1 : Int32)) ∧ h0 = h) [] := by
  refine Con.of (a0 := a0) pf10 (fun m => ef_isl0 m xa) all0 hO hEL ?_
  intro p e s m below meth c S0 hnm hsf W
  replace W := W.gets (pc' := 3) djdk_42_154_0 (tw44 hw) O1 rfl
  replace W := W.ifF (pc' := 6) djdk_42_154_3 (feq P1).1 rfl
  replace W := W.aloadN (pc' := 7) djdk_42_154_6 rfl rfl rfl
  replace W := W.getf (pc' := 10) djdk_42_154_7 (tw26 hw) Via.refl F_xa_coder rfl
  replace W := W.ifF (pc' := 13) djdk_42_154_10 (teq (by decide : (0 : Int32) = (0 : Int32))).2 rfl
  replace W := W.iconst (pc' := 14) (v := (1 : Int32)) djdk_42_154_13 rfl rfl
  replace W := W.goto (pc' := 18) djdk_42_154_14 (by decide) (by decide)
  exact W.iret (t := .boolean) djdk_42_154_18 rfl (by simp) (by decide) (by decide) (by decide) (fun V' cv => ⟨rfl, rfl⟩)
theorem ef_isl1 (m : MethodId) (xa : Addr) : entryFrame m #[(.ref xa)] 1 = mkF m 0 #[.val (.ref xa)] [] := by first | (simp [entryFrame, mkF, argsToLocals, Value.category]; done) | rfl
set_option maxRecDepth 65536 in
set_option maxHeartbeats 40000000 in
theorem isl1 (l : Launch) (Z : State) (a0 : Array Value) (n0 : Nat) (hw : ∀ d ∈ tables_1, d.before a0 Z = true) (hEL : EW Z a0 consts_1) (G1 : Int32) (O1 : Sta Z Z.heap "java/lang/String" "COMPACT_STRINGS" "Z" (.int G1)) (P1 : ¬ (G1 = (0 : Int32))) (O_as : Sta Z Z.heap "java/lang/StringUTF16" "$assertionsDisabled" "Z" (.int (1 : Int32))) (O_hi : Sta Z Z.heap "java/lang/StringUTF16" "HI_BYTE_SHIFT" "I" (.int (0 : Int32))) (O_lo : Sta Z Z.heap "java/lang/StringUTF16" "LO_BYTE_SHIFT" "I" (.int (8 : Int32))) (G3 : Value) (O3 : Sta Z Z.heap "jdk/internal/util/Preconditions" "SIOOBE_FORMATTER" "Ljava/util/function/BiFunction;" G3) (rG3 : G3.isRef = true) (xa : Addr) (h0 : Heap) (hO : Old Z n0 h0) (F_xa_coder : Fld Z h0 xa "java/lang/String" "coder" "B" (.int (1 : Int32))) :
    Con l Z consts_1 n0 (⟨"java/lang/String", "isLatin1", "()Z"⟩ : MethodName) jdk_42_method_154_code 1 (some .boolean) ({ frames := 0, cells := 0, slots := 0, locals := 0 } : Room) #[(.ref xa)] h0 [] (fun v h V' => v = some (.int (0 : Int32)) ∧ h0 = h) [] := by
  refine Con.of (a0 := a0) pf10 (fun m => ef_isl1 m xa) all0 hO hEL ?_
  intro p e s m below meth c S0 hnm hsf W
  replace W := W.gets (pc' := 3) djdk_42_154_0 (tw44 hw) O1 rfl
  replace W := W.ifF (pc' := 6) djdk_42_154_3 (feq P1).1 rfl
  replace W := W.aloadN (pc' := 7) djdk_42_154_6 rfl rfl rfl
  replace W := W.getf (pc' := 10) djdk_42_154_7 (tw26 hw) Via.refl F_xa_coder rfl
  replace W := W.ifT (pc' := 17) djdk_42_154_10 (feq (by decide : ¬ ((1 : Int32) = (0 : Int32)))).2 (by decide) (by decide)
  replace W := W.iconst (pc' := 18) (v := (0 : Int32)) djdk_42_154_17 rfl rfl
  exact W.iret (t := .boolean) djdk_42_154_18 rfl (by simp) (by decide) (by decide) (by decide) (fun V' cv => ⟨rfl, rfl⟩)
theorem ef_cdr0 (m : MethodId) (xa : Addr) : entryFrame m #[(.ref xa)] 1 = mkF m 0 #[.val (.ref xa)] [] := by first | (simp [entryFrame, mkF, argsToLocals, Value.category]; done) | rfl
set_option maxRecDepth 65536 in
set_option maxHeartbeats 40000000 in
theorem cdr0 (l : Launch) (Z : State) (a0 : Array Value) (n0 : Nat) (hw : ∀ d ∈ tables_1, d.before a0 Z = true) (hEL : EW Z a0 consts_1) (G1 : Int32) (O1 : Sta Z Z.heap "java/lang/String" "COMPACT_STRINGS" "Z" (.int G1)) (P1 : ¬ (G1 = (0 : Int32))) (O_as : Sta Z Z.heap "java/lang/StringUTF16" "$assertionsDisabled" "Z" (.int (1 : Int32))) (O_hi : Sta Z Z.heap "java/lang/StringUTF16" "HI_BYTE_SHIFT" "I" (.int (0 : Int32))) (O_lo : Sta Z Z.heap "java/lang/StringUTF16" "LO_BYTE_SHIFT" "I" (.int (8 : Int32))) (G3 : Value) (O3 : Sta Z Z.heap "jdk/internal/util/Preconditions" "SIOOBE_FORMATTER" "Ljava/util/function/BiFunction;" G3) (rG3 : G3.isRef = true) (xa : Addr) (h0 : Heap) (hO : Old Z n0 h0) (F_xa_coder : Fld Z h0 xa "java/lang/String" "coder" "B" (.int (0 : Int32))) :
    Con l Z consts_1 n0 (⟨"java/lang/String", "coder", "()B"⟩ : MethodName) jdk_42_method_152_code 1 (some .byte) ({ frames := 0, cells := 0, slots := 0, locals := 0 } : Room) #[(.ref xa)] h0 [] (fun v h V' => v = some (.int (0 : Int32)) ∧ h0 = h) [] := by
  refine Con.of (a0 := a0) pf11 (fun m => ef_cdr0 m xa) all0 hO hEL ?_
  intro p e s m below meth c S0 hnm hsf W
  replace W := W.gets (pc' := 3) djdk_42_152_0 (tw44 hw) O1 rfl
  replace W := W.ifF (pc' := 6) djdk_42_152_3 (feq P1).1 rfl
  replace W := W.aloadN (pc' := 7) djdk_42_152_6 rfl rfl rfl
  replace W := W.getf (pc' := 10) djdk_42_152_7 (tw26 hw) Via.refl F_xa_coder rfl
  replace W := W.goto (pc' := 14) djdk_42_152_10 (by decide) (by decide)
  exact W.iret (t := .byte) djdk_42_152_14 rfl (by simp) (by decide) (by decide) (by decide) (fun V' cv => ⟨rfl, rfl⟩)
theorem ef_cdr1 (m : MethodId) (xa : Addr) : entryFrame m #[(.ref xa)] 1 = mkF m 0 #[.val (.ref xa)] [] := by first | (simp [entryFrame, mkF, argsToLocals, Value.category]; done) | rfl
set_option maxRecDepth 65536 in
set_option maxHeartbeats 40000000 in
theorem cdr1 (l : Launch) (Z : State) (a0 : Array Value) (n0 : Nat) (hw : ∀ d ∈ tables_1, d.before a0 Z = true) (hEL : EW Z a0 consts_1) (G1 : Int32) (O1 : Sta Z Z.heap "java/lang/String" "COMPACT_STRINGS" "Z" (.int G1)) (P1 : ¬ (G1 = (0 : Int32))) (O_as : Sta Z Z.heap "java/lang/StringUTF16" "$assertionsDisabled" "Z" (.int (1 : Int32))) (O_hi : Sta Z Z.heap "java/lang/StringUTF16" "HI_BYTE_SHIFT" "I" (.int (0 : Int32))) (O_lo : Sta Z Z.heap "java/lang/StringUTF16" "LO_BYTE_SHIFT" "I" (.int (8 : Int32))) (G3 : Value) (O3 : Sta Z Z.heap "jdk/internal/util/Preconditions" "SIOOBE_FORMATTER" "Ljava/util/function/BiFunction;" G3) (rG3 : G3.isRef = true) (xa : Addr) (h0 : Heap) (hO : Old Z n0 h0) (F_xa_coder : Fld Z h0 xa "java/lang/String" "coder" "B" (.int (1 : Int32))) :
    Con l Z consts_1 n0 (⟨"java/lang/String", "coder", "()B"⟩ : MethodName) jdk_42_method_152_code 1 (some .byte) ({ frames := 0, cells := 0, slots := 0, locals := 0 } : Room) #[(.ref xa)] h0 [] (fun v h V' => v = some (.int (1 : Int32)) ∧ h0 = h) [] := by
  refine Con.of (a0 := a0) pf11 (fun m => ef_cdr1 m xa) all0 hO hEL ?_
  intro p e s m below meth c S0 hnm hsf W
  replace W := W.gets (pc' := 3) djdk_42_152_0 (tw44 hw) O1 rfl
  replace W := W.ifF (pc' := 6) djdk_42_152_3 (feq P1).1 rfl
  replace W := W.aloadN (pc' := 7) djdk_42_152_6 rfl rfl rfl
  replace W := W.getf (pc' := 10) djdk_42_152_7 (tw26 hw) Via.refl F_xa_coder rfl
  replace W := W.goto (pc' := 14) djdk_42_152_10 (by decide) (by decide)
  exact W.iret (t := .byte) djdk_42_152_14 rfl (by simp) (by decide) (by decide) (by decide) (fun V' cv => ⟨rfl, rfl⟩)
theorem ef_len_c (m : MethodId) (xa : Addr) (cd : Int32) (ba : Addr) (kb : ClassId) (NB : Nat) (fb : Nat → Int32) (N : Nat) (g : Nat → Int32) : entryFrame m #[(.ref xa)] 1 = mkF m 0 #[.val (.ref xa)] [] := by first | (simp [entryFrame, mkF, argsToLocals, Value.category]; done) | rfl
set_option maxRecDepth 65536 in
set_option maxHeartbeats 40000000 in
theorem len_c (l : Launch) (Z : State) (a0 : Array Value) (n0 : Nat) (hw : ∀ d ∈ tables_1, d.before a0 Z = true) (hEL : EW Z a0 consts_1) (G1 : Int32) (O1 : Sta Z Z.heap "java/lang/String" "COMPACT_STRINGS" "Z" (.int G1)) (P1 : ¬ (G1 = (0 : Int32))) (O_as : Sta Z Z.heap "java/lang/StringUTF16" "$assertionsDisabled" "Z" (.int (1 : Int32))) (O_hi : Sta Z Z.heap "java/lang/StringUTF16" "HI_BYTE_SHIFT" "I" (.int (0 : Int32))) (O_lo : Sta Z Z.heap "java/lang/StringUTF16" "LO_BYTE_SHIFT" "I" (.int (8 : Int32))) (G3 : Value) (O3 : Sta Z Z.heap "jdk/internal/util/Preconditions" "SIOOBE_FORMATTER" "Ljava/util/function/BiFunction;" G3) (rG3 : G3.isRef = true) (xa : Addr) (cd : Int32) (ba : Addr) (kb : ClassId) (NB : Nat) (fb : Nat → Int32) (N : Nat) (g : Nat → Int32) (h0 : Heap) (hO : Old Z n0 h0) (E_xa : Exa Z h0 xa "java/lang/String") (F_xa_coder : Fld Z h0 xa "java/lang/String" "coder" "B" (.int cd)) (F_xa_value : Fld Z h0 xa "java/lang/String" "value" "[B" (.ref ba)) (V_ba : Arv Z h0 ba kb .byte (Int32.ofNat NB) (lst NB fb) (.int (0 : Int32))) (sok : SOK cd NB fb N g) (hN : N ≤ 20) :
    Con l Z consts_1 n0 (⟨"java/lang/String", "length", "()I"⟩ : MethodName) jdk_42_method_54_code 1 (some .int) ({ frames := 1, cells := 0, slots := 0, locals := 13 } : Room) #[(.ref xa)] h0 [] (fun v h V' => v = some (.int (Int32.ofNat N)) ∧ h0 = h) [] := by
  refine Con.of (a0 := a0) pf12 (fun m => ef_len_c m xa cd ba kb NB fb N g) all0 hO hEL ?_
  intro p e s m below meth c S0 hnm hsf W
  rcases sok with ⟨e1, e2, hl0, hl⟩ | ⟨e1, e2, hu⟩
  · subst e1
    subst e2
    replace W := W.aloadN (pc' := 1) djdk_42_54_0 rfl rfl rfl
    replace W := W.getf (pc' := 4) djdk_42_54_1 (tw25 hw) Via.refl F_xa_value rfl
    replace W := W.alen (pc' := 5) djdk_42_54_4 V_ba rfl
    replace W := W.aloadN (pc' := 6) djdk_42_54_5 rfl rfl rfl
    obtain ⟨V1, h1, r1, W1, K1, hQ1, SF1⟩ := W.callV (pc' := 9) (argsL := []) (rest := [(.int (Int32.ofNat N))]) (Wd := 1) (cells' := 0) (slots' := 0) (a := xa) (C := "java/lang/String") (y := (⟨"java/lang/String", "coder", "()B"⟩ : MethodName)) (z := (⟨"java/lang/String", "coder", "()B"⟩ : MethodName)) djdk_42_54_6 (cdr0 l Z a0 n0 hw hEL G1 O1 P1 O_as O_hi O_lo G3 O3 rG3 xa h0 W.old F_xa_coder) E_xa (tw39 hw) (tw40 hw) (Or.inl (tw42 hw)) (tw42 hw) (tw41 hw) (tw8 hw) (tw43 hw) (by decide) (lenOf pd8 rfl) rfl rfl (by decide) (by decide) rfl sf0 all0 rfl rfl rfl (by decide) (by decide)
    clear W
    obtain ⟨rfl, hs1⟩ := hQ1
    subst hs1
    replace W1 := W1.cast (st' := [(.int (0 : Int32)), (.int (Int32.ofNat N))]) rfl
    replace W1 := W1.ishr (pc' := 10) (v := (Int32.ofNat N)) djdk_42_54_9 (own_shr0 _) rfl
    exact W1.iret (t := .int) djdk_42_54_10 rfl (by simp) rfl (by decide) (by decide) (fun V' cv => ⟨rfl, rfl⟩)
  · subst e1
    subst e2
    replace W := W.aloadN (pc' := 1) djdk_42_54_0 rfl rfl rfl
    replace W := W.getf (pc' := 4) djdk_42_54_1 (tw25 hw) Via.refl F_xa_value rfl
    replace W := W.alen (pc' := 5) djdk_42_54_4 V_ba rfl
    replace W := W.aloadN (pc' := 6) djdk_42_54_5 rfl rfl rfl
    obtain ⟨V2, h2, r2, W2, K2, hQ2, SF2⟩ := W.callV (pc' := 9) (argsL := []) (rest := [(.int (Int32.ofNat (2 * N)))]) (Wd := 1) (cells' := 0) (slots' := 0) (a := xa) (C := "java/lang/String") (y := (⟨"java/lang/String", "coder", "()B"⟩ : MethodName)) (z := (⟨"java/lang/String", "coder", "()B"⟩ : MethodName)) djdk_42_54_6 (cdr1 l Z a0 n0 hw hEL G1 O1 P1 O_as O_hi O_lo G3 O3 rG3 xa h0 W.old F_xa_coder) E_xa (tw39 hw) (tw40 hw) (Or.inl (tw42 hw)) (tw42 hw) (tw41 hw) (tw8 hw) (tw43 hw) (by decide) (lenOf pd8 rfl) rfl rfl (by decide) (by decide) rfl sf0 all0 rfl rfl rfl (by decide) (by decide)
    clear W
    obtain ⟨rfl, hs2⟩ := hQ2
    subst hs2
    replace W2 := W2.cast (st' := [(.int (1 : Int32)), (.int (Int32.ofNat (2 * N)))]) rfl
    replace W2 := W2.ishr (pc' := 10) (v := (Int32.ofNat N)) djdk_42_54_9 (own_shr1 (by omega)) rfl
    exact W2.iret (t := .int) djdk_42_54_10 rfl (by simp) rfl (by decide) (by decide) (fun V' cv => ⟨rfl, rfl⟩)
theorem ef_pci (m : MethodId) (j : Nat) (N : Nat) (fm : Value) (rf : fm.isRef = true) : entryFrame m #[(.int (Int32.ofNat j)), (.int (Int32.ofNat N)), fm] 3 = mkF m 0 #[.val (.int (Int32.ofNat j)), .val (.int (Int32.ofNat N)), .val fm] [] := by rcases ref_cases rf with rfl | ⟨q, rfl⟩ <;> first | (simp [entryFrame, mkF, argsToLocals, Value.category]; done) | rfl
set_option maxRecDepth 65536 in
set_option maxHeartbeats 40000000 in
theorem pci (l : Launch) (Z : State) (a0 : Array Value) (n0 : Nat) (hw : ∀ d ∈ tables_1, d.before a0 Z = true) (hEL : EW Z a0 consts_1) (G1 : Int32) (O1 : Sta Z Z.heap "java/lang/String" "COMPACT_STRINGS" "Z" (.int G1)) (P1 : ¬ (G1 = (0 : Int32))) (O_as : Sta Z Z.heap "java/lang/StringUTF16" "$assertionsDisabled" "Z" (.int (1 : Int32))) (O_hi : Sta Z Z.heap "java/lang/StringUTF16" "HI_BYTE_SHIFT" "I" (.int (0 : Int32))) (O_lo : Sta Z Z.heap "java/lang/StringUTF16" "LO_BYTE_SHIFT" "I" (.int (8 : Int32))) (G3 : Value) (O3 : Sta Z Z.heap "jdk/internal/util/Preconditions" "SIOOBE_FORMATTER" "Ljava/util/function/BiFunction;" G3) (rG3 : G3.isRef = true) (j : Nat) (N : Nat) (fm : Value) (rf : fm.isRef = true) (h0 : Heap) (hO : Old Z n0 h0) (hj : j < N) (hN : N ≤ 32) :
    Con l Z consts_1 n0 (⟨"jdk/internal/util/Preconditions", "checkIndex", "(IILjava/util/function/BiFunction;)I"⟩ : MethodName) jdk_41_method_11_code 3 (some .int) ({ frames := 0, cells := 0, slots := 0, locals := 0 } : Room) #[(.int (Int32.ofNat j)), (.int (Int32.ofNat N)), fm] h0 [] (fun v h V' => v = some (.int (Int32.ofNat j)) ∧ h0 = h) [] := by
  refine Con.of (a0 := a0) pf13 (fun m => ef_pci m j N fm rf) all0 hO hEL ?_
  intro p e s m below meth c S0 hnm hsf W
  replace W := W.iloadN (pc' := 1) djdk_41_11_0 rfl rfl
  replace W := W.ifF (pc' := 4) djdk_41_11_1 (flt (own_nlt (X := j) (Y := 0) (by omega) (by omega) (by omega))).1 rfl
  replace W := W.iloadN (pc' := 5) djdk_41_11_4 rfl rfl
  replace W := W.iloadN (pc' := 6) djdk_41_11_5 rfl rfl
  replace W := W.icmpT (pc' := 16) djdk_41_11_6 (tlt (own_lt (X := j) (Y := N) (by omega) (by omega) (by omega))).1 (by decide) (by decide)
  replace W := W.iloadN (pc' := 17) djdk_41_11_16 rfl rfl
  exact W.iret (t := .int) djdk_41_11_17 rfl (by simp) rfl (by decide) (by decide) (fun V' cv => ⟨rfl, rfl⟩)
theorem ef_sci (m : MethodId) (j : Nat) (N : Nat) : entryFrame m #[(.int (Int32.ofNat j)), (.int (Int32.ofNat N))] 2 = mkF m 0 #[.val (.int (Int32.ofNat j)), .val (.int (Int32.ofNat N))] [] := by first | (simp [entryFrame, mkF, argsToLocals, Value.category]; done) | rfl
set_option maxRecDepth 65536 in
set_option maxHeartbeats 40000000 in
theorem sci (l : Launch) (Z : State) (a0 : Array Value) (n0 : Nat) (hw : ∀ d ∈ tables_1, d.before a0 Z = true) (hEL : EW Z a0 consts_1) (G1 : Int32) (O1 : Sta Z Z.heap "java/lang/String" "COMPACT_STRINGS" "Z" (.int G1)) (P1 : ¬ (G1 = (0 : Int32))) (O_as : Sta Z Z.heap "java/lang/StringUTF16" "$assertionsDisabled" "Z" (.int (1 : Int32))) (O_hi : Sta Z Z.heap "java/lang/StringUTF16" "HI_BYTE_SHIFT" "I" (.int (0 : Int32))) (O_lo : Sta Z Z.heap "java/lang/StringUTF16" "LO_BYTE_SHIFT" "I" (.int (8 : Int32))) (G3 : Value) (O3 : Sta Z Z.heap "jdk/internal/util/Preconditions" "SIOOBE_FORMATTER" "Ljava/util/function/BiFunction;" G3) (rG3 : G3.isRef = true) (j : Nat) (N : Nat) (h0 : Heap) (hO : Old Z n0 h0) (hj : j < N) (hN : N ≤ 32) :
    Con l Z consts_1 n0 (⟨"java/lang/String", "checkIndex", "(II)V"⟩ : MethodName) jdk_42_method_155_code 2 none ({ frames := 1, cells := 0, slots := 0, locals := 14 } : Room) #[(.int (Int32.ofNat j)), (.int (Int32.ofNat N))] h0 [] (fun v h V' => v = none ∧ h0 = h) [] := by
  refine Con.of (a0 := a0) pf14 (fun m => ef_sci m j N) all0 hO hEL ?_
  intro p e s m below meth c S0 hnm hsf W
  replace W := W.iloadN (pc' := 1) djdk_42_155_0 rfl rfl
  replace W := W.iloadN (pc' := 2) djdk_42_155_1 rfl rfl
  replace W := W.gets (pc' := 5) djdk_42_155_2 (tw140 hw) O3 rfl
  obtain ⟨V1, h1, r1, W1, K1, hQ1, SF1⟩ := W.callS (pc' := 8) (argsL := [(.int (Int32.ofNat j)), (.int (Int32.ofNat N)), G3]) (rest := []) (Wd := 0) (cells' := 0) (slots' := 0) (y := (⟨"jdk/internal/util/Preconditions", "checkIndex", "(IILjava/util/function/BiFunction;)I"⟩ : MethodName)) djdk_42_155_5 (pci l Z a0 n0 hw hEL G1 O1 P1 O_as O_hi O_lo G3 O3 rG3 j N G3 rG3 h0 W.old (by omega) (by omega)) (tw142 hw) (tw143 hw) (tw141 hw) (tw144 hw) (by decide) (lenOf pd9 rfl) rfl rfl (by decide) (by decide) rfl sf0 all0 rfl rfl rfl (by decide) (by decide)
  clear W
  obtain ⟨rfl, hs1⟩ := hQ1
  subst hs1
  replace W1 := W1.cast (st' := [(.int (Int32.ofNat j))]) rfl
  replace W1 := W1.pop (pc' := 9) djdk_42_155_8 rfl rfl
  exact W1.vret djdk_42_155_9 rfl (by decide) (by decide) (fun V' cv => ⟨rfl, rfl⟩)
theorem ef_lca (m : MethodId) (ba : Addr) (kb : ClassId) (N : Nat) (fb : Nat → Int32) (j : Nat) (cz : Int32) : entryFrame m #[(.ref ba), (.int (Int32.ofNat j))] 2 = mkF m 0 #[.val (.ref ba), .val (.int (Int32.ofNat j))] [] := by first | (simp [entryFrame, mkF, argsToLocals, Value.category]; done) | rfl
set_option maxRecDepth 65536 in
set_option maxHeartbeats 40000000 in
theorem lca (l : Launch) (Z : State) (a0 : Array Value) (n0 : Nat) (hw : ∀ d ∈ tables_1, d.before a0 Z = true) (hEL : EW Z a0 consts_1) (G1 : Int32) (O1 : Sta Z Z.heap "java/lang/String" "COMPACT_STRINGS" "Z" (.int G1)) (P1 : ¬ (G1 = (0 : Int32))) (O_as : Sta Z Z.heap "java/lang/StringUTF16" "$assertionsDisabled" "Z" (.int (1 : Int32))) (O_hi : Sta Z Z.heap "java/lang/StringUTF16" "HI_BYTE_SHIFT" "I" (.int (0 : Int32))) (O_lo : Sta Z Z.heap "java/lang/StringUTF16" "LO_BYTE_SHIFT" "I" (.int (8 : Int32))) (G3 : Value) (O3 : Sta Z Z.heap "jdk/internal/util/Preconditions" "SIOOBE_FORMATTER" "Ljava/util/function/BiFunction;" G3) (rG3 : G3.isRef = true) (ba : Addr) (kb : ClassId) (N : Nat) (fb : Nat → Int32) (j : Nat) (cz : Int32) (h0 : Heap) (hO : Old Z n0 h0) (V_ba : Arv Z h0 ba kb .byte (Int32.ofNat N) (lst N fb) (.int (0 : Int32))) (hj : j < N) (hN : N ≤ 20) (e0 : fb j = (cz.toInt8.toInt32)) (hp : ¬ cz < 0 ∧ ¬ (255 : Int32) < cz) :
    Con l Z consts_1 n0 (⟨"java/lang/StringLatin1", "charAt", "([BI)C"⟩ : MethodName) jdk_43_method_2_code 2 (some .char) ({ frames := 2, cells := 0, slots := 0, locals := 27 } : Room) #[(.ref ba), (.int (Int32.ofNat j))] h0 [] (fun v h V' => v = some (.int cz) ∧ h0 = h) [] := by
  refine Con.of (a0 := a0) pf15 (fun m => ef_lca m ba kb N fb j cz) all0 hO hEL ?_
  intro p e s m below meth c S0 hnm hsf W
  replace W := W.iloadN (pc' := 1) djdk_43_2_0 rfl rfl
  replace W := W.aloadN (pc' := 2) djdk_43_2_1 rfl rfl rfl
  replace W := W.alen (pc' := 3) djdk_43_2_2 V_ba rfl
  obtain ⟨V1, h1, r1, W1, K1, hQ1, SF1⟩ := W.callS (pc' := 6) (argsL := [(.int (Int32.ofNat j)), (.int (Int32.ofNat N))]) (rest := []) (Wd := 0) (cells' := 0) (slots' := 0) (y := (⟨"java/lang/String", "checkIndex", "(II)V"⟩ : MethodName)) djdk_43_2_3 (sci l Z a0 n0 hw hEL G1 O1 P1 O_as O_hi O_lo G3 O3 rG3 j N h0 W.old (by omega) (by omega)) (tw137 hw) (tw138 hw) (tw8 hw) (tw139 hw) (by decide) (lenOf pd10 rfl) rfl rfl (by decide) (by decide) rfl sf0 all0 rfl rfl rfl (by decide) (by decide)
  clear W
  obtain ⟨rfl, hs1⟩ := hQ1
  subst hs1
  replace W1 := W1.cast (st' := []) rfl
  replace W1 := W1.aloadN (pc' := 7) djdk_43_2_6 rfl rfl rfl
  replace W1 := W1.iloadN (pc' := 8) djdk_43_2_7 rfl rfl
  replace W1 := W1.baload (pc' := 9) (w := (.int (cz.toInt8.toInt32))) djdk_43_2_8 V_ba ⟨own_nn (by omega), own_lt (by omega) (by omega) (by omega)⟩ (by rw [own_clamp (by omega), own_lst_get (by omega)]; exact congrArg Value.int e0) rfl
  replace W1 := W1.sipush (pc' := 12) (v := (255 : Int32)) djdk_43_2_9 rfl rfl
  replace W1 := W1.iand (pc' := 13) (v := cz) djdk_43_2_12 (own_lo8mask hp) rfl
  replace W1 := W1.i2c (pc' := 14) (v := cz) djdk_43_2_13 (own_narc (own_up hp)) rfl
  exact W1.iret (t := .char) djdk_43_2_14 rfl (by simp) (own_narrow_char (own_up hp)) (by decide) (by decide) (fun V' cv => ⟨rfl, rfl⟩)
theorem ef_ulen (m : MethodId) (ba : Addr) (kb : ClassId) (K : Nat) (f : Nat → Int32) : entryFrame m #[(.ref ba)] 1 = mkF m 0 #[.val (.ref ba)] [] := by first | (simp [entryFrame, mkF, argsToLocals, Value.category]; done) | rfl
set_option maxRecDepth 65536 in
set_option maxHeartbeats 40000000 in
theorem ulen (l : Launch) (Z : State) (a0 : Array Value) (n0 : Nat) (hw : ∀ d ∈ tables_1, d.before a0 Z = true) (hEL : EW Z a0 consts_1) (G1 : Int32) (O1 : Sta Z Z.heap "java/lang/String" "COMPACT_STRINGS" "Z" (.int G1)) (P1 : ¬ (G1 = (0 : Int32))) (O_as : Sta Z Z.heap "java/lang/StringUTF16" "$assertionsDisabled" "Z" (.int (1 : Int32))) (O_hi : Sta Z Z.heap "java/lang/StringUTF16" "HI_BYTE_SHIFT" "I" (.int (0 : Int32))) (O_lo : Sta Z Z.heap "java/lang/StringUTF16" "LO_BYTE_SHIFT" "I" (.int (8 : Int32))) (G3 : Value) (O3 : Sta Z Z.heap "jdk/internal/util/Preconditions" "SIOOBE_FORMATTER" "Ljava/util/function/BiFunction;" G3) (rG3 : G3.isRef = true) (ba : Addr) (kb : ClassId) (K : Nat) (f : Nat → Int32) (h0 : Heap) (hO : Old Z n0 h0) (V_ba : Arv Z h0 ba kb .byte (Int32.ofNat (2 * K)) (lst (2 * K) f) (.int (0 : Int32))) (hK : K ≤ 32) :
    Con l Z consts_1 n0 (⟨"java/lang/StringUTF16", "length", "([B)I"⟩ : MethodName) jdk_52_method_6_code 1 (some .int) ({ frames := 0, cells := 0, slots := 0, locals := 0 } : Room) #[(.ref ba)] h0 [] (fun v h V' => v = some (.int (Int32.ofNat K)) ∧ h0 = h) [] := by
  refine Con.of (a0 := a0) pf16 (fun m => ef_ulen m ba kb K f) all0 hO hEL ?_
  intro p e s m below meth c S0 hnm hsf W
  replace W := W.aloadN (pc' := 1) djdk_52_6_0 rfl rfl rfl
  replace W := W.alen (pc' := 2) djdk_52_6_1 V_ba rfl
  replace W := W.iconst (pc' := 3) (v := (1 : Int32)) djdk_52_6_2 rfl rfl
  replace W := W.ishr (pc' := 4) (v := (Int32.ofNat K)) djdk_52_6_3 (own_shr1 (by omega)) rfl
  exact W.iret (t := .int) djdk_52_6_4 rfl (by simp) rfl (by decide) (by decide) (fun V' cv => ⟨rfl, rfl⟩)
theorem ef_uci (m : MethodId) (j : Nat) (ba : Addr) (kb : ClassId) (K : Nat) (f : Nat → Int32) : entryFrame m #[(.int (Int32.ofNat j)), (.ref ba)] 2 = mkF m 0 #[.val (.int (Int32.ofNat j)), .val (.ref ba)] [] := by first | (simp [entryFrame, mkF, argsToLocals, Value.category]; done) | rfl
set_option maxRecDepth 65536 in
set_option maxHeartbeats 40000000 in
theorem uci (l : Launch) (Z : State) (a0 : Array Value) (n0 : Nat) (hw : ∀ d ∈ tables_1, d.before a0 Z = true) (hEL : EW Z a0 consts_1) (G1 : Int32) (O1 : Sta Z Z.heap "java/lang/String" "COMPACT_STRINGS" "Z" (.int G1)) (P1 : ¬ (G1 = (0 : Int32))) (O_as : Sta Z Z.heap "java/lang/StringUTF16" "$assertionsDisabled" "Z" (.int (1 : Int32))) (O_hi : Sta Z Z.heap "java/lang/StringUTF16" "HI_BYTE_SHIFT" "I" (.int (0 : Int32))) (O_lo : Sta Z Z.heap "java/lang/StringUTF16" "LO_BYTE_SHIFT" "I" (.int (8 : Int32))) (G3 : Value) (O3 : Sta Z Z.heap "jdk/internal/util/Preconditions" "SIOOBE_FORMATTER" "Ljava/util/function/BiFunction;" G3) (rG3 : G3.isRef = true) (j : Nat) (ba : Addr) (kb : ClassId) (K : Nat) (f : Nat → Int32) (h0 : Heap) (hO : Old Z n0 h0) (V_ba : Arv Z h0 ba kb .byte (Int32.ofNat (2 * K)) (lst (2 * K) f) (.int (0 : Int32))) (hK : K ≤ 32) (hj : j < K) :
    Con l Z consts_1 n0 (⟨"java/lang/StringUTF16", "checkIndex", "(I[B)V"⟩ : MethodName) jdk_52_method_91_code 2 none ({ frames := 2, cells := 0, slots := 0, locals := 27 } : Room) #[(.int (Int32.ofNat j)), (.ref ba)] h0 [] (fun v h V' => v = none ∧ h0 = h) [] := by
  refine Con.of (a0 := a0) pf17 (fun m => ef_uci m j ba kb K f) all0 hO hEL ?_
  intro p e s m below meth c S0 hnm hsf W
  replace W := W.iloadN (pc' := 1) djdk_52_91_0 rfl rfl
  replace W := W.aloadN (pc' := 2) djdk_52_91_1 rfl rfl rfl
  obtain ⟨V1, h1, r1, W1, K1, hQ1, SF1⟩ := W.callS (pc' := 5) (argsL := [(.ref ba)]) (rest := [(.int (Int32.ofNat j))]) (Wd := 1) (cells' := 0) (slots' := 0) (y := (⟨"java/lang/StringUTF16", "length", "([B)I"⟩ : MethodName)) djdk_52_91_2 (ulen l Z a0 n0 hw hEL G1 O1 P1 O_as O_hi O_lo G3 O3 rG3 ba kb K f h0 W.old V_ba (by omega)) (tw223 hw) (tw224 hw) (tw115 hw) (tw225 hw) (by decide) (lenOf pd11 rfl) rfl rfl (by decide) (by decide) rfl sf0 all0 rfl rfl rfl (by decide) (by decide)
  clear W
  obtain ⟨rfl, hs1⟩ := hQ1
  subst hs1
  replace W1 := W1.cast (st' := [(.int (Int32.ofNat K)), (.int (Int32.ofNat j))]) rfl
  obtain ⟨V2, h2, r2, W2, K2, hQ2, SF2⟩ := W1.callS (pc' := 8) (argsL := [(.int (Int32.ofNat j)), (.int (Int32.ofNat K))]) (rest := []) (Wd := 0) (cells' := 0) (slots' := 0) (y := (⟨"java/lang/String", "checkIndex", "(II)V"⟩ : MethodName)) djdk_52_91_5 (sci l Z a0 n0 hw hEL G1 O1 P1 O_as O_hi O_lo G3 O3 rG3 j K h0 W1.old (by omega) (by omega)) (tw226 hw) (tw138 hw) (tw8 hw) (tw139 hw) (by decide) (lenOf pd10 rfl) rfl rfl (by decide) (by decide) rfl sf0 all0 rfl rfl rfl (by decide) (by decide)
  clear W1
  obtain ⟨rfl, hs2⟩ := hQ2
  subst hs2
  replace W2 := W2.cast (st' := []) rfl
  exact W2.vret djdk_52_91_8 rfl (by decide) (by decide) (fun V' cv => ⟨rfl, rfl⟩)
theorem ef_uca (m : MethodId) (ba : Addr) (kb : ClassId) (K : Nat) (f : Nat → Int32) (j : Nat) (cz : Int32) : entryFrame m #[(.ref ba), (.int (Int32.ofNat j))] 2 = mkF m 0 #[.val (.ref ba), .val (.int (Int32.ofNat j))] [] := by first | (simp [entryFrame, mkF, argsToLocals, Value.category]; done) | rfl
set_option maxRecDepth 65536 in
set_option maxHeartbeats 40000000 in
theorem uca (l : Launch) (Z : State) (a0 : Array Value) (n0 : Nat) (hw : ∀ d ∈ tables_1, d.before a0 Z = true) (hEL : EW Z a0 consts_1) (G1 : Int32) (O1 : Sta Z Z.heap "java/lang/String" "COMPACT_STRINGS" "Z" (.int G1)) (P1 : ¬ (G1 = (0 : Int32))) (O_as : Sta Z Z.heap "java/lang/StringUTF16" "$assertionsDisabled" "Z" (.int (1 : Int32))) (O_hi : Sta Z Z.heap "java/lang/StringUTF16" "HI_BYTE_SHIFT" "I" (.int (0 : Int32))) (O_lo : Sta Z Z.heap "java/lang/StringUTF16" "LO_BYTE_SHIFT" "I" (.int (8 : Int32))) (G3 : Value) (O3 : Sta Z Z.heap "jdk/internal/util/Preconditions" "SIOOBE_FORMATTER" "Ljava/util/function/BiFunction;" G3) (rG3 : G3.isRef = true) (ba : Addr) (kb : ClassId) (K : Nat) (f : Nat → Int32) (j : Nat) (cz : Int32) (h0 : Heap) (hO : Old Z n0 h0) (V_ba : Arv Z h0 ba kb .byte (Int32.ofNat (2 * K)) (lst (2 * K) f) (.int (0 : Int32))) (hK : K ≤ 32) (hj : j < K) (e0 : f (2 * j) = (cz.toInt8.toInt32)) (e1 : f ((2 * j) + 1) = ((cz >>> ((8 : Int32) &&& 31)).toInt8.toInt32)) (hq_cz : CH cz) :
    Con l Z consts_1 n0 (⟨"java/lang/StringUTF16", "charAt", "([BI)C"⟩ : MethodName) jdk_52_method_83_code 2 (some .char) ({ frames := 3, cells := 0, slots := 0, locals := 40 } : Room) #[(.ref ba), (.int (Int32.ofNat j))] h0 [] (fun v h V' => v = some (.int cz) ∧ h0 = h) [] := by
  refine Con.of (a0 := a0) pf18 (fun m => ef_uca m ba kb K f j cz) all0 hO hEL ?_
  intro p e s m below meth c S0 hnm hsf W
  replace W := W.iloadN (pc' := 1) djdk_52_83_0 rfl rfl
  replace W := W.aloadN (pc' := 2) djdk_52_83_1 rfl rfl rfl
  obtain ⟨V1, h1, r1, W1, K1, hQ1, SF1⟩ := W.callS (pc' := 5) (argsL := [(.int (Int32.ofNat j)), (.ref ba)]) (rest := []) (Wd := 0) (cells' := 0) (slots' := 0) (y := (⟨"java/lang/StringUTF16", "checkIndex", "(I[B)V"⟩ : MethodName)) djdk_52_83_2 (uci l Z a0 n0 hw hEL G1 O1 P1 O_as O_hi O_lo G3 O3 rG3 j ba kb K f h0 W.old V_ba (by omega) (by omega)) (tw220 hw) (tw221 hw) (tw115 hw) (tw222 hw) (by decide) (lenOf pd12 rfl) rfl rfl (by decide) (by decide) rfl sf0 all0 rfl rfl rfl (by decide) (by decide)
  clear W
  obtain ⟨rfl, hs1⟩ := hQ1
  subst hs1
  replace W1 := W1.cast (st' := []) rfl
  replace W1 := W1.aloadN (pc' := 6) djdk_52_83_5 rfl rfl rfl
  replace W1 := W1.iloadN (pc' := 7) djdk_52_83_6 rfl rfl
  obtain ⟨V2, h2, r2, W2, K2, hQ2, SF2⟩ := W1.callS (pc' := 10) (argsL := [(.ref ba), (.int (Int32.ofNat j))]) (rest := []) (Wd := 0) (cells' := 0) (slots' := 0) (y := (⟨"java/lang/StringUTF16", "getChar", "([BI)C"⟩ : MethodName)) djdk_52_83_7 (getc l Z a0 n0 hw hEL G1 O1 P1 O_as O_hi O_lo G3 O3 rG3 ba kb K f j cz h0 W1.old V_ba (by omega) (by omega) e0 e1 hq_cz) (tw214 hw) (tw215 hw) (tw115 hw) (tw216 hw) (by decide) (lenOf pd5 rfl) rfl rfl (by decide) (by decide) rfl sf0 all0 rfl rfl rfl (by decide) (by decide)
  clear W1
  obtain ⟨rfl, hs2⟩ := hQ2
  subst hs2
  replace W2 := W2.cast (st' := [(.int cz)]) rfl
  exact W2.iret (t := .char) djdk_52_83_10 rfl (by simp) (own_narrow_char hq_cz) (by decide) (by decide) (fun V' cv => ⟨rfl, rfl⟩)
theorem ef_cat_c (m : MethodId) (xa : Addr) (cd : Int32) (ba : Addr) (kb : ClassId) (NB : Nat) (fb : Nat → Int32) (N : Nat) (g : Nat → Int32) (j : Nat) : entryFrame m #[(.ref xa), (.int (Int32.ofNat j))] 2 = mkF m 0 #[.val (.ref xa), .val (.int (Int32.ofNat j))] [] := by first | (simp [entryFrame, mkF, argsToLocals, Value.category]; done) | rfl
set_option maxRecDepth 65536 in
set_option maxHeartbeats 40000000 in
theorem cat_c (l : Launch) (Z : State) (a0 : Array Value) (n0 : Nat) (hw : ∀ d ∈ tables_1, d.before a0 Z = true) (hEL : EW Z a0 consts_1) (G1 : Int32) (O1 : Sta Z Z.heap "java/lang/String" "COMPACT_STRINGS" "Z" (.int G1)) (P1 : ¬ (G1 = (0 : Int32))) (O_as : Sta Z Z.heap "java/lang/StringUTF16" "$assertionsDisabled" "Z" (.int (1 : Int32))) (O_hi : Sta Z Z.heap "java/lang/StringUTF16" "HI_BYTE_SHIFT" "I" (.int (0 : Int32))) (O_lo : Sta Z Z.heap "java/lang/StringUTF16" "LO_BYTE_SHIFT" "I" (.int (8 : Int32))) (G3 : Value) (O3 : Sta Z Z.heap "jdk/internal/util/Preconditions" "SIOOBE_FORMATTER" "Ljava/util/function/BiFunction;" G3) (rG3 : G3.isRef = true) (xa : Addr) (cd : Int32) (ba : Addr) (kb : ClassId) (NB : Nat) (fb : Nat → Int32) (N : Nat) (g : Nat → Int32) (j : Nat) (h0 : Heap) (hO : Old Z n0 h0) (E_xa : Exa Z h0 xa "java/lang/String") (F_xa_coder : Fld Z h0 xa "java/lang/String" "coder" "B" (.int cd)) (F_xa_value : Fld Z h0 xa "java/lang/String" "value" "[B" (.ref ba)) (V_ba : Arv Z h0 ba kb .byte (Int32.ofNat NB) (lst NB fb) (.int (0 : Int32))) (sok : SOK cd NB fb N g) (hN : N ≤ 20) (hj : j < N) (hq : ∀ i, i < N → CH (g i)) :
    Con l Z consts_1 n0 (⟨"java/lang/String", "charAt", "(I)C"⟩ : MethodName) jdk_42_method_56_code 2 (some .char) ({ frames := 4, cells := 0, slots := 0, locals := 53 } : Room) #[(.ref xa), (.int (Int32.ofNat j))] h0 [] (fun v h V' => v = some (.int (g j)) ∧ h0 = h) [] := by
  refine Con.of (a0 := a0) pf19 (fun m => ef_cat_c m xa cd ba kb NB fb N g j) all0 hO hEL ?_
  intro p e s m below meth c S0 hnm hsf W
  rcases sok with ⟨e1, e2, hl0, hl⟩ | ⟨e1, e2, hu⟩
  · subst e1
    subst e2
    replace W := W.aloadN (pc' := 1) djdk_42_56_0 rfl rfl rfl
    obtain ⟨V1, h1, r1, W1, K1, hQ1, SF1⟩ := W.callV (pc' := 4) (argsL := []) (rest := []) (Wd := 0) (cells' := 0) (slots' := 0) (a := xa) (C := "java/lang/String") (y := (⟨"java/lang/String", "isLatin1", "()Z"⟩ : MethodName)) (z := (⟨"java/lang/String", "isLatin1", "()Z"⟩ : MethodName)) djdk_42_56_1 (isl0 l Z a0 n0 hw hEL G1 O1 P1 O_as O_hi O_lo G3 O3 rG3 xa h0 W.old F_xa_coder) E_xa (tw128 hw) (tw129 hw) (Or.inl (tw131 hw)) (tw131 hw) (tw130 hw) (tw8 hw) (tw132 hw) (by decide) (lenOf pd13 rfl) rfl rfl (by decide) (by decide) rfl sf0 all0 rfl rfl rfl (by decide) (by decide)
    clear W
    obtain ⟨rfl, hs1⟩ := hQ1
    subst hs1
    replace W1 := W1.cast (st' := [(.int (1 : Int32))]) rfl
    replace W1 := W1.ifF (pc' := 7) djdk_42_56_4 (feq (by decide : ¬ ((1 : Int32) = (0 : Int32)))).1 rfl
    replace W1 := W1.aloadN (pc' := 8) djdk_42_56_7 rfl rfl rfl
    replace W1 := W1.getf (pc' := 11) djdk_42_56_8 (tw25 hw) Via.refl F_xa_value rfl
    replace W1 := W1.iloadN (pc' := 12) djdk_42_56_11 rfl rfl
    obtain ⟨V2, h2, r2, W2, K2, hQ2, SF2⟩ := W1.callS (pc' := 15) (argsL := [(.ref ba), (.int (Int32.ofNat j))]) (rest := []) (Wd := 0) (cells' := 0) (slots' := 0) (y := (⟨"java/lang/StringLatin1", "charAt", "([BI)C"⟩ : MethodName)) djdk_42_56_12 (lca l Z a0 n0 hw hEL G1 O1 P1 O_as O_hi O_lo G3 O3 rG3 ba kb N fb j (g j) h0 W1.old V_ba (by omega) (by omega) (hl0 _ (by omega)) ⟨(hq _ (by omega)).1, hl _ (by omega)⟩) (tw133 hw) (tw134 hw) (tw135 hw) (tw136 hw) (by decide) (lenOf pd5 rfl) rfl rfl (by decide) (by decide) rfl sf0 all0 rfl rfl rfl (by decide) (by decide)
    clear W1
    obtain ⟨rfl, hs2⟩ := hQ2
    subst hs2
    replace W2 := W2.cast (st' := [(.int (g j))]) rfl
    exact W2.iret (t := .char) djdk_42_56_15 rfl (by simp) (own_narrow_char (hq _ (by omega))) (by decide) (by decide) (fun V' cv => ⟨rfl, rfl⟩)
  · subst e1
    subst e2
    replace W := W.aloadN (pc' := 1) djdk_42_56_0 rfl rfl rfl
    obtain ⟨V3, h3, r3, W3, K3, hQ3, SF3⟩ := W.callV (pc' := 4) (argsL := []) (rest := []) (Wd := 0) (cells' := 0) (slots' := 0) (a := xa) (C := "java/lang/String") (y := (⟨"java/lang/String", "isLatin1", "()Z"⟩ : MethodName)) (z := (⟨"java/lang/String", "isLatin1", "()Z"⟩ : MethodName)) djdk_42_56_1 (isl1 l Z a0 n0 hw hEL G1 O1 P1 O_as O_hi O_lo G3 O3 rG3 xa h0 W.old F_xa_coder) E_xa (tw128 hw) (tw129 hw) (Or.inl (tw131 hw)) (tw131 hw) (tw130 hw) (tw8 hw) (tw132 hw) (by decide) (lenOf pd13 rfl) rfl rfl (by decide) (by decide) rfl sf0 all0 rfl rfl rfl (by decide) (by decide)
    clear W
    obtain ⟨rfl, hs3⟩ := hQ3
    subst hs3
    replace W3 := W3.cast (st' := [(.int (0 : Int32))]) rfl
    replace W3 := W3.ifT (pc' := 16) djdk_42_56_4 (teq (by decide : (0 : Int32) = (0 : Int32))).1 (by decide) (by decide)
    replace W3 := W3.aloadN (pc' := 17) djdk_42_56_16 rfl rfl rfl
    replace W3 := W3.getf (pc' := 20) djdk_42_56_17 (tw25 hw) Via.refl F_xa_value rfl
    replace W3 := W3.iloadN (pc' := 21) djdk_42_56_20 rfl rfl
    obtain ⟨V4, h4, r4, W4, K4, hQ4, SF4⟩ := W3.callS (pc' := 24) (argsL := [(.ref ba), (.int (Int32.ofNat j))]) (rest := []) (Wd := 0) (cells' := 0) (slots' := 0) (y := (⟨"java/lang/StringUTF16", "charAt", "([BI)C"⟩ : MethodName)) djdk_42_56_21 (uca l Z a0 n0 hw hEL G1 O1 P1 O_as O_hi O_lo G3 O3 rG3 ba kb N fb j (g j) h0 W3.old V_ba (by omega) (by omega) (hu _ (by omega)).1 (hu _ (by omega)).2 (hq _ (by omega))) (tw217 hw) (tw218 hw) (tw115 hw) (tw219 hw) (by decide) (lenOf pd5 rfl) rfl rfl (by decide) (by decide) rfl sf0 all0 rfl rfl rfl (by decide) (by decide)
    clear W3
    obtain ⟨rfl, hs4⟩ := hQ4
    subst hs4
    replace W4 := W4.cast (st' := [(.int (g j))]) rfl
    exact W4.iret (t := .char) djdk_42_56_24 rfl (by simp) (own_narrow_char (hq _ (by omega))) (by decide) (by decide) (fun V' cv => ⟨rfl, rfl⟩)
theorem ef_asbi (m : MethodId) (sb : Addr) (N : Nat) : entryFrame m #[(.ref sb), (.int (Int32.ofNat N))] 2 = mkF m 0 #[.val (.ref sb), .val (.int (Int32.ofNat N))] [] := by first | (simp [entryFrame, mkF, argsToLocals, Value.category]; done) | rfl
set_option maxRecDepth 65536 in
set_option maxHeartbeats 40000000 in
theorem asbi (l : Launch) (Z : State) (a0 : Array Value) (n0 : Nat) (hw : ∀ d ∈ tables_1, d.before a0 Z = true) (hEL : EW Z a0 consts_1) (G1 : Int32) (O1 : Sta Z Z.heap "java/lang/String" "COMPACT_STRINGS" "Z" (.int G1)) (P1 : ¬ (G1 = (0 : Int32))) (O_as : Sta Z Z.heap "java/lang/StringUTF16" "$assertionsDisabled" "Z" (.int (1 : Int32))) (O_hi : Sta Z Z.heap "java/lang/StringUTF16" "HI_BYTE_SHIFT" "I" (.int (0 : Int32))) (O_lo : Sta Z Z.heap "java/lang/StringUTF16" "LO_BYTE_SHIFT" "I" (.int (8 : Int32))) (G3 : Value) (O3 : Sta Z Z.heap "jdk/internal/util/Preconditions" "SIOOBE_FORMATTER" "Ljava/util/function/BiFunction;" G3) (rG3 : G3.isRef = true) (sb : Addr) (N : Nat) (h0 : Heap) (hO : Old Z n0 h0) (E_sb : Exa Z h0 sb "java/lang/StringBuilder") (F_sb_value : Fld Z h0 sb "java/lang/AbstractStringBuilder" "value" "[B" .null) (F_sb_coder : Fld Z h0 sb "java/lang/AbstractStringBuilder" "coder" "B" (.int (0 : Int32))) (F_sb_count : Fld Z h0 sb "java/lang/AbstractStringBuilder" "count" "I" (.int (0 : Int32))) (F_sb_maybeLatin1 : Fld Z h0 sb "java/lang/AbstractStringBuilder" "maybeLatin1" "Z" (.int (0 : Int32))) (hN : N ≤ 20) (g_sb : n0 ≤ sb) :
    Con l Z consts_1 n0 (⟨"java/lang/AbstractStringBuilder", "<init>", "(I)V"⟩ : MethodName) jdk_68_method_2_code 2 none ({ frames := 1, cells := 1, slots := 20, locals := 12 } : Room) #[(.ref sb), (.int (Int32.ofNat N))] h0 [sb] (fun v h V' => ∃ (va : Addr) (kv : ClassId), v = none ∧ Exa Z h sb "java/lang/StringBuilder" ∧ Fld Z h sb "java/lang/AbstractStringBuilder" "value" "[B" (.ref va) ∧ Fld Z h sb "java/lang/AbstractStringBuilder" "coder" "B" (.int (0 : Int32)) ∧ Fld Z h sb "java/lang/AbstractStringBuilder" "count" "I" (.int (0 : Int32)) ∧ Fld Z h sb "java/lang/AbstractStringBuilder" "maybeLatin1" "Z" (.int (0 : Int32)) ∧ Arv Z h va kv .byte (Int32.ofNat N) (lst N zf) (.int (0 : Int32)) ∧ Exa Z h va "[B" ∧ h0.size ≤ va ∧ Safe Z consts_1 V' h va) [] := by
  refine Con.of (a0 := a0) pf20 (fun m => ef_asbi m sb N) (allS g_sb all0) hO hEL ?_
  intro p e s m below meth c S0 hnm hsf W
  replace W := W.aloadN (pc' := 1) djdk_68_2_0 rfl rfl rfl
  replace W := W.initO (pc' := 4) (Wd := 0) djdk_68_2_1 (tw54 hw) (tw17 hw) (tw18 hw) rfl rfl (by decide) (by decide) rfl
  replace W := W.gets (pc' := 7) djdk_68_2_4 (tw55 hw) O1 rfl
  replace W := W.ifF (pc' := 10) djdk_68_2_7 (feq P1).1 rfl
  replace W := W.aloadN (pc' := 11) djdk_68_2_10 rfl rfl rfl
  replace W := W.iloadN (pc' := 12) djdk_68_2_11 rfl rfl
  obtain ⟨h1, a1, W1, E1, g1, ⟨⟨k1, A1⟩, B1⟩, sf1, SF1⟩ := W.newarrE (pc' := 14) (ad := "[B") (cap := 20) (cells' := 1) (slots' := 20) djdk_68_2_12 (tw20 hw) (by decide) (own_nn (by omega)) (by rw [own_clamp (by omega)]; omega) (by decide) rfl rfl rfl (by decide) (by decide)
  clear W
  rw [← g1] at A1 B1
  have z1 : h0.size ≤ h1.size := E1.1
  have v1 : Arv Z h1 a1 k1 .byte (Int32.ofNat N) (lst N zf) (.int (0 : Int32)) := own_lst0 A1
  have f2 := (F_sb_value.ext E1)
  have e3 := (E_sb.ext E1)
  obtain ⟨h4, W4, w4, SF4⟩ := W1.putf (pc' := 17) (ty := (.array .byte)) djdk_68_2_14 (tw56 hw) Via.refl f2 e3 (Or.inl (tw57 hw)) (tw32 hw) (by decide) rfl rfl (W1.safeE e3 (by decide) (by decide)) (Or.inl (List.mem_of_getElem? (i := 0) rfl)) rfl
  clear W1
  have z4 : h1.size ≤ h4.size := Nat.le_of_eq w4.size.symm
  have f4 := f2.same w4
  replace W4 := W4.aloadN (pc' := 18) djdk_68_2_17 rfl rfl rfl
  replace W4 := W4.iconst (pc' := 19) (v := (0 : Int32)) djdk_68_2_18 rfl rfl
  have f5 := ((F_sb_coder.ext E1).other w4 (Or.inr (slot_ne (C := "java/lang/StringBuilder") (Or.inl (tw59 hw)) (Or.inl (tw57 hw)) (by decide) (t := .byte) (t' := (.array .byte)) (by decide) (by decide))))
  have e6 := (e3.wr w4)
  obtain ⟨h7, W7, w7, SF7⟩ := W4.putf (pc' := 22) (ty := .byte) djdk_68_2_19 (tw58 hw) Via.refl f5 e6 (Or.inl (tw59 hw)) (tw32 hw) (by decide) rfl rfl (W4.safeE e6 (by decide) (by decide)) (Or.inl (List.mem_of_getElem? (i := 0) rfl)) rfl
  clear W4
  have z7 : h4.size ≤ h7.size := Nat.le_of_eq w7.size.symm
  have f7 := f5.same w7
  replace W7 := W7.goto (pc' := 38) djdk_68_2_22 (by decide) (by decide)
  have e8 := (e6.wr w7)
  have f9 := (f4.other w7 (Or.inr (slot_ne (C := "java/lang/StringBuilder") (Or.inl (tw57 hw)) (Or.inl (tw59 hw)) (by decide) (t := (.array .byte)) (t' := .byte) (by decide) (by decide))))
  have f10 := (((F_sb_count.ext E1).other w4 (Or.inr (slot_ne (C := "java/lang/StringBuilder") (Or.inl (tw87 hw)) (Or.inl (tw57 hw)) (by decide) (t := .int) (t' := (.array .byte)) (by decide) (by decide)))).other w7 (Or.inr (slot_ne (C := "java/lang/StringBuilder") (Or.inl (tw87 hw)) (Or.inl (tw59 hw)) (by decide) (t := .int) (t' := .byte) (by decide) (by decide))))
  have f11 := (((F_sb_maybeLatin1.ext E1).other w4 (Or.inr (slot_ne (C := "java/lang/StringBuilder") (Or.inl (tw252 hw)) (Or.inl (tw57 hw)) (by decide) (t := .boolean) (t' := (.array .byte)) (by decide) (by decide)))).other w7 (Or.inr (slot_ne (C := "java/lang/StringBuilder") (Or.inl (tw252 hw)) (Or.inl (tw59 hw)) (by decide) (t := .boolean) (t' := .byte) (by decide) (by decide))))
  have v12 := ((v1.other w4 (Nat.ne_of_gt (Nat.lt_of_lt_of_le E_sb.lt (Nat.le_of_eq g1.symm)))).other w7 (Nat.ne_of_gt (Nat.lt_of_lt_of_le E_sb.lt (Nat.le_of_eq g1.symm))))
  have e13 := ((B1.wr w4).wr w7)
  have sf14 := (SF7 a1 (SF4 a1 sf1))
  exact W7.vret djdk_68_2_38 rfl (by decide) (by decide) (fun V' cv => ⟨a1, k1, rfl, e8, f9, f7, f10, f11, v12, e13, (Nat.le_of_eq g1.symm), (cv a1 (Nat.lt_of_lt_of_le v1.lt (Nat.le_trans z4 z7)) sf14)⟩)
theorem ef_sbi (m : MethodId) (sb : Addr) (N : Nat) : entryFrame m #[(.ref sb), (.int (Int32.ofNat N))] 2 = mkF m 0 #[.val (.ref sb), .val (.int (Int32.ofNat N))] [] := by first | (simp [entryFrame, mkF, argsToLocals, Value.category]; done) | rfl
set_option maxRecDepth 65536 in
set_option maxHeartbeats 40000000 in
theorem sbi (l : Launch) (Z : State) (a0 : Array Value) (n0 : Nat) (hw : ∀ d ∈ tables_1, d.before a0 Z = true) (hEL : EW Z a0 consts_1) (G1 : Int32) (O1 : Sta Z Z.heap "java/lang/String" "COMPACT_STRINGS" "Z" (.int G1)) (P1 : ¬ (G1 = (0 : Int32))) (O_as : Sta Z Z.heap "java/lang/StringUTF16" "$assertionsDisabled" "Z" (.int (1 : Int32))) (O_hi : Sta Z Z.heap "java/lang/StringUTF16" "HI_BYTE_SHIFT" "I" (.int (0 : Int32))) (O_lo : Sta Z Z.heap "java/lang/StringUTF16" "LO_BYTE_SHIFT" "I" (.int (8 : Int32))) (G3 : Value) (O3 : Sta Z Z.heap "jdk/internal/util/Preconditions" "SIOOBE_FORMATTER" "Ljava/util/function/BiFunction;" G3) (rG3 : G3.isRef = true) (sb : Addr) (N : Nat) (h0 : Heap) (hO : Old Z n0 h0) (E_sb : Exa Z h0 sb "java/lang/StringBuilder") (F_sb_value : Fld Z h0 sb "java/lang/AbstractStringBuilder" "value" "[B" .null) (F_sb_coder : Fld Z h0 sb "java/lang/AbstractStringBuilder" "coder" "B" (.int (0 : Int32))) (F_sb_count : Fld Z h0 sb "java/lang/AbstractStringBuilder" "count" "I" (.int (0 : Int32))) (F_sb_maybeLatin1 : Fld Z h0 sb "java/lang/AbstractStringBuilder" "maybeLatin1" "Z" (.int (0 : Int32))) (hN : N ≤ 20) (g_sb : n0 ≤ sb) :
    Con l Z consts_1 n0 (⟨"java/lang/StringBuilder", "<init>", "(I)V"⟩ : MethodName) jdk_67_method_2_code 2 none ({ frames := 2, cells := 1, slots := 20, locals := 25 } : Room) #[(.ref sb), (.int (Int32.ofNat N))] h0 [sb] (fun v h V' => ∃ (va : Addr) (kv : ClassId), v = none ∧ Exa Z h sb "java/lang/StringBuilder" ∧ Fld Z h sb "java/lang/AbstractStringBuilder" "value" "[B" (.ref va) ∧ Fld Z h sb "java/lang/AbstractStringBuilder" "coder" "B" (.int (0 : Int32)) ∧ Fld Z h sb "java/lang/AbstractStringBuilder" "count" "I" (.int (0 : Int32)) ∧ Fld Z h sb "java/lang/AbstractStringBuilder" "maybeLatin1" "Z" (.int (0 : Int32)) ∧ Arv Z h va kv .byte (Int32.ofNat N) (lst N zf) (.int (0 : Int32)) ∧ Exa Z h va "[B" ∧ h0.size ≤ va ∧ Safe Z consts_1 V' h va) [] := by
  refine Con.of (a0 := a0) pf21 (fun m => ef_sbi m sb N) (allS g_sb all0) hO hEL ?_
  intro p e s m below meth c S0 hnm hsf W
  replace W := W.aloadN (pc' := 1) djdk_67_2_0 rfl rfl rfl
  replace W := W.iloadN (pc' := 2) djdk_67_2_1 rfl rfl
  obtain ⟨V1, h1, r1, W1, K1, hQ1, SF1⟩ := W.callI (pc' := 5) (argsL := [(.int (Int32.ofNat N))]) (rest := []) (Wd := 0) (cells' := 1) (slots' := 20) (a := sb) (y := (⟨"java/lang/AbstractStringBuilder", "<init>", "(I)V"⟩ : MethodName)) djdk_67_2_2 (asbi l Z a0 n0 hw hEL G1 O1 P1 O_as O_hi O_lo G3 O3 rG3 sb N h0 W.old E_sb F_sb_value F_sb_coder F_sb_count F_sb_maybeLatin1 (by omega) g_sb) rfl (tw48 hw) (tw49 hw) (tw52 hw) (tw53 hw) (by decide) (lenOf pd14 rfl) rfl rfl (by decide) (by decide) rfl (sfS (W.safeE E_sb (by decide) (by decide)) sf0) (allS (Or.inl (List.mem_of_getElem? (i := 0) rfl)) all0) rfl rfl rfl (by decide) (by decide)
  clear W
  obtain ⟨va1, kv1, rfl, q1_1, q1_2, q1_3, q1_4, q1_5, q1_6, q1_7, q1_8, q1_9⟩ := hQ1
  have z1 : h0.size ≤ h1.size := K1.1
  replace W1 := W1.cast (st' := []) rfl
  exact W1.vret djdk_67_2_5 rfl (by decide) (by decide) (fun V' cv => ⟨va1, kv1, rfl, q1_1, q1_2, q1_3, q1_4, q1_5, q1_6, q1_7, q1_8, (cv va1 q1_6.lt q1_9)⟩)
theorem ef_bil0 (m : MethodId) (sb : Addr) : entryFrame m #[(.ref sb)] 1 = mkF m 0 #[.val (.ref sb)] [] := by first | (simp [entryFrame, mkF, argsToLocals, Value.category]; done) | rfl
set_option maxRecDepth 65536 in
set_option maxHeartbeats 40000000 in
theorem bil0 (l : Launch) (Z : State) (a0 : Array Value) (n0 : Nat) (hw : ∀ d ∈ tables_1, d.before a0 Z = true) (hEL : EW Z a0 consts_1) (G1 : Int32) (O1 : Sta Z Z.heap "java/lang/String" "COMPACT_STRINGS" "Z" (.int G1)) (P1 : ¬ (G1 = (0 : Int32))) (O_as : Sta Z Z.heap "java/lang/StringUTF16" "$assertionsDisabled" "Z" (.int (1 : Int32))) (O_hi : Sta Z Z.heap "java/lang/StringUTF16" "HI_BYTE_SHIFT" "I" (.int (0 : Int32))) (O_lo : Sta Z Z.heap "java/lang/StringUTF16" "LO_BYTE_SHIFT" "I" (.int (8 : Int32))) (G3 : Value) (O3 : Sta Z Z.heap "jdk/internal/util/Preconditions" "SIOOBE_FORMATTER" "Ljava/util/function/BiFunction;" G3) (rG3 : G3.isRef = true) (sb : Addr) (h0 : Heap) (hO : Old Z n0 h0) (F_sb_coder : Fld Z h0 sb "java/lang/AbstractStringBuilder" "coder" "B" (.int (0 : Int32))) :
    Con l Z consts_1 n0 (⟨"java/lang/AbstractStringBuilder", "isLatin1", "()Z"⟩ : MethodName) jdk_68_method_68_code 1 (some .boolean) ({ frames := 0, cells := 0, slots := 0, locals := 0 } : Room) #[(.ref sb)] h0 [] (fun v h V' => v = some (.int (1 : Int32)) ∧ h0 = h) [] := by
  refine Con.of (a0 := a0) pf22 (fun m => ef_bil0 m sb) all0 hO hEL ?_
  intro p e s m below meth c S0 hnm hsf W
  replace W := W.gets (pc' := 3) djdk_68_68_0 (tw55 hw) O1 rfl
  replace W := W.ifF (pc' := 6) djdk_68_68_3 (feq P1).1 rfl
  replace W := W.aloadN (pc' := 7) djdk_68_68_6 rfl rfl rfl
  replace W := W.getf (pc' := 10) djdk_68_68_7 (tw58 hw) Via.refl F_sb_coder rfl
  replace W := W.ifF (pc' := 13) djdk_68_68_10 (teq (by decide : (0 : Int32) = (0 : Int32))).2 rfl
  replace W := W.iconst (pc' := 14) (v := (1 : Int32)) djdk_68_68_13 rfl rfl
  replace W := W.goto (pc' := 18) djdk_68_68_14 (by decide) (by decide)
  exact W.iret (t := .boolean) djdk_68_68_18 rfl (by simp) (by decide) (by decide) (by decide) (fun V' cv => ⟨rfl, rfl⟩)
theorem ef_bil1 (m : MethodId) (sb : Addr) : entryFrame m #[(.ref sb)] 1 = mkF m 0 #[.val (.ref sb)] [] := by first | (simp [entryFrame, mkF, argsToLocals, Value.category]; done) | rfl
set_option maxRecDepth 65536 in
set_option maxHeartbeats 40000000 in
theorem bil1 (l : Launch) (Z : State) (a0 : Array Value) (n0 : Nat) (hw : ∀ d ∈ tables_1, d.before a0 Z = true) (hEL : EW Z a0 consts_1) (G1 : Int32) (O1 : Sta Z Z.heap "java/lang/String" "COMPACT_STRINGS" "Z" (.int G1)) (P1 : ¬ (G1 = (0 : Int32))) (O_as : Sta Z Z.heap "java/lang/StringUTF16" "$assertionsDisabled" "Z" (.int (1 : Int32))) (O_hi : Sta Z Z.heap "java/lang/StringUTF16" "HI_BYTE_SHIFT" "I" (.int (0 : Int32))) (O_lo : Sta Z Z.heap "java/lang/StringUTF16" "LO_BYTE_SHIFT" "I" (.int (8 : Int32))) (G3 : Value) (O3 : Sta Z Z.heap "jdk/internal/util/Preconditions" "SIOOBE_FORMATTER" "Ljava/util/function/BiFunction;" G3) (rG3 : G3.isRef = true) (sb : Addr) (h0 : Heap) (hO : Old Z n0 h0) (F_sb_coder : Fld Z h0 sb "java/lang/AbstractStringBuilder" "coder" "B" (.int (1 : Int32))) :
    Con l Z consts_1 n0 (⟨"java/lang/AbstractStringBuilder", "isLatin1", "()Z"⟩ : MethodName) jdk_68_method_68_code 1 (some .boolean) ({ frames := 0, cells := 0, slots := 0, locals := 0 } : Room) #[(.ref sb)] h0 [] (fun v h V' => v = some (.int (0 : Int32)) ∧ h0 = h) [] := by
  refine Con.of (a0 := a0) pf22 (fun m => ef_bil1 m sb) all0 hO hEL ?_
  intro p e s m below meth c S0 hnm hsf W
  replace W := W.gets (pc' := 3) djdk_68_68_0 (tw55 hw) O1 rfl
  replace W := W.ifF (pc' := 6) djdk_68_68_3 (feq P1).1 rfl
  replace W := W.aloadN (pc' := 7) djdk_68_68_6 rfl rfl rfl
  replace W := W.getf (pc' := 10) djdk_68_68_7 (tw58 hw) Via.refl F_sb_coder rfl
  replace W := W.ifT (pc' := 17) djdk_68_68_10 (feq (by decide : ¬ ((1 : Int32) = (0 : Int32)))).2 (by decide) (by decide)
  replace W := W.iconst (pc' := 18) (v := (0 : Int32)) djdk_68_68_17 rfl rfl
  exact W.iret (t := .boolean) djdk_68_68_18 rfl (by simp) (by decide) (by decide) (by decide) (fun V' cv => ⟨rfl, rfl⟩)
theorem ef_gval (m : MethodId) (sb : Addr) (va : Addr) : entryFrame m #[(.ref sb)] 1 = mkF m 0 #[.val (.ref sb)] [] := by first | (simp [entryFrame, mkF, argsToLocals, Value.category]; done) | rfl
set_option maxRecDepth 65536 in
set_option maxHeartbeats 40000000 in
theorem gval (l : Launch) (Z : State) (a0 : Array Value) (n0 : Nat) (hw : ∀ d ∈ tables_1, d.before a0 Z = true) (hEL : EW Z a0 consts_1) (G1 : Int32) (O1 : Sta Z Z.heap "java/lang/String" "COMPACT_STRINGS" "Z" (.int G1)) (P1 : ¬ (G1 = (0 : Int32))) (O_as : Sta Z Z.heap "java/lang/StringUTF16" "$assertionsDisabled" "Z" (.int (1 : Int32))) (O_hi : Sta Z Z.heap "java/lang/StringUTF16" "HI_BYTE_SHIFT" "I" (.int (0 : Int32))) (O_lo : Sta Z Z.heap "java/lang/StringUTF16" "LO_BYTE_SHIFT" "I" (.int (8 : Int32))) (G3 : Value) (O3 : Sta Z Z.heap "jdk/internal/util/Preconditions" "SIOOBE_FORMATTER" "Ljava/util/function/BiFunction;" G3) (rG3 : G3.isRef = true) (sb : Addr) (va : Addr) (h0 : Heap) (hO : Old Z n0 h0) (F_sb_value : Fld Z h0 sb "java/lang/AbstractStringBuilder" "value" "[B" (.ref va)) :
    Con l Z consts_1 n0 (⟨"java/lang/AbstractStringBuilder", "getValue", "()[B"⟩ : MethodName) jdk_68_method_64_code 1 (some (.array .byte)) ({ frames := 0, cells := 0, slots := 0, locals := 0 } : Room) #[(.ref sb)] h0 [] (fun v h V' => v = some (.ref va) ∧ h0 = h) [] := by
  refine Con.of (a0 := a0) pf23 (fun m => ef_gval m sb va) all0 hO hEL ?_
  intro p e s m below meth c S0 hnm hsf W
  replace W := W.aloadN (pc' := 1) djdk_68_64_0 rfl rfl rfl
  replace W := W.getf (pc' := 4) djdk_68_64_1 (tw56 hw) Via.refl F_sb_value rfl
  exact W.aret (t := (.array .byte)) djdk_68_64_4 rfl rfl rfl rfl (by decide) (by decide) (fun V' cv => ⟨rfl, rfl⟩)
theorem ef_blen (m : MethodId) (sb : Addr) (n : Int32) : entryFrame m #[(.ref sb)] 1 = mkF m 0 #[.val (.ref sb)] [] := by first | (simp [entryFrame, mkF, argsToLocals, Value.category]; done) | rfl
set_option maxRecDepth 65536 in
set_option maxHeartbeats 40000000 in
theorem blen (l : Launch) (Z : State) (a0 : Array Value) (n0 : Nat) (hw : ∀ d ∈ tables_1, d.before a0 Z = true) (hEL : EW Z a0 consts_1) (G1 : Int32) (O1 : Sta Z Z.heap "java/lang/String" "COMPACT_STRINGS" "Z" (.int G1)) (P1 : ¬ (G1 = (0 : Int32))) (O_as : Sta Z Z.heap "java/lang/StringUTF16" "$assertionsDisabled" "Z" (.int (1 : Int32))) (O_hi : Sta Z Z.heap "java/lang/StringUTF16" "HI_BYTE_SHIFT" "I" (.int (0 : Int32))) (O_lo : Sta Z Z.heap "java/lang/StringUTF16" "LO_BYTE_SHIFT" "I" (.int (8 : Int32))) (G3 : Value) (O3 : Sta Z Z.heap "jdk/internal/util/Preconditions" "SIOOBE_FORMATTER" "Ljava/util/function/BiFunction;" G3) (rG3 : G3.isRef = true) (sb : Addr) (n : Int32) (h0 : Heap) (hO : Old Z n0 h0) (F_sb_count : Fld Z h0 sb "java/lang/AbstractStringBuilder" "count" "I" (.int n)) :
    Con l Z consts_1 n0 (⟨"java/lang/AbstractStringBuilder", "length", "()I"⟩ : MethodName) jdk_68_method_6_code 1 (some .int) ({ frames := 0, cells := 0, slots := 0, locals := 0 } : Room) #[(.ref sb)] h0 [] (fun v h V' => v = some (.int n) ∧ h0 = h) [] := by
  refine Con.of (a0 := a0) pf24 (fun m => ef_blen m sb n) all0 hO hEL ?_
  intro p e s m below meth c S0 hnm hsf W
  replace W := W.aloadN (pc' := 1) djdk_68_6_0 rfl rfl rfl
  replace W := W.getf (pc' := 4) djdk_68_6_1 (tw86 hw) Via.refl F_sb_count rfl
  exact W.iret (t := .int) djdk_68_6_4 rfl (by simp) rfl (by decide) (by decide) (fun V' cv => ⟨rfl, rfl⟩)
theorem ef_sblen (m : MethodId) (sb : Addr) (n : Int32) : entryFrame m #[(.ref sb)] 1 = mkF m 0 #[.val (.ref sb)] [] := by first | (simp [entryFrame, mkF, argsToLocals, Value.category]; done) | rfl
set_option maxRecDepth 65536 in
set_option maxHeartbeats 40000000 in
theorem sblen (l : Launch) (Z : State) (a0 : Array Value) (n0 : Nat) (hw : ∀ d ∈ tables_1, d.before a0 Z = true) (hEL : EW Z a0 consts_1) (G1 : Int32) (O1 : Sta Z Z.heap "java/lang/String" "COMPACT_STRINGS" "Z" (.int G1)) (P1 : ¬ (G1 = (0 : Int32))) (O_as : Sta Z Z.heap "java/lang/StringUTF16" "$assertionsDisabled" "Z" (.int (1 : Int32))) (O_hi : Sta Z Z.heap "java/lang/StringUTF16" "HI_BYTE_SHIFT" "I" (.int (0 : Int32))) (O_lo : Sta Z Z.heap "java/lang/StringUTF16" "LO_BYTE_SHIFT" "I" (.int (8 : Int32))) (G3 : Value) (O3 : Sta Z Z.heap "jdk/internal/util/Preconditions" "SIOOBE_FORMATTER" "Ljava/util/function/BiFunction;" G3) (rG3 : G3.isRef = true) (sb : Addr) (n : Int32) (h0 : Heap) (hO : Old Z n0 h0) (E_sb : Exa Z h0 sb "java/lang/StringBuilder") (F_sb_count : Fld Z h0 sb "java/lang/AbstractStringBuilder" "count" "I" (.int n)) :
    Con l Z consts_1 n0 (⟨"java/lang/StringBuilder", "length", "()I"⟩ : MethodName) jdk_67_method_93_code 1 (some .int) ({ frames := 1, cells := 0, slots := 0, locals := 12 } : Room) #[(.ref sb)] h0 [] (fun v h V' => v = some (.int n) ∧ h0 = h) [] := by
  refine Con.of (a0 := a0) pf25 (fun m => ef_sblen m sb n) all0 hO hEL ?_
  intro p e s m below meth c S0 hnm hsf W
  replace W := W.aloadN (pc' := 1) djdk_67_93_0 rfl rfl rfl
  obtain ⟨V1, h1, r1, W1, K1, hQ1, SF1⟩ := W.callSup (pc' := 4) (argsL := []) (rest := []) (Wd := 0) (cells' := 0) (slots' := 0) (a := sb) (K := "java/lang/StringBuilder") (y := (⟨"java/lang/AbstractStringBuilder", "length", "()I"⟩ : MethodName)) djdk_67_93_1 (blen l Z a0 n0 hw hEL G1 O1 P1 O_as O_hi O_lo G3 O3 rG3 sb n h0 W.old F_sb_count) (Ins.self E_sb) (by decide) (tw83 hw) (own_same (tw75 hw) (tw79 hw) rfl (by decide)) (tw79 hw) (tw84 hw) (tw52 hw) (tw85 hw) (lenOf pd15 rfl) rfl rfl (by decide) (by decide) rfl sf0 all0 rfl rfl rfl (by decide) (by decide)
  clear W
  obtain ⟨rfl, hs1⟩ := hQ1
  subst hs1
  replace W1 := W1.cast (st' := [(.int n)]) rfl
  exact W1.iret (t := .int) djdk_67_93_4 rfl (by simp) rfl (by decide) (by decide) (fun V' cv => ⟨rfl, rfl⟩)
theorem ef_mx1 (m : MethodId) (B : Nat) : entryFrame m #[(.int (1 : Int32)), (.int (Int32.ofNat B))] 2 = mkF m 0 #[.val (.int (1 : Int32)), .val (.int (Int32.ofNat B))] [] := by first | (simp [entryFrame, mkF, argsToLocals, Value.category]; done) | rfl
set_option maxRecDepth 65536 in
set_option maxHeartbeats 40000000 in
theorem mx1 (l : Launch) (Z : State) (a0 : Array Value) (n0 : Nat) (hw : ∀ d ∈ tables_1, d.before a0 Z = true) (hEL : EW Z a0 consts_1) (G1 : Int32) (O1 : Sta Z Z.heap "java/lang/String" "COMPACT_STRINGS" "Z" (.int G1)) (P1 : ¬ (G1 = (0 : Int32))) (O_as : Sta Z Z.heap "java/lang/StringUTF16" "$assertionsDisabled" "Z" (.int (1 : Int32))) (O_hi : Sta Z Z.heap "java/lang/StringUTF16" "HI_BYTE_SHIFT" "I" (.int (0 : Int32))) (O_lo : Sta Z Z.heap "java/lang/StringUTF16" "LO_BYTE_SHIFT" "I" (.int (8 : Int32))) (G3 : Value) (O3 : Sta Z Z.heap "jdk/internal/util/Preconditions" "SIOOBE_FORMATTER" "Ljava/util/function/BiFunction;" G3) (rG3 : G3.isRef = true) (B : Nat) (h0 : Heap) (hO : Old Z n0 h0) (hB : 3 ≤ B ∧ B ≤ 500) :
    Con l Z consts_1 n0 (⟨"java/lang/Math", "max", "(II)I"⟩ : MethodName) jdk_29_method_65_code 2 (some .int) ({ frames := 0, cells := 0, slots := 0, locals := 0 } : Room) #[(.int (1 : Int32)), (.int (Int32.ofNat B))] h0 [] (fun v h V' => v = some (.int (Int32.ofNat B)) ∧ h0 = h) [] := by
  refine Con.of (a0 := a0) pf26 (fun m => ef_mx1 m B) all0 hO hEL ?_
  intro p e s m below meth c S0 hnm hsf W
  replace W := W.iloadN (pc' := 1) djdk_29_65_0 rfl rfl
  replace W := W.iloadN (pc' := 2) djdk_29_65_1 rfl rfl
  replace W := W.icmpT (pc' := 9) djdk_29_65_2 (tlt (own_lt (X := 1) (Y := B) (by omega) (by omega) (by omega))).1 (by decide) (by decide)
  replace W := W.iloadN (pc' := 10) djdk_29_65_9 rfl rfl
  exact W.iret (t := .int) djdk_29_65_10 rfl (by simp) rfl (by decide) (by decide) (fun V' cv => ⟨rfl, rfl⟩)
theorem ef_mx2 (m : MethodId) (B : Nat) : entryFrame m #[(.int (2 : Int32)), (.int (Int32.ofNat B))] 2 = mkF m 0 #[.val (.int (2 : Int32)), .val (.int (Int32.ofNat B))] [] := by first | (simp [entryFrame, mkF, argsToLocals, Value.category]; done) | rfl
set_option maxRecDepth 65536 in
set_option maxHeartbeats 40000000 in
theorem mx2 (l : Launch) (Z : State) (a0 : Array Value) (n0 : Nat) (hw : ∀ d ∈ tables_1, d.before a0 Z = true) (hEL : EW Z a0 consts_1) (G1 : Int32) (O1 : Sta Z Z.heap "java/lang/String" "COMPACT_STRINGS" "Z" (.int G1)) (P1 : ¬ (G1 = (0 : Int32))) (O_as : Sta Z Z.heap "java/lang/StringUTF16" "$assertionsDisabled" "Z" (.int (1 : Int32))) (O_hi : Sta Z Z.heap "java/lang/StringUTF16" "HI_BYTE_SHIFT" "I" (.int (0 : Int32))) (O_lo : Sta Z Z.heap "java/lang/StringUTF16" "LO_BYTE_SHIFT" "I" (.int (8 : Int32))) (G3 : Value) (O3 : Sta Z Z.heap "jdk/internal/util/Preconditions" "SIOOBE_FORMATTER" "Ljava/util/function/BiFunction;" G3) (rG3 : G3.isRef = true) (B : Nat) (h0 : Heap) (hO : Old Z n0 h0) (hB : 3 ≤ B ∧ B ≤ 500) :
    Con l Z consts_1 n0 (⟨"java/lang/Math", "max", "(II)I"⟩ : MethodName) jdk_29_method_65_code 2 (some .int) ({ frames := 0, cells := 0, slots := 0, locals := 0 } : Room) #[(.int (2 : Int32)), (.int (Int32.ofNat B))] h0 [] (fun v h V' => v = some (.int (Int32.ofNat B)) ∧ h0 = h) [] := by
  refine Con.of (a0 := a0) pf26 (fun m => ef_mx2 m B) all0 hO hEL ?_
  intro p e s m below meth c S0 hnm hsf W
  replace W := W.iloadN (pc' := 1) djdk_29_65_0 rfl rfl
  replace W := W.iloadN (pc' := 2) djdk_29_65_1 rfl rfl
  replace W := W.icmpT (pc' := 9) djdk_29_65_2 (tlt (own_lt (X := 2) (Y := B) (by omega) (by omega) (by omega))).1 (by decide) (by decide)
  replace W := W.iloadN (pc' := 10) djdk_29_65_9 rfl rfl
  exact W.iret (t := .int) djdk_29_65_10 rfl (by simp) rfl (by decide) (by decide) (fun V' cv => ⟨rfl, rfl⟩)
theorem ef_mn_c (m : MethodId) (Aq : Nat) (B : Nat) : entryFrame m #[(.int (Int32.ofNat Aq)), (.int (Int32.ofNat B))] 2 = mkF m 0 #[.val (.int (Int32.ofNat Aq)), .val (.int (Int32.ofNat B))] [] := by first | (simp [entryFrame, mkF, argsToLocals, Value.category]; done) | rfl
set_option maxRecDepth 65536 in
set_option maxHeartbeats 40000000 in
theorem mn_c (l : Launch) (Z : State) (a0 : Array Value) (n0 : Nat) (hw : ∀ d ∈ tables_1, d.before a0 Z = true) (hEL : EW Z a0 consts_1) (G1 : Int32) (O1 : Sta Z Z.heap "java/lang/String" "COMPACT_STRINGS" "Z" (.int G1)) (P1 : ¬ (G1 = (0 : Int32))) (O_as : Sta Z Z.heap "java/lang/StringUTF16" "$assertionsDisabled" "Z" (.int (1 : Int32))) (O_hi : Sta Z Z.heap "java/lang/StringUTF16" "HI_BYTE_SHIFT" "I" (.int (0 : Int32))) (O_lo : Sta Z Z.heap "java/lang/StringUTF16" "LO_BYTE_SHIFT" "I" (.int (8 : Int32))) (G3 : Value) (O3 : Sta Z Z.heap "jdk/internal/util/Preconditions" "SIOOBE_FORMATTER" "Ljava/util/function/BiFunction;" G3) (rG3 : G3.isRef = true) (Aq : Nat) (B : Nat) (h0 : Heap) (hO : Old Z n0 h0) (hAB : Aq ≤ B ∧ B ≤ 500) :
    Con l Z consts_1 n0 (⟨"java/lang/Math", "min", "(II)I"⟩ : MethodName) jdk_29_method_69_code 2 (some .int) ({ frames := 0, cells := 0, slots := 0, locals := 0 } : Room) #[(.int (Int32.ofNat Aq)), (.int (Int32.ofNat B))] h0 [] (fun v h V' => v = some (.int (Int32.ofNat Aq)) ∧ h0 = h) [] := by
  refine Con.of (a0 := a0) pf27 (fun m => ef_mn_c m Aq B) all0 hO hEL ?_
  intro p e s m below meth c S0 hnm hsf W
  replace W := W.iloadN (pc' := 1) djdk_29_69_0 rfl rfl
  replace W := W.iloadN (pc' := 2) djdk_29_69_1 rfl rfl
  replace W := W.icmpF (pc' := 5) djdk_29_69_2 (flt (own_nlt (X := B) (Y := Aq) (by omega) (by omega) (by omega))).2.2.1 rfl
  replace W := W.iloadN (pc' := 6) djdk_29_69_5 rfl rfl
  replace W := W.goto (pc' := 10) djdk_29_69_6 (by decide) (by decide)
  exact W.iret (t := .int) djdk_29_69_10 rfl (by simp) rfl (by decide) (by decide) (fun V' cv => ⟨rfl, rfl⟩)
theorem ef_mn2_c (m : MethodId) (Aq : Nat) (B : Nat) : entryFrame m #[(.int (Int32.ofNat Aq)), (.int (Int32.ofNat B))] 2 = mkF m 0 #[.val (.int (Int32.ofNat Aq)), .val (.int (Int32.ofNat B))] [] := by first | (simp [entryFrame, mkF, argsToLocals, Value.category]; done) | rfl
set_option maxRecDepth 65536 in
set_option maxHeartbeats 40000000 in
theorem mn2_c (l : Launch) (Z : State) (a0 : Array Value) (n0 : Nat) (hw : ∀ d ∈ tables_1, d.before a0 Z = true) (hEL : EW Z a0 consts_1) (G1 : Int32) (O1 : Sta Z Z.heap "java/lang/String" "COMPACT_STRINGS" "Z" (.int G1)) (P1 : ¬ (G1 = (0 : Int32))) (O_as : Sta Z Z.heap "java/lang/StringUTF16" "$assertionsDisabled" "Z" (.int (1 : Int32))) (O_hi : Sta Z Z.heap "java/lang/StringUTF16" "HI_BYTE_SHIFT" "I" (.int (0 : Int32))) (O_lo : Sta Z Z.heap "java/lang/StringUTF16" "LO_BYTE_SHIFT" "I" (.int (8 : Int32))) (G3 : Value) (O3 : Sta Z Z.heap "jdk/internal/util/Preconditions" "SIOOBE_FORMATTER" "Ljava/util/function/BiFunction;" G3) (rG3 : G3.isRef = true) (Aq : Nat) (B : Nat) (h0 : Heap) (hO : Old Z n0 h0) (hAB : B < Aq ∧ Aq ≤ 500) :
    Con l Z consts_1 n0 (⟨"java/lang/Math", "min", "(II)I"⟩ : MethodName) jdk_29_method_69_code 2 (some .int) ({ frames := 0, cells := 0, slots := 0, locals := 0 } : Room) #[(.int (Int32.ofNat Aq)), (.int (Int32.ofNat B))] h0 [] (fun v h V' => v = some (.int (Int32.ofNat B)) ∧ h0 = h) [] := by
  refine Con.of (a0 := a0) pf27 (fun m => ef_mn2_c m Aq B) all0 hO hEL ?_
  intro p e s m below meth c S0 hnm hsf W
  replace W := W.iloadN (pc' := 1) djdk_29_69_0 rfl rfl
  replace W := W.iloadN (pc' := 2) djdk_29_69_1 rfl rfl
  replace W := W.icmpT (pc' := 9) djdk_29_69_2 (tlt (own_lt (X := B) (Y := Aq) (by omega) (by omega) (by omega))).2.2.1 (by decide) (by decide)
  replace W := W.iloadN (pc' := 10) djdk_29_69_9 rfl rfl
  exact W.iret (t := .int) djdk_29_69_10 rfl (by simp) rfl (by decide) (by decide) (fun V' cv => ⟨rfl, rfl⟩)
theorem ef_nl1 (m : MethodId) (Aq : Nat) (B : Nat) : entryFrame m #[(.int (Int32.ofNat Aq)), (.int (1 : Int32)), (.int (Int32.ofNat B))] 4 = mkF m 0 #[.val (.int (Int32.ofNat Aq)), .val (.int (1 : Int32)), .val (.int (Int32.ofNat B)), .unset] [] := by first | (simp [entryFrame, mkF, argsToLocals, Value.category]; done) | rfl
set_option maxRecDepth 65536 in
set_option maxHeartbeats 40000000 in
theorem nl1 (l : Launch) (Z : State) (a0 : Array Value) (n0 : Nat) (hw : ∀ d ∈ tables_1, d.before a0 Z = true) (hEL : EW Z a0 consts_1) (G1 : Int32) (O1 : Sta Z Z.heap "java/lang/String" "COMPACT_STRINGS" "Z" (.int G1)) (P1 : ¬ (G1 = (0 : Int32))) (O_as : Sta Z Z.heap "java/lang/StringUTF16" "$assertionsDisabled" "Z" (.int (1 : Int32))) (O_hi : Sta Z Z.heap "java/lang/StringUTF16" "HI_BYTE_SHIFT" "I" (.int (0 : Int32))) (O_lo : Sta Z Z.heap "java/lang/StringUTF16" "LO_BYTE_SHIFT" "I" (.int (8 : Int32))) (G3 : Value) (O3 : Sta Z Z.heap "jdk/internal/util/Preconditions" "SIOOBE_FORMATTER" "Ljava/util/function/BiFunction;" G3) (rG3 : G3.isRef = true) (Aq : Nat) (B : Nat) (h0 : Heap) (hO : Old Z n0 h0) (hB : 3 ≤ B ∧ B ≤ 500) (hA : Aq ≤ 400) :
    Con l Z consts_1 n0 (⟨"jdk/internal/util/ArraysSupport", "newLength", "(III)I"⟩ : MethodName) jdk_48_method_27_code 4 (some .int) ({ frames := 1, cells := 0, slots := 0, locals := 14 } : Room) #[(.int (Int32.ofNat Aq)), (.int (1 : Int32)), (.int (Int32.ofNat B))] h0 [] (fun v h V' => v = some (.int (Int32.ofNat (Aq + B))) ∧ h0 = h) [] := by
  refine Con.of (a0 := a0) pf28 (fun m => ef_nl1 m Aq B) all0 hO hEL ?_
  intro p e s m below meth c S0 hnm hsf W
  replace W := W.iloadN (pc' := 1) djdk_48_27_0 rfl rfl
  replace W := W.iloadN (pc' := 2) djdk_48_27_1 rfl rfl
  replace W := W.iloadN (pc' := 3) djdk_48_27_2 rfl rfl
  obtain ⟨V1, h1, r1, W1, K1, hQ1, SF1⟩ := W.callS (pc' := 6) (argsL := [(.int (1 : Int32)), (.int (Int32.ofNat B))]) (rest := [(.int (Int32.ofNat Aq))]) (Wd := 1) (cells' := 0) (slots' := 0) (y := (⟨"java/lang/Math", "max", "(II)I"⟩ : MethodName)) djdk_48_27_3 (mx1 l Z a0 n0 hw hEL G1 O1 P1 O_as O_hi O_lo G3 O3 rG3 B h0 W.old (by omega)) (tw175 hw) (tw176 hw) (tw177 hw) (tw178 hw) (by decide) (lenOf pd16 rfl) rfl rfl (by decide) (by decide) rfl sf0 all0 rfl rfl rfl (by decide) (by decide)
  clear W
  obtain ⟨rfl, hs1⟩ := hQ1
  subst hs1
  replace W1 := W1.cast (st' := [(.int (Int32.ofNat B)), (.int (Int32.ofNat Aq))]) rfl
  replace W1 := W1.iadd (pc' := 7) (v := (Int32.ofNat (Aq + B))) djdk_48_27_6 (own_addc _ _) rfl
  replace W1 := W1.istoreN (pc' := 8) (L' := #[.val (.int (Int32.ofNat Aq)), .val (.int (1 : Int32)), .val (.int (Int32.ofNat B)), .val (.int (Int32.ofNat (Aq + B)))]) djdk_48_27_7 rfl rfl
  replace W1 := W1.iconst (pc' := 9) (v := (0 : Int32)) djdk_48_27_8 rfl rfl
  replace W1 := W1.iloadN (pc' := 10) djdk_48_27_9 rfl rfl
  replace W1 := W1.icmpF (pc' := 13) djdk_48_27_10 (tlt (own_lt (X := 0) (Y := (Aq + B)) (by omega) (by omega) (by omega))).2.1 rfl
  replace W1 := W1.iloadN (pc' := 14) djdk_48_27_13 rfl rfl
  replace W1 := W1.ldcI (pc' := 16) djdk_48_27_14 (tw179 hw) rfl
  replace W1 := W1.icmpF (pc' := 19) djdk_48_27_16 (flt (own_nlt (X := 2147483639) (Y := (Aq + B)) (by omega) (by omega) (by omega))).2.2.1 rfl
  replace W1 := W1.iloadN (pc' := 20) djdk_48_27_19 rfl rfl
  exact W1.iret (t := .int) djdk_48_27_20 rfl (by simp) rfl (by decide) (by decide) (fun V' cv => ⟨rfl, rfl⟩)
theorem ef_nl2 (m : MethodId) (Aq : Nat) (B : Nat) : entryFrame m #[(.int (Int32.ofNat Aq)), (.int (2 : Int32)), (.int (Int32.ofNat B))] 4 = mkF m 0 #[.val (.int (Int32.ofNat Aq)), .val (.int (2 : Int32)), .val (.int (Int32.ofNat B)), .unset] [] := by first | (simp [entryFrame, mkF, argsToLocals, Value.category]; done) | rfl
set_option maxRecDepth 65536 in
set_option maxHeartbeats 40000000 in
theorem nl2 (l : Launch) (Z : State) (a0 : Array Value) (n0 : Nat) (hw : ∀ d ∈ tables_1, d.before a0 Z = true) (hEL : EW Z a0 consts_1) (G1 : Int32) (O1 : Sta Z Z.heap "java/lang/String" "COMPACT_STRINGS" "Z" (.int G1)) (P1 : ¬ (G1 = (0 : Int32))) (O_as : Sta Z Z.heap "java/lang/StringUTF16" "$assertionsDisabled" "Z" (.int (1 : Int32))) (O_hi : Sta Z Z.heap "java/lang/StringUTF16" "HI_BYTE_SHIFT" "I" (.int (0 : Int32))) (O_lo : Sta Z Z.heap "java/lang/StringUTF16" "LO_BYTE_SHIFT" "I" (.int (8 : Int32))) (G3 : Value) (O3 : Sta Z Z.heap "jdk/internal/util/Preconditions" "SIOOBE_FORMATTER" "Ljava/util/function/BiFunction;" G3) (rG3 : G3.isRef = true) (Aq : Nat) (B : Nat) (h0 : Heap) (hO : Old Z n0 h0) (hB : 3 ≤ B ∧ B ≤ 500) (hA : Aq ≤ 400) :
    Con l Z consts_1 n0 (⟨"jdk/internal/util/ArraysSupport", "newLength", "(III)I"⟩ : MethodName) jdk_48_method_27_code 4 (some .int) ({ frames := 1, cells := 0, slots := 0, locals := 14 } : Room) #[(.int (Int32.ofNat Aq)), (.int (2 : Int32)), (.int (Int32.ofNat B))] h0 [] (fun v h V' => v = some (.int (Int32.ofNat (Aq + B))) ∧ h0 = h) [] := by
  refine Con.of (a0 := a0) pf28 (fun m => ef_nl2 m Aq B) all0 hO hEL ?_
  intro p e s m below meth c S0 hnm hsf W
  replace W := W.iloadN (pc' := 1) djdk_48_27_0 rfl rfl
  replace W := W.iloadN (pc' := 2) djdk_48_27_1 rfl rfl
  replace W := W.iloadN (pc' := 3) djdk_48_27_2 rfl rfl
  obtain ⟨V1, h1, r1, W1, K1, hQ1, SF1⟩ := W.callS (pc' := 6) (argsL := [(.int (2 : Int32)), (.int (Int32.ofNat B))]) (rest := [(.int (Int32.ofNat Aq))]) (Wd := 1) (cells' := 0) (slots' := 0) (y := (⟨"java/lang/Math", "max", "(II)I"⟩ : MethodName)) djdk_48_27_3 (mx2 l Z a0 n0 hw hEL G1 O1 P1 O_as O_hi O_lo G3 O3 rG3 B h0 W.old (by omega)) (tw175 hw) (tw176 hw) (tw177 hw) (tw178 hw) (by decide) (lenOf pd16 rfl) rfl rfl (by decide) (by decide) rfl sf0 all0 rfl rfl rfl (by decide) (by decide)
  clear W
  obtain ⟨rfl, hs1⟩ := hQ1
  subst hs1
  replace W1 := W1.cast (st' := [(.int (Int32.ofNat B)), (.int (Int32.ofNat Aq))]) rfl
  replace W1 := W1.iadd (pc' := 7) (v := (Int32.ofNat (Aq + B))) djdk_48_27_6 (own_addc _ _) rfl
  replace W1 := W1.istoreN (pc' := 8) (L' := #[.val (.int (Int32.ofNat Aq)), .val (.int (2 : Int32)), .val (.int (Int32.ofNat B)), .val (.int (Int32.ofNat (Aq + B)))]) djdk_48_27_7 rfl rfl
  replace W1 := W1.iconst (pc' := 9) (v := (0 : Int32)) djdk_48_27_8 rfl rfl
  replace W1 := W1.iloadN (pc' := 10) djdk_48_27_9 rfl rfl
  replace W1 := W1.icmpF (pc' := 13) djdk_48_27_10 (tlt (own_lt (X := 0) (Y := (Aq + B)) (by omega) (by omega) (by omega))).2.1 rfl
  replace W1 := W1.iloadN (pc' := 14) djdk_48_27_13 rfl rfl
  replace W1 := W1.ldcI (pc' := 16) djdk_48_27_14 (tw179 hw) rfl
  replace W1 := W1.icmpF (pc' := 19) djdk_48_27_16 (flt (own_nlt (X := 2147483639) (Y := (Aq + B)) (by omega) (by omega) (by omega))).2.2.1 rfl
  replace W1 := W1.iloadN (pc' := 20) djdk_48_27_19 rfl rfl
  exact W1.iret (t := .int) djdk_48_27_20 rfl (by simp) rfl (by decide) (by decide) (fun V' cv => ⟨rfl, rfl⟩)
theorem ef_cpo (m : MethodId) (va : Addr) (kv : ClassId) (Aq : Nat) (f : Nat → Int32) (M : Nat) : entryFrame m #[(.ref va), (.int (Int32.ofNat M))] 3 = mkF m 0 #[.val (.ref va), .val (.int (Int32.ofNat M)), .unset] [] := by first | (simp [entryFrame, mkF, argsToLocals, Value.category]; done) | rfl
set_option maxRecDepth 65536 in
set_option maxHeartbeats 40000000 in
theorem cpo (l : Launch) (Z : State) (a0 : Array Value) (n0 : Nat) (hw : ∀ d ∈ tables_1, d.before a0 Z = true) (hEL : EW Z a0 consts_1) (G1 : Int32) (O1 : Sta Z Z.heap "java/lang/String" "COMPACT_STRINGS" "Z" (.int G1)) (P1 : ¬ (G1 = (0 : Int32))) (O_as : Sta Z Z.heap "java/lang/StringUTF16" "$assertionsDisabled" "Z" (.int (1 : Int32))) (O_hi : Sta Z Z.heap "java/lang/StringUTF16" "HI_BYTE_SHIFT" "I" (.int (0 : Int32))) (O_lo : Sta Z Z.heap "java/lang/StringUTF16" "LO_BYTE_SHIFT" "I" (.int (8 : Int32))) (G3 : Value) (O3 : Sta Z Z.heap "jdk/internal/util/Preconditions" "SIOOBE_FORMATTER" "Ljava/util/function/BiFunction;" G3) (rG3 : G3.isRef = true) (va : Addr) (kv : ClassId) (Aq : Nat) (f : Nat → Int32) (M : Nat) (h0 : Heap) (hO : Old Z n0 h0) (V_va : Arv Z h0 va kv .byte (Int32.ofNat Aq) (lst Aq f) (.int (0 : Int32))) (hA : Aq < M ∧ M ≤ 64) :
    Con l Z consts_1 n0 (⟨"java/util/Arrays", "copyOf", "([BI)[B"⟩ : MethodName) jdk_65_method_121_code 3 (some (.array .byte)) ({ frames := 1, cells := 1, slots := 64, locals := 18 } : Room) #[(.ref va), (.int (Int32.ofNat M))] h0 [] (fun v h V' => ∃ (r : Addr) (kr : ClassId), v = some (.ref r) ∧ Arv Z h r kr .byte (Int32.ofNat M) (lst M (cpf f Aq)) (.int (0 : Int32)) ∧ Exa Z h r "[B" ∧ h0.size ≤ r ∧ Safe Z consts_1 V' h r) [] := by
  refine Con.of (a0 := a0) pf29 (fun m => ef_cpo m va kv Aq f M) all0 hO hEL ?_
  intro p e s m below meth c S0 hnm hsf W
  replace W := W.iloadN (pc' := 1) djdk_65_121_0 rfl rfl
  replace W := W.aloadN (pc' := 2) djdk_65_121_1 rfl rfl rfl
  replace W := W.alen (pc' := 3) djdk_65_121_2 V_va rfl
  replace W := W.icmpT (pc' := 14) djdk_65_121_3 (feq (own_ne (X := M) (Y := Aq) (by omega) (by omega) (by omega))).2 (by decide) (by decide)
  replace W := W.iloadN (pc' := 15) djdk_65_121_14 rfl rfl
  obtain ⟨h1, a1, W1, E1, g1, ⟨⟨k1, A1⟩, B1⟩, sf1, SF1⟩ := W.newarrE (pc' := 17) (ad := "[B") (cap := 64) (cells' := 1) (slots' := 64) djdk_65_121_15 (tw20 hw) (by decide) (own_nn (by omega)) (by rw [own_clamp (by omega)]; omega) (by decide) rfl rfl rfl (by decide) (by decide)
  clear W
  rw [← g1] at A1 B1
  have z1 : h0.size ≤ h1.size := E1.1
  have v1 : Arv Z h1 a1 k1 .byte (Int32.ofNat M) (lst M zf) (.int (0 : Int32)) := own_lst0 A1
  replace W1 := W1.astoreN (pc' := 18) (L' := #[.val (.ref va), .val (.int (Int32.ofNat M)), .val (.ref a1)]) djdk_65_121_17 rfl rfl rfl
  replace W1 := W1.aloadN (pc' := 19) djdk_65_121_18 rfl rfl rfl
  replace W1 := W1.iconst (pc' := 20) (v := (0 : Int32)) djdk_65_121_19 rfl rfl
  replace W1 := W1.aloadN (pc' := 21) djdk_65_121_20 rfl rfl rfl
  replace W1 := W1.iconst (pc' := 22) (v := (0 : Int32)) djdk_65_121_21 rfl rfl
  replace W1 := W1.aloadN (pc' := 23) djdk_65_121_22 rfl rfl rfl
  have v2 := (V_va.ext E1)
  replace W1 := W1.alen (pc' := 24) djdk_65_121_23 v2 rfl
  replace W1 := W1.iloadN (pc' := 25) djdk_65_121_24 rfl rfl
  obtain ⟨V3, h3, r3, W3, K3, hQ3, SF3⟩ := W1.callS (pc' := 28) (argsL := [(.int (Int32.ofNat Aq)), (.int (Int32.ofNat M))]) (rest := [(.int (0 : Int32)), (.ref a1), (.int (0 : Int32)), (.ref va)]) (Wd := 4) (cells' := 1) (slots' := 64) (y := (⟨"java/lang/Math", "min", "(II)I"⟩ : MethodName)) djdk_65_121_25 (mn_c l Z a0 n0 hw hEL G1 O1 P1 O_as O_hi O_lo G3 O3 rG3 Aq M h1 W1.old (by omega)) (tw184 hw) (tw185 hw) (tw177 hw) (tw186 hw) (by decide) (lenOf pd16 rfl) rfl rfl (by decide) (by decide) rfl sf0 all0 rfl rfl rfl (by decide) (by decide)
  clear W1
  obtain ⟨rfl, hs3⟩ := hQ3
  subst hs3
  have sf4 := SF3 a1 v1.lt sf1
  replace W3 := W3.cast (st' := [(.int (Int32.ofNat Aq)), (.int (0 : Int32)), (.ref a1), (.int (0 : Int32)), (.ref va)]) rfl
  obtain ⟨h5, W5, K5, v5, SF5⟩ := W3.acopy0 (pc' := 31) (nn := Aq) (vs' := lst M (cpf f Aq)) (Wd := 0) djdk_65_121_28 (tw187 hw) (tw190 hw) (tw188 hw) (tw189 hw) v2 v1 (own_nn (by omega)) (own_clamp (by omega)) (by rw [own_clamp (by omega)]; omega) (by rw [own_clamp (by omega)]; omega) (own_cpfl (by omega) (by omega)) rfl rfl (by decide) (by decide) sf4 (Or.inr (Nat.le_of_eq g1.symm)) rfl
  clear W3
  have z5 : h1.size ≤ h5.size := K5.1
  replace W5 := W5.aloadN (pc' := 32) djdk_65_121_31 rfl rfl rfl
  have e6 := (B1.keep K5)
  have sf7 := (SF5 a1 sf4)
  exact W5.aret (t := (.array .byte)) djdk_65_121_32 rfl rfl rfl rfl (by decide) (by decide) (fun V' cv => ⟨a1, k1, rfl, v5, e6, (Nat.le_of_eq g1.symm), (cv a1 v5.lt sf7)⟩)
theorem ef_ncap0 (m : MethodId) (sb : Addr) (va : Addr) (kv : ClassId) (K : Nat) (f : Nat → Int32) : entryFrame m #[(.ref sb), (.int (Int32.ofNat (K + 1)))] 6 = mkF m 0 #[.val (.ref sb), .val (.int (Int32.ofNat (K + 1))), .unset, .unset, .unset, .unset] [] := by first | (simp [entryFrame, mkF, argsToLocals, Value.category]; done) | rfl
set_option maxRecDepth 65536 in
set_option maxHeartbeats 40000000 in
theorem ncap0 (l : Launch) (Z : State) (a0 : Array Value) (n0 : Nat) (hw : ∀ d ∈ tables_1, d.before a0 Z = true) (hEL : EW Z a0 consts_1) (G1 : Int32) (O1 : Sta Z Z.heap "java/lang/String" "COMPACT_STRINGS" "Z" (.int G1)) (P1 : ¬ (G1 = (0 : Int32))) (O_as : Sta Z Z.heap "java/lang/StringUTF16" "$assertionsDisabled" "Z" (.int (1 : Int32))) (O_hi : Sta Z Z.heap "java/lang/StringUTF16" "HI_BYTE_SHIFT" "I" (.int (0 : Int32))) (O_lo : Sta Z Z.heap "java/lang/StringUTF16" "LO_BYTE_SHIFT" "I" (.int (8 : Int32))) (G3 : Value) (O3 : Sta Z Z.heap "jdk/internal/util/Preconditions" "SIOOBE_FORMATTER" "Ljava/util/function/BiFunction;" G3) (rG3 : G3.isRef = true) (sb : Addr) (va : Addr) (kv : ClassId) (K : Nat) (f : Nat → Int32) (h0 : Heap) (hO : Old Z n0 h0) (F_sb_value : Fld Z h0 sb "java/lang/AbstractStringBuilder" "value" "[B" (.ref va)) (F_sb_coder : Fld Z h0 sb "java/lang/AbstractStringBuilder" "coder" "B" (.int (0 : Int32))) (V_va : Arv Z h0 va kv .byte (Int32.ofNat K) (lst K f) (.int (0 : Int32))) (hK1 : 1 ≤ K ∧ K ≤ 15) :
    Con l Z consts_1 n0 (⟨"java/lang/AbstractStringBuilder", "newCapacity", "(I)I"⟩ : MethodName) jdk_68_method_10_code 6 (some .int) ({ frames := 2, cells := 0, slots := 0, locals := 29 } : Room) #[(.ref sb), (.int (Int32.ofNat (K + 1)))] h0 [] (fun v h V' => v = some (.int (Int32.ofNat (K + (K + 2)))) ∧ h0 = h) [] := by
  refine Con.of (a0 := a0) pf30 (fun m => ef_ncap0 m sb va kv K f) all0 hO hEL ?_
  intro p e s m below meth c S0 hnm hsf W
  replace W := W.aloadN (pc' := 1) djdk_68_10_0 rfl rfl rfl
  replace W := W.getf (pc' := 4) djdk_68_10_1 (tw56 hw) Via.refl F_sb_value rfl
  replace W := W.alen (pc' := 5) djdk_68_10_4 V_va rfl
  replace W := W.istoreN (pc' := 6) (L' := #[.val (.ref sb), .val (.int (Int32.ofNat (K + 1))), .val (.int (Int32.ofNat K)), .unset, .unset, .unset]) djdk_68_10_5 rfl rfl
  replace W := W.iloadN (pc' := 7) djdk_68_10_6 rfl rfl
  replace W := W.aloadN (pc' := 8) djdk_68_10_7 rfl rfl rfl
  replace W := W.getf (pc' := 11) djdk_68_10_8 (tw58 hw) Via.refl F_sb_coder rfl
  replace W := W.ishl (pc' := 12) (v := (Int32.ofNat (K + 1))) djdk_68_10_11 (own_shl0 _) rfl
  replace W := W.istoreN (pc' := 13) (L' := #[.val (.ref sb), .val (.int (Int32.ofNat (K + 1))), .val (.int (Int32.ofNat K)), .val (.int (Int32.ofNat (K + 1))), .unset, .unset]) djdk_68_10_12 rfl rfl
  replace W := W.iloadN (pc' := 14) djdk_68_10_13 rfl rfl
  replace W := W.iloadN (pc' := 15) djdk_68_10_14 rfl rfl
  replace W := W.isub (pc' := 16) (v := (1 : Int32)) djdk_68_10_15 (own_d1 (by omega)) rfl
  replace W := W.istore (pc' := 18) (L' := #[.val (.ref sb), .val (.int (Int32.ofNat (K + 1))), .val (.int (Int32.ofNat K)), .val (.int (Int32.ofNat (K + 1))), .val (.int (1 : Int32)), .unset]) djdk_68_10_16 rfl rfl
  replace W := W.iloadN (pc' := 19) djdk_68_10_18 rfl rfl
  replace W := W.iload (pc' := 21) djdk_68_10_19 rfl rfl
  replace W := W.iloadN (pc' := 22) djdk_68_10_21 rfl rfl
  replace W := W.iconst (pc' := 23) (v := (2 : Int32)) djdk_68_10_22 rfl rfl
  replace W := W.aloadN (pc' := 24) djdk_68_10_23 rfl rfl rfl
  replace W := W.getf (pc' := 27) djdk_68_10_24 (tw58 hw) Via.refl F_sb_coder rfl
  replace W := W.ishl (pc' := 28) (v := (2 : Int32)) djdk_68_10_27 (by decide) rfl
  replace W := W.iadd (pc' := 29) (v := (Int32.ofNat (K + 2))) djdk_68_10_28 (own_addc K 2) rfl
  obtain ⟨V1, h1, r1, W1, K1, hQ1, SF1⟩ := W.callS (pc' := 32) (argsL := [(.int (Int32.ofNat K)), (.int (1 : Int32)), (.int (Int32.ofNat (K + 2)))]) (rest := []) (Wd := 0) (cells' := 0) (slots' := 0) (y := (⟨"jdk/internal/util/ArraysSupport", "newLength", "(III)I"⟩ : MethodName)) djdk_68_10_29 (nl1 l Z a0 n0 hw hEL G1 O1 P1 O_as O_hi O_lo G3 O3 rG3 K (K + 2) h0 W.old (by omega) (by omega)) (tw171 hw) (tw172 hw) (tw173 hw) (tw174 hw) (by decide) (lenOf pd17 rfl) rfl rfl (by decide) (by decide) rfl sf0 all0 rfl rfl rfl (by decide) (by decide)
  clear W
  obtain ⟨rfl, hs1⟩ := hQ1
  subst hs1
  replace W1 := W1.cast (st' := [(.int (Int32.ofNat (K + (K + 2))))]) rfl
  replace W1 := W1.istore (pc' := 34) (L' := #[.val (.ref sb), .val (.int (Int32.ofNat (K + 1))), .val (.int (Int32.ofNat K)), .val (.int (Int32.ofNat (K + 1))), .val (.int (1 : Int32)), .val (.int (Int32.ofNat (K + (K + 2))))]) djdk_68_10_32 rfl rfl
  replace W1 := W1.iload (pc' := 36) djdk_68_10_34 rfl rfl
  replace W1 := W1.ldcI (pc' := 38) djdk_68_10_36 (tw180 hw) rfl
  replace W1 := W1.icmpT (pc' := 51) djdk_68_10_38 (feq (own_ne (X := (K + (K + 2))) (Y := 2147483647) (by omega) (by omega) (by omega))).2 (by decide) (by decide)
  replace W1 := W1.iload (pc' := 53) djdk_68_10_51 rfl rfl
  replace W1 := W1.aloadN (pc' := 54) djdk_68_10_53 rfl rfl rfl
  replace W1 := W1.getf (pc' := 57) djdk_68_10_54 (tw58 hw) Via.refl F_sb_coder rfl
  replace W1 := W1.ishr (pc' := 58) (v := (Int32.ofNat (K + (K + 2)))) djdk_68_10_57 (own_shr0 _) rfl
  exact W1.iret (t := .int) djdk_68_10_58 rfl (by simp) rfl (by decide) (by decide) (fun V' cv => ⟨rfl, rfl⟩)
theorem ef_ncap1 (m : MethodId) (sb : Addr) (va : Addr) (kv : ClassId) (K : Nat) (f : Nat → Int32) : entryFrame m #[(.ref sb), (.int (Int32.ofNat (K + 1)))] 6 = mkF m 0 #[.val (.ref sb), .val (.int (Int32.ofNat (K + 1))), .unset, .unset, .unset, .unset] [] := by first | (simp [entryFrame, mkF, argsToLocals, Value.category]; done) | rfl
set_option maxRecDepth 65536 in
set_option maxHeartbeats 40000000 in
theorem ncap1 (l : Launch) (Z : State) (a0 : Array Value) (n0 : Nat) (hw : ∀ d ∈ tables_1, d.before a0 Z = true) (hEL : EW Z a0 consts_1) (G1 : Int32) (O1 : Sta Z Z.heap "java/lang/String" "COMPACT_STRINGS" "Z" (.int G1)) (P1 : ¬ (G1 = (0 : Int32))) (O_as : Sta Z Z.heap "java/lang/StringUTF16" "$assertionsDisabled" "Z" (.int (1 : Int32))) (O_hi : Sta Z Z.heap "java/lang/StringUTF16" "HI_BYTE_SHIFT" "I" (.int (0 : Int32))) (O_lo : Sta Z Z.heap "java/lang/StringUTF16" "LO_BYTE_SHIFT" "I" (.int (8 : Int32))) (G3 : Value) (O3 : Sta Z Z.heap "jdk/internal/util/Preconditions" "SIOOBE_FORMATTER" "Ljava/util/function/BiFunction;" G3) (rG3 : G3.isRef = true) (sb : Addr) (va : Addr) (kv : ClassId) (K : Nat) (f : Nat → Int32) (h0 : Heap) (hO : Old Z n0 h0) (F_sb_value : Fld Z h0 sb "java/lang/AbstractStringBuilder" "value" "[B" (.ref va)) (F_sb_coder : Fld Z h0 sb "java/lang/AbstractStringBuilder" "coder" "B" (.int (1 : Int32))) (V_va : Arv Z h0 va kv .byte (Int32.ofNat (2 * K)) (lst (2 * K) f) (.int (0 : Int32))) (hK1 : 1 ≤ K ∧ K ≤ 15) :
    Con l Z consts_1 n0 (⟨"java/lang/AbstractStringBuilder", "newCapacity", "(I)I"⟩ : MethodName) jdk_68_method_10_code 6 (some .int) ({ frames := 2, cells := 0, slots := 0, locals := 29 } : Room) #[(.ref sb), (.int (Int32.ofNat (K + 1)))] h0 [] (fun v h V' => v = some (.int (Int32.ofNat (K + (K + 2)))) ∧ h0 = h) [] := by
  refine Con.of (a0 := a0) pf30 (fun m => ef_ncap1 m sb va kv K f) all0 hO hEL ?_
  intro p e s m below meth c S0 hnm hsf W
  replace W := W.aloadN (pc' := 1) djdk_68_10_0 rfl rfl rfl
  replace W := W.getf (pc' := 4) djdk_68_10_1 (tw56 hw) Via.refl F_sb_value rfl
  replace W := W.alen (pc' := 5) djdk_68_10_4 V_va rfl
  replace W := W.istoreN (pc' := 6) (L' := #[.val (.ref sb), .val (.int (Int32.ofNat (K + 1))), .val (.int (Int32.ofNat (2 * K))), .unset, .unset, .unset]) djdk_68_10_5 rfl rfl
  replace W := W.iloadN (pc' := 7) djdk_68_10_6 rfl rfl
  replace W := W.aloadN (pc' := 8) djdk_68_10_7 rfl rfl rfl
  replace W := W.getf (pc' := 11) djdk_68_10_8 (tw58 hw) Via.refl F_sb_coder rfl
  replace W := W.ishl (pc' := 12) (v := (Int32.ofNat (2 * (K + 1)))) djdk_68_10_11 (own_shl1 (by omega)) rfl
  replace W := W.istoreN (pc' := 13) (L' := #[.val (.ref sb), .val (.int (Int32.ofNat (K + 1))), .val (.int (Int32.ofNat (2 * K))), .val (.int (Int32.ofNat (2 * (K + 1)))), .unset, .unset]) djdk_68_10_12 rfl rfl
  replace W := W.iloadN (pc' := 14) djdk_68_10_13 rfl rfl
  replace W := W.iloadN (pc' := 15) djdk_68_10_14 rfl rfl
  replace W := W.isub (pc' := 16) (v := (2 : Int32)) djdk_68_10_15 (own_d2 (by omega)) rfl
  replace W := W.istore (pc' := 18) (L' := #[.val (.ref sb), .val (.int (Int32.ofNat (K + 1))), .val (.int (Int32.ofNat (2 * K))), .val (.int (Int32.ofNat (2 * (K + 1)))), .val (.int (2 : Int32)), .unset]) djdk_68_10_16 rfl rfl
  replace W := W.iloadN (pc' := 19) djdk_68_10_18 rfl rfl
  replace W := W.iload (pc' := 21) djdk_68_10_19 rfl rfl
  replace W := W.iloadN (pc' := 22) djdk_68_10_21 rfl rfl
  replace W := W.iconst (pc' := 23) (v := (2 : Int32)) djdk_68_10_22 rfl rfl
  replace W := W.aloadN (pc' := 24) djdk_68_10_23 rfl rfl rfl
  replace W := W.getf (pc' := 27) djdk_68_10_24 (tw58 hw) Via.refl F_sb_coder rfl
  replace W := W.ishl (pc' := 28) (v := (4 : Int32)) djdk_68_10_27 (by decide) rfl
  replace W := W.iadd (pc' := 29) (v := (Int32.ofNat ((2 * K) + 4))) djdk_68_10_28 (own_addc (2 * K) 4) rfl
  obtain ⟨V1, h1, r1, W1, K1, hQ1, SF1⟩ := W.callS (pc' := 32) (argsL := [(.int (Int32.ofNat (2 * K))), (.int (2 : Int32)), (.int (Int32.ofNat ((2 * K) + 4)))]) (rest := []) (Wd := 0) (cells' := 0) (slots' := 0) (y := (⟨"jdk/internal/util/ArraysSupport", "newLength", "(III)I"⟩ : MethodName)) djdk_68_10_29 (nl2 l Z a0 n0 hw hEL G1 O1 P1 O_as O_hi O_lo G3 O3 rG3 (2 * K) ((2 * K) + 4) h0 W.old (by omega) (by omega)) (tw171 hw) (tw172 hw) (tw173 hw) (tw174 hw) (by decide) (lenOf pd17 rfl) rfl rfl (by decide) (by decide) rfl sf0 all0 rfl rfl rfl (by decide) (by decide)
  clear W
  obtain ⟨rfl, hs1⟩ := hQ1
  subst hs1
  replace W1 := W1.cast (st' := [(.int (Int32.ofNat ((2 * K) + ((2 * K) + 4))))]) rfl
  replace W1 := W1.istore (pc' := 34) (L' := #[.val (.ref sb), .val (.int (Int32.ofNat (K + 1))), .val (.int (Int32.ofNat (2 * K))), .val (.int (Int32.ofNat (2 * (K + 1)))), .val (.int (2 : Int32)), .val (.int (Int32.ofNat ((2 * K) + ((2 * K) + 4))))]) djdk_68_10_32 rfl rfl
  replace W1 := W1.iload (pc' := 36) djdk_68_10_34 rfl rfl
  replace W1 := W1.ldcI (pc' := 38) djdk_68_10_36 (tw180 hw) rfl
  replace W1 := W1.icmpT (pc' := 51) djdk_68_10_38 (feq (own_ne (X := ((2 * K) + ((2 * K) + 4))) (Y := 2147483647) (by omega) (by omega) (by omega))).2 (by decide) (by decide)
  replace W1 := W1.iload (pc' := 53) djdk_68_10_51 rfl rfl
  replace W1 := W1.aloadN (pc' := 54) djdk_68_10_53 rfl rfl rfl
  replace W1 := W1.getf (pc' := 57) djdk_68_10_54 (tw58 hw) Via.refl F_sb_coder rfl
  replace W1 := W1.ishr (pc' := 58) (v := (Int32.ofNat (K + (K + 2)))) djdk_68_10_57 (own_shrU (by omega)) rfl
  exact W1.iret (t := .int) djdk_68_10_58 rfl (by simp) rfl (by decide) (by decide) (fun V' cv => ⟨rfl, rfl⟩)
theorem ef_ensr0 (m : MethodId) (sb : Addr) (va : Addr) (kv : ClassId) (K : Nat) (f : Nat → Int32) (T : Nat) : entryFrame m #[(.ref sb), (.int (Int32.ofNat (T + 1)))] 3 = mkF m 0 #[.val (.ref sb), .val (.int (Int32.ofNat (T + 1))), .unset] [] := by first | (simp [entryFrame, mkF, argsToLocals, Value.category]; done) | rfl
set_option maxRecDepth 65536 in
set_option maxHeartbeats 40000000 in
theorem ensr0 (l : Launch) (Z : State) (a0 : Array Value) (n0 : Nat) (hw : ∀ d ∈ tables_1, d.before a0 Z = true) (hEL : EW Z a0 consts_1) (G1 : Int32) (O1 : Sta Z Z.heap "java/lang/String" "COMPACT_STRINGS" "Z" (.int G1)) (P1 : ¬ (G1 = (0 : Int32))) (O_as : Sta Z Z.heap "java/lang/StringUTF16" "$assertionsDisabled" "Z" (.int (1 : Int32))) (O_hi : Sta Z Z.heap "java/lang/StringUTF16" "HI_BYTE_SHIFT" "I" (.int (0 : Int32))) (O_lo : Sta Z Z.heap "java/lang/StringUTF16" "LO_BYTE_SHIFT" "I" (.int (8 : Int32))) (G3 : Value) (O3 : Sta Z Z.heap "jdk/internal/util/Preconditions" "SIOOBE_FORMATTER" "Ljava/util/function/BiFunction;" G3) (rG3 : G3.isRef = true) (sb : Addr) (va : Addr) (kv : ClassId) (K : Nat) (f : Nat → Int32) (T : Nat) (h0 : Heap) (hO : Old Z n0 h0) (F_sb_value : Fld Z h0 sb "java/lang/AbstractStringBuilder" "value" "[B" (.ref va)) (F_sb_coder : Fld Z h0 sb "java/lang/AbstractStringBuilder" "coder" "B" (.int (0 : Int32))) (V_va : Arv Z h0 va kv .byte (Int32.ofNat K) (lst K f) (.int (0 : Int32))) (hr : T + 1 ≤ K ∧ K ≤ 32) :
    Con l Z consts_1 n0 (⟨"java/lang/AbstractStringBuilder", "ensureCapacityInternal", "(I)V"⟩ : MethodName) jdk_68_method_9_code 3 none ({ frames := 0, cells := 0, slots := 0, locals := 0 } : Room) #[(.ref sb), (.int (Int32.ofNat (T + 1)))] h0 [] (fun v h V' => v = none ∧ h0 = h) [] := by
  refine Con.of (a0 := a0) pf31 (fun m => ef_ensr0 m sb va kv K f T) all0 hO hEL ?_
  intro p e s m below meth c S0 hnm hsf W
  replace W := W.aloadN (pc' := 1) djdk_68_9_0 rfl rfl rfl
  replace W := W.getf (pc' := 4) djdk_68_9_1 (tw56 hw) Via.refl F_sb_value rfl
  replace W := W.alen (pc' := 5) djdk_68_9_4 V_va rfl
  replace W := W.aloadN (pc' := 6) djdk_68_9_5 rfl rfl rfl
  replace W := W.getf (pc' := 9) djdk_68_9_6 (tw58 hw) Via.refl F_sb_coder rfl
  replace W := W.ishr (pc' := 10) (v := (Int32.ofNat K)) djdk_68_9_9 (own_shr0 _) rfl
  replace W := W.istoreN (pc' := 11) (L' := #[.val (.ref sb), .val (.int (Int32.ofNat (T + 1))), .val (.int (Int32.ofNat K))]) djdk_68_9_10 rfl rfl
  replace W := W.iloadN (pc' := 12) djdk_68_9_11 rfl rfl
  replace W := W.iloadN (pc' := 13) djdk_68_9_12 rfl rfl
  replace W := W.isub (pc' := 14) (v := ((Int32.ofNat (T + 1)) - (Int32.ofNat K))) djdk_68_9_13 rfl rfl
  replace W := W.ifT (pc' := 38) djdk_68_9_14 (flt (own_room hr.1 (by omega))).2.2.2 (by decide) (by decide)
  exact W.vret djdk_68_9_38 rfl (by decide) (by decide) (fun V' cv => ⟨rfl, rfl⟩)
theorem ef_ensg0 (m : MethodId) (sb : Addr) (va : Addr) (kv : ClassId) (K : Nat) (f : Nat → Int32) (n : Int32) : entryFrame m #[(.ref sb), (.int (Int32.ofNat (K + 1)))] 3 = mkF m 0 #[.val (.ref sb), .val (.int (Int32.ofNat (K + 1))), .unset] [] := by first | (simp [entryFrame, mkF, argsToLocals, Value.category]; done) | rfl
set_option maxRecDepth 65536 in
set_option maxHeartbeats 40000000 in
theorem ensg0 (l : Launch) (Z : State) (a0 : Array Value) (n0 : Nat) (hw : ∀ d ∈ tables_1, d.before a0 Z = true) (hEL : EW Z a0 consts_1) (G1 : Int32) (O1 : Sta Z Z.heap "java/lang/String" "COMPACT_STRINGS" "Z" (.int G1)) (P1 : ¬ (G1 = (0 : Int32))) (O_as : Sta Z Z.heap "java/lang/StringUTF16" "$assertionsDisabled" "Z" (.int (1 : Int32))) (O_hi : Sta Z Z.heap "java/lang/StringUTF16" "HI_BYTE_SHIFT" "I" (.int (0 : Int32))) (O_lo : Sta Z Z.heap "java/lang/StringUTF16" "LO_BYTE_SHIFT" "I" (.int (8 : Int32))) (G3 : Value) (O3 : Sta Z Z.heap "jdk/internal/util/Preconditions" "SIOOBE_FORMATTER" "Ljava/util/function/BiFunction;" G3) (rG3 : G3.isRef = true) (sb : Addr) (va : Addr) (kv : ClassId) (K : Nat) (f : Nat → Int32) (n : Int32) (h0 : Heap) (hO : Old Z n0 h0) (E_sb : Exa Z h0 sb "java/lang/StringBuilder") (F_sb_value : Fld Z h0 sb "java/lang/AbstractStringBuilder" "value" "[B" (.ref va)) (F_sb_coder : Fld Z h0 sb "java/lang/AbstractStringBuilder" "coder" "B" (.int (0 : Int32))) (F_sb_count : Fld Z h0 sb "java/lang/AbstractStringBuilder" "count" "I" (.int n)) (F_sb_maybeLatin1 : Fld Z h0 sb "java/lang/AbstractStringBuilder" "maybeLatin1" "Z" (.int (0 : Int32))) (V_va : Arv Z h0 va kv .byte (Int32.ofNat K) (lst K f) (.int (0 : Int32))) (hK1 : 1 ≤ K ∧ K ≤ 15) (g_sb : n0 ≤ sb) :
    Con l Z consts_1 n0 (⟨"java/lang/AbstractStringBuilder", "ensureCapacityInternal", "(I)V"⟩ : MethodName) jdk_68_method_9_code 3 none ({ frames := 3, cells := 1, slots := 64, locals := 48 } : Room) #[(.ref sb), (.int (Int32.ofNat (K + 1)))] h0 [sb] (fun v h V' => ∃ (r : Addr) (kr : ClassId), v = none ∧ Exa Z h sb "java/lang/StringBuilder" ∧ Fld Z h sb "java/lang/AbstractStringBuilder" "value" "[B" (.ref r) ∧ Fld Z h sb "java/lang/AbstractStringBuilder" "coder" "B" (.int (0 : Int32)) ∧ Fld Z h sb "java/lang/AbstractStringBuilder" "count" "I" (.int n) ∧ Fld Z h sb "java/lang/AbstractStringBuilder" "maybeLatin1" "Z" (.int (0 : Int32)) ∧ Arv Z h r kr .byte (Int32.ofNat (K + (K + 2))) (lst (K + (K + 2)) (cpf f K)) (.int (0 : Int32)) ∧ Exa Z h r "[B" ∧ h0.size ≤ r ∧ Safe Z consts_1 V' h r) [] := by
  refine Con.of (a0 := a0) pf31 (fun m => ef_ensg0 m sb va kv K f n) (allS g_sb all0) hO hEL ?_
  intro p e s m below meth c S0 hnm hsf W
  replace W := W.aloadN (pc' := 1) djdk_68_9_0 rfl rfl rfl
  replace W := W.getf (pc' := 4) djdk_68_9_1 (tw56 hw) Via.refl F_sb_value rfl
  replace W := W.alen (pc' := 5) djdk_68_9_4 V_va rfl
  replace W := W.aloadN (pc' := 6) djdk_68_9_5 rfl rfl rfl
  replace W := W.getf (pc' := 9) djdk_68_9_6 (tw58 hw) Via.refl F_sb_coder rfl
  replace W := W.ishr (pc' := 10) (v := (Int32.ofNat K)) djdk_68_9_9 (own_shr0 _) rfl
  replace W := W.istoreN (pc' := 11) (L' := #[.val (.ref sb), .val (.int (Int32.ofNat (K + 1))), .val (.int (Int32.ofNat K))]) djdk_68_9_10 rfl rfl
  replace W := W.iloadN (pc' := 12) djdk_68_9_11 rfl rfl
  replace W := W.iloadN (pc' := 13) djdk_68_9_12 rfl rfl
  replace W := W.isub (pc' := 14) (v := ((Int32.ofNat (K + 1)) - (Int32.ofNat K))) djdk_68_9_13 rfl rfl
  replace W := W.ifF (pc' := 17) djdk_68_9_14 (tlt (own_full (by omega))).2.2.2 rfl
  replace W := W.aloadN (pc' := 18) djdk_68_9_17 rfl rfl rfl
  replace W := W.aloadN (pc' := 19) djdk_68_9_18 rfl rfl rfl
  replace W := W.getf (pc' := 22) djdk_68_9_19 (tw56 hw) Via.refl F_sb_value rfl
  replace W := W.aloadN (pc' := 23) djdk_68_9_22 rfl rfl rfl
  replace W := W.iloadN (pc' := 24) djdk_68_9_23 rfl rfl
  obtain ⟨V1, h1, r1, W1, K1, hQ1, SF1⟩ := W.callQ (pc' := 27) (argsL := [(.int (Int32.ofNat (K + 1)))]) (rest := [(.ref va), (.ref sb)]) (Wd := 2) (cells' := 0) (slots' := 0) (a := sb) (C := "java/lang/StringBuilder") (y := (⟨"java/lang/AbstractStringBuilder", "newCapacity", "(I)I"⟩ : MethodName)) djdk_68_9_24 (ncap0 l Z a0 n0 hw hEL G1 O1 P1 O_as O_hi O_lo G3 O3 rG3 sb va kv K f h0 W.old F_sb_value F_sb_coder V_va (by omega)) E_sb (tw166 hw) (tw167 hw) (tw169 hw) (tw168 hw) (tw52 hw) (tw170 hw) (by decide) (lenOf pd0 rfl) rfl rfl (by decide) (by decide) rfl sf0 all0 rfl rfl rfl (by decide) (by decide)
  clear W
  obtain ⟨rfl, hs1⟩ := hQ1
  subst hs1
  replace W1 := W1.cast (st' := [(.int (Int32.ofNat (K + (K + 2)))), (.ref va), (.ref sb)]) rfl
  replace W1 := W1.aloadN (pc' := 28) djdk_68_9_27 rfl rfl rfl
  replace W1 := W1.getf (pc' := 31) djdk_68_9_28 (tw58 hw) Via.refl F_sb_coder rfl
  replace W1 := W1.ishl (pc' := 32) (v := (Int32.ofNat (K + (K + 2)))) djdk_68_9_31 (own_shl0 _) rfl
  obtain ⟨V2, h2, r2, W2, K2, hQ2, SF2⟩ := W1.callS (pc' := 35) (argsL := [(.ref va), (.int (Int32.ofNat (K + (K + 2))))]) (rest := [(.ref sb)]) (Wd := 1) (cells' := 1) (slots' := 64) (y := (⟨"java/util/Arrays", "copyOf", "([BI)[B"⟩ : MethodName)) djdk_68_9_32 (cpo l Z a0 n0 hw hEL G1 O1 P1 O_as O_hi O_lo G3 O3 rG3 va kv K f (K + (K + 2)) h0 W1.old V_va (by omega)) (tw181 hw) (tw182 hw) (tw95 hw) (tw183 hw) (by decide) (lenOf pd18 rfl) rfl rfl (by decide) (by decide) rfl sf0 all0 rfl rfl rfl (by decide) (by decide)
  clear W1
  obtain ⟨r2, kr2, rfl, q2_1, q2_2, q2_3, q2_4⟩ := hQ2
  have z2 : h0.size ≤ h2.size := K2.1
  replace W2 := W2.cast (st' := [(.ref r2), (.ref sb)]) rfl
  have f3 := (F_sb_value.keep K2 nin0)
  have e4 := (E_sb.keep K2)
  obtain ⟨h5, W5, w5, SF5⟩ := W2.putf (pc' := 38) (ty := (.array .byte)) djdk_68_9_35 (tw56 hw) Via.refl f3 e4 (Or.inl (tw57 hw)) (tw32 hw) (by decide) rfl rfl (W2.safeE e4 (by decide) (by decide)) (Or.inl (List.mem_of_getElem? (i := 0) rfl)) rfl
  clear W2
  have z5 : h2.size ≤ h5.size := Nat.le_of_eq w5.size.symm
  have f5 := f3.same w5
  have e6 := (e4.wr w5)
  have f7 := ((F_sb_coder.keep K2 nin0).other w5 (Or.inr (slot_ne (C := "java/lang/StringBuilder") (Or.inl (tw59 hw)) (Or.inl (tw57 hw)) (by decide) (t := .byte) (t' := (.array .byte)) (by decide) (by decide))))
  have f8 := ((F_sb_count.keep K2 nin0).other w5 (Or.inr (slot_ne (C := "java/lang/StringBuilder") (Or.inl (tw87 hw)) (Or.inl (tw57 hw)) (by decide) (t := .int) (t' := (.array .byte)) (by decide) (by decide))))
  have f9 := ((F_sb_maybeLatin1.keep K2 nin0).other w5 (Or.inr (slot_ne (C := "java/lang/StringBuilder") (Or.inl (tw252 hw)) (Or.inl (tw57 hw)) (by decide) (t := .boolean) (t' := (.array .byte)) (by decide) (by decide))))
  have v10 := (q2_1.other w5 (Nat.ne_of_gt (Nat.lt_of_lt_of_le E_sb.lt q2_3)))
  have e11 := (q2_2.wr w5)
  have sf12 := (SF5 r2 q2_4)
  exact W5.vret djdk_68_9_38 rfl (by decide) (by decide) (fun V' cv => ⟨r2, kr2, rfl, e6, f5, f7, f8, f9, v10, e11, q2_3, (cv r2 (Nat.lt_of_lt_of_le q2_1.lt z5) sf12)⟩)
theorem ef_ensr1 (m : MethodId) (sb : Addr) (va : Addr) (kv : ClassId) (K : Nat) (f : Nat → Int32) (T : Nat) : entryFrame m #[(.ref sb), (.int (Int32.ofNat (T + 1)))] 3 = mkF m 0 #[.val (.ref sb), .val (.int (Int32.ofNat (T + 1))), .unset] [] := by first | (simp [entryFrame, mkF, argsToLocals, Value.category]; done) | rfl
set_option maxRecDepth 65536 in
set_option maxHeartbeats 40000000 in
theorem ensr1 (l : Launch) (Z : State) (a0 : Array Value) (n0 : Nat) (hw : ∀ d ∈ tables_1, d.before a0 Z = true) (hEL : EW Z a0 consts_1) (G1 : Int32) (O1 : Sta Z Z.heap "java/lang/String" "COMPACT_STRINGS" "Z" (.int G1)) (P1 : ¬ (G1 = (0 : Int32))) (O_as : Sta Z Z.heap "java/lang/StringUTF16" "$assertionsDisabled" "Z" (.int (1 : Int32))) (O_hi : Sta Z Z.heap "java/lang/StringUTF16" "HI_BYTE_SHIFT" "I" (.int (0 : Int32))) (O_lo : Sta Z Z.heap "java/lang/StringUTF16" "LO_BYTE_SHIFT" "I" (.int (8 : Int32))) (G3 : Value) (O3 : Sta Z Z.heap "jdk/internal/util/Preconditions" "SIOOBE_FORMATTER" "Ljava/util/function/BiFunction;" G3) (rG3 : G3.isRef = true) (sb : Addr) (va : Addr) (kv : ClassId) (K : Nat) (f : Nat → Int32) (T : Nat) (h0 : Heap) (hO : Old Z n0 h0) (F_sb_value : Fld Z h0 sb "java/lang/AbstractStringBuilder" "value" "[B" (.ref va)) (F_sb_coder : Fld Z h0 sb "java/lang/AbstractStringBuilder" "coder" "B" (.int (1 : Int32))) (V_va : Arv Z h0 va kv .byte (Int32.ofNat (2 * K)) (lst (2 * K) f) (.int (0 : Int32))) (hr : T + 1 ≤ K ∧ K ≤ 32) :
    Con l Z consts_1 n0 (⟨"java/lang/AbstractStringBuilder", "ensureCapacityInternal", "(I)V"⟩ : MethodName) jdk_68_method_9_code 3 none ({ frames := 0, cells := 0, slots := 0, locals := 0 } : Room) #[(.ref sb), (.int (Int32.ofNat (T + 1)))] h0 [] (fun v h V' => v = none ∧ h0 = h) [] := by
  refine Con.of (a0 := a0) pf31 (fun m => ef_ensr1 m sb va kv K f T) all0 hO hEL ?_
  intro p e s m below meth c S0 hnm hsf W
  replace W := W.aloadN (pc' := 1) djdk_68_9_0 rfl rfl rfl
  replace W := W.getf (pc' := 4) djdk_68_9_1 (tw56 hw) Via.refl F_sb_value rfl
  replace W := W.alen (pc' := 5) djdk_68_9_4 V_va rfl
  replace W := W.aloadN (pc' := 6) djdk_68_9_5 rfl rfl rfl
  replace W := W.getf (pc' := 9) djdk_68_9_6 (tw58 hw) Via.refl F_sb_coder rfl
  replace W := W.ishr (pc' := 10) (v := (Int32.ofNat K)) djdk_68_9_9 (own_shr1 (by omega)) rfl
  replace W := W.istoreN (pc' := 11) (L' := #[.val (.ref sb), .val (.int (Int32.ofNat (T + 1))), .val (.int (Int32.ofNat K))]) djdk_68_9_10 rfl rfl
  replace W := W.iloadN (pc' := 12) djdk_68_9_11 rfl rfl
  replace W := W.iloadN (pc' := 13) djdk_68_9_12 rfl rfl
  replace W := W.isub (pc' := 14) (v := ((Int32.ofNat (T + 1)) - (Int32.ofNat K))) djdk_68_9_13 rfl rfl
  replace W := W.ifT (pc' := 38) djdk_68_9_14 (flt (own_room hr.1 (by omega))).2.2.2 (by decide) (by decide)
  exact W.vret djdk_68_9_38 rfl (by decide) (by decide) (fun V' cv => ⟨rfl, rfl⟩)
theorem ef_ensg1 (m : MethodId) (sb : Addr) (va : Addr) (kv : ClassId) (K : Nat) (f : Nat → Int32) (n : Int32) : entryFrame m #[(.ref sb), (.int (Int32.ofNat (K + 1)))] 3 = mkF m 0 #[.val (.ref sb), .val (.int (Int32.ofNat (K + 1))), .unset] [] := by first | (simp [entryFrame, mkF, argsToLocals, Value.category]; done) | rfl
set_option maxRecDepth 65536 in
set_option maxHeartbeats 40000000 in
theorem ensg1 (l : Launch) (Z : State) (a0 : Array Value) (n0 : Nat) (hw : ∀ d ∈ tables_1, d.before a0 Z = true) (hEL : EW Z a0 consts_1) (G1 : Int32) (O1 : Sta Z Z.heap "java/lang/String" "COMPACT_STRINGS" "Z" (.int G1)) (P1 : ¬ (G1 = (0 : Int32))) (O_as : Sta Z Z.heap "java/lang/StringUTF16" "$assertionsDisabled" "Z" (.int (1 : Int32))) (O_hi : Sta Z Z.heap "java/lang/StringUTF16" "HI_BYTE_SHIFT" "I" (.int (0 : Int32))) (O_lo : Sta Z Z.heap "java/lang/StringUTF16" "LO_BYTE_SHIFT" "I" (.int (8 : Int32))) (G3 : Value) (O3 : Sta Z Z.heap "jdk/internal/util/Preconditions" "SIOOBE_FORMATTER" "Ljava/util/function/BiFunction;" G3) (rG3 : G3.isRef = true) (sb : Addr) (va : Addr) (kv : ClassId) (K : Nat) (f : Nat → Int32) (n : Int32) (h0 : Heap) (hO : Old Z n0 h0) (E_sb : Exa Z h0 sb "java/lang/StringBuilder") (F_sb_value : Fld Z h0 sb "java/lang/AbstractStringBuilder" "value" "[B" (.ref va)) (F_sb_coder : Fld Z h0 sb "java/lang/AbstractStringBuilder" "coder" "B" (.int (1 : Int32))) (F_sb_count : Fld Z h0 sb "java/lang/AbstractStringBuilder" "count" "I" (.int n)) (F_sb_maybeLatin1 : Fld Z h0 sb "java/lang/AbstractStringBuilder" "maybeLatin1" "Z" (.int (0 : Int32))) (V_va : Arv Z h0 va kv .byte (Int32.ofNat (2 * K)) (lst (2 * K) f) (.int (0 : Int32))) (hK1 : 1 ≤ K ∧ K ≤ 15) (g_sb : n0 ≤ sb) :
    Con l Z consts_1 n0 (⟨"java/lang/AbstractStringBuilder", "ensureCapacityInternal", "(I)V"⟩ : MethodName) jdk_68_method_9_code 3 none ({ frames := 3, cells := 1, slots := 64, locals := 48 } : Room) #[(.ref sb), (.int (Int32.ofNat (K + 1)))] h0 [sb] (fun v h V' => ∃ (r : Addr) (kr : ClassId), v = none ∧ Exa Z h sb "java/lang/StringBuilder" ∧ Fld Z h sb "java/lang/AbstractStringBuilder" "value" "[B" (.ref r) ∧ Fld Z h sb "java/lang/AbstractStringBuilder" "coder" "B" (.int (1 : Int32)) ∧ Fld Z h sb "java/lang/AbstractStringBuilder" "count" "I" (.int n) ∧ Fld Z h sb "java/lang/AbstractStringBuilder" "maybeLatin1" "Z" (.int (0 : Int32)) ∧ Arv Z h r kr .byte (Int32.ofNat (2 * (K + (K + 2)))) (lst (2 * (K + (K + 2))) (cpf f (2 * K))) (.int (0 : Int32)) ∧ Exa Z h r "[B" ∧ h0.size ≤ r ∧ Safe Z consts_1 V' h r) [] := by
  refine Con.of (a0 := a0) pf31 (fun m => ef_ensg1 m sb va kv K f n) (allS g_sb all0) hO hEL ?_
  intro p e s m below meth c S0 hnm hsf W
  replace W := W.aloadN (pc' := 1) djdk_68_9_0 rfl rfl rfl
  replace W := W.getf (pc' := 4) djdk_68_9_1 (tw56 hw) Via.refl F_sb_value rfl
  replace W := W.alen (pc' := 5) djdk_68_9_4 V_va rfl
  replace W := W.aloadN (pc' := 6) djdk_68_9_5 rfl rfl rfl
  replace W := W.getf (pc' := 9) djdk_68_9_6 (tw58 hw) Via.refl F_sb_coder rfl
  replace W := W.ishr (pc' := 10) (v := (Int32.ofNat K)) djdk_68_9_9 (own_shr1 (by omega)) rfl
  replace W := W.istoreN (pc' := 11) (L' := #[.val (.ref sb), .val (.int (Int32.ofNat (K + 1))), .val (.int (Int32.ofNat K))]) djdk_68_9_10 rfl rfl
  replace W := W.iloadN (pc' := 12) djdk_68_9_11 rfl rfl
  replace W := W.iloadN (pc' := 13) djdk_68_9_12 rfl rfl
  replace W := W.isub (pc' := 14) (v := ((Int32.ofNat (K + 1)) - (Int32.ofNat K))) djdk_68_9_13 rfl rfl
  replace W := W.ifF (pc' := 17) djdk_68_9_14 (tlt (own_full (by omega))).2.2.2 rfl
  replace W := W.aloadN (pc' := 18) djdk_68_9_17 rfl rfl rfl
  replace W := W.aloadN (pc' := 19) djdk_68_9_18 rfl rfl rfl
  replace W := W.getf (pc' := 22) djdk_68_9_19 (tw56 hw) Via.refl F_sb_value rfl
  replace W := W.aloadN (pc' := 23) djdk_68_9_22 rfl rfl rfl
  replace W := W.iloadN (pc' := 24) djdk_68_9_23 rfl rfl
  obtain ⟨V1, h1, r1, W1, K1, hQ1, SF1⟩ := W.callQ (pc' := 27) (argsL := [(.int (Int32.ofNat (K + 1)))]) (rest := [(.ref va), (.ref sb)]) (Wd := 2) (cells' := 0) (slots' := 0) (a := sb) (C := "java/lang/StringBuilder") (y := (⟨"java/lang/AbstractStringBuilder", "newCapacity", "(I)I"⟩ : MethodName)) djdk_68_9_24 (ncap1 l Z a0 n0 hw hEL G1 O1 P1 O_as O_hi O_lo G3 O3 rG3 sb va kv K f h0 W.old F_sb_value F_sb_coder V_va (by omega)) E_sb (tw166 hw) (tw167 hw) (tw169 hw) (tw168 hw) (tw52 hw) (tw170 hw) (by decide) (lenOf pd0 rfl) rfl rfl (by decide) (by decide) rfl sf0 all0 rfl rfl rfl (by decide) (by decide)
  clear W
  obtain ⟨rfl, hs1⟩ := hQ1
  subst hs1
  replace W1 := W1.cast (st' := [(.int (Int32.ofNat (K + (K + 2)))), (.ref va), (.ref sb)]) rfl
  replace W1 := W1.aloadN (pc' := 28) djdk_68_9_27 rfl rfl rfl
  replace W1 := W1.getf (pc' := 31) djdk_68_9_28 (tw58 hw) Via.refl F_sb_coder rfl
  replace W1 := W1.ishl (pc' := 32) (v := (Int32.ofNat (2 * (K + (K + 2))))) djdk_68_9_31 (own_shl1 (by omega)) rfl
  obtain ⟨V2, h2, r2, W2, K2, hQ2, SF2⟩ := W1.callS (pc' := 35) (argsL := [(.ref va), (.int (Int32.ofNat (2 * (K + (K + 2)))))]) (rest := [(.ref sb)]) (Wd := 1) (cells' := 1) (slots' := 64) (y := (⟨"java/util/Arrays", "copyOf", "([BI)[B"⟩ : MethodName)) djdk_68_9_32 (cpo l Z a0 n0 hw hEL G1 O1 P1 O_as O_hi O_lo G3 O3 rG3 va kv (2 * K) f (2 * (K + (K + 2))) h0 W1.old V_va (by omega)) (tw181 hw) (tw182 hw) (tw95 hw) (tw183 hw) (by decide) (lenOf pd18 rfl) rfl rfl (by decide) (by decide) rfl sf0 all0 rfl rfl rfl (by decide) (by decide)
  clear W1
  obtain ⟨r2, kr2, rfl, q2_1, q2_2, q2_3, q2_4⟩ := hQ2
  have z2 : h0.size ≤ h2.size := K2.1
  replace W2 := W2.cast (st' := [(.ref r2), (.ref sb)]) rfl
  have f3 := (F_sb_value.keep K2 nin0)
  have e4 := (E_sb.keep K2)
  obtain ⟨h5, W5, w5, SF5⟩ := W2.putf (pc' := 38) (ty := (.array .byte)) djdk_68_9_35 (tw56 hw) Via.refl f3 e4 (Or.inl (tw57 hw)) (tw32 hw) (by decide) rfl rfl (W2.safeE e4 (by decide) (by decide)) (Or.inl (List.mem_of_getElem? (i := 0) rfl)) rfl
  clear W2
  have z5 : h2.size ≤ h5.size := Nat.le_of_eq w5.size.symm
  have f5 := f3.same w5
  have e6 := (e4.wr w5)
  have f7 := ((F_sb_coder.keep K2 nin0).other w5 (Or.inr (slot_ne (C := "java/lang/StringBuilder") (Or.inl (tw59 hw)) (Or.inl (tw57 hw)) (by decide) (t := .byte) (t' := (.array .byte)) (by decide) (by decide))))
  have f8 := ((F_sb_count.keep K2 nin0).other w5 (Or.inr (slot_ne (C := "java/lang/StringBuilder") (Or.inl (tw87 hw)) (Or.inl (tw57 hw)) (by decide) (t := .int) (t' := (.array .byte)) (by decide) (by decide))))
  have f9 := ((F_sb_maybeLatin1.keep K2 nin0).other w5 (Or.inr (slot_ne (C := "java/lang/StringBuilder") (Or.inl (tw252 hw)) (Or.inl (tw57 hw)) (by decide) (t := .boolean) (t' := (.array .byte)) (by decide) (by decide))))
  have v10 := (q2_1.other w5 (Nat.ne_of_gt (Nat.lt_of_lt_of_le E_sb.lt q2_3)))
  have e11 := (q2_2.wr w5)
  have sf12 := (SF5 r2 q2_4)
  exact W5.vret djdk_68_9_38 rfl (by decide) (by decide) (fun V' cv => ⟨r2, kr2, rfl, e6, f5, f7, f8, f9, v10, e11, q2_3, (cv r2 (Nat.lt_of_lt_of_le q2_1.lt z5) sf12)⟩)
theorem ef_can0 (m : MethodId) (cz : Int32) : entryFrame m #[(.int cz)] 1 = mkF m 0 #[.val (.int cz)] [] := by first | (simp [entryFrame, mkF, argsToLocals, Value.category]; done) | rfl
set_option maxRecDepth 65536 in
set_option maxHeartbeats 40000000 in
theorem can0 (l : Launch) (Z : State) (a0 : Array Value) (n0 : Nat) (hw : ∀ d ∈ tables_1, d.before a0 Z = true) (hEL : EW Z a0 consts_1) (G1 : Int32) (O1 : Sta Z Z.heap "java/lang/String" "COMPACT_STRINGS" "Z" (.int G1)) (P1 : ¬ (G1 = (0 : Int32))) (O_as : Sta Z Z.heap "java/lang/StringUTF16" "$assertionsDisabled" "Z" (.int (1 : Int32))) (O_hi : Sta Z Z.heap "java/lang/StringUTF16" "HI_BYTE_SHIFT" "I" (.int (0 : Int32))) (O_lo : Sta Z Z.heap "java/lang/StringUTF16" "LO_BYTE_SHIFT" "I" (.int (8 : Int32))) (G3 : Value) (O3 : Sta Z Z.heap "jdk/internal/util/Preconditions" "SIOOBE_FORMATTER" "Ljava/util/function/BiFunction;" G3) (rG3 : G3.isRef = true) (cz : Int32) (h0 : Heap) (hO : Old Z n0 h0) (hw_ : (255 : Int32) < cz) :
    Con l Z consts_1 n0 (⟨"java/lang/StringLatin1", "canEncode", "(C)Z"⟩ : MethodName) jdk_43_method_3_code 1 (some .boolean) ({ frames := 0, cells := 0, slots := 0, locals := 0 } : Room) #[(.int cz)] h0 [] (fun v h V' => v = some (.int (0 : Int32)) ∧ h0 = h) [] := by
  refine Con.of (a0 := a0) pf32 (fun m => ef_can0 m cz) all0 hO hEL ?_
  intro p e s m below meth c S0 hnm hsf W
  replace W := W.iloadN (pc' := 1) djdk_43_3_0 rfl rfl
  replace W := W.sipush (pc' := 4) (v := (255 : Int32)) djdk_43_3_1 rfl rfl
  replace W := W.icmpT (pc' := 11) djdk_43_3_4 (tlt hw_).2.2.1 (by decide) (by decide)
  replace W := W.iconst (pc' := 12) (v := (0 : Int32)) djdk_43_3_11 rfl rfl
  exact W.iret (t := .boolean) djdk_43_3_12 rfl (by simp) (by decide) (by decide) (by decide) (fun V' cv => ⟨rfl, rfl⟩)
theorem ef_can1 (m : MethodId) (cz : Int32) : entryFrame m #[(.int cz)] 1 = mkF m 0 #[.val (.int cz)] [] := by first | (simp [entryFrame, mkF, argsToLocals, Value.category]; done) | rfl
set_option maxRecDepth 65536 in
set_option maxHeartbeats 40000000 in
theorem can1 (l : Launch) (Z : State) (a0 : Array Value) (n0 : Nat) (hw : ∀ d ∈ tables_1, d.before a0 Z = true) (hEL : EW Z a0 consts_1) (G1 : Int32) (O1 : Sta Z Z.heap "java/lang/String" "COMPACT_STRINGS" "Z" (.int G1)) (P1 : ¬ (G1 = (0 : Int32))) (O_as : Sta Z Z.heap "java/lang/StringUTF16" "$assertionsDisabled" "Z" (.int (1 : Int32))) (O_hi : Sta Z Z.heap "java/lang/StringUTF16" "HI_BYTE_SHIFT" "I" (.int (0 : Int32))) (O_lo : Sta Z Z.heap "java/lang/StringUTF16" "LO_BYTE_SHIFT" "I" (.int (8 : Int32))) (G3 : Value) (O3 : Sta Z Z.heap "jdk/internal/util/Preconditions" "SIOOBE_FORMATTER" "Ljava/util/function/BiFunction;" G3) (rG3 : G3.isRef = true) (cz : Int32) (h0 : Heap) (hO : Old Z n0 h0) (hw_ : ¬ (255 : Int32) < cz) :
    Con l Z consts_1 n0 (⟨"java/lang/StringLatin1", "canEncode", "(C)Z"⟩ : MethodName) jdk_43_method_3_code 1 (some .boolean) ({ frames := 0, cells := 0, slots := 0, locals := 0 } : Room) #[(.int cz)] h0 [] (fun v h V' => v = some (.int (1 : Int32)) ∧ h0 = h) [] := by
  refine Con.of (a0 := a0) pf32 (fun m => ef_can1 m cz) all0 hO hEL ?_
  intro p e s m below meth c S0 hnm hsf W
  replace W := W.iloadN (pc' := 1) djdk_43_3_0 rfl rfl
  replace W := W.sipush (pc' := 4) (v := (255 : Int32)) djdk_43_3_1 rfl rfl
  replace W := W.icmpF (pc' := 7) djdk_43_3_4 (flt hw_).2.2.1 rfl
  replace W := W.iconst (pc' := 8) (v := (1 : Int32)) djdk_43_3_7 rfl rfl
  replace W := W.goto (pc' := 12) djdk_43_3_8 (by decide) (by decide)
  exact W.iret (t := .boolean) djdk_43_3_12 rfl (by simp) (by decide) (by decide) (by decide) (fun V' cv => ⟨rfl, rfl⟩)
theorem ef_pcfis (m : MethodId) (T : Nat) (K : Nat) (fm : Value) (rf : fm.isRef = true) : entryFrame m #[(.int (0 : Int32)), (.int (Int32.ofNat T)), (.int (Int32.ofNat K)), fm] 4 = mkF m 0 #[.val (.int (0 : Int32)), .val (.int (Int32.ofNat T)), .val (.int (Int32.ofNat K)), .val fm] [] := by rcases ref_cases rf with rfl | ⟨q, rfl⟩ <;> first | (simp [entryFrame, mkF, argsToLocals, Value.category]; done) | rfl
set_option maxRecDepth 65536 in
set_option maxHeartbeats 40000000 in
theorem pcfis (l : Launch) (Z : State) (a0 : Array Value) (n0 : Nat) (hw : ∀ d ∈ tables_1, d.before a0 Z = true) (hEL : EW Z a0 consts_1) (G1 : Int32) (O1 : Sta Z Z.heap "java/lang/String" "COMPACT_STRINGS" "Z" (.int G1)) (P1 : ¬ (G1 = (0 : Int32))) (O_as : Sta Z Z.heap "java/lang/StringUTF16" "$assertionsDisabled" "Z" (.int (1 : Int32))) (O_hi : Sta Z Z.heap "java/lang/StringUTF16" "HI_BYTE_SHIFT" "I" (.int (0 : Int32))) (O_lo : Sta Z Z.heap "java/lang/StringUTF16" "LO_BYTE_SHIFT" "I" (.int (8 : Int32))) (G3 : Value) (O3 : Sta Z Z.heap "jdk/internal/util/Preconditions" "SIOOBE_FORMATTER" "Ljava/util/function/BiFunction;" G3) (rG3 : G3.isRef = true) (T : Nat) (K : Nat) (fm : Value) (rf : fm.isRef = true) (h0 : Heap) (hO : Old Z n0 h0) (hTK : T ≤ K ∧ K ≤ 32) :
    Con l Z consts_1 n0 (⟨"jdk/internal/util/Preconditions", "checkFromIndexSize", "(IIILjava/util/function/BiFunction;)I"⟩ : MethodName) jdk_41_method_13_code 4 (some .int) ({ frames := 0, cells := 0, slots := 0, locals := 0 } : Room) #[(.int (0 : Int32)), (.int (Int32.ofNat T)), (.int (Int32.ofNat K)), fm] h0 [] (fun v h V' => v = some (.int (0 : Int32)) ∧ h0 = h) [] := by
  refine Con.of (a0 := a0) pf33 (fun m => ef_pcfis m T K fm rf) all0 hO hEL ?_
  intro p e s m below meth c S0 hnm hsf W
  replace W := W.iloadN (pc' := 1) djdk_41_13_0 rfl rfl
  replace W := W.iloadN (pc' := 2) djdk_41_13_1 rfl rfl
  replace W := W.ior (pc' := 3) (v := ((Int32.ofNat K) ||| (0 : Int32))) djdk_41_13_2 rfl rfl
  replace W := W.iloadN (pc' := 4) djdk_41_13_3 rfl rfl
  replace W := W.ior (pc' := 5) (v := (((Int32.ofNat K) ||| (0 : Int32)) ||| (Int32.ofNat T))) djdk_41_13_4 rfl rfl
  replace W := W.ifF (pc' := 8) djdk_41_13_5 (flt (own_or3 (by omega) (by omega))).1 rfl
  replace W := W.iloadN (pc' := 9) djdk_41_13_8 rfl rfl
  replace W := W.iloadN (pc' := 10) djdk_41_13_9 rfl rfl
  replace W := W.iloadN (pc' := 11) djdk_41_13_10 rfl rfl
  replace W := W.isub (pc' := 12) (v := (Int32.ofNat K)) djdk_41_13_11 (own_sub0 _) rfl
  replace W := W.icmpT (pc' := 23) djdk_41_13_12 (flt (own_nlt (X := K) (Y := T) (by omega) (by omega) (by omega))).2.2.2 (by decide) (by decide)
  replace W := W.iloadN (pc' := 24) djdk_41_13_23 rfl rfl
  exact W.iret (t := .int) djdk_41_13_24 rfl (by simp) rfl (by decide) (by decide) (fun V' cv => ⟨rfl, rfl⟩)
theorem ef_scboc (m : MethodId) (T : Nat) (K : Nat) : entryFrame m #[(.int (0 : Int32)), (.int (Int32.ofNat T)), (.int (Int32.ofNat K))] 3 = mkF m 0 #[.val (.int (0 : Int32)), .val (.int (Int32.ofNat T)), .val (.int (Int32.ofNat K))] [] := by first | (simp [entryFrame, mkF, argsToLocals, Value.category]; done) | rfl
set_option maxRecDepth 65536 in
set_option maxHeartbeats 40000000 in
theorem scboc (l : Launch) (Z : State) (a0 : Array Value) (n0 : Nat) (hw : ∀ d ∈ tables_1, d.before a0 Z = true) (hEL : EW Z a0 consts_1) (G1 : Int32) (O1 : Sta Z Z.heap "java/lang/String" "COMPACT_STRINGS" "Z" (.int G1)) (P1 : ¬ (G1 = (0 : Int32))) (O_as : Sta Z Z.heap "java/lang/StringUTF16" "$assertionsDisabled" "Z" (.int (1 : Int32))) (O_hi : Sta Z Z.heap "java/lang/StringUTF16" "HI_BYTE_SHIFT" "I" (.int (0 : Int32))) (O_lo : Sta Z Z.heap "java/lang/StringUTF16" "LO_BYTE_SHIFT" "I" (.int (8 : Int32))) (G3 : Value) (O3 : Sta Z Z.heap "jdk/internal/util/Preconditions" "SIOOBE_FORMATTER" "Ljava/util/function/BiFunction;" G3) (rG3 : G3.isRef = true) (T : Nat) (K : Nat) (h0 : Heap) (hO : Old Z n0 h0) (hTK : T ≤ K ∧ K ≤ 32) :
    Con l Z consts_1 n0 (⟨"java/lang/String", "checkBoundsOffCount", "(III)I"⟩ : MethodName) jdk_42_method_157_code 3 (some .int) ({ frames := 1, cells := 0, slots := 0, locals := 15 } : Room) #[(.int (0 : Int32)), (.int (Int32.ofNat T)), (.int (Int32.ofNat K))] h0 [] (fun v h V' => v = some (.int (0 : Int32)) ∧ h0 = h) [] := by
  refine Con.of (a0 := a0) pf34 (fun m => ef_scboc m T K) all0 hO hEL ?_
  intro p e s m below meth c S0 hnm hsf W
  replace W := W.iloadN (pc' := 1) djdk_42_157_0 rfl rfl
  replace W := W.iloadN (pc' := 2) djdk_42_157_1 rfl rfl
  replace W := W.iloadN (pc' := 3) djdk_42_157_2 rfl rfl
  replace W := W.gets (pc' := 6) djdk_42_157_3 (tw140 hw) O3 rfl
  obtain ⟨V1, h1, r1, W1, K1, hQ1, SF1⟩ := W.callS (pc' := 9) (argsL := [(.int (0 : Int32)), (.int (Int32.ofNat T)), (.int (Int32.ofNat K)), G3]) (rest := []) (Wd := 0) (cells' := 0) (slots' := 0) (y := (⟨"jdk/internal/util/Preconditions", "checkFromIndexSize", "(IIILjava/util/function/BiFunction;)I"⟩ : MethodName)) djdk_42_157_6 (pcfis l Z a0 n0 hw hEL G1 O1 P1 O_as O_hi O_lo G3 O3 rG3 T K G3 rG3 h0 W.old (by omega)) (tw245 hw) (tw246 hw) (tw141 hw) (tw247 hw) (by decide) (lenOf pd19 rfl) rfl rfl (by decide) (by decide) rfl sf0 all0 rfl rfl rfl (by decide) (by decide)
  clear W
  obtain ⟨rfl, hs1⟩ := hQ1
  subst hs1
  replace W1 := W1.cast (st' := [(.int (0 : Int32))]) rfl
  exact W1.iret (t := .int) djdk_42_157_9 rfl (by simp) rfl (by decide) (by decide) (fun V' cv => ⟨rfl, rfl⟩)
theorem ef_ucboc (m : MethodId) (T : Nat) (da : Addr) (kd : ClassId) (K : Nat) (f : Nat → Int32) : entryFrame m #[(.int (0 : Int32)), (.int (Int32.ofNat T)), (.ref da)] 3 = mkF m 0 #[.val (.int (0 : Int32)), .val (.int (Int32.ofNat T)), .val (.ref da)] [] := by first | (simp [entryFrame, mkF, argsToLocals, Value.category]; done) | rfl
set_option maxRecDepth 65536 in
set_option maxHeartbeats 40000000 in
theorem ucboc (l : Launch) (Z : State) (a0 : Array Value) (n0 : Nat) (hw : ∀ d ∈ tables_1, d.before a0 Z = true) (hEL : EW Z a0 consts_1) (G1 : Int32) (O1 : Sta Z Z.heap "java/lang/String" "COMPACT_STRINGS" "Z" (.int G1)) (P1 : ¬ (G1 = (0 : Int32))) (O_as : Sta Z Z.heap "java/lang/StringUTF16" "$assertionsDisabled" "Z" (.int (1 : Int32))) (O_hi : Sta Z Z.heap "java/lang/StringUTF16" "HI_BYTE_SHIFT" "I" (.int (0 : Int32))) (O_lo : Sta Z Z.heap "java/lang/StringUTF16" "LO_BYTE_SHIFT" "I" (.int (8 : Int32))) (G3 : Value) (O3 : Sta Z Z.heap "jdk/internal/util/Preconditions" "SIOOBE_FORMATTER" "Ljava/util/function/BiFunction;" G3) (rG3 : G3.isRef = true) (T : Nat) (da : Addr) (kd : ClassId) (K : Nat) (f : Nat → Int32) (h0 : Heap) (hO : Old Z n0 h0) (V_da : Arv Z h0 da kd .byte (Int32.ofNat (2 * K)) (lst (2 * K) f) (.int (0 : Int32))) (hTK : T ≤ K ∧ K ≤ 32) :
    Con l Z consts_1 n0 (⟨"java/lang/StringUTF16", "checkBoundsOffCount", "(II[B)V"⟩ : MethodName) jdk_52_method_94_code 3 none ({ frames := 2, cells := 0, slots := 0, locals := 29 } : Room) #[(.int (0 : Int32)), (.int (Int32.ofNat T)), (.ref da)] h0 [] (fun v h V' => v = none ∧ h0 = h) [] := by
  refine Con.of (a0 := a0) pf35 (fun m => ef_ucboc m T da kd K f) all0 hO hEL ?_
  intro p e s m below meth c S0 hnm hsf W
  replace W := W.iloadN (pc' := 1) djdk_52_94_0 rfl rfl
  replace W := W.iloadN (pc' := 2) djdk_52_94_1 rfl rfl
  replace W := W.aloadN (pc' := 3) djdk_52_94_2 rfl rfl rfl
  obtain ⟨V1, h1, r1, W1, K1, hQ1, SF1⟩ := W.callS (pc' := 6) (argsL := [(.ref da)]) (rest := [(.int (Int32.ofNat T)), (.int (0 : Int32))]) (Wd := 2) (cells' := 0) (slots' := 0) (y := (⟨"java/lang/StringUTF16", "length", "([B)I"⟩ : MethodName)) djdk_52_94_3 (ulen l Z a0 n0 hw hEL G1 O1 P1 O_as O_hi O_lo G3 O3 rG3 da kd K f h0 W.old V_da (by omega)) (tw223 hw) (tw224 hw) (tw115 hw) (tw225 hw) (by decide) (lenOf pd11 rfl) rfl rfl (by decide) (by decide) rfl sf0 all0 rfl rfl rfl (by decide) (by decide)
  clear W
  obtain ⟨rfl, hs1⟩ := hQ1
  subst hs1
  replace W1 := W1.cast (st' := [(.int (Int32.ofNat K)), (.int (Int32.ofNat T)), (.int (0 : Int32))]) rfl
  obtain ⟨V2, h2, r2, W2, K2, hQ2, SF2⟩ := W1.callS (pc' := 9) (argsL := [(.int (0 : Int32)), (.int (Int32.ofNat T)), (.int (Int32.ofNat K))]) (rest := []) (Wd := 0) (cells' := 0) (slots' := 0) (y := (⟨"java/lang/String", "checkBoundsOffCount", "(III)I"⟩ : MethodName)) djdk_52_94_6 (scboc l Z a0 n0 hw hEL G1 O1 P1 O_as O_hi O_lo G3 O3 rG3 T K h0 W1.old (by omega)) (tw242 hw) (tw243 hw) (tw8 hw) (tw244 hw) (by decide) (lenOf pd17 rfl) rfl rfl (by decide) (by decide) rfl sf0 all0 rfl rfl rfl (by decide) (by decide)
  clear W1
  obtain ⟨rfl, hs2⟩ := hQ2
  subst hs2
  replace W2 := W2.cast (st' := [(.int (0 : Int32))]) rfl
  replace W2 := W2.pop (pc' := 10) djdk_52_94_9 rfl rfl
  exact W2.vret djdk_52_94_10 rfl (by decide) (by decide) (fun V' cv => ⟨rfl, rfl⟩)
set_option maxRecDepth 65536 in
set_option maxHeartbeats 40000000 in
theorem ui_lp (l : Launch) (Z : State) (a0 : Array Value) (n0 : Nat) (hw : ∀ d ∈ tables_1, d.before a0 Z = true) (hEL : EW Z a0 consts_1) (G1 : Int32) (O1 : Sta Z Z.heap "java/lang/String" "COMPACT_STRINGS" "Z" (.int G1)) (P1 : ¬ (G1 = (0 : Int32))) (O_as : Sta Z Z.heap "java/lang/StringUTF16" "$assertionsDisabled" "Z" (.int (1 : Int32))) (O_hi : Sta Z Z.heap "java/lang/StringUTF16" "HI_BYTE_SHIFT" "I" (.int (0 : Int32))) (O_lo : Sta Z Z.heap "java/lang/StringUTF16" "LO_BYTE_SHIFT" "I" (.int (8 : Int32))) (G3 : Value) (O3 : Sta Z Z.heap "jdk/internal/util/Preconditions" "SIOOBE_FORMATTER" "Ljava/util/function/BiFunction;" G3) (rG3 : G3.isRef = true) (sa : Addr) (ks : ClassId) (da : Addr) (kd : ClassId) (K : Nat) (f : Nat → Int32) (T : Nat) (o : Nat → Int32) (t : Nat) (p : Program) (e : Env) (s : State) (m : MethodId) (below : List Frame) (meth : Method) (c : Code) (S0 : State) (V : Vm) (h0 h : Heap) (hO0 : Old Z n0 h0) (V_sa : Arv Z h sa ks .byte (Int32.ofNat K) (lst K f) (.int (0 : Int32))) (V_da : Arv Z h da kd .byte (Int32.ofNat (2 * K)) (lst (2 * K) (pu o t)) (.int (0 : Int32))) (S_da : Safe Z consts_1 V h da) (N_sa_da : sa ≠ da) (hTK : T ≤ K ∧ K ≤ 32) (hf : ∀ i, i < T → f i = (o i).toInt8.toInt32) (hp : ∀ i, i < T → ¬ o i < 0 ∧ ¬ (255 : Int32) < o i) (ht : t ≤ T) (g_da : n0 ≤ da) (hnm : meth.name = "inflate") (W : Wk p l e ({ frames := 3, cells := 0, slots := 0, locals := 43 } : Room) s m #[(.ref sa), (.int (0 : Int32)), (.ref da), (.int (0 : Int32)), (.int (Int32.ofNat T))] below meth c jdk_52_method_86_code 6 none Z a0 consts_1 "java/lang/StringUTF16" n0 h0 [da] S0 V h 0 0 (mkF m 10 #[.val (.ref sa), .val (.int (Int32.ofNat t)), .val (.ref da), .val (.int (Int32.ofNat t)), .val (.int (Int32.ofNat T)), .val (.int (Int32.ofNat t))] [])) : Done p e below S0 s Z consts_1 n0 h0 [da] ({ frames := 3, cells := 0, slots := 0, locals := 43 } : Room) (fun v h V' => v = none ∧ Arv Z h da kd .byte (Int32.ofNat (2 * K)) (lst (2 * K) (pu o T)) (.int (0 : Int32))) := by
  have z0 : h0.size ≤ h.size := W.kept.1
  clear z0
  obtain ⟨d, hd⟩ : ∃ d, t + d = T := ⟨_, Nat.add_sub_of_le ht⟩
  clear ht
  induction d generalizing t V h with
  | zero =>
    have htN : t = T := hd
    subst htN
    have z0 : h0.size ≤ h.size := W.kept.1
    replace W := W.iload (pc' := 12) djdk_52_86_10 rfl rfl
    replace W := W.iload (pc' := 14) djdk_52_86_12 rfl rfl
    replace W := W.icmpT (pc' := 41) djdk_52_86_14 (flt (own_irr _)).2.1 (by decide) (by decide)
    exact W.vret djdk_52_86_41 rfl (by decide) (by decide) (fun V' cv => ⟨rfl, V_da⟩)
  | succ d ih =>
    have z0 : h0.size ≤ h.size := W.kept.1
    replace W := W.iload (pc' := 12) djdk_52_86_10 rfl rfl
    replace W := W.iload (pc' := 14) djdk_52_86_12 rfl rfl
    replace W := W.icmpF (pc' := 17) djdk_52_86_14 (tlt (own_lt (by omega) (by omega) (by omega))).2.1 rfl
    replace W := W.aloadN (pc' := 18) djdk_52_86_17 rfl rfl rfl
    replace W := W.iloadN (pc' := 19) djdk_52_86_18 rfl rfl
    replace W := W.iinc (pc' := 22) (v := (Int32.ofNat (t + 1))) (L' := #[.val (.ref sa), .val (.int (Int32.ofNat t)), .val (.ref da), .val (.int (Int32.ofNat (t + 1))), .val (.int (Int32.ofNat T)), .val (.int (Int32.ofNat t))]) djdk_52_86_19 rfl (own_add1 _) rfl rfl
    replace W := W.aloadN (pc' := 23) djdk_52_86_22 rfl rfl rfl
    replace W := W.iloadN (pc' := 24) djdk_52_86_23 rfl rfl
    replace W := W.iinc (pc' := 27) (v := (Int32.ofNat (t + 1))) (L' := #[.val (.ref sa), .val (.int (Int32.ofNat (t + 1))), .val (.ref da), .val (.int (Int32.ofNat (t + 1))), .val (.int (Int32.ofNat T)), .val (.int (Int32.ofNat t))]) djdk_52_86_24 rfl (own_add1 _) rfl rfl
    replace W := W.baload (pc' := 28) (w := (.int ((o t).toInt8.toInt32))) djdk_52_86_27 V_sa ⟨own_nn (by omega), own_lt (by omega) (by omega) (by omega)⟩ (by rw [own_clamp (by omega), own_lst_get (by omega)]; exact congrArg Value.int (hf _ (by omega))) rfl
    replace W := W.sipush (pc' := 31) (v := (255 : Int32)) djdk_52_86_28 rfl rfl
    replace W := W.iand (pc' := 32) (v := (o t)) djdk_52_86_31 (own_lo8mask (hp _ (by omega))) rfl
    obtain ⟨V1, h1, r1, W1, K1, hQ1, SF1⟩ := W.callS (pc' := 35) (argsL := [(.ref da), (.int (Int32.ofNat t)), (.int (o t))]) (rest := []) (Wd := 0) (cells' := 0) (slots' := 0) (y := (⟨"java/lang/StringUTF16", "putChar", "([BII)V"⟩ : MethodName)) djdk_52_86_32 (putc l Z a0 n0 hw hEL G1 O1 P1 O_as O_hi O_lo G3 O3 rG3 da kd K (pu o t) t (o t) h W.old V_da (by omega) (by omega) g_da) (tw208 hw) (tw209 hw) (tw115 hw) (tw210 hw) (by decide) (lenOf pd1 rfl) rfl rfl (by decide) (by decide) rfl (sfS S_da sf0) (allS (Or.inl (List.mem_of_getElem? (i := 0) rfl)) all0) rfl rfl rfl (by decide) (by decide)
    clear W
    obtain ⟨rfl, q1_1⟩ := hQ1
    have z1 : h.size ≤ h1.size := K1.1
    replace W1 := W1.cast (st' := []) rfl
    replace W1 := W1.iinc (pc' := 38) (v := (Int32.ofNat (t + 1))) (L' := #[.val (.ref sa), .val (.int (Int32.ofNat (t + 1))), .val (.ref da), .val (.int (Int32.ofNat (t + 1))), .val (.int (Int32.ofNat T)), .val (.int (Int32.ofNat (t + 1)))]) djdk_52_86_35 rfl (own_add1 _) rfl rfl
    replace W1 := W1.goto (pc' := 10) djdk_52_86_38 (by decide) (by decide)
    have v2 := own_cg (g' := (pu o (t + 1))) q1_1 own_puS
    have v3 := (V_sa.keep K1 (ninS N_sa_da nin0))
    have sf4 := (SF1 da V_da.lt S_da)
    exact ih (t + 1) _ _ v3 v2 sf4 W1 (by omega)
theorem ef_uin (m : MethodId) (sa : Addr) (ks : ClassId) (da : Addr) (kd : ClassId) (K : Nat) (f : Nat → Int32) (T : Nat) (o : Nat → Int32) : entryFrame m #[(.ref sa), (.int (0 : Int32)), (.ref da), (.int (0 : Int32)), (.int (Int32.ofNat T))] 6 = mkF m 0 #[.val (.ref sa), .val (.int (0 : Int32)), .val (.ref da), .val (.int (0 : Int32)), .val (.int (Int32.ofNat T)), .unset] [] := by first | (simp [entryFrame, mkF, argsToLocals, Value.category]; done) | rfl
set_option maxRecDepth 65536 in
set_option maxHeartbeats 40000000 in
theorem uin (l : Launch) (Z : State) (a0 : Array Value) (n0 : Nat) (hw : ∀ d ∈ tables_1, d.before a0 Z = true) (hEL : EW Z a0 consts_1) (G1 : Int32) (O1 : Sta Z Z.heap "java/lang/String" "COMPACT_STRINGS" "Z" (.int G1)) (P1 : ¬ (G1 = (0 : Int32))) (O_as : Sta Z Z.heap "java/lang/StringUTF16" "$assertionsDisabled" "Z" (.int (1 : Int32))) (O_hi : Sta Z Z.heap "java/lang/StringUTF16" "HI_BYTE_SHIFT" "I" (.int (0 : Int32))) (O_lo : Sta Z Z.heap "java/lang/StringUTF16" "LO_BYTE_SHIFT" "I" (.int (8 : Int32))) (G3 : Value) (O3 : Sta Z Z.heap "jdk/internal/util/Preconditions" "SIOOBE_FORMATTER" "Ljava/util/function/BiFunction;" G3) (rG3 : G3.isRef = true) (sa : Addr) (ks : ClassId) (da : Addr) (kd : ClassId) (K : Nat) (f : Nat → Int32) (T : Nat) (o : Nat → Int32) (h0 : Heap) (hO : Old Z n0 h0) (V_sa : Arv Z h0 sa ks .byte (Int32.ofNat K) (lst K f) (.int (0 : Int32))) (V_da : Arv Z h0 da kd .byte (Int32.ofNat (2 * K)) (lst (2 * K) zf) (.int (0 : Int32))) (N_sa_da : sa ≠ da) (hTK : T ≤ K ∧ K ≤ 32) (hf : ∀ i, i < T → f i = (o i).toInt8.toInt32) (hp : ∀ i, i < T → ¬ o i < 0 ∧ ¬ (255 : Int32) < o i) (g_da : n0 ≤ da) :
    Con l Z consts_1 n0 (⟨"java/lang/StringUTF16", "inflate", "([BI[BII)V"⟩ : MethodName) jdk_52_method_86_code 6 none ({ frames := 3, cells := 0, slots := 0, locals := 43 } : Room) #[(.ref sa), (.int (0 : Int32)), (.ref da), (.int (0 : Int32)), (.int (Int32.ofNat T))] h0 [da] (fun v h V' => v = none ∧ Arv Z h da kd .byte (Int32.ofNat (2 * K)) (lst (2 * K) (pu o T)) (.int (0 : Int32))) [] := by
  refine Con.of (a0 := a0) pf36 (fun m => ef_uin m sa ks da kd K f T o) (allS g_da all0) hO hEL ?_
  intro p e s m below meth c S0 hnm hsf W
  replace W := W.iloadN (pc' := 1) djdk_52_86_0 rfl rfl
  replace W := W.iload (pc' := 3) djdk_52_86_1 rfl rfl
  replace W := W.aloadN (pc' := 4) djdk_52_86_3 rfl rfl rfl
  obtain ⟨V1, h1, r1, W1, K1, hQ1, SF1⟩ := W.callS (pc' := 7) (argsL := [(.int (0 : Int32)), (.int (Int32.ofNat T)), (.ref da)]) (rest := []) (Wd := 0) (cells' := 0) (slots' := 0) (y := (⟨"java/lang/StringUTF16", "checkBoundsOffCount", "(II[B)V"⟩ : MethodName)) djdk_52_86_4 (ucboc l Z a0 n0 hw hEL G1 O1 P1 O_as O_hi O_lo G3 O3 rG3 T da kd K zf h0 W.old V_da (by omega)) (tw239 hw) (tw240 hw) (tw115 hw) (tw241 hw) (by decide) (lenOf pd20 rfl) rfl rfl (by decide) (by decide) rfl sf0 all0 rfl rfl rfl (by decide) (by decide)
  clear W
  obtain ⟨rfl, hs1⟩ := hQ1
  subst hs1
  have sf2 := SF1 da V_da.lt (hsf _ (List.mem_of_getElem? (i := 0) rfl))
  replace W1 := W1.cast (st' := []) rfl
  replace W1 := W1.iconst (pc' := 8) (v := (0 : Int32)) djdk_52_86_7 rfl rfl
  replace W1 := W1.istore (pc' := 10) (L' := #[.val (.ref sa), .val (.int (0 : Int32)), .val (.ref da), .val (.int (0 : Int32)), .val (.int (Int32.ofNat T)), .val (.int (0 : Int32))]) djdk_52_86_8 rfl rfl
  replace W1 := W1.castL (L' := #[.val (.ref sa), .val (.int (Int32.ofNat 0)), .val (.ref da), .val (.int (Int32.ofNat 0)), .val (.int (Int32.ofNat T)), .val (.int (Int32.ofNat 0))]) rfl
  have v3 := own_cg (g' := (pu o 0)) V_da own_pu0
  exact ui_lp l Z a0 n0 hw hEL G1 O1 P1 O_as O_hi O_lo G3 O3 rG3 sa ks da kd K f T o 0 p e s m below meth c S0 V1 h0 h0 hO V_sa v3 sf2 N_sa_da hTK hf hp (by omega) g_da hnm W1
theorem ef_lin (m : MethodId) (sa : Addr) (ks : ClassId) (da : Addr) (kd : ClassId) (K : Nat) (f : Nat → Int32) (T : Nat) (o : Nat → Int32) : entryFrame m #[(.ref sa), (.int (0 : Int32)), (.ref da), (.int (0 : Int32)), (.int (Int32.ofNat T))] 5 = mkF m 0 #[.val (.ref sa), .val (.int (0 : Int32)), .val (.ref da), .val (.int (0 : Int32)), .val (.int (Int32.ofNat T))] [] := by first | (simp [entryFrame, mkF, argsToLocals, Value.category]; done) | rfl
set_option maxRecDepth 65536 in
set_option maxHeartbeats 40000000 in
theorem lin (l : Launch) (Z : State) (a0 : Array Value) (n0 : Nat) (hw : ∀ d ∈ tables_1, d.before a0 Z = true) (hEL : EW Z a0 consts_1) (G1 : Int32) (O1 : Sta Z Z.heap "java/lang/String" "COMPACT_STRINGS" "Z" (.int G1)) (P1 : ¬ (G1 = (0 : Int32))) (O_as : Sta Z Z.heap "java/lang/StringUTF16" "$assertionsDisabled" "Z" (.int (1 : Int32))) (O_hi : Sta Z Z.heap "java/lang/StringUTF16" "HI_BYTE_SHIFT" "I" (.int (0 : Int32))) (O_lo : Sta Z Z.heap "java/lang/StringUTF16" "LO_BYTE_SHIFT" "I" (.int (8 : Int32))) (G3 : Value) (O3 : Sta Z Z.heap "jdk/internal/util/Preconditions" "SIOOBE_FORMATTER" "Ljava/util/function/BiFunction;" G3) (rG3 : G3.isRef = true) (sa : Addr) (ks : ClassId) (da : Addr) (kd : ClassId) (K : Nat) (f : Nat → Int32) (T : Nat) (o : Nat → Int32) (h0 : Heap) (hO : Old Z n0 h0) (V_sa : Arv Z h0 sa ks .byte (Int32.ofNat K) (lst K f) (.int (0 : Int32))) (V_da : Arv Z h0 da kd .byte (Int32.ofNat (2 * K)) (lst (2 * K) zf) (.int (0 : Int32))) (N_sa_da : sa ≠ da) (hTK : T ≤ K ∧ K ≤ 32) (hf : ∀ i, i < T → f i = (o i).toInt8.toInt32) (hp : ∀ i, i < T → ¬ o i < 0 ∧ ¬ (255 : Int32) < o i) (g_da : n0 ≤ da) :
    Con l Z consts_1 n0 (⟨"java/lang/StringLatin1", "inflate", "([BI[BII)V"⟩ : MethodName) jdk_43_method_50_code 5 none ({ frames := 4, cells := 0, slots := 0, locals := 60 } : Room) #[(.ref sa), (.int (0 : Int32)), (.ref da), (.int (0 : Int32)), (.int (Int32.ofNat T))] h0 [da] (fun v h V' => v = none ∧ Arv Z h da kd .byte (Int32.ofNat (2 * K)) (lst (2 * K) (pu o T)) (.int (0 : Int32))) [] := by
  refine Con.of (a0 := a0) pf37 (fun m => ef_lin m sa ks da kd K f T o) (allS g_da all0) hO hEL ?_
  intro p e s m below meth c S0 hnm hsf W
  replace W := W.aloadN (pc' := 1) djdk_43_50_0 rfl rfl rfl
  replace W := W.iloadN (pc' := 2) djdk_43_50_1 rfl rfl
  replace W := W.aloadN (pc' := 3) djdk_43_50_2 rfl rfl rfl
  replace W := W.iloadN (pc' := 4) djdk_43_50_3 rfl rfl
  replace W := W.iload (pc' := 6) djdk_43_50_4 rfl rfl
  obtain ⟨V1, h1, r1, W1, K1, hQ1, SF1⟩ := W.callS (pc' := 9) (argsL := [(.ref sa), (.int (0 : Int32)), (.ref da), (.int (0 : Int32)), (.int (Int32.ofNat T))]) (rest := []) (Wd := 0) (cells' := 0) (slots' := 0) (y := (⟨"java/lang/StringUTF16", "inflate", "([BI[BII)V"⟩ : MethodName)) djdk_43_50_6 (uin l Z a0 n0 hw hEL G1 O1 P1 O_as O_hi O_lo G3 O3 rG3 sa ks da kd K f T o h0 W.old V_sa V_da N_sa_da (by omega) hf hp g_da) (tw236 hw) (tw237 hw) (tw115 hw) (tw238 hw) (by decide) (lenOf pd21 rfl) rfl rfl (by decide) (by decide) rfl (sfS (hsf _ (List.mem_of_getElem? (i := 0) rfl)) sf0) (allS (Or.inl (List.mem_of_getElem? (i := 0) rfl)) all0) rfl rfl rfl (by decide) (by decide)
  clear W
  obtain ⟨rfl, q1_1⟩ := hQ1
  have z1 : h0.size ≤ h1.size := K1.1
  replace W1 := W1.cast (st' := []) rfl
  exact W1.vret djdk_43_50_9 rfl (by decide) (by decide) (fun V' cv => ⟨rfl, q1_1⟩)
theorem ef_bin (m : MethodId) (sb : Addr) (va : Addr) (kv : ClassId) (K : Nat) (f : Nat → Int32) (T : Nat) (o : Nat → Int32) : entryFrame m #[(.ref sb)] 2 = mkF m 0 #[.val (.ref sb), .unset] [] := by first | (simp [entryFrame, mkF, argsToLocals, Value.category]; done) | rfl
set_option maxRecDepth 65536 in
set_option maxHeartbeats 40000000 in
theorem bin (l : Launch) (Z : State) (a0 : Array Value) (n0 : Nat) (hw : ∀ d ∈ tables_1, d.before a0 Z = true) (hEL : EW Z a0 consts_1) (G1 : Int32) (O1 : Sta Z Z.heap "java/lang/String" "COMPACT_STRINGS" "Z" (.int G1)) (P1 : ¬ (G1 = (0 : Int32))) (O_as : Sta Z Z.heap "java/lang/StringUTF16" "$assertionsDisabled" "Z" (.int (1 : Int32))) (O_hi : Sta Z Z.heap "java/lang/StringUTF16" "HI_BYTE_SHIFT" "I" (.int (0 : Int32))) (O_lo : Sta Z Z.heap "java/lang/StringUTF16" "LO_BYTE_SHIFT" "I" (.int (8 : Int32))) (G3 : Value) (O3 : Sta Z Z.heap "jdk/internal/util/Preconditions" "SIOOBE_FORMATTER" "Ljava/util/function/BiFunction;" G3) (rG3 : G3.isRef = true) (sb : Addr) (va : Addr) (kv : ClassId) (K : Nat) (f : Nat → Int32) (T : Nat) (o : Nat → Int32) (h0 : Heap) (hO : Old Z n0 h0) (E_sb : Exa Z h0 sb "java/lang/StringBuilder") (F_sb_value : Fld Z h0 sb "java/lang/AbstractStringBuilder" "value" "[B" (.ref va)) (F_sb_coder : Fld Z h0 sb "java/lang/AbstractStringBuilder" "coder" "B" (.int (0 : Int32))) (F_sb_count : Fld Z h0 sb "java/lang/AbstractStringBuilder" "count" "I" (.int (Int32.ofNat T))) (F_sb_maybeLatin1 : Fld Z h0 sb "java/lang/AbstractStringBuilder" "maybeLatin1" "Z" (.int (0 : Int32))) (V_va : Arv Z h0 va kv .byte (Int32.ofNat K) (lst K f) (.int (0 : Int32))) (E_va : Exa Z h0 va "[B") (hTK : T ≤ K ∧ K ≤ 32) (hf : ∀ i, i < T → f i = (o i).toInt8.toInt32) (hp : ∀ i, i < T → ¬ o i < 0 ∧ ¬ (255 : Int32) < o i) (g_sb : n0 ≤ sb) :
    Con l Z consts_1 n0 (⟨"java/lang/AbstractStringBuilder", "inflate", "()V"⟩ : MethodName) jdk_68_method_11_code 2 none ({ frames := 5, cells := 1, slots := 64, locals := 76 } : Room) #[(.ref sb)] h0 [sb] (fun v h V' => ∃ (r : Addr) (kr : ClassId), v = none ∧ Exa Z h sb "java/lang/StringBuilder" ∧ Fld Z h sb "java/lang/AbstractStringBuilder" "value" "[B" (.ref r) ∧ Fld Z h sb "java/lang/AbstractStringBuilder" "coder" "B" (.int (1 : Int32)) ∧ Fld Z h sb "java/lang/AbstractStringBuilder" "count" "I" (.int (Int32.ofNat T)) ∧ Fld Z h sb "java/lang/AbstractStringBuilder" "maybeLatin1" "Z" (.int (0 : Int32)) ∧ Arv Z h r kr .byte (Int32.ofNat (2 * K)) (lst (2 * K) (pu o T)) (.int (0 : Int32)) ∧ Exa Z h r "[B" ∧ h0.size ≤ r ∧ Safe Z consts_1 V' h r) [] := by
  refine Con.of (a0 := a0) pf38 (fun m => ef_bin m sb va kv K f T o) (allS g_sb all0) hO hEL ?_
  intro p e s m below meth c S0 hnm hsf W
  replace W := W.aloadN (pc' := 1) djdk_68_11_0 rfl rfl rfl
  obtain ⟨V1, h1, r1, W1, K1, hQ1, SF1⟩ := W.callV (pc' := 4) (argsL := []) (rest := []) (Wd := 0) (cells' := 0) (slots' := 0) (a := sb) (C := "java/lang/StringBuilder") (y := (⟨"java/lang/AbstractStringBuilder", "isLatin1", "()Z"⟩ : MethodName)) (z := (⟨"java/lang/AbstractStringBuilder", "isLatin1", "()Z"⟩ : MethodName)) djdk_68_11_1 (bil0 l Z a0 n0 hw hEL G1 O1 P1 O_as O_hi O_lo G3 O3 rG3 sb h0 W.old F_sb_coder) E_sb (tw162 hw) (tw89 hw) (Or.inl (tw91 hw)) (tw91 hw) (tw90 hw) (tw52 hw) (tw92 hw) (by decide) (lenOf pd13 rfl) rfl rfl (by decide) (by decide) rfl sf0 all0 rfl rfl rfl (by decide) (by decide)
  clear W
  obtain ⟨rfl, hs1⟩ := hQ1
  subst hs1
  replace W1 := W1.cast (st' := [(.int (1 : Int32))]) rfl
  replace W1 := W1.ifT (pc' := 8) djdk_68_11_4 (feq (by decide : ¬ ((1 : Int32) = (0 : Int32)))).2 (by decide) (by decide)
  replace W1 := W1.aloadN (pc' := 9) djdk_68_11_8 rfl rfl rfl
  replace W1 := W1.getf (pc' := 12) djdk_68_11_9 (tw56 hw) Via.refl F_sb_value rfl
  replace W1 := W1.alen (pc' := 13) djdk_68_11_12 V_va rfl
  obtain ⟨V2, h2, r2, W2, K2, hQ2, SF2⟩ := W1.callS (pc' := 16) (argsL := [(.int (Int32.ofNat K))]) (rest := []) (Wd := 0) (cells' := 1) (slots' := 64) (y := (⟨"java/lang/StringUTF16", "newBytesFor", "(I)[B"⟩ : MethodName)) djdk_68_11_13 (nbf l Z a0 n0 hw hEL G1 O1 P1 O_as O_hi O_lo G3 O3 rG3 K h0 W1.old (by omega)) (tw232 hw) (tw202 hw) (tw115 hw) (tw203 hw) (by decide) (lenOf pd2 rfl) rfl rfl (by decide) (by decide) rfl sf0 all0 rfl rfl rfl (by decide) (by decide)
  clear W1
  obtain ⟨r2, kr2, rfl, q2_1, q2_2, q2_3, q2_4⟩ := hQ2
  have z2 : h0.size ≤ h2.size := K2.1
  replace W2 := W2.cast (st' := [(.ref r2)]) rfl
  replace W2 := W2.astoreN (pc' := 17) (L' := #[.val (.ref sb), .val (.ref r2)]) djdk_68_11_16 rfl rfl rfl
  replace W2 := W2.aloadN (pc' := 18) djdk_68_11_17 rfl rfl rfl
  have f3 := (F_sb_value.keep K2 nin0)
  replace W2 := W2.getf (pc' := 21) djdk_68_11_18 (tw56 hw) Via.refl f3 rfl
  replace W2 := W2.iconst (pc' := 22) (v := (0 : Int32)) djdk_68_11_21 rfl rfl
  replace W2 := W2.aloadN (pc' := 23) djdk_68_11_22 rfl rfl rfl
  replace W2 := W2.iconst (pc' := 24) (v := (0 : Int32)) djdk_68_11_23 rfl rfl
  replace W2 := W2.aloadN (pc' := 25) djdk_68_11_24 rfl rfl rfl
  have f4 := (F_sb_count.keep K2 nin0)
  replace W2 := W2.getf (pc' := 28) djdk_68_11_25 (tw86 hw) Via.refl f4 rfl
  have v5 := (V_va.keep K2 nin0)
  obtain ⟨V6, h6, r6, W6, K6, hQ6, SF6⟩ := W2.callS (pc' := 31) (argsL := [(.ref va), (.int (0 : Int32)), (.ref r2), (.int (0 : Int32)), (.int (Int32.ofNat T))]) (rest := []) (Wd := 0) (cells' := 1) (slots' := 64) (y := (⟨"java/lang/StringLatin1", "inflate", "([BI[BII)V"⟩ : MethodName)) djdk_68_11_28 (lin l Z a0 n0 hw hEL G1 O1 P1 O_as O_hi O_lo G3 O3 rG3 va kv r2 kr2 K f T o h2 W2.old v5 q2_1 (Nat.ne_of_lt (Nat.lt_of_lt_of_le V_va.lt q2_3)) (by omega) hf hp (Nat.le_trans W2.1.2.2.2.2.2.2.2.1 q2_3)) (tw233 hw) (tw234 hw) (tw135 hw) (tw235 hw) (by decide) (lenOf pd21 rfl) rfl rfl (by decide) (by decide) rfl (sfS q2_4 sf0) (allS (Or.inr q2_3) all0) rfl rfl rfl (by decide) (by decide)
  clear W2
  obtain ⟨rfl, q6_1⟩ := hQ6
  have z6 : h2.size ≤ h6.size := K6.1
  replace W6 := W6.cast (st' := []) rfl
  replace W6 := W6.aloadN (pc' := 32) djdk_68_11_31 rfl rfl rfl
  replace W6 := W6.aloadN (pc' := 33) djdk_68_11_32 rfl rfl rfl
  have f7 := (f3.keep K6 (ninS (Nat.ne_of_lt (Nat.lt_of_lt_of_le E_sb.lt q2_3)) nin0))
  have e8 := ((E_sb.keep K2).keep K6)
  obtain ⟨h9, W9, w9, SF9⟩ := W6.putf (pc' := 36) (ty := (.array .byte)) djdk_68_11_33 (tw56 hw) Via.refl f7 e8 (Or.inl (tw57 hw)) (tw32 hw) (by decide) rfl rfl (W6.safeE e8 (by decide) (by decide)) (Or.inl (List.mem_of_getElem? (i := 0) rfl)) rfl
  clear W6
  have z9 : h6.size ≤ h9.size := Nat.le_of_eq w9.size.symm
  have f9 := f7.same w9
  replace W9 := W9.aloadN (pc' := 37) djdk_68_11_36 rfl rfl rfl
  replace W9 := W9.iconst (pc' := 38) (v := (1 : Int32)) djdk_68_11_37 rfl rfl
  have f10 := (((F_sb_coder.keep K2 nin0).keep K6 (ninS (Nat.ne_of_lt (Nat.lt_of_lt_of_le E_sb.lt q2_3)) nin0)).other w9 (Or.inr (slot_ne (C := "java/lang/StringBuilder") (Or.inl (tw59 hw)) (Or.inl (tw57 hw)) (by decide) (t := .byte) (t' := (.array .byte)) (by decide) (by decide))))
  have e11 := (e8.wr w9)
  obtain ⟨h12, W12, w12, SF12⟩ := W9.putf (pc' := 41) (ty := .byte) djdk_68_11_38 (tw58 hw) Via.refl f10 e11 (Or.inl (tw59 hw)) (tw32 hw) (by decide) rfl rfl (W9.safeE e11 (by decide) (by decide)) (Or.inl (List.mem_of_getElem? (i := 0) rfl)) rfl
  clear W9
  have z12 : h9.size ≤ h12.size := Nat.le_of_eq w12.size.symm
  have f12 := f10.same w12
  have e13 := (e11.wr w12)
  have f14 := (f9.other w12 (Or.inr (slot_ne (C := "java/lang/StringBuilder") (Or.inl (tw57 hw)) (Or.inl (tw59 hw)) (by decide) (t := (.array .byte)) (t' := .byte) (by decide) (by decide))))
  have f15 := (((f4.keep K6 (ninS (Nat.ne_of_lt (Nat.lt_of_lt_of_le E_sb.lt q2_3)) nin0)).other w9 (Or.inr (slot_ne (C := "java/lang/StringBuilder") (Or.inl (tw87 hw)) (Or.inl (tw57 hw)) (by decide) (t := .int) (t' := (.array .byte)) (by decide) (by decide)))).other w12 (Or.inr (slot_ne (C := "java/lang/StringBuilder") (Or.inl (tw87 hw)) (Or.inl (tw59 hw)) (by decide) (t := .int) (t' := .byte) (by decide) (by decide))))
  have f16 := ((((F_sb_maybeLatin1.keep K2 nin0).keep K6 (ninS (Nat.ne_of_lt (Nat.lt_of_lt_of_le E_sb.lt q2_3)) nin0)).other w9 (Or.inr (slot_ne (C := "java/lang/StringBuilder") (Or.inl (tw252 hw)) (Or.inl (tw57 hw)) (by decide) (t := .boolean) (t' := (.array .byte)) (by decide) (by decide)))).other w12 (Or.inr (slot_ne (C := "java/lang/StringBuilder") (Or.inl (tw252 hw)) (Or.inl (tw59 hw)) (by decide) (t := .boolean) (t' := .byte) (by decide) (by decide))))
  have v17 := ((q6_1.other w9 (Nat.ne_of_gt (Nat.lt_of_lt_of_le E_sb.lt q2_3))).other w12 (Nat.ne_of_gt (Nat.lt_of_lt_of_le E_sb.lt q2_3)))
  have e18 := (((q2_2.keep K6).wr w9).wr w12)
  have sf19 := (SF12 r2 (SF9 r2 (SF6 r2 q2_1.lt q2_4)))
  exact W12.vret djdk_68_11_41 rfl (by decide) (by decide) (fun V' cv => ⟨r2, kr2, rfl, e13, f14, f12, f15, f16, v17, e18, q2_3, (cv r2 (Nat.lt_of_lt_of_le q6_1.lt (Nat.le_trans z9 z12)) sf19)⟩)
theorem ef_pcsb (m : MethodId) (ba : Addr) (kb : ClassId) (K : Nat) (f : Nat → Int32) (i : Nat) (cz : Int32) : entryFrame m #[(.ref ba), (.int (Int32.ofNat i)), (.int cz)] 3 = mkF m 0 #[.val (.ref ba), .val (.int (Int32.ofNat i)), .val (.int cz)] [] := by first | (simp [entryFrame, mkF, argsToLocals, Value.category]; done) | rfl
set_option maxRecDepth 65536 in
set_option maxHeartbeats 40000000 in
theorem pcsb (l : Launch) (Z : State) (a0 : Array Value) (n0 : Nat) (hw : ∀ d ∈ tables_1, d.before a0 Z = true) (hEL : EW Z a0 consts_1) (G1 : Int32) (O1 : Sta Z Z.heap "java/lang/String" "COMPACT_STRINGS" "Z" (.int G1)) (P1 : ¬ (G1 = (0 : Int32))) (O_as : Sta Z Z.heap "java/lang/StringUTF16" "$assertionsDisabled" "Z" (.int (1 : Int32))) (O_hi : Sta Z Z.heap "java/lang/StringUTF16" "HI_BYTE_SHIFT" "I" (.int (0 : Int32))) (O_lo : Sta Z Z.heap "java/lang/StringUTF16" "LO_BYTE_SHIFT" "I" (.int (8 : Int32))) (G3 : Value) (O3 : Sta Z Z.heap "jdk/internal/util/Preconditions" "SIOOBE_FORMATTER" "Ljava/util/function/BiFunction;" G3) (rG3 : G3.isRef = true) (ba : Addr) (kb : ClassId) (K : Nat) (f : Nat → Int32) (i : Nat) (cz : Int32) (h0 : Heap) (hO : Old Z n0 h0) (V_ba : Arv Z h0 ba kb .byte (Int32.ofNat (2 * K)) (lst (2 * K) f) (.int (0 : Int32))) (hK : K ≤ 32) (hi : i < K) (g_ba : n0 ≤ ba) :
    Con l Z consts_1 n0 (⟨"java/lang/StringUTF16", "putCharSB", "([BII)V"⟩ : MethodName) jdk_52_method_71_code 3 none ({ frames := 3, cells := 0, slots := 0, locals := 40 } : Room) #[(.ref ba), (.int (Int32.ofNat i)), (.int cz)] h0 [ba] (fun v h V' => v = none ∧ Arv Z h ba kb .byte (Int32.ofNat (2 * K)) (lst (2 * K) (upd (upd f (2 * i) (cz.toInt8.toInt32)) ((2 * i) + 1) ((cz >>> ((8 : Int32) &&& 31)).toInt8.toInt32))) (.int (0 : Int32))) [] := by
  refine Con.of (a0 := a0) pf39 (fun m => ef_pcsb m ba kb K f i cz) (allS g_ba all0) hO hEL ?_
  intro p e s m below meth c S0 hnm hsf W
  replace W := W.iloadN (pc' := 1) djdk_52_71_0 rfl rfl
  replace W := W.aloadN (pc' := 2) djdk_52_71_1 rfl rfl rfl
  obtain ⟨V1, h1, r1, W1, K1, hQ1, SF1⟩ := W.callS (pc' := 5) (argsL := [(.int (Int32.ofNat i)), (.ref ba)]) (rest := []) (Wd := 0) (cells' := 0) (slots' := 0) (y := (⟨"java/lang/StringUTF16", "checkIndex", "(I[B)V"⟩ : MethodName)) djdk_52_71_2 (uci l Z a0 n0 hw hEL G1 O1 P1 O_as O_hi O_lo G3 O3 rG3 i ba kb K f h0 W.old V_ba (by omega) (by omega)) (tw220 hw) (tw221 hw) (tw115 hw) (tw222 hw) (by decide) (lenOf pd12 rfl) rfl rfl (by decide) (by decide) rfl sf0 all0 rfl rfl rfl (by decide) (by decide)
  clear W
  obtain ⟨rfl, hs1⟩ := hQ1
  subst hs1
  have sf2 := SF1 ba V_ba.lt (hsf _ (List.mem_of_getElem? (i := 0) rfl))
  replace W1 := W1.cast (st' := []) rfl
  replace W1 := W1.aloadN (pc' := 6) djdk_52_71_5 rfl rfl rfl
  replace W1 := W1.iloadN (pc' := 7) djdk_52_71_6 rfl rfl
  replace W1 := W1.iloadN (pc' := 8) djdk_52_71_7 rfl rfl
  obtain ⟨V3, h3, r3, W3, K3, hQ3, SF3⟩ := W1.callS (pc' := 11) (argsL := [(.ref ba), (.int (Int32.ofNat i)), (.int cz)]) (rest := []) (Wd := 0) (cells' := 0) (slots' := 0) (y := (⟨"java/lang/StringUTF16", "putChar", "([BII)V"⟩ : MethodName)) djdk_52_71_8 (putc l Z a0 n0 hw hEL G1 O1 P1 O_as O_hi O_lo G3 O3 rG3 ba kb K f i cz h0 W1.old V_ba (by omega) (by omega) g_ba) (tw208 hw) (tw209 hw) (tw115 hw) (tw210 hw) (by decide) (lenOf pd1 rfl) rfl rfl (by decide) (by decide) rfl (sfS sf2 sf0) (allS (Or.inl (List.mem_of_getElem? (i := 0) rfl)) all0) rfl rfl rfl (by decide) (by decide)
  clear W1
  obtain ⟨rfl, q3_1⟩ := hQ3
  have z3 : h0.size ≤ h3.size := K3.1
  replace W3 := W3.cast (st' := []) rfl
  exact W3.vret djdk_52_71_11 rfl (by decide) (by decide) (fun V' cv => ⟨rfl, q3_1⟩)
theorem ef_app (m : MethodId) (sb : Addr) (va : Addr) (kv : ClassId) (cb : Int32) (KB : Nat) (K : Nat) (f : Nat → Int32) (T : Nat) (o : Nat → Int32) (cz : Int32) : entryFrame m #[(.ref sb), (.int cz)] 2 = mkF m 0 #[.val (.ref sb), .val (.int cz)] [] := by first | (simp [entryFrame, mkF, argsToLocals, Value.category]; done) | rfl
set_option maxRecDepth 65536 in
set_option maxHeartbeats 40000000 in
theorem app (l : Launch) (Z : State) (a0 : Array Value) (n0 : Nat) (hw : ∀ d ∈ tables_1, d.before a0 Z = true) (hEL : EW Z a0 consts_1) (G1 : Int32) (O1 : Sta Z Z.heap "java/lang/String" "COMPACT_STRINGS" "Z" (.int G1)) (P1 : ¬ (G1 = (0 : Int32))) (O_as : Sta Z Z.heap "java/lang/StringUTF16" "$assertionsDisabled" "Z" (.int (1 : Int32))) (O_hi : Sta Z Z.heap "java/lang/StringUTF16" "HI_BYTE_SHIFT" "I" (.int (0 : Int32))) (O_lo : Sta Z Z.heap "java/lang/StringUTF16" "LO_BYTE_SHIFT" "I" (.int (8 : Int32))) (G3 : Value) (O3 : Sta Z Z.heap "jdk/internal/util/Preconditions" "SIOOBE_FORMATTER" "Ljava/util/function/BiFunction;" G3) (rG3 : G3.isRef = true) (sb : Addr) (va : Addr) (kv : ClassId) (cb : Int32) (KB : Nat) (K : Nat) (f : Nat → Int32) (T : Nat) (o : Nat → Int32) (cz : Int32) (h0 : Heap) (hO : Old Z n0 h0) (E_sb : Exa Z h0 sb "java/lang/StringBuilder") (F_sb_value : Fld Z h0 sb "java/lang/AbstractStringBuilder" "value" "[B" (.ref va)) (F_sb_coder : Fld Z h0 sb "java/lang/AbstractStringBuilder" "coder" "B" (.int cb)) (F_sb_count : Fld Z h0 sb "java/lang/AbstractStringBuilder" "count" "I" (.int (Int32.ofNat T))) (F_sb_maybeLatin1 : Fld Z h0 sb "java/lang/AbstractStringBuilder" "maybeLatin1" "Z" (.int (0 : Int32))) (V_va : Arv Z h0 va kv .byte (Int32.ofNat KB) (lst KB f) (.int (0 : Int32))) (E_va : Exa Z h0 va "[B") (bok : BOK cb KB K f T o) (hT : T ≤ K ∧ 1 ≤ K ∧ K ≤ 15) (ch : CH cz) (ho : ∀ i, i < T → CH (o i)) (g_sb : n0 ≤ sb) (g_va : n0 ≤ va) :
    Con l Z consts_1 n0 (⟨"java/lang/AbstractStringBuilder", "append", "(C)Ljava/lang/AbstractStringBuilder;"⟩ : MethodName) jdk_68_method_31_code 2 (some (.object "java/lang/AbstractStringBuilder")) ({ frames := 6, cells := 2, slots := 128, locals := 89 } : Room) #[(.ref sb), (.int cz)] h0 [sb, va] (fun v h V' => ∃ (va2 : Addr) (kv2 : ClassId) (cb2 : Int32) (KB2 : Nat) (K2 : Nat) (f2 : Nat → Int32), v = some (.ref sb) ∧ Exa Z h sb "java/lang/StringBuilder" ∧ Fld Z h sb "java/lang/AbstractStringBuilder" "value" "[B" (.ref va2) ∧ Fld Z h sb "java/lang/AbstractStringBuilder" "coder" "B" (.int cb2) ∧ Fld Z h sb "java/lang/AbstractStringBuilder" "count" "I" (.int (Int32.ofNat (T + 1))) ∧ Fld Z h sb "java/lang/AbstractStringBuilder" "maybeLatin1" "Z" (.int (0 : Int32)) ∧ Arv Z h va2 kv2 .byte (Int32.ofNat KB2) (lst KB2 f2) (.int (0 : Int32)) ∧ Exa Z h va2 "[B" ∧ Safe Z consts_1 V' h va2 ∧ BOK cb2 KB2 K2 f2 (T + 1) (upd o T cz) ∧ (T + 1 ≤ K2 ∧ (K2 ≤ K ∨ K2 ≤ 2 * T + 2)) ∧ (va2 = va ∨ h0.size ≤ va2)) [] := by
  refine Con.of (a0 := a0) pf40 (fun m => ef_app m sb va kv cb KB K f T o cz) (allS g_sb (allS g_va all0)) hO hEL ?_
  intro p e s m below meth c S0 hnm hsf W
  rcases bok with ⟨e1, e2, hl0, hl⟩ | ⟨e1, e2, hu⟩
  · subst e1
    subst e2
    by_cases hroom : T + 1 ≤ K
    · have hroom2 := hroom
      by_cases hwd : (255 : Int32) < cz
      · replace W := W.aloadN (pc' := 1) djdk_68_31_0 rfl rfl rfl
        replace W := W.aloadN (pc' := 2) djdk_68_31_1 rfl rfl rfl
        replace W := W.getf (pc' := 5) djdk_68_31_2 (tw86 hw) Via.refl F_sb_count rfl
        replace W := W.iconst (pc' := 6) (v := (1 : Int32)) djdk_68_31_5 rfl rfl
        replace W := W.iadd (pc' := 7) (v := (Int32.ofNat (T + 1))) djdk_68_31_6 (own_add1 _) rfl
        obtain ⟨V1, h1, r1, W1, K1, hQ1, SF1⟩ := W.callQ (pc' := 10) (argsL := [(.int (Int32.ofNat (T + 1)))]) (rest := []) (Wd := 0) (cells' := 0) (slots' := 0) (a := sb) (C := "java/lang/StringBuilder") (y := (⟨"java/lang/AbstractStringBuilder", "ensureCapacityInternal", "(I)V"⟩ : MethodName)) djdk_68_31_7 (ensr0 l Z a0 n0 hw hEL G1 O1 P1 O_as O_hi O_lo G3 O3 rG3 sb va kv K f T h0 W.old F_sb_value F_sb_coder V_va (by omega)) E_sb (tw157 hw) (tw158 hw) (tw160 hw) (tw159 hw) (tw52 hw) (tw161 hw) (by decide) (lenOf pd14 rfl) rfl rfl (by decide) (by decide) rfl sf0 all0 rfl rfl rfl (by decide) (by decide)
        clear W
        obtain ⟨rfl, hs1⟩ := hQ1
        subst hs1
        have sf2 := SF1 va V_va.lt (hsf _ (List.mem_of_getElem? (i := 1) rfl))
        replace W1 := W1.cast (st' := []) rfl
        replace W1 := W1.aloadN (pc' := 11) djdk_68_31_10 rfl rfl rfl
        obtain ⟨V3, h3, r3, W3, K3, hQ3, SF3⟩ := W1.callV (pc' := 14) (argsL := []) (rest := []) (Wd := 0) (cells' := 0) (slots' := 0) (a := sb) (C := "java/lang/StringBuilder") (y := (⟨"java/lang/AbstractStringBuilder", "isLatin1", "()Z"⟩ : MethodName)) (z := (⟨"java/lang/AbstractStringBuilder", "isLatin1", "()Z"⟩ : MethodName)) djdk_68_31_11 (bil0 l Z a0 n0 hw hEL G1 O1 P1 O_as O_hi O_lo G3 O3 rG3 sb h0 W1.old F_sb_coder) E_sb (tw162 hw) (tw89 hw) (Or.inl (tw91 hw)) (tw91 hw) (tw90 hw) (tw52 hw) (tw92 hw) (by decide) (lenOf pd13 rfl) rfl rfl (by decide) (by decide) rfl sf0 all0 rfl rfl rfl (by decide) (by decide)
        clear W1
        obtain ⟨rfl, hs3⟩ := hQ3
        subst hs3
        have sf4 := SF3 va V_va.lt sf2
        replace W3 := W3.cast (st' := [(.int (1 : Int32))]) rfl
        replace W3 := W3.ifF (pc' := 17) djdk_68_31_14 (feq (by decide : ¬ ((1 : Int32) = (0 : Int32)))).1 rfl
        replace W3 := W3.iloadN (pc' := 18) djdk_68_31_17 rfl rfl
        obtain ⟨V5, h5, r5, W5, K5, hQ5, SF5⟩ := W3.callS (pc' := 21) (argsL := [(.int cz)]) (rest := []) (Wd := 0) (cells' := 0) (slots' := 0) (y := (⟨"java/lang/StringLatin1", "canEncode", "(C)Z"⟩ : MethodName)) djdk_68_31_18 (can0 l Z a0 n0 hw hEL G1 O1 P1 O_as O_hi O_lo G3 O3 rG3 cz h0 W3.old hwd) (tw163 hw) (tw164 hw) (tw135 hw) (tw165 hw) (by decide) (lenOf pd22 rfl) rfl rfl (by decide) (by decide) rfl sf0 all0 rfl rfl rfl (by decide) (by decide)
        clear W3
        obtain ⟨rfl, hs5⟩ := hQ5
        subst hs5
        have sf6 := SF5 va V_va.lt sf4
        replace W5 := W5.cast (st' := [(.int (0 : Int32))]) rfl
        replace W5 := W5.ifT (pc' := 45) djdk_68_31_21 (teq (by decide : (0 : Int32) = (0 : Int32))).1 (by decide) (by decide)
        replace W5 := W5.aloadN (pc' := 46) djdk_68_31_45 rfl rfl rfl
        obtain ⟨V7, h7, r7, W7, K7, hQ7, SF7⟩ := W5.callV (pc' := 49) (argsL := []) (rest := []) (Wd := 0) (cells' := 0) (slots' := 0) (a := sb) (C := "java/lang/StringBuilder") (y := (⟨"java/lang/AbstractStringBuilder", "isLatin1", "()Z"⟩ : MethodName)) (z := (⟨"java/lang/AbstractStringBuilder", "isLatin1", "()Z"⟩ : MethodName)) djdk_68_31_46 (bil0 l Z a0 n0 hw hEL G1 O1 P1 O_as O_hi O_lo G3 O3 rG3 sb h0 W5.old F_sb_coder) E_sb (tw162 hw) (tw89 hw) (Or.inl (tw91 hw)) (tw91 hw) (tw90 hw) (tw52 hw) (tw92 hw) (by decide) (lenOf pd13 rfl) rfl rfl (by decide) (by decide) rfl sf0 all0 rfl rfl rfl (by decide) (by decide)
        clear W5
        obtain ⟨rfl, hs7⟩ := hQ7
        subst hs7
        have sf8 := SF7 va V_va.lt sf6
        replace W7 := W7.cast (st' := [(.int (1 : Int32))]) rfl
        replace W7 := W7.ifF (pc' := 52) djdk_68_31_49 (feq (by decide : ¬ ((1 : Int32) = (0 : Int32)))).1 rfl
        replace W7 := W7.aloadN (pc' := 53) djdk_68_31_52 rfl rfl rfl
        obtain ⟨V9, h9, r9, W9, K9, hQ9, SF9⟩ := W7.callQ (pc' := 56) (argsL := []) (rest := []) (Wd := 0) (cells' := 1) (slots' := 64) (a := sb) (C := "java/lang/StringBuilder") (y := (⟨"java/lang/AbstractStringBuilder", "inflate", "()V"⟩ : MethodName)) djdk_68_31_53 (bin l Z a0 n0 hw hEL G1 O1 P1 O_as O_hi O_lo G3 O3 rG3 sb va kv K f T o h0 W7.old E_sb F_sb_value F_sb_coder F_sb_count F_sb_maybeLatin1 V_va E_va (by omega) hl0 (fun i hi => ⟨(ho i hi).1, hl i hi⟩) g_sb) E_sb (tw227 hw) (tw228 hw) (tw230 hw) (tw229 hw) (tw52 hw) (tw231 hw) (by decide) (lenOf pd23 rfl) rfl rfl (by decide) (by decide) rfl (sfS (W7.safeE E_sb (by decide) (by decide)) sf0) (allS (Or.inl (List.mem_of_getElem? (i := 0) rfl)) all0) rfl rfl rfl (by decide) (by decide)
        clear W7
        obtain ⟨r9, kr9, rfl, q9_1, q9_2, q9_3, q9_4, q9_5, q9_6, q9_7, q9_8, q9_9⟩ := hQ9
        have z9 : h0.size ≤ h9.size := K9.1
        replace W9 := W9.cast (st' := []) rfl
        replace W9 := W9.aloadN (pc' := 57) djdk_68_31_56 rfl rfl rfl
        replace W9 := W9.getf (pc' := 60) djdk_68_31_57 (tw56 hw) Via.refl q9_2 rfl
        replace W9 := W9.aloadN (pc' := 61) djdk_68_31_60 rfl rfl rfl
        replace W9 := W9.dup (pc' := 62) djdk_68_31_61 rfl rfl
        replace W9 := W9.getf (pc' := 65) djdk_68_31_62 (tw86 hw) Via.refl q9_4 rfl
        replace W9 := W9.dupX1 (pc' := 66) djdk_68_31_65 rfl rfl rfl
        replace W9 := W9.iconst (pc' := 67) (v := (1 : Int32)) djdk_68_31_66 rfl rfl
        replace W9 := W9.iadd (pc' := 68) (v := (Int32.ofNat (T + 1))) djdk_68_31_67 (own_add1 _) rfl
        obtain ⟨h10, W10, w10, SF10⟩ := W9.putf (pc' := 71) (ty := .int) djdk_68_31_68 (tw86 hw) Via.refl q9_4 q9_1 (Or.inl (tw87 hw)) (tw32 hw) (by decide) rfl rfl (W9.safeE q9_1 (by decide) (by decide)) (Or.inl (List.mem_of_getElem? (i := 0) rfl)) rfl
        clear W9
        have z10 : h9.size ≤ h10.size := Nat.le_of_eq w10.size.symm
        have f10 := q9_4.same w10
        replace W10 := W10.iloadN (pc' := 72) djdk_68_31_71 rfl rfl
        have v11 := (q9_6.other w10 (Nat.ne_of_gt (Nat.lt_of_lt_of_le E_sb.lt q9_8)))
        have sf12 := (SF10 r9 q9_9)
        obtain ⟨V13, h13, r13, W13, K13, hQ13, SF13⟩ := W10.callS (pc' := 75) (argsL := [(.ref r9), (.int (Int32.ofNat T)), (.int cz)]) (rest := []) (Wd := 0) (cells' := 1) (slots' := 64) (y := (⟨"java/lang/StringUTF16", "putCharSB", "([BII)V"⟩ : MethodName)) djdk_68_31_72 (pcsb l Z a0 n0 hw hEL G1 O1 P1 O_as O_hi O_lo G3 O3 rG3 r9 kr9 K (pu o T) T cz h10 W10.old v11 (by omega) (by omega) (Nat.le_trans W10.1.2.2.2.2.2.2.2.1 q9_8)) (tw248 hw) (tw249 hw) (tw115 hw) (tw250 hw) (by decide) (lenOf pd1 rfl) rfl rfl (by decide) (by decide) rfl (sfS sf12 sf0) (allS (Or.inr q9_8) all0) rfl rfl rfl (by decide) (by decide)
        clear W10
        obtain ⟨rfl, q13_1⟩ := hQ13
        have z13 : h10.size ≤ h13.size := K13.1
        replace W13 := W13.cast (st' := []) rfl
        replace W13 := W13.aloadN (pc' := 76) djdk_68_31_75 rfl rfl rfl
        have e14 := ((q9_1.wr w10).keep K13)
        have f15 := ((q9_2.other w10 (Or.inr (slot_ne (C := "java/lang/StringBuilder") (Or.inl (tw57 hw)) (Or.inl (tw87 hw)) (by decide) (t := (.array .byte)) (t' := .int) (by decide) (by decide)))).keep K13 (ninS (Nat.ne_of_lt (Nat.lt_of_lt_of_le E_sb.lt q9_8)) nin0))
        have f16 := ((q9_3.other w10 (Or.inr (slot_ne (C := "java/lang/StringBuilder") (Or.inl (tw59 hw)) (Or.inl (tw87 hw)) (by decide) (t := .byte) (t' := .int) (by decide) (by decide)))).keep K13 (ninS (Nat.ne_of_lt (Nat.lt_of_lt_of_le E_sb.lt q9_8)) nin0))
        have f17 := (f10.keep K13 (ninS (Nat.ne_of_lt (Nat.lt_of_lt_of_le E_sb.lt q9_8)) nin0))
        have f18 := ((q9_5.other w10 (Or.inr (slot_ne (C := "java/lang/StringBuilder") (Or.inl (tw252 hw)) (Or.inl (tw87 hw)) (by decide) (t := .boolean) (t' := .int) (by decide) (by decide)))).keep K13 (ninS (Nat.ne_of_lt (Nat.lt_of_lt_of_le E_sb.lt q9_8)) nin0))
        have e19 := ((q9_7.wr w10).keep K13)
        have sf20 := (SF13 r9 (Nat.lt_of_lt_of_le q9_6.lt z10) sf12)
        exact W13.aret (t := (.object "java/lang/AbstractStringBuilder")) djdk_68_31_76 rfl rfl rfl rfl (by decide) (by decide) (fun V' cv => ⟨r9, kr9, (1 : Int32), (2 * K), K, (upd (upd (pu o T) (2 * T) (cz.toInt8.toInt32)) ((2 * T) + 1) ((cz >>> ((8 : Int32) &&& 31)).toInt8.toInt32)), rfl, e14, f15, f16, f17, f18, q13_1, e19, (cv r9 q13_1.lt sf20), (bok_U pu_bok), (by omega), (Or.inr q9_8)⟩)
      · replace W := W.aloadN (pc' := 1) djdk_68_31_0 rfl rfl rfl
        replace W := W.aloadN (pc' := 2) djdk_68_31_1 rfl rfl rfl
        replace W := W.getf (pc' := 5) djdk_68_31_2 (tw86 hw) Via.refl F_sb_count rfl
        replace W := W.iconst (pc' := 6) (v := (1 : Int32)) djdk_68_31_5 rfl rfl
        replace W := W.iadd (pc' := 7) (v := (Int32.ofNat (T + 1))) djdk_68_31_6 (own_add1 _) rfl
        obtain ⟨V21, h21, r21, W21, K21, hQ21, SF21⟩ := W.callQ (pc' := 10) (argsL := [(.int (Int32.ofNat (T + 1)))]) (rest := []) (Wd := 0) (cells' := 0) (slots' := 0) (a := sb) (C := "java/lang/StringBuilder") (y := (⟨"java/lang/AbstractStringBuilder", "ensureCapacityInternal", "(I)V"⟩ : MethodName)) djdk_68_31_7 (ensr0 l Z a0 n0 hw hEL G1 O1 P1 O_as O_hi O_lo G3 O3 rG3 sb va kv K f T h0 W.old F_sb_value F_sb_coder V_va (by omega)) E_sb (tw157 hw) (tw158 hw) (tw160 hw) (tw159 hw) (tw52 hw) (tw161 hw) (by decide) (lenOf pd14 rfl) rfl rfl (by decide) (by decide) rfl sf0 all0 rfl rfl rfl (by decide) (by decide)
        clear W
        obtain ⟨rfl, hs21⟩ := hQ21
        subst hs21
        have sf22 := SF21 va V_va.lt (hsf _ (List.mem_of_getElem? (i := 1) rfl))
        replace W21 := W21.cast (st' := []) rfl
        replace W21 := W21.aloadN (pc' := 11) djdk_68_31_10 rfl rfl rfl
        obtain ⟨V23, h23, r23, W23, K23, hQ23, SF23⟩ := W21.callV (pc' := 14) (argsL := []) (rest := []) (Wd := 0) (cells' := 0) (slots' := 0) (a := sb) (C := "java/lang/StringBuilder") (y := (⟨"java/lang/AbstractStringBuilder", "isLatin1", "()Z"⟩ : MethodName)) (z := (⟨"java/lang/AbstractStringBuilder", "isLatin1", "()Z"⟩ : MethodName)) djdk_68_31_11 (bil0 l Z a0 n0 hw hEL G1 O1 P1 O_as O_hi O_lo G3 O3 rG3 sb h0 W21.old F_sb_coder) E_sb (tw162 hw) (tw89 hw) (Or.inl (tw91 hw)) (tw91 hw) (tw90 hw) (tw52 hw) (tw92 hw) (by decide) (lenOf pd13 rfl) rfl rfl (by decide) (by decide) rfl sf0 all0 rfl rfl rfl (by decide) (by decide)
        clear W21
        obtain ⟨rfl, hs23⟩ := hQ23
        subst hs23
        have sf24 := SF23 va V_va.lt sf22
        replace W23 := W23.cast (st' := [(.int (1 : Int32))]) rfl
        replace W23 := W23.ifF (pc' := 17) djdk_68_31_14 (feq (by decide : ¬ ((1 : Int32) = (0 : Int32)))).1 rfl
        replace W23 := W23.iloadN (pc' := 18) djdk_68_31_17 rfl rfl
        obtain ⟨V25, h25, r25, W25, K25, hQ25, SF25⟩ := W23.callS (pc' := 21) (argsL := [(.int cz)]) (rest := []) (Wd := 0) (cells' := 0) (slots' := 0) (y := (⟨"java/lang/StringLatin1", "canEncode", "(C)Z"⟩ : MethodName)) djdk_68_31_18 (can1 l Z a0 n0 hw hEL G1 O1 P1 O_as O_hi O_lo G3 O3 rG3 cz h0 W23.old hwd) (tw163 hw) (tw164 hw) (tw135 hw) (tw165 hw) (by decide) (lenOf pd22 rfl) rfl rfl (by decide) (by decide) rfl sf0 all0 rfl rfl rfl (by decide) (by decide)
        clear W23
        obtain ⟨rfl, hs25⟩ := hQ25
        subst hs25
        have sf26 := SF25 va V_va.lt sf24
        replace W25 := W25.cast (st' := [(.int (1 : Int32))]) rfl
        replace W25 := W25.ifF (pc' := 24) djdk_68_31_21 (feq (by decide : ¬ ((1 : Int32) = (0 : Int32)))).1 rfl
        replace W25 := W25.aloadN (pc' := 25) djdk_68_31_24 rfl rfl rfl
        replace W25 := W25.getf (pc' := 28) djdk_68_31_25 (tw56 hw) Via.refl F_sb_value rfl
        replace W25 := W25.aloadN (pc' := 29) djdk_68_31_28 rfl rfl rfl
        replace W25 := W25.dup (pc' := 30) djdk_68_31_29 rfl rfl
        replace W25 := W25.getf (pc' := 33) djdk_68_31_30 (tw86 hw) Via.refl F_sb_count rfl
        replace W25 := W25.dupX1 (pc' := 34) djdk_68_31_33 rfl rfl rfl
        replace W25 := W25.iconst (pc' := 35) (v := (1 : Int32)) djdk_68_31_34 rfl rfl
        replace W25 := W25.iadd (pc' := 36) (v := (Int32.ofNat (T + 1))) djdk_68_31_35 (own_add1 _) rfl
        obtain ⟨h27, W27, w27, SF27⟩ := W25.putf (pc' := 39) (ty := .int) djdk_68_31_36 (tw86 hw) Via.refl F_sb_count E_sb (Or.inl (tw87 hw)) (tw32 hw) (by decide) rfl rfl (W25.safeE E_sb (by decide) (by decide)) (Or.inl (List.mem_of_getElem? (i := 0) rfl)) rfl
        clear W25
        have z27 : h0.size ≤ h27.size := Nat.le_of_eq w27.size.symm
        have f27 := F_sb_count.same w27
        replace W27 := W27.iloadN (pc' := 40) djdk_68_31_39 rfl rfl
        replace W27 := W27.i2b (pc' := 41) (v := (cz.toInt8.toInt32)) djdk_68_31_40 rfl rfl
        have v28 := (V_va.other w27 (Exa.ne E_va E_sb (by decide)))
        have sf29 := (SF27 va sf26)
        obtain ⟨h30, W30, w30, A30, SF30⟩ := W27.bastore (pc' := 42) (i := T) (x' := (cz.toInt8.toInt32)) djdk_68_31_41 v28 ⟨own_nn (by omega), own_lt (by omega) (by omega) (by omega)⟩ (own_clamp (by omega)) (by rw [own_lst_len]; omega) (own_narb _) sf29 (Or.inl (List.mem_of_getElem? (i := 1) rfl)) rfl
        clear W27
        have z30 : h27.size ≤ h30.size := Nat.le_of_eq w30.size.symm
        have v30 : Arv Z h30 va kv .byte (Int32.ofNat K) (lst K (upd f T (cz.toInt8.toInt32))) (.int (0 : Int32)) := (by rw [← own_lst_set]; exact A30)
        replace W30 := W30.goto (pc' := 75) djdk_68_31_42 (by decide) (by decide)
        replace W30 := W30.aloadN (pc' := 76) djdk_68_31_75 rfl rfl rfl
        have e31 := ((E_sb.wr w27).wr w30)
        have f32 := ((F_sb_value.other w27 (Or.inr (slot_ne (C := "java/lang/StringBuilder") (Or.inl (tw57 hw)) (Or.inl (tw87 hw)) (by decide) (t := (.array .byte)) (t' := .int) (by decide) (by decide)))).other w30 (Or.inl (Exa.ne e31 ((E_va.wr w27).wr w30) (by decide))))
        have f33 := ((F_sb_coder.other w27 (Or.inr (slot_ne (C := "java/lang/StringBuilder") (Or.inl (tw59 hw)) (Or.inl (tw87 hw)) (by decide) (t := .byte) (t' := .int) (by decide) (by decide)))).other w30 (Or.inl (Exa.ne e31 ((E_va.wr w27).wr w30) (by decide))))
        have f34 := (f27.other w30 (Or.inl (Exa.ne e31 ((E_va.wr w27).wr w30) (by decide))))
        have f35 := ((F_sb_maybeLatin1.other w27 (Or.inr (slot_ne (C := "java/lang/StringBuilder") (Or.inl (tw252 hw)) (Or.inl (tw87 hw)) (by decide) (t := .boolean) (t' := .int) (by decide) (by decide)))).other w30 (Or.inl (Exa.ne e31 ((E_va.wr w27).wr w30) (by decide))))
        have e36 := ((E_va.wr w27).wr w30)
        have sf37 := (SF30 va sf29)
        exact W30.aret (t := (.object "java/lang/AbstractStringBuilder")) djdk_68_31_76 rfl rfl rfl rfl (by decide) (by decide) (fun V' cv => ⟨va, kv, (0 : Int32), K, K, (upd f T (cz.toInt8.toInt32)), rfl, e31, f32, f33, f34, f35, v30, e36, (cv va v30.lt sf37), (bok_L hl0 hl hwd), (by omega), (Or.inl rfl)⟩)
    · have hTK : K = T := by omega
      subst hTK
      by_cases hwd : (255 : Int32) < cz
      · replace W := W.aloadN (pc' := 1) djdk_68_31_0 rfl rfl rfl
        replace W := W.aloadN (pc' := 2) djdk_68_31_1 rfl rfl rfl
        replace W := W.getf (pc' := 5) djdk_68_31_2 (tw86 hw) Via.refl F_sb_count rfl
        replace W := W.iconst (pc' := 6) (v := (1 : Int32)) djdk_68_31_5 rfl rfl
        replace W := W.iadd (pc' := 7) (v := (Int32.ofNat (K + 1))) djdk_68_31_6 (own_add1 _) rfl
        obtain ⟨V38, h38, r38, W38, K38, hQ38, SF38⟩ := W.callQ (pc' := 10) (argsL := [(.int (Int32.ofNat (K + 1)))]) (rest := []) (Wd := 0) (cells' := 1) (slots' := 64) (a := sb) (C := "java/lang/StringBuilder") (y := (⟨"java/lang/AbstractStringBuilder", "ensureCapacityInternal", "(I)V"⟩ : MethodName)) djdk_68_31_7 (ensg0 l Z a0 n0 hw hEL G1 O1 P1 O_as O_hi O_lo G3 O3 rG3 sb va kv K f (Int32.ofNat K) h0 W.old E_sb F_sb_value F_sb_coder F_sb_count F_sb_maybeLatin1 V_va (by omega) g_sb) E_sb (tw157 hw) (tw158 hw) (tw160 hw) (tw159 hw) (tw52 hw) (tw161 hw) (by decide) (lenOf pd14 rfl) rfl rfl (by decide) (by decide) rfl (sfS (W.safeE E_sb (by decide) (by decide)) sf0) (allS (Or.inl (List.mem_of_getElem? (i := 0) rfl)) all0) rfl rfl rfl (by decide) (by decide)
        clear W
        obtain ⟨r38, kr38, rfl, q38_1, q38_2, q38_3, q38_4, q38_5, q38_6, q38_7, q38_8, q38_9⟩ := hQ38
        have z38 : h0.size ≤ h38.size := K38.1
        replace W38 := W38.cast (st' := []) rfl
        replace W38 := W38.aloadN (pc' := 11) djdk_68_31_10 rfl rfl rfl
        obtain ⟨V39, h39, r39, W39, K39, hQ39, SF39⟩ := W38.callV (pc' := 14) (argsL := []) (rest := []) (Wd := 0) (cells' := 1) (slots' := 64) (a := sb) (C := "java/lang/StringBuilder") (y := (⟨"java/lang/AbstractStringBuilder", "isLatin1", "()Z"⟩ : MethodName)) (z := (⟨"java/lang/AbstractStringBuilder", "isLatin1", "()Z"⟩ : MethodName)) djdk_68_31_11 (bil0 l Z a0 n0 hw hEL G1 O1 P1 O_as O_hi O_lo G3 O3 rG3 sb h38 W38.old q38_3) q38_1 (tw162 hw) (tw89 hw) (Or.inl (tw91 hw)) (tw91 hw) (tw90 hw) (tw52 hw) (tw92 hw) (by decide) (lenOf pd13 rfl) rfl rfl (by decide) (by decide) rfl sf0 all0 rfl rfl rfl (by decide) (by decide)
        clear W38
        obtain ⟨rfl, hs39⟩ := hQ39
        subst hs39
        have sf40 := (SF38 va V_va.lt (hsf _ (List.mem_of_getElem? (i := 1) rfl)))
        have sf41 := SF39 va (Nat.lt_of_lt_of_le V_va.lt z38) sf40
        have sf42 := SF39 r38 q38_6.lt q38_9
        replace W39 := W39.cast (st' := [(.int (1 : Int32))]) rfl
        replace W39 := W39.ifF (pc' := 17) djdk_68_31_14 (feq (by decide : ¬ ((1 : Int32) = (0 : Int32)))).1 rfl
        replace W39 := W39.iloadN (pc' := 18) djdk_68_31_17 rfl rfl
        obtain ⟨V43, h43, r43, W43, K43, hQ43, SF43⟩ := W39.callS (pc' := 21) (argsL := [(.int cz)]) (rest := []) (Wd := 0) (cells' := 1) (slots' := 64) (y := (⟨"java/lang/StringLatin1", "canEncode", "(C)Z"⟩ : MethodName)) djdk_68_31_18 (can0 l Z a0 n0 hw hEL G1 O1 P1 O_as O_hi O_lo G3 O3 rG3 cz h38 W39.old hwd) (tw163 hw) (tw164 hw) (tw135 hw) (tw165 hw) (by decide) (lenOf pd22 rfl) rfl rfl (by decide) (by decide) rfl sf0 all0 rfl rfl rfl (by decide) (by decide)
        clear W39
        obtain ⟨rfl, hs43⟩ := hQ43
        subst hs43
        have sf44 := SF43 va (Nat.lt_of_lt_of_le V_va.lt z38) sf41
        have sf45 := SF43 r38 q38_6.lt sf42
        replace W43 := W43.cast (st' := [(.int (0 : Int32))]) rfl
        replace W43 := W43.ifT (pc' := 45) djdk_68_31_21 (teq (by decide : (0 : Int32) = (0 : Int32))).1 (by decide) (by decide)
        replace W43 := W43.aloadN (pc' := 46) djdk_68_31_45 rfl rfl rfl
        obtain ⟨V46, h46, r46, W46, K46, hQ46, SF46⟩ := W43.callV (pc' := 49) (argsL := []) (rest := []) (Wd := 0) (cells' := 1) (slots' := 64) (a := sb) (C := "java/lang/StringBuilder") (y := (⟨"java/lang/AbstractStringBuilder", "isLatin1", "()Z"⟩ : MethodName)) (z := (⟨"java/lang/AbstractStringBuilder", "isLatin1", "()Z"⟩ : MethodName)) djdk_68_31_46 (bil0 l Z a0 n0 hw hEL G1 O1 P1 O_as O_hi O_lo G3 O3 rG3 sb h38 W43.old q38_3) q38_1 (tw162 hw) (tw89 hw) (Or.inl (tw91 hw)) (tw91 hw) (tw90 hw) (tw52 hw) (tw92 hw) (by decide) (lenOf pd13 rfl) rfl rfl (by decide) (by decide) rfl sf0 all0 rfl rfl rfl (by decide) (by decide)
        clear W43
        obtain ⟨rfl, hs46⟩ := hQ46
        subst hs46
        have sf47 := SF46 va (Nat.lt_of_lt_of_le V_va.lt z38) sf44
        have sf48 := SF46 r38 q38_6.lt sf45
        replace W46 := W46.cast (st' := [(.int (1 : Int32))]) rfl
        replace W46 := W46.ifF (pc' := 52) djdk_68_31_49 (feq (by decide : ¬ ((1 : Int32) = (0 : Int32)))).1 rfl
        replace W46 := W46.aloadN (pc' := 53) djdk_68_31_52 rfl rfl rfl
        obtain ⟨V49, h49, r49, W49, K49, hQ49, SF49⟩ := W46.callQ (pc' := 56) (argsL := []) (rest := []) (Wd := 0) (cells' := 2) (slots' := 128) (a := sb) (C := "java/lang/StringBuilder") (y := (⟨"java/lang/AbstractStringBuilder", "inflate", "()V"⟩ : MethodName)) djdk_68_31_53 (bin l Z a0 n0 hw hEL G1 O1 P1 O_as O_hi O_lo G3 O3 rG3 sb r38 kr38 (K + (K + 2)) (cpf f K) K o h38 W46.old q38_1 q38_2 q38_3 q38_4 q38_5 q38_6 q38_7 (by omega) (fun i hi => (cpf_lt hi).trans (hl0 i hi)) (fun i hi => ⟨(ho i hi).1, hl i hi⟩) g_sb) q38_1 (tw227 hw) (tw228 hw) (tw230 hw) (tw229 hw) (tw52 hw) (tw231 hw) (by decide) (lenOf pd23 rfl) rfl rfl (by decide) (by decide) rfl (sfS (W46.safeE q38_1 (by decide) (by decide)) sf0) (allS (Or.inl (List.mem_of_getElem? (i := 0) rfl)) all0) rfl rfl rfl (by decide) (by decide)
        clear W46
        obtain ⟨r49, kr49, rfl, q49_1, q49_2, q49_3, q49_4, q49_5, q49_6, q49_7, q49_8, q49_9⟩ := hQ49
        have z49 : h38.size ≤ h49.size := K49.1
        replace W49 := W49.cast (st' := []) rfl
        replace W49 := W49.aloadN (pc' := 57) djdk_68_31_56 rfl rfl rfl
        replace W49 := W49.getf (pc' := 60) djdk_68_31_57 (tw56 hw) Via.refl q49_2 rfl
        replace W49 := W49.aloadN (pc' := 61) djdk_68_31_60 rfl rfl rfl
        replace W49 := W49.dup (pc' := 62) djdk_68_31_61 rfl rfl
        replace W49 := W49.getf (pc' := 65) djdk_68_31_62 (tw86 hw) Via.refl q49_4 rfl
        replace W49 := W49.dupX1 (pc' := 66) djdk_68_31_65 rfl rfl rfl
        replace W49 := W49.iconst (pc' := 67) (v := (1 : Int32)) djdk_68_31_66 rfl rfl
        replace W49 := W49.iadd (pc' := 68) (v := (Int32.ofNat (K + 1))) djdk_68_31_67 (own_add1 _) rfl
        obtain ⟨h50, W50, w50, SF50⟩ := W49.putf (pc' := 71) (ty := .int) djdk_68_31_68 (tw86 hw) Via.refl q49_4 q49_1 (Or.inl (tw87 hw)) (tw32 hw) (by decide) rfl rfl (W49.safeE q49_1 (by decide) (by decide)) (Or.inl (List.mem_of_getElem? (i := 0) rfl)) rfl
        clear W49
        have z50 : h49.size ≤ h50.size := Nat.le_of_eq w50.size.symm
        have f50 := q49_4.same w50
        replace W50 := W50.iloadN (pc' := 72) djdk_68_31_71 rfl rfl
        have v51 := (q49_6.other w50 (Nat.ne_of_gt (Nat.lt_of_lt_of_le E_sb.lt (Nat.le_trans z38 q49_8))))
        have sf52 := (SF50 r49 q49_9)
        obtain ⟨V53, h53, r53, W53, K53, hQ53, SF53⟩ := W50.callS (pc' := 75) (argsL := [(.ref r49), (.int (Int32.ofNat K)), (.int cz)]) (rest := []) (Wd := 0) (cells' := 2) (slots' := 128) (y := (⟨"java/lang/StringUTF16", "putCharSB", "([BII)V"⟩ : MethodName)) djdk_68_31_72 (pcsb l Z a0 n0 hw hEL G1 O1 P1 O_as O_hi O_lo G3 O3 rG3 r49 kr49 (K + (K + 2)) (pu o K) K cz h50 W50.old v51 (by omega) (by omega) (Nat.le_trans W50.1.2.2.2.2.2.2.2.1 (Nat.le_trans z38 q49_8))) (tw248 hw) (tw249 hw) (tw115 hw) (tw250 hw) (by decide) (lenOf pd1 rfl) rfl rfl (by decide) (by decide) rfl (sfS sf52 sf0) (allS (Or.inr (Nat.le_trans z38 q49_8)) all0) rfl rfl rfl (by decide) (by decide)
        clear W50
        obtain ⟨rfl, q53_1⟩ := hQ53
        have z53 : h50.size ≤ h53.size := K53.1
        replace W53 := W53.cast (st' := []) rfl
        replace W53 := W53.aloadN (pc' := 76) djdk_68_31_75 rfl rfl rfl
        have e54 := ((q49_1.wr w50).keep K53)
        have f55 := ((q49_2.other w50 (Or.inr (slot_ne (C := "java/lang/StringBuilder") (Or.inl (tw57 hw)) (Or.inl (tw87 hw)) (by decide) (t := (.array .byte)) (t' := .int) (by decide) (by decide)))).keep K53 (ninS (Nat.ne_of_lt (Nat.lt_of_lt_of_le E_sb.lt (Nat.le_trans z38 q49_8))) nin0))
        have f56 := ((q49_3.other w50 (Or.inr (slot_ne (C := "java/lang/StringBuilder") (Or.inl (tw59 hw)) (Or.inl (tw87 hw)) (by decide) (t := .byte) (t' := .int) (by decide) (by decide)))).keep K53 (ninS (Nat.ne_of_lt (Nat.lt_of_lt_of_le E_sb.lt (Nat.le_trans z38 q49_8))) nin0))
        have f57 := (f50.keep K53 (ninS (Nat.ne_of_lt (Nat.lt_of_lt_of_le E_sb.lt (Nat.le_trans z38 q49_8))) nin0))
        have f58 := ((q49_5.other w50 (Or.inr (slot_ne (C := "java/lang/StringBuilder") (Or.inl (tw252 hw)) (Or.inl (tw87 hw)) (by decide) (t := .boolean) (t' := .int) (by decide) (by decide)))).keep K53 (ninS (Nat.ne_of_lt (Nat.lt_of_lt_of_le E_sb.lt (Nat.le_trans z38 q49_8))) nin0))
        have e59 := ((q49_7.wr w50).keep K53)
        have sf60 := (SF53 r49 (Nat.lt_of_lt_of_le q49_6.lt z50) sf52)
        exact W53.aret (t := (.object "java/lang/AbstractStringBuilder")) djdk_68_31_76 rfl rfl rfl rfl (by decide) (by decide) (fun V' cv => ⟨r49, kr49, (1 : Int32), (2 * (K + (K + 2))), (K + (K + 2)), (upd (upd (pu o K) (2 * K) (cz.toInt8.toInt32)) ((2 * K) + 1) ((cz >>> ((8 : Int32) &&& 31)).toInt8.toInt32)), rfl, e54, f55, f56, f57, f58, q53_1, e59, (cv r49 q53_1.lt sf60), (bok_U pu_bok), (by omega), (Or.inr (Nat.le_trans z38 q49_8))⟩)
      · replace W := W.aloadN (pc' := 1) djdk_68_31_0 rfl rfl rfl
        replace W := W.aloadN (pc' := 2) djdk_68_31_1 rfl rfl rfl
        replace W := W.getf (pc' := 5) djdk_68_31_2 (tw86 hw) Via.refl F_sb_count rfl
        replace W := W.iconst (pc' := 6) (v := (1 : Int32)) djdk_68_31_5 rfl rfl
        replace W := W.iadd (pc' := 7) (v := (Int32.ofNat (K + 1))) djdk_68_31_6 (own_add1 _) rfl
        obtain ⟨V61, h61, r61, W61, K61, hQ61, SF61⟩ := W.callQ (pc' := 10) (argsL := [(.int (Int32.ofNat (K + 1)))]) (rest := []) (Wd := 0) (cells' := 1) (slots' := 64) (a := sb) (C := "java/lang/StringBuilder") (y := (⟨"java/lang/AbstractStringBuilder", "ensureCapacityInternal", "(I)V"⟩ : MethodName)) djdk_68_31_7 (ensg0 l Z a0 n0 hw hEL G1 O1 P1 O_as O_hi O_lo G3 O3 rG3 sb va kv K f (Int32.ofNat K) h0 W.old E_sb F_sb_value F_sb_coder F_sb_count F_sb_maybeLatin1 V_va (by omega) g_sb) E_sb (tw157 hw) (tw158 hw) (tw160 hw) (tw159 hw) (tw52 hw) (tw161 hw) (by decide) (lenOf pd14 rfl) rfl rfl (by decide) (by decide) rfl (sfS (W.safeE E_sb (by decide) (by decide)) sf0) (allS (Or.inl (List.mem_of_getElem? (i := 0) rfl)) all0) rfl rfl rfl (by decide) (by decide)
        clear W
        obtain ⟨r61, kr61, rfl, q61_1, q61_2, q61_3, q61_4, q61_5, q61_6, q61_7, q61_8, q61_9⟩ := hQ61
        have z61 : h0.size ≤ h61.size := K61.1
        replace W61 := W61.cast (st' := []) rfl
        replace W61 := W61.aloadN (pc' := 11) djdk_68_31_10 rfl rfl rfl
        obtain ⟨V62, h62, r62, W62, K62, hQ62, SF62⟩ := W61.callV (pc' := 14) (argsL := []) (rest := []) (Wd := 0) (cells' := 1) (slots' := 64) (a := sb) (C := "java/lang/StringBuilder") (y := (⟨"java/lang/AbstractStringBuilder", "isLatin1", "()Z"⟩ : MethodName)) (z := (⟨"java/lang/AbstractStringBuilder", "isLatin1", "()Z"⟩ : MethodName)) djdk_68_31_11 (bil0 l Z a0 n0 hw hEL G1 O1 P1 O_as O_hi O_lo G3 O3 rG3 sb h61 W61.old q61_3) q61_1 (tw162 hw) (tw89 hw) (Or.inl (tw91 hw)) (tw91 hw) (tw90 hw) (tw52 hw) (tw92 hw) (by decide) (lenOf pd13 rfl) rfl rfl (by decide) (by decide) rfl sf0 all0 rfl rfl rfl (by decide) (by decide)
        clear W61
        obtain ⟨rfl, hs62⟩ := hQ62
        subst hs62
        have sf63 := (SF61 va V_va.lt (hsf _ (List.mem_of_getElem? (i := 1) rfl)))
        have sf64 := SF62 va (Nat.lt_of_lt_of_le V_va.lt z61) sf63
        have sf65 := SF62 r61 q61_6.lt q61_9
        replace W62 := W62.cast (st' := [(.int (1 : Int32))]) rfl
        replace W62 := W62.ifF (pc' := 17) djdk_68_31_14 (feq (by decide : ¬ ((1 : Int32) = (0 : Int32)))).1 rfl
        replace W62 := W62.iloadN (pc' := 18) djdk_68_31_17 rfl rfl
        obtain ⟨V66, h66, r66, W66, K66, hQ66, SF66⟩ := W62.callS (pc' := 21) (argsL := [(.int cz)]) (rest := []) (Wd := 0) (cells' := 1) (slots' := 64) (y := (⟨"java/lang/StringLatin1", "canEncode", "(C)Z"⟩ : MethodName)) djdk_68_31_18 (can1 l Z a0 n0 hw hEL G1 O1 P1 O_as O_hi O_lo G3 O3 rG3 cz h61 W62.old hwd) (tw163 hw) (tw164 hw) (tw135 hw) (tw165 hw) (by decide) (lenOf pd22 rfl) rfl rfl (by decide) (by decide) rfl sf0 all0 rfl rfl rfl (by decide) (by decide)
        clear W62
        obtain ⟨rfl, hs66⟩ := hQ66
        subst hs66
        have sf67 := SF66 va (Nat.lt_of_lt_of_le V_va.lt z61) sf64
        have sf68 := SF66 r61 q61_6.lt sf65
        replace W66 := W66.cast (st' := [(.int (1 : Int32))]) rfl
        replace W66 := W66.ifF (pc' := 24) djdk_68_31_21 (feq (by decide : ¬ ((1 : Int32) = (0 : Int32)))).1 rfl
        replace W66 := W66.aloadN (pc' := 25) djdk_68_31_24 rfl rfl rfl
        replace W66 := W66.getf (pc' := 28) djdk_68_31_25 (tw56 hw) Via.refl q61_2 rfl
        replace W66 := W66.aloadN (pc' := 29) djdk_68_31_28 rfl rfl rfl
        replace W66 := W66.dup (pc' := 30) djdk_68_31_29 rfl rfl
        replace W66 := W66.getf (pc' := 33) djdk_68_31_30 (tw86 hw) Via.refl q61_4 rfl
        replace W66 := W66.dupX1 (pc' := 34) djdk_68_31_33 rfl rfl rfl
        replace W66 := W66.iconst (pc' := 35) (v := (1 : Int32)) djdk_68_31_34 rfl rfl
        replace W66 := W66.iadd (pc' := 36) (v := (Int32.ofNat (K + 1))) djdk_68_31_35 (own_add1 _) rfl
        obtain ⟨h69, W69, w69, SF69⟩ := W66.putf (pc' := 39) (ty := .int) djdk_68_31_36 (tw86 hw) Via.refl q61_4 q61_1 (Or.inl (tw87 hw)) (tw32 hw) (by decide) rfl rfl (W66.safeE q61_1 (by decide) (by decide)) (Or.inl (List.mem_of_getElem? (i := 0) rfl)) rfl
        clear W66
        have z69 : h61.size ≤ h69.size := Nat.le_of_eq w69.size.symm
        have f69 := q61_4.same w69
        replace W69 := W69.iloadN (pc' := 40) djdk_68_31_39 rfl rfl
        replace W69 := W69.i2b (pc' := 41) (v := (cz.toInt8.toInt32)) djdk_68_31_40 rfl rfl
        have v70 := (q61_6.other w69 (Nat.ne_of_gt (Nat.lt_of_lt_of_le E_sb.lt q61_8)))
        have sf71 := (SF69 r61 sf68)
        obtain ⟨h72, W72, w72, A72, SF72⟩ := W69.bastore (pc' := 42) (i := K) (x' := (cz.toInt8.toInt32)) djdk_68_31_41 v70 ⟨own_nn (by omega), own_lt (by omega) (by omega) (by omega)⟩ (own_clamp (by omega)) (by rw [own_lst_len]; omega) (own_narb _) sf71 (Or.inr q61_8) rfl
        clear W69
        have z72 : h69.size ≤ h72.size := Nat.le_of_eq w72.size.symm
        have v72 : Arv Z h72 r61 kr61 .byte (Int32.ofNat (K + (K + 2))) (lst (K + (K + 2)) (upd (cpf f K) K (cz.toInt8.toInt32))) (.int (0 : Int32)) := (by rw [← own_lst_set]; exact A72)
        replace W72 := W72.goto (pc' := 75) djdk_68_31_42 (by decide) (by decide)
        replace W72 := W72.aloadN (pc' := 76) djdk_68_31_75 rfl rfl rfl
        have e73 := ((q61_1.wr w69).wr w72)
        have f74 := ((q61_2.other w69 (Or.inr (slot_ne (C := "java/lang/StringBuilder") (Or.inl (tw57 hw)) (Or.inl (tw87 hw)) (by decide) (t := (.array .byte)) (t' := .int) (by decide) (by decide)))).other w72 (Or.inl (Nat.ne_of_lt (Nat.lt_of_lt_of_le E_sb.lt q61_8))))
        have f75 := ((q61_3.other w69 (Or.inr (slot_ne (C := "java/lang/StringBuilder") (Or.inl (tw59 hw)) (Or.inl (tw87 hw)) (by decide) (t := .byte) (t' := .int) (by decide) (by decide)))).other w72 (Or.inl (Nat.ne_of_lt (Nat.lt_of_lt_of_le E_sb.lt q61_8))))
        have f76 := (f69.other w72 (Or.inl (Nat.ne_of_lt (Nat.lt_of_lt_of_le E_sb.lt q61_8))))
        have f77 := ((q61_5.other w69 (Or.inr (slot_ne (C := "java/lang/StringBuilder") (Or.inl (tw252 hw)) (Or.inl (tw87 hw)) (by decide) (t := .boolean) (t' := .int) (by decide) (by decide)))).other w72 (Or.inl (Nat.ne_of_lt (Nat.lt_of_lt_of_le E_sb.lt q61_8))))
        have e78 := ((q61_7.wr w69).wr w72)
        have sf79 := (SF72 r61 sf71)
        exact W72.aret (t := (.object "java/lang/AbstractStringBuilder")) djdk_68_31_76 rfl rfl rfl rfl (by decide) (by decide) (fun V' cv => ⟨r61, kr61, (0 : Int32), (K + (K + 2)), (K + (K + 2)), (upd (cpf f K) K (cz.toInt8.toInt32)), rfl, e73, f74, f75, f76, f77, v72, e78, (cv r61 v72.lt sf79), (bok_L (fun i hi => (cpf_lt hi).trans (hl0 i hi)) hl hwd), (by omega), (Or.inr q61_8)⟩)
  · subst e1
    subst e2
    by_cases hroom : T + 1 ≤ K
    · have hroom2 := hroom
      replace W := W.aloadN (pc' := 1) djdk_68_31_0 rfl rfl rfl
      replace W := W.aloadN (pc' := 2) djdk_68_31_1 rfl rfl rfl
      replace W := W.getf (pc' := 5) djdk_68_31_2 (tw86 hw) Via.refl F_sb_count rfl
      replace W := W.iconst (pc' := 6) (v := (1 : Int32)) djdk_68_31_5 rfl rfl
      replace W := W.iadd (pc' := 7) (v := (Int32.ofNat (T + 1))) djdk_68_31_6 (own_add1 _) rfl
      obtain ⟨V80, h80, r80, W80, K80, hQ80, SF80⟩ := W.callQ (pc' := 10) (argsL := [(.int (Int32.ofNat (T + 1)))]) (rest := []) (Wd := 0) (cells' := 0) (slots' := 0) (a := sb) (C := "java/lang/StringBuilder") (y := (⟨"java/lang/AbstractStringBuilder", "ensureCapacityInternal", "(I)V"⟩ : MethodName)) djdk_68_31_7 (ensr1 l Z a0 n0 hw hEL G1 O1 P1 O_as O_hi O_lo G3 O3 rG3 sb va kv K f T h0 W.old F_sb_value F_sb_coder V_va (by omega)) E_sb (tw157 hw) (tw158 hw) (tw160 hw) (tw159 hw) (tw52 hw) (tw161 hw) (by decide) (lenOf pd14 rfl) rfl rfl (by decide) (by decide) rfl sf0 all0 rfl rfl rfl (by decide) (by decide)
      clear W
      obtain ⟨rfl, hs80⟩ := hQ80
      subst hs80
      have sf81 := SF80 va V_va.lt (hsf _ (List.mem_of_getElem? (i := 1) rfl))
      replace W80 := W80.cast (st' := []) rfl
      replace W80 := W80.aloadN (pc' := 11) djdk_68_31_10 rfl rfl rfl
      obtain ⟨V82, h82, r82, W82, K82, hQ82, SF82⟩ := W80.callV (pc' := 14) (argsL := []) (rest := []) (Wd := 0) (cells' := 0) (slots' := 0) (a := sb) (C := "java/lang/StringBuilder") (y := (⟨"java/lang/AbstractStringBuilder", "isLatin1", "()Z"⟩ : MethodName)) (z := (⟨"java/lang/AbstractStringBuilder", "isLatin1", "()Z"⟩ : MethodName)) djdk_68_31_11 (bil1 l Z a0 n0 hw hEL G1 O1 P1 O_as O_hi O_lo G3 O3 rG3 sb h0 W80.old F_sb_coder) E_sb (tw162 hw) (tw89 hw) (Or.inl (tw91 hw)) (tw91 hw) (tw90 hw) (tw52 hw) (tw92 hw) (by decide) (lenOf pd13 rfl) rfl rfl (by decide) (by decide) rfl sf0 all0 rfl rfl rfl (by decide) (by decide)
      clear W80
      obtain ⟨rfl, hs82⟩ := hQ82
      subst hs82
      have sf83 := SF82 va V_va.lt sf81
      replace W82 := W82.cast (st' := [(.int (0 : Int32))]) rfl
      replace W82 := W82.ifT (pc' := 45) djdk_68_31_14 (teq (by decide : (0 : Int32) = (0 : Int32))).1 (by decide) (by decide)
      replace W82 := W82.aloadN (pc' := 46) djdk_68_31_45 rfl rfl rfl
      obtain ⟨V84, h84, r84, W84, K84, hQ84, SF84⟩ := W82.callV (pc' := 49) (argsL := []) (rest := []) (Wd := 0) (cells' := 0) (slots' := 0) (a := sb) (C := "java/lang/StringBuilder") (y := (⟨"java/lang/AbstractStringBuilder", "isLatin1", "()Z"⟩ : MethodName)) (z := (⟨"java/lang/AbstractStringBuilder", "isLatin1", "()Z"⟩ : MethodName)) djdk_68_31_46 (bil1 l Z a0 n0 hw hEL G1 O1 P1 O_as O_hi O_lo G3 O3 rG3 sb h0 W82.old F_sb_coder) E_sb (tw162 hw) (tw89 hw) (Or.inl (tw91 hw)) (tw91 hw) (tw90 hw) (tw52 hw) (tw92 hw) (by decide) (lenOf pd13 rfl) rfl rfl (by decide) (by decide) rfl sf0 all0 rfl rfl rfl (by decide) (by decide)
      clear W82
      obtain ⟨rfl, hs84⟩ := hQ84
      subst hs84
      have sf85 := SF84 va V_va.lt sf83
      replace W84 := W84.cast (st' := [(.int (0 : Int32))]) rfl
      replace W84 := W84.ifT (pc' := 56) djdk_68_31_49 (teq (by decide : (0 : Int32) = (0 : Int32))).1 (by decide) (by decide)
      replace W84 := W84.aloadN (pc' := 57) djdk_68_31_56 rfl rfl rfl
      replace W84 := W84.getf (pc' := 60) djdk_68_31_57 (tw56 hw) Via.refl F_sb_value rfl
      replace W84 := W84.aloadN (pc' := 61) djdk_68_31_60 rfl rfl rfl
      replace W84 := W84.dup (pc' := 62) djdk_68_31_61 rfl rfl
      replace W84 := W84.getf (pc' := 65) djdk_68_31_62 (tw86 hw) Via.refl F_sb_count rfl
      replace W84 := W84.dupX1 (pc' := 66) djdk_68_31_65 rfl rfl rfl
      replace W84 := W84.iconst (pc' := 67) (v := (1 : Int32)) djdk_68_31_66 rfl rfl
      replace W84 := W84.iadd (pc' := 68) (v := (Int32.ofNat (T + 1))) djdk_68_31_67 (own_add1 _) rfl
      obtain ⟨h86, W86, w86, SF86⟩ := W84.putf (pc' := 71) (ty := .int) djdk_68_31_68 (tw86 hw) Via.refl F_sb_count E_sb (Or.inl (tw87 hw)) (tw32 hw) (by decide) rfl rfl (W84.safeE E_sb (by decide) (by decide)) (Or.inl (List.mem_of_getElem? (i := 0) rfl)) rfl
      clear W84
      have z86 : h0.size ≤ h86.size := Nat.le_of_eq w86.size.symm
      have f86 := F_sb_count.same w86
      replace W86 := W86.iloadN (pc' := 72) djdk_68_31_71 rfl rfl
      have v87 := (V_va.other w86 (Exa.ne E_va E_sb (by decide)))
      have sf88 := (SF86 va sf85)
      obtain ⟨V89, h89, r89, W89, K89, hQ89, SF89⟩ := W86.callS (pc' := 75) (argsL := [(.ref va), (.int (Int32.ofNat T)), (.int cz)]) (rest := []) (Wd := 0) (cells' := 0) (slots' := 0) (y := (⟨"java/lang/StringUTF16", "putCharSB", "([BII)V"⟩ : MethodName)) djdk_68_31_72 (pcsb l Z a0 n0 hw hEL G1 O1 P1 O_as O_hi O_lo G3 O3 rG3 va kv K f T cz h86 W86.old v87 (by omega) (by omega) g_va) (tw248 hw) (tw249 hw) (tw115 hw) (tw250 hw) (by decide) (lenOf pd1 rfl) rfl rfl (by decide) (by decide) rfl (sfS sf88 sf0) (allS (Or.inl (List.mem_of_getElem? (i := 1) rfl)) all0) rfl rfl rfl (by decide) (by decide)
      clear W86
      obtain ⟨rfl, q89_1⟩ := hQ89
      have z89 : h86.size ≤ h89.size := K89.1
      replace W89 := W89.cast (st' := []) rfl
      replace W89 := W89.aloadN (pc' := 76) djdk_68_31_75 rfl rfl rfl
      have e90 := ((E_sb.wr w86).keep K89)
      have f91 := ((F_sb_value.other w86 (Or.inr (slot_ne (C := "java/lang/StringBuilder") (Or.inl (tw57 hw)) (Or.inl (tw87 hw)) (by decide) (t := (.array .byte)) (t' := .int) (by decide) (by decide)))).keep K89 (ninS (Exa.ne e90 ((E_va.wr w86).keep K89) (by decide)) nin0))
      have f92 := ((F_sb_coder.other w86 (Or.inr (slot_ne (C := "java/lang/StringBuilder") (Or.inl (tw59 hw)) (Or.inl (tw87 hw)) (by decide) (t := .byte) (t' := .int) (by decide) (by decide)))).keep K89 (ninS (Exa.ne e90 ((E_va.wr w86).keep K89) (by decide)) nin0))
      have f93 := (f86.keep K89 (ninS (Exa.ne e90 ((E_va.wr w86).keep K89) (by decide)) nin0))
      have f94 := ((F_sb_maybeLatin1.other w86 (Or.inr (slot_ne (C := "java/lang/StringBuilder") (Or.inl (tw252 hw)) (Or.inl (tw87 hw)) (by decide) (t := .boolean) (t' := .int) (by decide) (by decide)))).keep K89 (ninS (Exa.ne e90 ((E_va.wr w86).keep K89) (by decide)) nin0))
      have e95 := ((E_va.wr w86).keep K89)
      have sf96 := (SF89 va (Nat.lt_of_lt_of_le V_va.lt z86) sf88)
      exact W89.aret (t := (.object "java/lang/AbstractStringBuilder")) djdk_68_31_76 rfl rfl rfl rfl (by decide) (by decide) (fun V' cv => ⟨va, kv, (1 : Int32), (2 * K), K, (upd (upd f (2 * T) (cz.toInt8.toInt32)) ((2 * T) + 1) ((cz >>> ((8 : Int32) &&& 31)).toInt8.toInt32)), rfl, e90, f91, f92, f93, f94, q89_1, e95, (cv va q89_1.lt sf96), (bok_U hu), (by omega), (Or.inl rfl)⟩)
    · have hTK : K = T := by omega
      subst hTK
      replace W := W.aloadN (pc' := 1) djdk_68_31_0 rfl rfl rfl
      replace W := W.aloadN (pc' := 2) djdk_68_31_1 rfl rfl rfl
      replace W := W.getf (pc' := 5) djdk_68_31_2 (tw86 hw) Via.refl F_sb_count rfl
      replace W := W.iconst (pc' := 6) (v := (1 : Int32)) djdk_68_31_5 rfl rfl
      replace W := W.iadd (pc' := 7) (v := (Int32.ofNat (K + 1))) djdk_68_31_6 (own_add1 _) rfl
      obtain ⟨V97, h97, r97, W97, K97, hQ97, SF97⟩ := W.callQ (pc' := 10) (argsL := [(.int (Int32.ofNat (K + 1)))]) (rest := []) (Wd := 0) (cells' := 1) (slots' := 64) (a := sb) (C := "java/lang/StringBuilder") (y := (⟨"java/lang/AbstractStringBuilder", "ensureCapacityInternal", "(I)V"⟩ : MethodName)) djdk_68_31_7 (ensg1 l Z a0 n0 hw hEL G1 O1 P1 O_as O_hi O_lo G3 O3 rG3 sb va kv K f (Int32.ofNat K) h0 W.old E_sb F_sb_value F_sb_coder F_sb_count F_sb_maybeLatin1 V_va (by omega) g_sb) E_sb (tw157 hw) (tw158 hw) (tw160 hw) (tw159 hw) (tw52 hw) (tw161 hw) (by decide) (lenOf pd14 rfl) rfl rfl (by decide) (by decide) rfl (sfS (W.safeE E_sb (by decide) (by decide)) sf0) (allS (Or.inl (List.mem_of_getElem? (i := 0) rfl)) all0) rfl rfl rfl (by decide) (by decide)
      clear W
      obtain ⟨r97, kr97, rfl, q97_1, q97_2, q97_3, q97_4, q97_5, q97_6, q97_7, q97_8, q97_9⟩ := hQ97
      have z97 : h0.size ≤ h97.size := K97.1
      replace W97 := W97.cast (st' := []) rfl
      replace W97 := W97.aloadN (pc' := 11) djdk_68_31_10 rfl rfl rfl
      obtain ⟨V98, h98, r98, W98, K98, hQ98, SF98⟩ := W97.callV (pc' := 14) (argsL := []) (rest := []) (Wd := 0) (cells' := 1) (slots' := 64) (a := sb) (C := "java/lang/StringBuilder") (y := (⟨"java/lang/AbstractStringBuilder", "isLatin1", "()Z"⟩ : MethodName)) (z := (⟨"java/lang/AbstractStringBuilder", "isLatin1", "()Z"⟩ : MethodName)) djdk_68_31_11 (bil1 l Z a0 n0 hw hEL G1 O1 P1 O_as O_hi O_lo G3 O3 rG3 sb h97 W97.old q97_3) q97_1 (tw162 hw) (tw89 hw) (Or.inl (tw91 hw)) (tw91 hw) (tw90 hw) (tw52 hw) (tw92 hw) (by decide) (lenOf pd13 rfl) rfl rfl (by decide) (by decide) rfl sf0 all0 rfl rfl rfl (by decide) (by decide)
      clear W97
      obtain ⟨rfl, hs98⟩ := hQ98
      subst hs98
      have sf99 := (SF97 va V_va.lt (hsf _ (List.mem_of_getElem? (i := 1) rfl)))
      have sf100 := SF98 va (Nat.lt_of_lt_of_le V_va.lt z97) sf99
      have sf101 := SF98 r97 q97_6.lt q97_9
      replace W98 := W98.cast (st' := [(.int (0 : Int32))]) rfl
      replace W98 := W98.ifT (pc' := 45) djdk_68_31_14 (teq (by decide : (0 : Int32) = (0 : Int32))).1 (by decide) (by decide)
      replace W98 := W98.aloadN (pc' := 46) djdk_68_31_45 rfl rfl rfl
      obtain ⟨V102, h102, r102, W102, K102, hQ102, SF102⟩ := W98.callV (pc' := 49) (argsL := []) (rest := []) (Wd := 0) (cells' := 1) (slots' := 64) (a := sb) (C := "java/lang/StringBuilder") (y := (⟨"java/lang/AbstractStringBuilder", "isLatin1", "()Z"⟩ : MethodName)) (z := (⟨"java/lang/AbstractStringBuilder", "isLatin1", "()Z"⟩ : MethodName)) djdk_68_31_46 (bil1 l Z a0 n0 hw hEL G1 O1 P1 O_as O_hi O_lo G3 O3 rG3 sb h97 W98.old q97_3) q97_1 (tw162 hw) (tw89 hw) (Or.inl (tw91 hw)) (tw91 hw) (tw90 hw) (tw52 hw) (tw92 hw) (by decide) (lenOf pd13 rfl) rfl rfl (by decide) (by decide) rfl sf0 all0 rfl rfl rfl (by decide) (by decide)
      clear W98
      obtain ⟨rfl, hs102⟩ := hQ102
      subst hs102
      have sf103 := SF102 va (Nat.lt_of_lt_of_le V_va.lt z97) sf100
      have sf104 := SF102 r97 q97_6.lt sf101
      replace W102 := W102.cast (st' := [(.int (0 : Int32))]) rfl
      replace W102 := W102.ifT (pc' := 56) djdk_68_31_49 (teq (by decide : (0 : Int32) = (0 : Int32))).1 (by decide) (by decide)
      replace W102 := W102.aloadN (pc' := 57) djdk_68_31_56 rfl rfl rfl
      replace W102 := W102.getf (pc' := 60) djdk_68_31_57 (tw56 hw) Via.refl q97_2 rfl
      replace W102 := W102.aloadN (pc' := 61) djdk_68_31_60 rfl rfl rfl
      replace W102 := W102.dup (pc' := 62) djdk_68_31_61 rfl rfl
      replace W102 := W102.getf (pc' := 65) djdk_68_31_62 (tw86 hw) Via.refl q97_4 rfl
      replace W102 := W102.dupX1 (pc' := 66) djdk_68_31_65 rfl rfl rfl
      replace W102 := W102.iconst (pc' := 67) (v := (1 : Int32)) djdk_68_31_66 rfl rfl
      replace W102 := W102.iadd (pc' := 68) (v := (Int32.ofNat (K + 1))) djdk_68_31_67 (own_add1 _) rfl
      obtain ⟨h105, W105, w105, SF105⟩ := W102.putf (pc' := 71) (ty := .int) djdk_68_31_68 (tw86 hw) Via.refl q97_4 q97_1 (Or.inl (tw87 hw)) (tw32 hw) (by decide) rfl rfl (W102.safeE q97_1 (by decide) (by decide)) (Or.inl (List.mem_of_getElem? (i := 0) rfl)) rfl
      clear W102
      have z105 : h97.size ≤ h105.size := Nat.le_of_eq w105.size.symm
      have f105 := q97_4.same w105
      replace W105 := W105.iloadN (pc' := 72) djdk_68_31_71 rfl rfl
      have v106 := (q97_6.other w105 (Nat.ne_of_gt (Nat.lt_of_lt_of_le E_sb.lt q97_8)))
      have sf107 := (SF105 r97 sf104)
      obtain ⟨V108, h108, r108, W108, K108, hQ108, SF108⟩ := W105.callS (pc' := 75) (argsL := [(.ref r97), (.int (Int32.ofNat K)), (.int cz)]) (rest := []) (Wd := 0) (cells' := 1) (slots' := 64) (y := (⟨"java/lang/StringUTF16", "putCharSB", "([BII)V"⟩ : MethodName)) djdk_68_31_72 (pcsb l Z a0 n0 hw hEL G1 O1 P1 O_as O_hi O_lo G3 O3 rG3 r97 kr97 (K + (K + 2)) (cpf f (2 * K)) K cz h105 W105.old v106 (by omega) (by omega) (Nat.le_trans W105.1.2.2.2.2.2.2.2.1 q97_8)) (tw248 hw) (tw249 hw) (tw115 hw) (tw250 hw) (by decide) (lenOf pd1 rfl) rfl rfl (by decide) (by decide) rfl (sfS sf107 sf0) (allS (Or.inr q97_8) all0) rfl rfl rfl (by decide) (by decide)
      clear W105
      obtain ⟨rfl, q108_1⟩ := hQ108
      have z108 : h105.size ≤ h108.size := K108.1
      replace W108 := W108.cast (st' := []) rfl
      replace W108 := W108.aloadN (pc' := 76) djdk_68_31_75 rfl rfl rfl
      have e109 := ((q97_1.wr w105).keep K108)
      have f110 := ((q97_2.other w105 (Or.inr (slot_ne (C := "java/lang/StringBuilder") (Or.inl (tw57 hw)) (Or.inl (tw87 hw)) (by decide) (t := (.array .byte)) (t' := .int) (by decide) (by decide)))).keep K108 (ninS (Nat.ne_of_lt (Nat.lt_of_lt_of_le E_sb.lt q97_8)) nin0))
      have f111 := ((q97_3.other w105 (Or.inr (slot_ne (C := "java/lang/StringBuilder") (Or.inl (tw59 hw)) (Or.inl (tw87 hw)) (by decide) (t := .byte) (t' := .int) (by decide) (by decide)))).keep K108 (ninS (Nat.ne_of_lt (Nat.lt_of_lt_of_le E_sb.lt q97_8)) nin0))
      have f112 := (f105.keep K108 (ninS (Nat.ne_of_lt (Nat.lt_of_lt_of_le E_sb.lt q97_8)) nin0))
      have f113 := ((q97_5.other w105 (Or.inr (slot_ne (C := "java/lang/StringBuilder") (Or.inl (tw252 hw)) (Or.inl (tw87 hw)) (by decide) (t := .boolean) (t' := .int) (by decide) (by decide)))).keep K108 (ninS (Nat.ne_of_lt (Nat.lt_of_lt_of_le E_sb.lt q97_8)) nin0))
      have e114 := ((q97_7.wr w105).keep K108)
      have sf115 := (SF108 r97 (Nat.lt_of_lt_of_le q97_6.lt z105) sf107)
      exact W108.aret (t := (.object "java/lang/AbstractStringBuilder")) djdk_68_31_76 rfl rfl rfl rfl (by decide) (by decide) (fun V' cv => ⟨r97, kr97, (1 : Int32), (2 * (K + (K + 2))), (K + (K + 2)), (upd (upd (cpf f (2 * K)) (2 * K) (cz.toInt8.toInt32)) ((2 * K) + 1) ((cz >>> ((8 : Int32) &&& 31)).toInt8.toInt32)), rfl, e109, f110, f111, f112, f113, q108_1, e114, (cv r97 q108_1.lt sf115), (bok_U (fun i hi => ⟨(cpf_lt (by omega)).trans (hu i hi).1, (cpf_lt (by omega)).trans (hu i hi).2⟩)), (by omega), (Or.inr q97_8)⟩)
theorem ef_sapp (m : MethodId) (sb : Addr) (va : Addr) (kv : ClassId) (cb : Int32) (KB : Nat) (K : Nat) (f : Nat → Int32) (T : Nat) (o : Nat → Int32) (cz : Int32) : entryFrame m #[(.ref sb), (.int cz)] 2 = mkF m 0 #[.val (.ref sb), .val (.int cz)] [] := by first | (simp [entryFrame, mkF, argsToLocals, Value.category]; done) | rfl
set_option maxRecDepth 65536 in
set_option maxHeartbeats 40000000 in
theorem sapp (l : Launch) (Z : State) (a0 : Array Value) (n0 : Nat) (hw : ∀ d ∈ tables_1, d.before a0 Z = true) (hEL : EW Z a0 consts_1) (G1 : Int32) (O1 : Sta Z Z.heap "java/lang/String" "COMPACT_STRINGS" "Z" (.int G1)) (P1 : ¬ (G1 = (0 : Int32))) (O_as : Sta Z Z.heap "java/lang/StringUTF16" "$assertionsDisabled" "Z" (.int (1 : Int32))) (O_hi : Sta Z Z.heap "java/lang/StringUTF16" "HI_BYTE_SHIFT" "I" (.int (0 : Int32))) (O_lo : Sta Z Z.heap "java/lang/StringUTF16" "LO_BYTE_SHIFT" "I" (.int (8 : Int32))) (G3 : Value) (O3 : Sta Z Z.heap "jdk/internal/util/Preconditions" "SIOOBE_FORMATTER" "Ljava/util/function/BiFunction;" G3) (rG3 : G3.isRef = true) (sb : Addr) (va : Addr) (kv : ClassId) (cb : Int32) (KB : Nat) (K : Nat) (f : Nat → Int32) (T : Nat) (o : Nat → Int32) (cz : Int32) (h0 : Heap) (hO : Old Z n0 h0) (E_sb : Exa Z h0 sb "java/lang/StringBuilder") (F_sb_value : Fld Z h0 sb "java/lang/AbstractStringBuilder" "value" "[B" (.ref va)) (F_sb_coder : Fld Z h0 sb "java/lang/AbstractStringBuilder" "coder" "B" (.int cb)) (F_sb_count : Fld Z h0 sb "java/lang/AbstractStringBuilder" "count" "I" (.int (Int32.ofNat T))) (F_sb_maybeLatin1 : Fld Z h0 sb "java/lang/AbstractStringBuilder" "maybeLatin1" "Z" (.int (0 : Int32))) (V_va : Arv Z h0 va kv .byte (Int32.ofNat KB) (lst KB f) (.int (0 : Int32))) (E_va : Exa Z h0 va "[B") (bok : BOK cb KB K f T o) (hT : T ≤ K ∧ 1 ≤ K ∧ K ≤ 15) (ch : CH cz) (ho : ∀ i, i < T → CH (o i)) (g_sb : n0 ≤ sb) (g_va : n0 ≤ va) :
    Con l Z consts_1 n0 (⟨"java/lang/StringBuilder", "append", "(C)Ljava/lang/StringBuilder;"⟩ : MethodName) jdk_67_method_14_code 2 (some (.object "java/lang/StringBuilder")) ({ frames := 7, cells := 2, slots := 128, locals := 102 } : Room) #[(.ref sb), (.int cz)] h0 [sb, va] (fun v h V' => ∃ (va2 : Addr) (kv2 : ClassId) (cb2 : Int32) (KB2 : Nat) (K2 : Nat) (f2 : Nat → Int32), v = some (.ref sb) ∧ Exa Z h sb "java/lang/StringBuilder" ∧ Fld Z h sb "java/lang/AbstractStringBuilder" "value" "[B" (.ref va2) ∧ Fld Z h sb "java/lang/AbstractStringBuilder" "coder" "B" (.int cb2) ∧ Fld Z h sb "java/lang/AbstractStringBuilder" "count" "I" (.int (Int32.ofNat (T + 1))) ∧ Fld Z h sb "java/lang/AbstractStringBuilder" "maybeLatin1" "Z" (.int (0 : Int32)) ∧ Arv Z h va2 kv2 .byte (Int32.ofNat KB2) (lst KB2 f2) (.int (0 : Int32)) ∧ Exa Z h va2 "[B" ∧ Safe Z consts_1 V' h va2 ∧ BOK cb2 KB2 K2 f2 (T + 1) (upd o T cz) ∧ (T + 1 ≤ K2 ∧ (K2 ≤ K ∨ K2 ≤ 2 * T + 2)) ∧ (va2 = va ∨ h0.size ≤ va2)) [] := by
  refine Con.of (a0 := a0) pf41 (fun m => ef_sapp m sb va kv cb KB K f T o cz) (allS g_sb (allS g_va all0)) hO hEL ?_
  intro p e s m below meth c S0 hnm hsf W
  replace W := W.aloadN (pc' := 1) djdk_67_14_0 rfl rfl rfl
  replace W := W.iloadN (pc' := 2) djdk_67_14_1 rfl rfl
  obtain ⟨V1, h1, r1, W1, K1, hQ1, SF1⟩ := W.callSup (pc' := 5) (argsL := [(.int cz)]) (rest := []) (Wd := 0) (cells' := 2) (slots' := 128) (a := sb) (K := "java/lang/StringBuilder") (y := (⟨"java/lang/AbstractStringBuilder", "append", "(C)Ljava/lang/AbstractStringBuilder;"⟩ : MethodName)) djdk_67_14_2 (app l Z a0 n0 hw hEL G1 O1 P1 O_as O_hi O_lo G3 O3 rG3 sb va kv cb KB K f T o cz h0 W.old E_sb F_sb_value F_sb_coder F_sb_count F_sb_maybeLatin1 V_va E_va bok hT ch ho g_sb g_va) (Ins.self E_sb) (by decide) (tw153 hw) (own_same (tw75 hw) (tw154 hw) rfl (by decide)) (tw154 hw) (tw84 hw) (tw52 hw) (tw156 hw) (lenOf pd24 rfl) rfl rfl (by decide) (by decide) rfl (sfS (W.safeE E_sb (by decide) (by decide)) (sfS (hsf _ (List.mem_of_getElem? (i := 1) rfl)) sf0)) (allS (Or.inl (List.mem_of_getElem? (i := 0) rfl)) (allS (Or.inl (List.mem_of_getElem? (i := 1) rfl)) all0)) rfl rfl rfl (by decide) (by decide)
  clear W
  obtain ⟨va21, kv21, cb21, KB21, K21, f21, rfl, q1_1, q1_2, q1_3, q1_4, q1_5, q1_6, q1_7, q1_8, q1_9, q1_10, q1_11⟩ := hQ1
  have z1 : h0.size ≤ h1.size := K1.1
  replace W1 := W1.cast (st' := [(.ref sb)]) rfl
  replace W1 := W1.pop (pc' := 6) djdk_67_14_5 rfl rfl
  replace W1 := W1.aloadN (pc' := 7) djdk_67_14_6 rfl rfl rfl
  exact W1.aret (t := (.object "java/lang/StringBuilder")) djdk_67_14_7 rfl rfl rfl rfl (by decide) (by decide) (fun V' cv => ⟨va21, kv21, cb21, KB21, K21, f21, rfl, q1_1, q1_2, q1_3, q1_4, q1_5, q1_6, q1_7, (cv va21 q1_6.lt q1_8), q1_9, q1_10, q1_11⟩)
theorem ef_cklen (m : MethodId) (B : Nat) : entryFrame m #[(.int (0 : Int32)), (.int (Int32.ofNat B))] 2 = mkF m 0 #[.val (.int (0 : Int32)), .val (.int (Int32.ofNat B))] [] := by first | (simp [entryFrame, mkF, argsToLocals, Value.category]; done) | rfl
set_option maxRecDepth 65536 in
set_option maxHeartbeats 40000000 in
theorem cklen (l : Launch) (Z : State) (a0 : Array Value) (n0 : Nat) (hw : ∀ d ∈ tables_1, d.before a0 Z = true) (hEL : EW Z a0 consts_1) (G1 : Int32) (O1 : Sta Z Z.heap "java/lang/String" "COMPACT_STRINGS" "Z" (.int G1)) (P1 : ¬ (G1 = (0 : Int32))) (O_as : Sta Z Z.heap "java/lang/StringUTF16" "$assertionsDisabled" "Z" (.int (1 : Int32))) (O_hi : Sta Z Z.heap "java/lang/StringUTF16" "HI_BYTE_SHIFT" "I" (.int (0 : Int32))) (O_lo : Sta Z Z.heap "java/lang/StringUTF16" "LO_BYTE_SHIFT" "I" (.int (8 : Int32))) (G3 : Value) (O3 : Sta Z Z.heap "jdk/internal/util/Preconditions" "SIOOBE_FORMATTER" "Ljava/util/function/BiFunction;" G3) (rG3 : G3.isRef = true) (B : Nat) (h0 : Heap) (hO : Old Z n0 h0) (hB : B ≤ 500) :
    Con l Z consts_1 n0 (⟨"java/util/Arrays", "checkLength", "(II)V"⟩ : MethodName) jdk_65_method_131_code 2 none ({ frames := 0, cells := 0, slots := 0, locals := 0 } : Room) #[(.int (0 : Int32)), (.int (Int32.ofNat B))] h0 [] (fun v h V' => v = none ∧ h0 = h) [] := by
  refine Con.of (a0 := a0) pf42 (fun m => ef_cklen m B) all0 hO hEL ?_
  intro p e s m below meth c S0 hnm hsf W
  replace W := W.iloadN (pc' := 1) djdk_65_131_0 rfl rfl
  replace W := W.iloadN (pc' := 2) djdk_65_131_1 rfl rfl
  replace W := W.icmpT (pc' := 37) djdk_65_131_2 (flt (own_nlt (X := B) (Y := 0) (by omega) (by omega) (by omega))).2.1 (by decide) (by decide)
  exact W.vret djdk_65_131_37 rfl (by decide) (by decide) (fun V' cv => ⟨rfl, rfl⟩)
theorem ef_crb (m : MethodId) (va : Addr) (kv : ClassId) (Aq : Nat) (f : Nat → Int32) (B : Nat) : entryFrame m #[(.ref va), (.int (0 : Int32)), (.int (Int32.ofNat B))] 5 = mkF m 0 #[.val (.ref va), .val (.int (0 : Int32)), .val (.int (Int32.ofNat B)), .unset, .unset] [] := by first | (simp [entryFrame, mkF, argsToLocals, Value.category]; done) | rfl
set_option maxRecDepth 65536 in
set_option maxHeartbeats 40000000 in
theorem crb (l : Launch) (Z : State) (a0 : Array Value) (n0 : Nat) (hw : ∀ d ∈ tables_1, d.before a0 Z = true) (hEL : EW Z a0 consts_1) (G1 : Int32) (O1 : Sta Z Z.heap "java/lang/String" "COMPACT_STRINGS" "Z" (.int G1)) (P1 : ¬ (G1 = (0 : Int32))) (O_as : Sta Z Z.heap "java/lang/StringUTF16" "$assertionsDisabled" "Z" (.int (1 : Int32))) (O_hi : Sta Z Z.heap "java/lang/StringUTF16" "HI_BYTE_SHIFT" "I" (.int (0 : Int32))) (O_lo : Sta Z Z.heap "java/lang/StringUTF16" "LO_BYTE_SHIFT" "I" (.int (8 : Int32))) (G3 : Value) (O3 : Sta Z Z.heap "jdk/internal/util/Preconditions" "SIOOBE_FORMATTER" "Ljava/util/function/BiFunction;" G3) (rG3 : G3.isRef = true) (va : Addr) (kv : ClassId) (Aq : Nat) (f : Nat → Int32) (B : Nat) (h0 : Heap) (hO : Old Z n0 h0) (V_va : Arv Z h0 va kv .byte (Int32.ofNat Aq) (lst Aq f) (.int (0 : Int32))) (hB : B < Aq ∧ Aq ≤ 64) :
    Con l Z consts_1 n0 (⟨"java/util/Arrays", "copyOfRangeByte", "([BII)[B"⟩ : MethodName) jdk_65_method_133_code 5 (some (.array .byte)) ({ frames := 1, cells := 1, slots := 64, locals := 18 } : Room) #[(.ref va), (.int (0 : Int32)), (.int (Int32.ofNat B))] h0 [] (fun v h V' => ∃ (r : Addr) (kr : ClassId), v = some (.ref r) ∧ Arv Z h r kr .byte (Int32.ofNat B) (lst B f) (.int (0 : Int32)) ∧ Exa Z h r "[B" ∧ h0.size ≤ r ∧ Safe Z consts_1 V' h r) [] := by
  refine Con.of (a0 := a0) pf43 (fun m => ef_crb m va kv Aq f B) all0 hO hEL ?_
  intro p e s m below meth c S0 hnm hsf W
  replace W := W.iloadN (pc' := 1) djdk_65_133_0 rfl rfl
  replace W := W.iloadN (pc' := 2) djdk_65_133_1 rfl rfl
  obtain ⟨V1, h1, r1, W1, K1, hQ1, SF1⟩ := W.callS (pc' := 5) (argsL := [(.int (0 : Int32)), (.int (Int32.ofNat B))]) (rest := []) (Wd := 0) (cells' := 0) (slots' := 0) (y := (⟨"java/util/Arrays", "checkLength", "(II)V"⟩ : MethodName)) djdk_65_133_2 (cklen l Z a0 n0 hw hEL G1 O1 P1 O_as O_hi O_lo G3 O3 rG3 B h0 W.old (by omega)) (tw194 hw) (tw195 hw) (tw95 hw) (tw196 hw) (by decide) (lenOf pd10 rfl) rfl rfl (by decide) (by decide) rfl sf0 all0 rfl rfl rfl (by decide) (by decide)
  clear W
  obtain ⟨rfl, hs1⟩ := hQ1
  subst hs1
  replace W1 := W1.cast (st' := []) rfl
  replace W1 := W1.iloadN (pc' := 6) djdk_65_133_5 rfl rfl
  replace W1 := W1.iloadN (pc' := 7) djdk_65_133_6 rfl rfl
  replace W1 := W1.isub (pc' := 8) (v := (Int32.ofNat B)) djdk_65_133_7 (own_sub0 _) rfl
  replace W1 := W1.istoreN (pc' := 9) (L' := #[.val (.ref va), .val (.int (0 : Int32)), .val (.int (Int32.ofNat B)), .val (.int (Int32.ofNat B)), .unset]) djdk_65_133_8 rfl rfl
  replace W1 := W1.iloadN (pc' := 10) djdk_65_133_9 rfl rfl
  obtain ⟨h2, a2, W2, E2, g2, ⟨⟨k2, A2⟩, B2⟩, sf2, SF2⟩ := W1.newarrE (pc' := 12) (ad := "[B") (cap := 64) (cells' := 1) (slots' := 64) djdk_65_133_10 (tw20 hw) (by decide) (own_nn (by omega)) (by rw [own_clamp (by omega)]; omega) (by decide) rfl rfl rfl (by decide) (by decide)
  clear W1
  rw [← g2] at A2 B2
  have z2 : h0.size ≤ h2.size := E2.1
  have v2 : Arv Z h2 a2 k2 .byte (Int32.ofNat B) (lst B zf) (.int (0 : Int32)) := own_lst0 A2
  replace W2 := W2.astore (pc' := 14) (L' := #[.val (.ref va), .val (.int (0 : Int32)), .val (.int (Int32.ofNat B)), .val (.int (Int32.ofNat B)), .val (.ref a2)]) djdk_65_133_12 rfl rfl rfl
  replace W2 := W2.aloadN (pc' := 15) djdk_65_133_14 rfl rfl rfl
  replace W2 := W2.iloadN (pc' := 16) djdk_65_133_15 rfl rfl
  replace W2 := W2.aload (pc' := 18) djdk_65_133_16 rfl rfl rfl
  replace W2 := W2.iconst (pc' := 19) (v := (0 : Int32)) djdk_65_133_18 rfl rfl
  replace W2 := W2.aloadN (pc' := 20) djdk_65_133_19 rfl rfl rfl
  have v3 := (V_va.ext E2)
  replace W2 := W2.alen (pc' := 21) djdk_65_133_20 v3 rfl
  replace W2 := W2.iloadN (pc' := 22) djdk_65_133_21 rfl rfl
  replace W2 := W2.isub (pc' := 23) (v := (Int32.ofNat Aq)) djdk_65_133_22 (own_sub0 _) rfl
  replace W2 := W2.iloadN (pc' := 24) djdk_65_133_23 rfl rfl
  obtain ⟨V4, h4, r4, W4, K4, hQ4, SF4⟩ := W2.callS (pc' := 27) (argsL := [(.int (Int32.ofNat Aq)), (.int (Int32.ofNat B))]) (rest := [(.int (0 : Int32)), (.ref a2), (.int (0 : Int32)), (.ref va)]) (Wd := 4) (cells' := 1) (slots' := 64) (y := (⟨"java/lang/Math", "min", "(II)I"⟩ : MethodName)) djdk_65_133_24 (mn2_c l Z a0 n0 hw hEL G1 O1 P1 O_as O_hi O_lo G3 O3 rG3 Aq B h2 W2.old (by omega)) (tw184 hw) (tw185 hw) (tw177 hw) (tw186 hw) (by decide) (lenOf pd16 rfl) rfl rfl (by decide) (by decide) rfl sf0 all0 rfl rfl rfl (by decide) (by decide)
  clear W2
  obtain ⟨rfl, hs4⟩ := hQ4
  subst hs4
  have sf5 := SF4 a2 v2.lt sf2
  replace W4 := W4.cast (st' := [(.int (Int32.ofNat B)), (.int (0 : Int32)), (.ref a2), (.int (0 : Int32)), (.ref va)]) rfl
  obtain ⟨h6, W6, K6, v6, SF6⟩ := W4.acopy0 (pc' := 30) (nn := B) (vs' := lst B f) (Wd := 0) djdk_65_133_27 (tw187 hw) (tw190 hw) (tw188 hw) (tw189 hw) v3 v2 (own_nn (by omega)) (own_clamp (by omega)) (by rw [own_clamp (by omega)]; omega) (by rw [own_clamp (by omega)]; omega) (own_cpr (by omega) (by omega)) rfl rfl (by decide) (by decide) sf5 (Or.inr (Nat.le_of_eq g2.symm)) rfl
  clear W4
  have z6 : h2.size ≤ h6.size := K6.1
  replace W6 := W6.aload (pc' := 32) djdk_65_133_30 rfl rfl rfl
  have e7 := (B2.keep K6)
  have sf8 := (SF6 a2 sf5)
  exact W6.aret (t := (.array .byte)) djdk_65_133_32 rfl rfl rfl rfl (by decide) (by decide) (fun V' cv => ⟨a2, k2, rfl, v6, e7, (Nat.le_of_eq g2.symm), (cv a2 v6.lt sf8)⟩)
theorem ef_cr (m : MethodId) (va : Addr) (kv : ClassId) (Aq : Nat) (f : Nat → Int32) (B : Nat) : entryFrame m #[(.ref va), (.int (0 : Int32)), (.int (Int32.ofNat B))] 3 = mkF m 0 #[.val (.ref va), .val (.int (0 : Int32)), .val (.int (Int32.ofNat B))] [] := by first | (simp [entryFrame, mkF, argsToLocals, Value.category]; done) | rfl
set_option maxRecDepth 65536 in
set_option maxHeartbeats 40000000 in
theorem cr (l : Launch) (Z : State) (a0 : Array Value) (n0 : Nat) (hw : ∀ d ∈ tables_1, d.before a0 Z = true) (hEL : EW Z a0 consts_1) (G1 : Int32) (O1 : Sta Z Z.heap "java/lang/String" "COMPACT_STRINGS" "Z" (.int G1)) (P1 : ¬ (G1 = (0 : Int32))) (O_as : Sta Z Z.heap "java/lang/StringUTF16" "$assertionsDisabled" "Z" (.int (1 : Int32))) (O_hi : Sta Z Z.heap "java/lang/StringUTF16" "HI_BYTE_SHIFT" "I" (.int (0 : Int32))) (O_lo : Sta Z Z.heap "java/lang/StringUTF16" "LO_BYTE_SHIFT" "I" (.int (8 : Int32))) (G3 : Value) (O3 : Sta Z Z.heap "jdk/internal/util/Preconditions" "SIOOBE_FORMATTER" "Ljava/util/function/BiFunction;" G3) (rG3 : G3.isRef = true) (va : Addr) (kv : ClassId) (Aq : Nat) (f : Nat → Int32) (B : Nat) (h0 : Heap) (hO : Old Z n0 h0) (V_va : Arv Z h0 va kv .byte (Int32.ofNat Aq) (lst Aq f) (.int (0 : Int32))) (E_va : Exa Z h0 va "[B") (hB : B ≤ Aq ∧ Aq ≤ 64) :
    Con l Z consts_1 n0 (⟨"java/util/Arrays", "copyOfRange", "([BII)[B"⟩ : MethodName) jdk_65_method_132_code 3 (some (.array .byte)) ({ frames := 2, cells := 1, slots := 64, locals := 34 } : Room) #[(.ref va), (.int (0 : Int32)), (.int (Int32.ofNat B))] h0 [] (fun v h V' => ∃ (r : Addr) (kr : ClassId), v = some (.ref r) ∧ Arv Z h r kr .byte (Int32.ofNat B) (lst B f) (.int (0 : Int32)) ∧ Exa Z h r "[B" ∧ h0.size ≤ r ∧ Safe Z consts_1 V' h r) [] := by
  refine Con.of (a0 := a0) pf44 (fun m => ef_cr m va kv Aq f B) all0 hO hEL ?_
  intro p e s m below meth c S0 hnm hsf W
  by_cases hBA : B = Aq
  · subst hBA
    replace W := W.iloadN (pc' := 1) djdk_65_132_0 rfl rfl
    replace W := W.ifF (pc' := 4) djdk_65_132_1 (teq (by decide : (0 : Int32) = (0 : Int32))).2 rfl
    replace W := W.iloadN (pc' := 5) djdk_65_132_4 rfl rfl
    replace W := W.aloadN (pc' := 6) djdk_65_132_5 rfl rfl rfl
    replace W := W.alen (pc' := 7) djdk_65_132_6 V_va rfl
    replace W := W.icmpT (pc' := 17) djdk_65_132_7 (teq rfl).1 (by decide) (by decide)
    replace W := W.aloadN (pc' := 18) djdk_65_132_17 rfl rfl rfl
    obtain ⟨h1, a1, W1, E1, g1, ⟨A1, B1⟩, sf1, SF1⟩ := W.clone (pc' := 21) (ad := "[B") (cap := 64) (Wd := 0) (cells' := 1) (slots' := 64) djdk_65_132_18 (tw97 hw) (tw98 hw) (tw102 hw) (tw100 hw) (tw101 hw) (tw103 hw) V_va E_va rfl rfl (by decide) (by decide) (by rw [own_clamp (by omega)]; omega) rfl rfl rfl (by decide) (by decide)
    clear W
    rw [← g1] at A1 B1
    have z1 : h0.size ≤ h1.size := E1.1
    replace W1 := W1.castY (pc' := 24) djdk_65_132_21 (tw104 hw) (Ins.self B1) rfl
    exact W1.aret (t := (.array .byte)) djdk_65_132_24 rfl rfl rfl rfl (by decide) (by decide) (fun V' cv => ⟨a1, kv, rfl, A1, B1, (Nat.le_of_eq g1.symm), (cv a1 A1.lt sf1)⟩)
  · replace W := W.iloadN (pc' := 1) djdk_65_132_0 rfl rfl
    replace W := W.ifF (pc' := 4) djdk_65_132_1 (teq (by decide : (0 : Int32) = (0 : Int32))).2 rfl
    replace W := W.iloadN (pc' := 5) djdk_65_132_4 rfl rfl
    replace W := W.aloadN (pc' := 6) djdk_65_132_5 rfl rfl rfl
    replace W := W.alen (pc' := 7) djdk_65_132_6 V_va rfl
    replace W := W.icmpF (pc' := 10) djdk_65_132_7 (feq (own_ne (by omega) (by omega) hBA)).1 rfl
    replace W := W.aloadN (pc' := 11) djdk_65_132_10 rfl rfl rfl
    replace W := W.iloadN (pc' := 12) djdk_65_132_11 rfl rfl
    replace W := W.iloadN (pc' := 13) djdk_65_132_12 rfl rfl
    obtain ⟨V2, h2, r2, W2, K2, hQ2, SF2⟩ := W.callS (pc' := 16) (argsL := [(.ref va), (.int (0 : Int32)), (.int (Int32.ofNat B))]) (rest := []) (Wd := 0) (cells' := 1) (slots' := 64) (y := (⟨"java/util/Arrays", "copyOfRangeByte", "([BII)[B"⟩ : MethodName)) djdk_65_132_13 (crb l Z a0 n0 hw hEL G1 O1 P1 O_as O_hi O_lo G3 O3 rG3 va kv Aq f B h0 W.old V_va (by omega)) (tw191 hw) (tw192 hw) (tw95 hw) (tw193 hw) (by decide) (lenOf pd25 rfl) rfl rfl (by decide) (by decide) rfl sf0 all0 rfl rfl rfl (by decide) (by decide)
    clear W
    obtain ⟨r2, kr2, rfl, q2_1, q2_2, q2_3, q2_4⟩ := hQ2
    have z2 : h0.size ≤ h2.size := K2.1
    replace W2 := W2.cast (st' := [(.ref r2)]) rfl
    exact W2.aret (t := (.array .byte)) djdk_65_132_16 rfl rfl rfl rfl (by decide) (by decide) (fun V' cv => ⟨r2, kr2, rfl, q2_1, q2_2, q2_3, (cv r2 q2_1.lt q2_4)⟩)
theorem ef_ni2 (m : MethodId) (xa : Addr) (sb : Addr) (va : Addr) (kv : ClassId) (cb : Int32) (KB : Nat) (K : Nat) (f : Nat → Int32) (T : Nat) (o : Nat → Int32) : entryFrame m #[(.ref xa), (.ref sb), .null] 5 = mkF m 0 #[.val (.ref xa), .val (.ref sb), .val .null, .unset, .unset] [] := by first | (simp [entryFrame, mkF, argsToLocals, Value.category]; done) | rfl
set_option maxRecDepth 65536 in
set_option maxHeartbeats 40000000 in
theorem ni2 (l : Launch) (Z : State) (a0 : Array Value) (n0 : Nat) (hw : ∀ d ∈ tables_1, d.before a0 Z = true) (hEL : EW Z a0 consts_1) (G1 : Int32) (O1 : Sta Z Z.heap "java/lang/String" "COMPACT_STRINGS" "Z" (.int G1)) (P1 : ¬ (G1 = (0 : Int32))) (O_as : Sta Z Z.heap "java/lang/StringUTF16" "$assertionsDisabled" "Z" (.int (1 : Int32))) (O_hi : Sta Z Z.heap "java/lang/StringUTF16" "HI_BYTE_SHIFT" "I" (.int (0 : Int32))) (O_lo : Sta Z Z.heap "java/lang/StringUTF16" "LO_BYTE_SHIFT" "I" (.int (8 : Int32))) (G3 : Value) (O3 : Sta Z Z.heap "jdk/internal/util/Preconditions" "SIOOBE_FORMATTER" "Ljava/util/function/BiFunction;" G3) (rG3 : G3.isRef = true) (xa : Addr) (sb : Addr) (va : Addr) (kv : ClassId) (cb : Int32) (KB : Nat) (K : Nat) (f : Nat → Int32) (T : Nat) (o : Nat → Int32) (h0 : Heap) (hO : Old Z n0 h0) (E_xa : Exa Z h0 xa "java/lang/String") (F_xa_value : Fld Z h0 xa "java/lang/String" "value" "[B" .null) (F_xa_coder : Fld Z h0 xa "java/lang/String" "coder" "B" (.int (0 : Int32))) (E_sb : Exa Z h0 sb "java/lang/StringBuilder") (F_sb_value : Fld Z h0 sb "java/lang/AbstractStringBuilder" "value" "[B" (.ref va)) (F_sb_coder : Fld Z h0 sb "java/lang/AbstractStringBuilder" "coder" "B" (.int cb)) (F_sb_count : Fld Z h0 sb "java/lang/AbstractStringBuilder" "count" "I" (.int (Int32.ofNat T))) (F_sb_maybeLatin1 : Fld Z h0 sb "java/lang/AbstractStringBuilder" "maybeLatin1" "Z" (.int (0 : Int32))) (V_va : Arv Z h0 va kv .byte (Int32.ofNat KB) (lst KB f) (.int (0 : Int32))) (E_va : Exa Z h0 va "[B") (bok : BOK cb KB K f T o) (hT : T ≤ K ∧ K ≤ 32) (g_xa : n0 ≤ xa) :
    Con l Z consts_1 n0 (⟨"java/lang/String", "<init>", "(Ljava/lang/AbstractStringBuilder;Ljava/lang/Void;)V"⟩ : MethodName) jdk_42_method_150_code 5 none ({ frames := 3, cells := 1, slots := 64, locals := 49 } : Room) #[(.ref xa), (.ref sb), .null] h0 [xa] (fun v h V' => ∃ (cd2 : Int32) (ba2 : Addr) (kb2 : ClassId) (NB2 : Nat) (fb2 : Nat → Int32), v = none ∧ Exa Z h xa "java/lang/String" ∧ Fld Z h xa "java/lang/String" "coder" "B" (.int cd2) ∧ Fld Z h xa "java/lang/String" "value" "[B" (.ref ba2) ∧ Arv Z h ba2 kb2 .byte (Int32.ofNat NB2) (lst NB2 fb2) (.int (0 : Int32)) ∧ h0.size ≤ ba2 ∧ SOK cd2 NB2 fb2 T o) [] := by
  refine Con.of (a0 := a0) pf45 (fun m => ef_ni2 m xa sb va kv cb KB K f T o) (allS g_xa all0) hO hEL ?_
  intro p e s m below meth c S0 hnm hsf W
  rcases bok with ⟨e1, e2, hl0, hl⟩ | ⟨e1, e2, hu⟩
  · subst e1
    subst e2
    replace W := W.aloadN (pc' := 1) djdk_42_150_0 rfl rfl rfl
    replace W := W.initO (pc' := 4) (Wd := 0) djdk_42_150_1 (tw16 hw) (tw17 hw) (tw18 hw) rfl rfl (by decide) (by decide) rfl
    replace W := W.aloadN (pc' := 5) djdk_42_150_4 rfl rfl rfl
    obtain ⟨V1, h1, r1, W1, K1, hQ1, SF1⟩ := W.callV (pc' := 8) (argsL := []) (rest := []) (Wd := 0) (cells' := 0) (slots' := 0) (a := sb) (C := "java/lang/StringBuilder") (y := (⟨"java/lang/AbstractStringBuilder", "getValue", "()[B"⟩ : MethodName)) (z := (⟨"java/lang/AbstractStringBuilder", "getValue", "()[B"⟩ : MethodName)) djdk_42_150_5 (gval l Z a0 n0 hw hEL G1 O1 P1 O_as O_hi O_lo G3 O3 rG3 sb va h0 W.old F_sb_value) E_sb (tw72 hw) (tw73 hw) (Or.inl (tw75 hw)) (tw75 hw) (tw74 hw) (tw52 hw) (tw76 hw) (by decide) (lenOf pd26 rfl) rfl rfl (by decide) (by decide) rfl sf0 all0 rfl rfl rfl (by decide) (by decide)
    clear W
    obtain ⟨rfl, hs1⟩ := hQ1
    subst hs1
    have sf2 := SF1 xa E_xa.lt (hsf _ (List.mem_of_getElem? (i := 0) rfl))
    replace W1 := W1.cast (st' := [(.ref va)]) rfl
    replace W1 := W1.astoreN (pc' := 9) (L' := #[.val (.ref xa), .val (.ref sb), .val .null, .val (.ref va), .unset]) djdk_42_150_8 rfl rfl rfl
    replace W1 := W1.aloadN (pc' := 10) djdk_42_150_9 rfl rfl rfl
    obtain ⟨V3, h3, r3, W3, K3, hQ3, SF3⟩ := W1.callF (pc' := 13) (argsL := []) (rest := []) (Wd := 0) (cells' := 0) (slots' := 0) (a := sb) (C := "java/lang/StringBuilder") (y := (⟨"java/lang/AbstractStringBuilder", "length", "()I"⟩ : MethodName)) (z := (⟨"java/lang/StringBuilder", "length", "()I"⟩ : MethodName)) djdk_42_150_10 (sblen l Z a0 n0 hw hEL G1 O1 P1 O_as O_hi O_lo G3 O3 rG3 sb (Int32.ofNat T) h0 W1.old E_sb F_sb_count) E_sb (tw77 hw) (tw78 hw) (tw75 hw) rfl (tw80 hw) (tw81 hw) (tw33 hw) (tw82 hw) (by decide) (lenOf pd15 rfl) rfl rfl (by decide) (by decide) rfl sf0 all0 rfl rfl rfl (by decide) (by decide)
    clear W1
    obtain ⟨rfl, hs3⟩ := hQ3
    subst hs3
    have sf4 := SF3 xa E_xa.lt sf2
    replace W3 := W3.cast (st' := [(.int (Int32.ofNat T))]) rfl
    replace W3 := W3.istore (pc' := 15) (L' := #[.val (.ref xa), .val (.ref sb), .val .null, .val (.ref va), .val (.int (Int32.ofNat T))]) djdk_42_150_13 rfl rfl
    replace W3 := W3.aloadN (pc' := 16) djdk_42_150_15 rfl rfl rfl
    obtain ⟨V5, h5, r5, W5, K5, hQ5, SF5⟩ := W3.callV (pc' := 19) (argsL := []) (rest := []) (Wd := 0) (cells' := 0) (slots' := 0) (a := sb) (C := "java/lang/StringBuilder") (y := (⟨"java/lang/AbstractStringBuilder", "isLatin1", "()Z"⟩ : MethodName)) (z := (⟨"java/lang/AbstractStringBuilder", "isLatin1", "()Z"⟩ : MethodName)) djdk_42_150_16 (bil0 l Z a0 n0 hw hEL G1 O1 P1 O_as O_hi O_lo G3 O3 rG3 sb h0 W3.old F_sb_coder) E_sb (tw88 hw) (tw89 hw) (Or.inl (tw91 hw)) (tw91 hw) (tw90 hw) (tw52 hw) (tw92 hw) (by decide) (lenOf pd13 rfl) rfl rfl (by decide) (by decide) rfl sf0 all0 rfl rfl rfl (by decide) (by decide)
    clear W3
    obtain ⟨rfl, hs5⟩ := hQ5
    subst hs5
    have sf6 := SF5 xa E_xa.lt sf4
    replace W5 := W5.cast (st' := [(.int (1 : Int32))]) rfl
    replace W5 := W5.ifF (pc' := 22) djdk_42_150_19 (feq (by decide : ¬ ((1 : Int32) = (0 : Int32)))).1 rfl
    replace W5 := W5.aloadN (pc' := 23) djdk_42_150_22 rfl rfl rfl
    replace W5 := W5.iconst (pc' := 24) (v := (0 : Int32)) djdk_42_150_23 rfl rfl
    obtain ⟨h7, W7, w7, SF7⟩ := W5.putf (pc' := 27) (ty := .byte) djdk_42_150_24 (tw26 hw) Via.refl F_xa_coder E_xa (Or.inr ⟨(tw22 hw), rfl, hnm⟩) (tw7 hw) (by decide) rfl rfl sf6 (Or.inl (List.mem_of_getElem? (i := 0) rfl)) rfl
    clear W5
    have z7 : h0.size ≤ h7.size := Nat.le_of_eq w7.size.symm
    have f7 := F_xa_coder.same w7
    replace W7 := W7.aloadN (pc' := 28) djdk_42_150_27 rfl rfl rfl
    replace W7 := W7.aloadN (pc' := 29) djdk_42_150_28 rfl rfl rfl
    replace W7 := W7.iconst (pc' := 30) (v := (0 : Int32)) djdk_42_150_29 rfl rfl
    replace W7 := W7.iload (pc' := 32) djdk_42_150_30 rfl rfl
    have v8 := (V_va.other w7 (Exa.ne E_va E_xa (by decide)))
    have e9 := (E_va.wr w7)
    obtain ⟨V10, h10, r10, W10, K10, hQ10, SF10⟩ := W7.callS (pc' := 35) (argsL := [(.ref va), (.int (0 : Int32)), (.int (Int32.ofNat T))]) (rest := [(.ref xa)]) (Wd := 1) (cells' := 1) (slots' := 64) (y := (⟨"java/util/Arrays", "copyOfRange", "([BII)[B"⟩ : MethodName)) djdk_42_150_32 (cr l Z a0 n0 hw hEL G1 O1 P1 O_as O_hi O_lo G3 O3 rG3 va kv K f T h7 W7.old v8 e9 (by omega)) (tw93 hw) (tw94 hw) (tw95 hw) (tw96 hw) (by decide) (lenOf pd25 rfl) rfl rfl (by decide) (by decide) rfl sf0 all0 rfl rfl rfl (by decide) (by decide)
    clear W7
    obtain ⟨r10, kr10, rfl, q10_1, q10_2, q10_3, q10_4⟩ := hQ10
    have z10 : h7.size ≤ h10.size := K10.1
    replace W10 := W10.cast (st' := [(.ref r10), (.ref xa)]) rfl
    have f11 := ((F_xa_value.other w7 (Or.inr (slot_ne (C := "java/lang/String") (Or.inr (tw21 hw)) (Or.inr (tw22 hw)) (by decide) (t := (.array .byte)) (t' := .byte) (by decide) (by decide)))).keep K10 nin0)
    have e12 := ((E_xa.wr w7).keep K10)
    have sf13 := (SF10 xa f7.lt (SF7 xa sf6))
    obtain ⟨h14, W14, w14, SF14⟩ := W10.putf (pc' := 38) (ty := (.array .byte)) djdk_42_150_35 (tw25 hw) Via.refl f11 e12 (Or.inr ⟨(tw21 hw), rfl, hnm⟩) (tw7 hw) (by decide) rfl rfl sf13 (Or.inl (List.mem_of_getElem? (i := 0) rfl)) rfl
    clear W10
    have z14 : h10.size ≤ h14.size := Nat.le_of_eq w14.size.symm
    have f14 := f11.same w14
    replace W14 := W14.goto (pc' := 97) djdk_42_150_38 (by decide) (by decide)
    have e15 := (e12.wr w14)
    have f16 := ((f7.keep K10 nin0).other w14 (Or.inr (slot_ne (C := "java/lang/String") (Or.inr (tw22 hw)) (Or.inr (tw21 hw)) (by decide) (t := .byte) (t' := (.array .byte)) (by decide) (by decide))))
    have v17 := (q10_1.other w14 (Nat.ne_of_gt (Nat.lt_of_lt_of_le E_xa.lt (Nat.le_trans z7 q10_3))))
    exact W14.vret djdk_42_150_97 rfl (by decide) (by decide) (fun V' cv => ⟨(0 : Int32), r10, kr10, T, f, rfl, e15, f16, f14, v17, (Nat.le_trans z7 q10_3), (Or.inl ⟨rfl, rfl, hl0, hl⟩)⟩)
  · subst e1
    subst e2
    replace W := W.aloadN (pc' := 1) djdk_42_150_0 rfl rfl rfl
    replace W := W.initO (pc' := 4) (Wd := 0) djdk_42_150_1 (tw16 hw) (tw17 hw) (tw18 hw) rfl rfl (by decide) (by decide) rfl
    replace W := W.aloadN (pc' := 5) djdk_42_150_4 rfl rfl rfl
    obtain ⟨V18, h18, r18, W18, K18, hQ18, SF18⟩ := W.callV (pc' := 8) (argsL := []) (rest := []) (Wd := 0) (cells' := 0) (slots' := 0) (a := sb) (C := "java/lang/StringBuilder") (y := (⟨"java/lang/AbstractStringBuilder", "getValue", "()[B"⟩ : MethodName)) (z := (⟨"java/lang/AbstractStringBuilder", "getValue", "()[B"⟩ : MethodName)) djdk_42_150_5 (gval l Z a0 n0 hw hEL G1 O1 P1 O_as O_hi O_lo G3 O3 rG3 sb va h0 W.old F_sb_value) E_sb (tw72 hw) (tw73 hw) (Or.inl (tw75 hw)) (tw75 hw) (tw74 hw) (tw52 hw) (tw76 hw) (by decide) (lenOf pd26 rfl) rfl rfl (by decide) (by decide) rfl sf0 all0 rfl rfl rfl (by decide) (by decide)
    clear W
    obtain ⟨rfl, hs18⟩ := hQ18
    subst hs18
    have sf19 := SF18 xa E_xa.lt (hsf _ (List.mem_of_getElem? (i := 0) rfl))
    replace W18 := W18.cast (st' := [(.ref va)]) rfl
    replace W18 := W18.astoreN (pc' := 9) (L' := #[.val (.ref xa), .val (.ref sb), .val .null, .val (.ref va), .unset]) djdk_42_150_8 rfl rfl rfl
    replace W18 := W18.aloadN (pc' := 10) djdk_42_150_9 rfl rfl rfl
    obtain ⟨V20, h20, r20, W20, K20, hQ20, SF20⟩ := W18.callF (pc' := 13) (argsL := []) (rest := []) (Wd := 0) (cells' := 0) (slots' := 0) (a := sb) (C := "java/lang/StringBuilder") (y := (⟨"java/lang/AbstractStringBuilder", "length", "()I"⟩ : MethodName)) (z := (⟨"java/lang/StringBuilder", "length", "()I"⟩ : MethodName)) djdk_42_150_10 (sblen l Z a0 n0 hw hEL G1 O1 P1 O_as O_hi O_lo G3 O3 rG3 sb (Int32.ofNat T) h0 W18.old E_sb F_sb_count) E_sb (tw77 hw) (tw78 hw) (tw75 hw) rfl (tw80 hw) (tw81 hw) (tw33 hw) (tw82 hw) (by decide) (lenOf pd15 rfl) rfl rfl (by decide) (by decide) rfl sf0 all0 rfl rfl rfl (by decide) (by decide)
    clear W18
    obtain ⟨rfl, hs20⟩ := hQ20
    subst hs20
    have sf21 := SF20 xa E_xa.lt sf19
    replace W20 := W20.cast (st' := [(.int (Int32.ofNat T))]) rfl
    replace W20 := W20.istore (pc' := 15) (L' := #[.val (.ref xa), .val (.ref sb), .val .null, .val (.ref va), .val (.int (Int32.ofNat T))]) djdk_42_150_13 rfl rfl
    replace W20 := W20.aloadN (pc' := 16) djdk_42_150_15 rfl rfl rfl
    obtain ⟨V22, h22, r22, W22, K22, hQ22, SF22⟩ := W20.callV (pc' := 19) (argsL := []) (rest := []) (Wd := 0) (cells' := 0) (slots' := 0) (a := sb) (C := "java/lang/StringBuilder") (y := (⟨"java/lang/AbstractStringBuilder", "isLatin1", "()Z"⟩ : MethodName)) (z := (⟨"java/lang/AbstractStringBuilder", "isLatin1", "()Z"⟩ : MethodName)) djdk_42_150_16 (bil1 l Z a0 n0 hw hEL G1 O1 P1 O_as O_hi O_lo G3 O3 rG3 sb h0 W20.old F_sb_coder) E_sb (tw88 hw) (tw89 hw) (Or.inl (tw91 hw)) (tw91 hw) (tw90 hw) (tw52 hw) (tw92 hw) (by decide) (lenOf pd13 rfl) rfl rfl (by decide) (by decide) rfl sf0 all0 rfl rfl rfl (by decide) (by decide)
    clear W20
    obtain ⟨rfl, hs22⟩ := hQ22
    subst hs22
    have sf23 := SF22 xa E_xa.lt sf21
    replace W22 := W22.cast (st' := [(.int (0 : Int32))]) rfl
    replace W22 := W22.ifT (pc' := 41) djdk_42_150_19 (teq (by decide : (0 : Int32) = (0 : Int32))).1 (by decide) (by decide)
    replace W22 := W22.gets (pc' := 44) djdk_42_150_41 (tw44 hw) O1 rfl
    replace W22 := W22.ifF (pc' := 47) djdk_42_150_44 (feq P1).1 rfl
    replace W22 := W22.aloadN (pc' := 48) djdk_42_150_47 rfl rfl rfl
    replace W22 := W22.getf (pc' := 51) djdk_42_150_48 (tw251 hw) Via.refl F_sb_maybeLatin1 rfl
    replace W22 := W22.ifT (pc' := 79) djdk_42_150_51 (teq (by decide : (0 : Int32) = (0 : Int32))).1 (by decide) (by decide)
    replace W22 := W22.aloadN (pc' := 80) djdk_42_150_79 rfl rfl rfl
    replace W22 := W22.iconst (pc' := 81) (v := (1 : Int32)) djdk_42_150_80 rfl rfl
    obtain ⟨h24, W24, w24, SF24⟩ := W22.putf (pc' := 84) (ty := .byte) djdk_42_150_81 (tw26 hw) Via.refl F_xa_coder E_xa (Or.inr ⟨(tw22 hw), rfl, hnm⟩) (tw7 hw) (by decide) rfl rfl sf23 (Or.inl (List.mem_of_getElem? (i := 0) rfl)) rfl
    clear W22
    have z24 : h0.size ≤ h24.size := Nat.le_of_eq w24.size.symm
    have f24 := F_xa_coder.same w24
    replace W24 := W24.aloadN (pc' := 85) djdk_42_150_84 rfl rfl rfl
    replace W24 := W24.aloadN (pc' := 86) djdk_42_150_85 rfl rfl rfl
    replace W24 := W24.iconst (pc' := 87) (v := (0 : Int32)) djdk_42_150_86 rfl rfl
    replace W24 := W24.iload (pc' := 89) djdk_42_150_87 rfl rfl
    replace W24 := W24.iconst (pc' := 90) (v := (1 : Int32)) djdk_42_150_89 rfl rfl
    replace W24 := W24.ishl (pc' := 91) (v := (Int32.ofNat (2 * T))) djdk_42_150_90 (own_shl1 (by omega)) rfl
    have v25 := (V_va.other w24 (Exa.ne E_va E_xa (by decide)))
    have e26 := (E_va.wr w24)
    obtain ⟨V27, h27, r27, W27, K27, hQ27, SF27⟩ := W24.callS (pc' := 94) (argsL := [(.ref va), (.int (0 : Int32)), (.int (Int32.ofNat (2 * T)))]) (rest := [(.ref xa)]) (Wd := 1) (cells' := 1) (slots' := 64) (y := (⟨"java/util/Arrays", "copyOfRange", "([BII)[B"⟩ : MethodName)) djdk_42_150_91 (cr l Z a0 n0 hw hEL G1 O1 P1 O_as O_hi O_lo G3 O3 rG3 va kv (2 * K) f (2 * T) h24 W24.old v25 e26 (by omega)) (tw93 hw) (tw94 hw) (tw95 hw) (tw96 hw) (by decide) (lenOf pd25 rfl) rfl rfl (by decide) (by decide) rfl sf0 all0 rfl rfl rfl (by decide) (by decide)
    clear W24
    obtain ⟨r27, kr27, rfl, q27_1, q27_2, q27_3, q27_4⟩ := hQ27
    have z27 : h24.size ≤ h27.size := K27.1
    replace W27 := W27.cast (st' := [(.ref r27), (.ref xa)]) rfl
    have f28 := ((F_xa_value.other w24 (Or.inr (slot_ne (C := "java/lang/String") (Or.inr (tw21 hw)) (Or.inr (tw22 hw)) (by decide) (t := (.array .byte)) (t' := .byte) (by decide) (by decide)))).keep K27 nin0)
    have e29 := ((E_xa.wr w24).keep K27)
    have sf30 := (SF27 xa f24.lt (SF24 xa sf23))
    obtain ⟨h31, W31, w31, SF31⟩ := W27.putf (pc' := 97) (ty := (.array .byte)) djdk_42_150_94 (tw25 hw) Via.refl f28 e29 (Or.inr ⟨(tw21 hw), rfl, hnm⟩) (tw7 hw) (by decide) rfl rfl sf30 (Or.inl (List.mem_of_getElem? (i := 0) rfl)) rfl
    clear W27
    have z31 : h27.size ≤ h31.size := Nat.le_of_eq w31.size.symm
    have f31 := f28.same w31
    have e32 := (e29.wr w31)
    have f33 := ((f24.keep K27 nin0).other w31 (Or.inr (slot_ne (C := "java/lang/String") (Or.inr (tw22 hw)) (Or.inr (tw21 hw)) (by decide) (t := .byte) (t' := (.array .byte)) (by decide) (by decide))))
    have v34 := (q27_1.other w31 (Nat.ne_of_gt (Nat.lt_of_lt_of_le E_xa.lt (Nat.le_trans z24 q27_3))))
    exact W31.vret djdk_42_150_97 rfl (by decide) (by decide) (fun V' cv => ⟨(1 : Int32), r27, kr27, (2 * T), f, rfl, e32, f33, f31, v34, (Nat.le_trans z24 q27_3), (Or.inr ⟨rfl, rfl, hu⟩)⟩)
theorem ef_ni1 (m : MethodId) (xa : Addr) (sb : Addr) (va : Addr) (kv : ClassId) (cb : Int32) (KB : Nat) (K : Nat) (f : Nat → Int32) (T : Nat) (o : Nat → Int32) : entryFrame m #[(.ref xa), (.ref sb)] 2 = mkF m 0 #[.val (.ref xa), .val (.ref sb)] [] := by first | (simp [entryFrame, mkF, argsToLocals, Value.category]; done) | rfl
set_option maxRecDepth 65536 in
set_option maxHeartbeats 40000000 in
theorem ni1 (l : Launch) (Z : State) (a0 : Array Value) (n0 : Nat) (hw : ∀ d ∈ tables_1, d.before a0 Z = true) (hEL : EW Z a0 consts_1) (G1 : Int32) (O1 : Sta Z Z.heap "java/lang/String" "COMPACT_STRINGS" "Z" (.int G1)) (P1 : ¬ (G1 = (0 : Int32))) (O_as : Sta Z Z.heap "java/lang/StringUTF16" "$assertionsDisabled" "Z" (.int (1 : Int32))) (O_hi : Sta Z Z.heap "java/lang/StringUTF16" "HI_BYTE_SHIFT" "I" (.int (0 : Int32))) (O_lo : Sta Z Z.heap "java/lang/StringUTF16" "LO_BYTE_SHIFT" "I" (.int (8 : Int32))) (G3 : Value) (O3 : Sta Z Z.heap "jdk/internal/util/Preconditions" "SIOOBE_FORMATTER" "Ljava/util/function/BiFunction;" G3) (rG3 : G3.isRef = true) (xa : Addr) (sb : Addr) (va : Addr) (kv : ClassId) (cb : Int32) (KB : Nat) (K : Nat) (f : Nat → Int32) (T : Nat) (o : Nat → Int32) (h0 : Heap) (hO : Old Z n0 h0) (E_xa : Exa Z h0 xa "java/lang/String") (F_xa_value : Fld Z h0 xa "java/lang/String" "value" "[B" .null) (F_xa_coder : Fld Z h0 xa "java/lang/String" "coder" "B" (.int (0 : Int32))) (E_sb : Exa Z h0 sb "java/lang/StringBuilder") (F_sb_value : Fld Z h0 sb "java/lang/AbstractStringBuilder" "value" "[B" (.ref va)) (F_sb_coder : Fld Z h0 sb "java/lang/AbstractStringBuilder" "coder" "B" (.int cb)) (F_sb_count : Fld Z h0 sb "java/lang/AbstractStringBuilder" "count" "I" (.int (Int32.ofNat T))) (F_sb_maybeLatin1 : Fld Z h0 sb "java/lang/AbstractStringBuilder" "maybeLatin1" "Z" (.int (0 : Int32))) (V_va : Arv Z h0 va kv .byte (Int32.ofNat KB) (lst KB f) (.int (0 : Int32))) (E_va : Exa Z h0 va "[B") (bok : BOK cb KB K f T o) (hT : T ≤ K ∧ K ≤ 32) (g_xa : n0 ≤ xa) :
    Con l Z consts_1 n0 (⟨"java/lang/String", "<init>", "(Ljava/lang/StringBuilder;)V"⟩ : MethodName) jdk_42_method_53_code 2 none ({ frames := 4, cells := 1, slots := 64, locals := 65 } : Room) #[(.ref xa), (.ref sb)] h0 [xa] (fun v h V' => ∃ (cd2 : Int32) (ba2 : Addr) (kb2 : ClassId) (NB2 : Nat) (fb2 : Nat → Int32), v = none ∧ Exa Z h xa "java/lang/String" ∧ Fld Z h xa "java/lang/String" "coder" "B" (.int cd2) ∧ Fld Z h xa "java/lang/String" "value" "[B" (.ref ba2) ∧ Arv Z h ba2 kb2 .byte (Int32.ofNat NB2) (lst NB2 fb2) (.int (0 : Int32)) ∧ h0.size ≤ ba2 ∧ SOK cd2 NB2 fb2 T o) [] := by
  refine Con.of (a0 := a0) pf46 (fun m => ef_ni1 m xa sb va kv cb KB K f T o) (allS g_xa all0) hO hEL ?_
  intro p e s m below meth c S0 hnm hsf W
  replace W := W.aloadN (pc' := 1) djdk_42_53_0 rfl rfl rfl
  replace W := W.aloadN (pc' := 2) djdk_42_53_1 rfl rfl rfl
  replace W := W.aconstNull (pc' := 3) djdk_42_53_2 rfl
  obtain ⟨V1, h1, r1, W1, K1, hQ1, SF1⟩ := W.callI (pc' := 6) (argsL := [(.ref sb), .null]) (rest := []) (Wd := 0) (cells' := 1) (slots' := 64) (a := xa) (y := (⟨"java/lang/String", "<init>", "(Ljava/lang/AbstractStringBuilder;Ljava/lang/Void;)V"⟩ : MethodName)) djdk_42_53_3 (ni2 l Z a0 n0 hw hEL G1 O1 P1 O_as O_hi O_lo G3 O3 rG3 xa sb va kv cb KB K f T o h0 W.old E_xa F_xa_value F_xa_coder E_sb F_sb_value F_sb_coder F_sb_count F_sb_maybeLatin1 V_va E_va bok hT g_xa) rfl (tw69 hw) (tw70 hw) (tw8 hw) (tw71 hw) (by decide) (lenOf pd27 rfl) rfl rfl (by decide) (by decide) rfl (sfS (hsf _ (List.mem_of_getElem? (i := 0) rfl)) sf0) (allS (Or.inl (List.mem_of_getElem? (i := 0) rfl)) all0) rfl rfl rfl (by decide) (by decide)
  clear W
  obtain ⟨cd21, ba21, kb21, NB21, fb21, rfl, q1_1, q1_2, q1_3, q1_4, q1_5, q1_6⟩ := hQ1
  have z1 : h0.size ≤ h1.size := K1.1
  replace W1 := W1.cast (st' := []) rfl
  exact W1.vret djdk_42_53_6 rfl (by decide) (by decide) (fun V' cv => ⟨cd21, ba21, kb21, NB21, fb21, rfl, q1_1, q1_2, q1_3, q1_4, q1_5, q1_6⟩)
theorem ef_tos (m : MethodId) (sb : Addr) (va : Addr) (kv : ClassId) (cb : Int32) (KB : Nat) (K : Nat) (f : Nat → Int32) (T : Nat) (o : Nat → Int32) : entryFrame m #[(.ref sb)] 1 = mkF m 0 #[.val (.ref sb)] [] := by first | (simp [entryFrame, mkF, argsToLocals, Value.category]; done) | rfl
set_option maxRecDepth 65536 in
set_option maxHeartbeats 40000000 in
theorem tos (l : Launch) (Z : State) (a0 : Array Value) (n0 : Nat) (hw : ∀ d ∈ tables_1, d.before a0 Z = true) (hEL : EW Z a0 consts_1) (G1 : Int32) (O1 : Sta Z Z.heap "java/lang/String" "COMPACT_STRINGS" "Z" (.int G1)) (P1 : ¬ (G1 = (0 : Int32))) (O_as : Sta Z Z.heap "java/lang/StringUTF16" "$assertionsDisabled" "Z" (.int (1 : Int32))) (O_hi : Sta Z Z.heap "java/lang/StringUTF16" "HI_BYTE_SHIFT" "I" (.int (0 : Int32))) (O_lo : Sta Z Z.heap "java/lang/StringUTF16" "LO_BYTE_SHIFT" "I" (.int (8 : Int32))) (G3 : Value) (O3 : Sta Z Z.heap "jdk/internal/util/Preconditions" "SIOOBE_FORMATTER" "Ljava/util/function/BiFunction;" G3) (rG3 : G3.isRef = true) (sb : Addr) (va : Addr) (kv : ClassId) (cb : Int32) (KB : Nat) (K : Nat) (f : Nat → Int32) (T : Nat) (o : Nat → Int32) (h0 : Heap) (hO : Old Z n0 h0) (E_sb : Exa Z h0 sb "java/lang/StringBuilder") (F_sb_value : Fld Z h0 sb "java/lang/AbstractStringBuilder" "value" "[B" (.ref va)) (F_sb_coder : Fld Z h0 sb "java/lang/AbstractStringBuilder" "coder" "B" (.int cb)) (F_sb_count : Fld Z h0 sb "java/lang/AbstractStringBuilder" "count" "I" (.int (Int32.ofNat T))) (F_sb_maybeLatin1 : Fld Z h0 sb "java/lang/AbstractStringBuilder" "maybeLatin1" "Z" (.int (0 : Int32))) (V_va : Arv Z h0 va kv .byte (Int32.ofNat KB) (lst KB f) (.int (0 : Int32))) (E_va : Exa Z h0 va "[B") (bok : BOK cb KB K f T o) (hT : T ≤ K ∧ K ≤ 32) :
    Con l Z consts_1 n0 (⟨"java/lang/StringBuilder", "toString", "()Ljava/lang/String;"⟩ : MethodName) jdk_67_method_42_code 1 (some (.object "java/lang/String")) ({ frames := 5, cells := 2, slots := 68, locals := 79 } : Room) #[(.ref sb)] h0 [] (fun v h V' => ∃ (xr : Addr) (cd2 : Int32) (ba2 : Addr) (kb2 : ClassId) (NB2 : Nat) (fb2 : Nat → Int32), v = some (.ref xr) ∧ Exa Z h xr "java/lang/String" ∧ Fld Z h xr "java/lang/String" "coder" "B" (.int cd2) ∧ Fld Z h xr "java/lang/String" "value" "[B" (.ref ba2) ∧ Arv Z h ba2 kb2 .byte (Int32.ofNat NB2) (lst NB2 fb2) (.int (0 : Int32)) ∧ SOK cd2 NB2 fb2 T o) [] := by
  refine Con.of (a0 := a0) pf47 (fun m => ef_tos m sb va kv cb KB K f T o) all0 hO hEL ?_
  intro p e s m below meth c S0 hnm hsf W
  obtain ⟨h1, a1, W1, E1, g1, ⟨A1, D1, U1⟩, sf1, SF1⟩ := W.new (pc' := 3) (cells' := 1) (slots' := 4) djdk_67_42_0 (tw65 hw) (tw7 hw) (tw8 hw) rfl rfl rfl (by decide) (by decide)
  clear W
  rw [← g1] at A1 D1 U1
  have z1 : h0.size ≤ h1.size := E1.1
  replace W1 := W1.dup (pc' := 4) djdk_67_42_3 rfl rfl
  replace W1 := W1.aloadN (pc' := 5) djdk_67_42_4 rfl rfl rfl
  have e2 := (E_sb.ext E1)
  have f3 := (F_sb_value.ext E1)
  have f4 := (F_sb_coder.ext E1)
  have f5 := (F_sb_count.ext E1)
  have f6 := (F_sb_maybeLatin1.ext E1)
  have v7 := (V_va.ext E1)
  have e8 := (E_va.ext E1)
  obtain ⟨V9, h9, r9, W9, K9, hQ9, SF9⟩ := W1.callI (pc' := 8) (argsL := [(.ref sb)]) (rest := [(.ref a1)]) (Wd := 1) (cells' := 2) (slots' := 68) (a := a1) (y := (⟨"java/lang/String", "<init>", "(Ljava/lang/StringBuilder;)V"⟩ : MethodName)) djdk_67_42_5 (ni1 l Z a0 n0 hw hEL G1 O1 P1 O_as O_hi O_lo G3 O3 rG3 a1 sb va kv cb KB K f T o h1 W1.old A1 (D1 (Or.inr (tw21 hw)) (ty := (.array .byte)) (by decide) : Fld Z h1 a1 "java/lang/String" "value" "[B" .null) (D1 (Or.inr (tw22 hw)) (ty := .byte) (by decide) : Fld Z h1 a1 "java/lang/String" "coder" "B" (.int (0 : Int32))) e2 f3 f4 f5 f6 v7 e8 bok hT (Nat.le_trans W1.1.2.2.2.2.2.2.2.1 (Nat.le_of_eq g1.symm))) rfl (tw66 hw) (tw67 hw) (tw8 hw) (tw68 hw) (by decide) (lenOf pd28 rfl) rfl rfl (by decide) (by decide) rfl (sfS sf1 sf0) (allS (Or.inr (Nat.le_of_eq g1.symm)) all0) rfl rfl rfl (by decide) (by decide)
  clear W1
  obtain ⟨cd29, ba29, kb29, NB29, fb29, rfl, q9_1, q9_2, q9_3, q9_4, q9_5, q9_6⟩ := hQ9
  have z9 : h1.size ≤ h9.size := K9.1
  replace W9 := W9.cast (st' := [(.ref a1)]) rfl
  exact W9.aret (t := (.object "java/lang/String")) djdk_67_42_8 rfl rfl rfl rfl (by decide) (by decide) (fun V' cv => ⟨a1, cd29, ba29, kb29, NB29, fb29, rfl, q9_1, q9_2, q9_3, q9_4, q9_6⟩)
theorem ef_pick_c (m : MethodId) (x : Int32) : entryFrame m #[(.int x)] 2 = mkF m 0 #[.val (.int x), .unset] [] := by first | (simp [entryFrame, mkF, argsToLocals, Value.category]; done) | rfl
set_option maxRecDepth 65536 in
set_option maxHeartbeats 40000000 in
theorem pick_c (l : Launch) (Z : State) (a0 : Array Value) (n0 : Nat) (hw : ∀ d ∈ tables_1, d.before a0 Z = true) (hEL : EW Z a0 consts_1) (G1 : Int32) (O1 : Sta Z Z.heap "java/lang/String" "COMPACT_STRINGS" "Z" (.int G1)) (P1 : ¬ (G1 = (0 : Int32))) (O_as : Sta Z Z.heap "java/lang/StringUTF16" "$assertionsDisabled" "Z" (.int (1 : Int32))) (O_hi : Sta Z Z.heap "java/lang/StringUTF16" "HI_BYTE_SHIFT" "I" (.int (0 : Int32))) (O_lo : Sta Z Z.heap "java/lang/StringUTF16" "LO_BYTE_SHIFT" "I" (.int (8 : Int32))) (G3 : Value) (O3 : Sta Z Z.heap "jdk/internal/util/Preconditions" "SIOOBE_FORMATTER" "Ljava/util/function/BiFunction;" G3) (rG3 : G3.isRef = true) (x : Int32) (h0 : Heap) (hO : Old Z n0 h0)  :
    Con l Z consts_1 n0 (⟨"com/example/input_under_constraint/inputunderconstraint/MessageTemplateLiteralPinLaw", "pick", "(I)C"⟩ : MethodName) method_2_code 2 (some .char) ({ frames := 0, cells := 0, slots := 0, locals := 0 } : Room) #[(.int x)] h0 [] (fun v h V' => ∃ (r : Int32), v = some (.int r) ∧ h0 = h ∧ CH r) [] := by
  refine Con.of (a0 := a0) pf48 (fun m => ef_pick_c m x) all0 hO hEL ?_
  intro p e s m below meth c S0 hnm hsf W
  replace W := W.iloadN (pc' := 1) dm_2_0 rfl rfl
  replace W := W.bipush (pc' := 3) (v := (7 : Int32)) dm_2_1 rfl rfl
  replace W := W.iand (pc' := 4) (v := (x &&& (7 : Int32))) dm_2_3 rfl rfl
  replace W := W.istoreN (pc' := 5) (L' := #[.val (.int x), .val (.int (x &&& (7 : Int32)))]) dm_2_4 rfl rfl
  replace W := W.iloadN (pc' := 6) dm_2_5 rfl rfl
  by_cases hc1 : (x &&& (7 : Int32)) = (0 : Int32)
  · replace W := W.ifF (pc' := 9) dm_2_6 (teq hc1).2 rfl
    replace W := W.bipush (pc' := 11) (v := (123 : Int32)) dm_2_9 rfl rfl
    exact W.iret (t := .char) dm_2_11 rfl (by simp) (by decide) (by decide) (by decide) (fun V' cv => ⟨(123 : Int32), rfl, rfl, ⟨by decide, by decide⟩⟩)
  · replace W := W.ifT (pc' := 12) dm_2_6 (feq hc1).2 (by decide) (by decide)
    replace W := W.iloadN (pc' := 13) dm_2_12 rfl rfl
    replace W := W.iconst (pc' := 14) (v := (1 : Int32)) dm_2_13 rfl rfl
    by_cases hc2 : (x &&& (7 : Int32)) = (1 : Int32)
    · replace W := W.icmpF (pc' := 17) dm_2_14 (teq hc2).2 rfl
      replace W := W.bipush (pc' := 19) (v := (125 : Int32)) dm_2_17 rfl rfl
      exact W.iret (t := .char) dm_2_19 rfl (by simp) (by decide) (by decide) (by decide) (fun V' cv => ⟨(125 : Int32), rfl, rfl, ⟨by decide, by decide⟩⟩)
    · replace W := W.icmpT (pc' := 20) dm_2_14 (feq hc2).2 (by decide) (by decide)
      replace W := W.iloadN (pc' := 21) dm_2_20 rfl rfl
      replace W := W.iconst (pc' := 22) (v := (2 : Int32)) dm_2_21 rfl rfl
      by_cases hc3 : (x &&& (7 : Int32)) = (2 : Int32)
      · replace W := W.icmpF (pc' := 25) dm_2_22 (teq hc3).2 rfl
        replace W := W.bipush (pc' := 27) (v := (36 : Int32)) dm_2_25 rfl rfl
        exact W.iret (t := .char) dm_2_27 rfl (by simp) (by decide) (by decide) (by decide) (fun V' cv => ⟨(36 : Int32), rfl, rfl, ⟨by decide, by decide⟩⟩)
      · replace W := W.icmpT (pc' := 28) dm_2_22 (feq hc3).2 (by decide) (by decide)
        replace W := W.iloadN (pc' := 29) dm_2_28 rfl rfl
        replace W := W.iconst (pc' := 30) (v := (3 : Int32)) dm_2_29 rfl rfl
        by_cases hc4 : (x &&& (7 : Int32)) = (3 : Int32)
        · replace W := W.icmpF (pc' := 33) dm_2_30 (teq hc4).2 rfl
          replace W := W.bipush (pc' := 35) (v := (92 : Int32)) dm_2_33 rfl rfl
          exact W.iret (t := .char) dm_2_35 rfl (by simp) (by decide) (by decide) (by decide) (fun V' cv => ⟨(92 : Int32), rfl, rfl, ⟨by decide, by decide⟩⟩)
        · replace W := W.icmpT (pc' := 36) dm_2_30 (feq hc4).2 (by decide) (by decide)
          replace W := W.iloadN (pc' := 37) dm_2_36 rfl rfl
          replace W := W.bipush (pc' := 39) (v := (16 : Int32)) dm_2_37 rfl rfl
          replace W := W.iushr (pc' := 40) (v := (Jvm.Free.XT.ushr x (16 : Int32))) dm_2_39 rfl rfl
          replace W := W.i2c (pc' := 41) (v := ((Jvm.Free.XT.ushr x (16 : Int32)).toUInt32.toUInt16.toUInt32.toInt32)) dm_2_40 rfl rfl
          exact W.iret (t := .char) dm_2_41 rfl (by simp) (own_narrow_char (ch_i2c _)) (by decide) (by decide) (fun V' cv => ⟨((Jvm.Free.XT.ushr x (16 : Int32)).toUInt32.toUInt16.toUInt32.toInt32), rfl, rfl, (ch_i2c _)⟩)
theorem ef_esc_c (m : MethodId) (cz : Int32) : entryFrame m #[(.int cz)] 1 = mkF m 0 #[.val (.int cz)] [] := by first | (simp [entryFrame, mkF, argsToLocals, Value.category]; done) | rfl
set_option maxRecDepth 65536 in
set_option maxHeartbeats 40000000 in
theorem esc_c (l : Launch) (Z : State) (a0 : Array Value) (n0 : Nat) (hw : ∀ d ∈ tables_1, d.before a0 Z = true) (hEL : EW Z a0 consts_1) (G1 : Int32) (O1 : Sta Z Z.heap "java/lang/String" "COMPACT_STRINGS" "Z" (.int G1)) (P1 : ¬ (G1 = (0 : Int32))) (O_as : Sta Z Z.heap "java/lang/StringUTF16" "$assertionsDisabled" "Z" (.int (1 : Int32))) (O_hi : Sta Z Z.heap "java/lang/StringUTF16" "HI_BYTE_SHIFT" "I" (.int (0 : Int32))) (O_lo : Sta Z Z.heap "java/lang/StringUTF16" "LO_BYTE_SHIFT" "I" (.int (8 : Int32))) (G3 : Value) (O3 : Sta Z Z.heap "jdk/internal/util/Preconditions" "SIOOBE_FORMATTER" "Ljava/util/function/BiFunction;" G3) (rG3 : G3.isRef = true) (cz : Int32) (h0 : Heap) (hO : Old Z n0 h0)  :
    Con l Z consts_1 n0 (⟨"com/example/input_under_constraint/inputunderconstraint/MessageTemplateLiteralPinLaw", "esc", "(C)Z"⟩ : MethodName) method_3_code 1 (some .boolean) ({ frames := 0, cells := 0, slots := 0, locals := 0 } : Room) #[(.int cz)] h0 [] (fun v h V' => v = some (.int (escf cz)) ∧ h0 = h) [] := by
  refine Con.of (a0 := a0) pf49 (fun m => ef_esc_c m cz) all0 hO hEL ?_
  intro p e s m below meth c S0 hnm hsf W
  replace W := W.iloadN (pc' := 1) dm_3_0 rfl rfl
  replace W := W.bipush (pc' := 3) (v := (123 : Int32)) dm_3_1 rfl rfl
  by_cases hc1 : cz = (123 : Int32)
  · replace W := W.icmpT (pc' := 24) dm_3_3 (teq hc1).1 (by decide) (by decide)
    replace W := W.iconst (pc' := 25) (v := (1 : Int32)) dm_3_24 rfl rfl
    replace W := W.goto (pc' := 29) dm_3_25 (by decide) (by decide)
    exact W.iret (t := .boolean) dm_3_29 rfl (by simp) (by decide) (by decide) (by decide) (fun V' cv => ⟨(congrArg (fun z => some (Value.int z)) (by unfold escf; rw [if_pos hc1])), rfl⟩)
  · replace W := W.icmpF (pc' := 6) dm_3_3 (feq hc1).1 rfl
    replace W := W.iloadN (pc' := 7) dm_3_6 rfl rfl
    replace W := W.bipush (pc' := 9) (v := (125 : Int32)) dm_3_7 rfl rfl
    by_cases hc2 : cz = (125 : Int32)
    · replace W := W.icmpT (pc' := 24) dm_3_9 (teq hc2).1 (by decide) (by decide)
      replace W := W.iconst (pc' := 25) (v := (1 : Int32)) dm_3_24 rfl rfl
      replace W := W.goto (pc' := 29) dm_3_25 (by decide) (by decide)
      exact W.iret (t := .boolean) dm_3_29 rfl (by simp) (by decide) (by decide) (by decide) (fun V' cv => ⟨(congrArg (fun z => some (Value.int z)) (by unfold escf; rw [if_neg hc1]; rw [if_pos hc2])), rfl⟩)
    · replace W := W.icmpF (pc' := 12) dm_3_9 (feq hc2).1 rfl
      replace W := W.iloadN (pc' := 13) dm_3_12 rfl rfl
      replace W := W.bipush (pc' := 15) (v := (36 : Int32)) dm_3_13 rfl rfl
      by_cases hc3 : cz = (36 : Int32)
      · replace W := W.icmpT (pc' := 24) dm_3_15 (teq hc3).1 (by decide) (by decide)
        replace W := W.iconst (pc' := 25) (v := (1 : Int32)) dm_3_24 rfl rfl
        replace W := W.goto (pc' := 29) dm_3_25 (by decide) (by decide)
        exact W.iret (t := .boolean) dm_3_29 rfl (by simp) (by decide) (by decide) (by decide) (fun V' cv => ⟨(congrArg (fun z => some (Value.int z)) (by unfold escf; rw [if_neg hc1]; rw [if_neg hc2]; rw [if_pos hc3])), rfl⟩)
      · replace W := W.icmpF (pc' := 18) dm_3_15 (feq hc3).1 rfl
        replace W := W.iloadN (pc' := 19) dm_3_18 rfl rfl
        replace W := W.bipush (pc' := 21) (v := (92 : Int32)) dm_3_19 rfl rfl
        by_cases hc4 : cz = (92 : Int32)
        · replace W := W.icmpF (pc' := 24) dm_3_21 (teq hc4).2 rfl
          replace W := W.iconst (pc' := 25) (v := (1 : Int32)) dm_3_24 rfl rfl
          replace W := W.goto (pc' := 29) dm_3_25 (by decide) (by decide)
          exact W.iret (t := .boolean) dm_3_29 rfl (by simp) (by decide) (by decide) (by decide) (fun V' cv => ⟨(congrArg (fun z => some (Value.int z)) (by unfold escf; rw [if_neg hc1]; rw [if_neg hc2]; rw [if_neg hc3]; rw [if_pos hc4])), rfl⟩)
        · replace W := W.icmpT (pc' := 28) dm_3_21 (feq hc4).2 (by decide) (by decide)
          replace W := W.iconst (pc' := 29) (v := (0 : Int32)) dm_3_28 rfl rfl
          exact W.iret (t := .boolean) dm_3_29 rfl (by simp) (by decide) (by decide) (by decide) (fun V' cv => ⟨(congrArg (fun z => some (Value.int z)) (by unfold escf; rw [if_neg hc1]; rw [if_neg hc2]; rw [if_neg hc3]; rw [if_neg hc4])), rfl⟩)
theorem ef_ise_c (m : MethodId) (cz : Int32) : entryFrame m #[(.int cz)] 1 = mkF m 0 #[.val (.int cz)] [] := by first | (simp [entryFrame, mkF, argsToLocals, Value.category]; done) | rfl
set_option maxRecDepth 65536 in
set_option maxHeartbeats 40000000 in
theorem ise_c (l : Launch) (Z : State) (a0 : Array Value) (n0 : Nat) (hw : ∀ d ∈ tables_1, d.before a0 Z = true) (hEL : EW Z a0 consts_1) (G1 : Int32) (O1 : Sta Z Z.heap "java/lang/String" "COMPACT_STRINGS" "Z" (.int G1)) (P1 : ¬ (G1 = (0 : Int32))) (O_as : Sta Z Z.heap "java/lang/StringUTF16" "$assertionsDisabled" "Z" (.int (1 : Int32))) (O_hi : Sta Z Z.heap "java/lang/StringUTF16" "HI_BYTE_SHIFT" "I" (.int (0 : Int32))) (O_lo : Sta Z Z.heap "java/lang/StringUTF16" "LO_BYTE_SHIFT" "I" (.int (8 : Int32))) (G3 : Value) (O3 : Sta Z Z.heap "jdk/internal/util/Preconditions" "SIOOBE_FORMATTER" "Ljava/util/function/BiFunction;" G3) (rG3 : G3.isRef = true) (cz : Int32) (h0 : Heap) (hO : Old Z n0 h0)  :
    Con l Z consts_1 n0 (⟨"com/example/input_under_constraint/inputunderconstraint/MessageTemplate", "isEscapable", "(C)Z"⟩ : MethodName) prog_19_method_12_code 1 (some .boolean) ({ frames := 0, cells := 0, slots := 0, locals := 0 } : Room) #[(.int cz)] h0 [] (fun v h V' => v = some (.int (escf cz)) ∧ h0 = h) [] := by
  refine Con.of (a0 := a0) pf50 (fun m => ef_ise_c m cz) all0 hO hEL ?_
  intro p e s m below meth c S0 hnm hsf W
  replace W := W.iloadN (pc' := 1) dprog_19_12_0 rfl rfl
  replace W := W.bipush (pc' := 3) (v := (123 : Int32)) dprog_19_12_1 rfl rfl
  by_cases hc1 : cz = (123 : Int32)
  · replace W := W.icmpT (pc' := 24) dprog_19_12_3 (teq hc1).1 (by decide) (by decide)
    replace W := W.iconst (pc' := 25) (v := (1 : Int32)) dprog_19_12_24 rfl rfl
    replace W := W.goto (pc' := 29) dprog_19_12_25 (by decide) (by decide)
    exact W.iret (t := .boolean) dprog_19_12_29 rfl (by simp) (by decide) (by decide) (by decide) (fun V' cv => ⟨(congrArg (fun z => some (Value.int z)) (by unfold escf; rw [if_pos hc1])), rfl⟩)
  · replace W := W.icmpF (pc' := 6) dprog_19_12_3 (feq hc1).1 rfl
    replace W := W.iloadN (pc' := 7) dprog_19_12_6 rfl rfl
    replace W := W.bipush (pc' := 9) (v := (125 : Int32)) dprog_19_12_7 rfl rfl
    by_cases hc2 : cz = (125 : Int32)
    · replace W := W.icmpT (pc' := 24) dprog_19_12_9 (teq hc2).1 (by decide) (by decide)
      replace W := W.iconst (pc' := 25) (v := (1 : Int32)) dprog_19_12_24 rfl rfl
      replace W := W.goto (pc' := 29) dprog_19_12_25 (by decide) (by decide)
      exact W.iret (t := .boolean) dprog_19_12_29 rfl (by simp) (by decide) (by decide) (by decide) (fun V' cv => ⟨(congrArg (fun z => some (Value.int z)) (by unfold escf; rw [if_neg hc1]; rw [if_pos hc2])), rfl⟩)
    · replace W := W.icmpF (pc' := 12) dprog_19_12_9 (feq hc2).1 rfl
      replace W := W.iloadN (pc' := 13) dprog_19_12_12 rfl rfl
      replace W := W.bipush (pc' := 15) (v := (36 : Int32)) dprog_19_12_13 rfl rfl
      by_cases hc3 : cz = (36 : Int32)
      · replace W := W.icmpT (pc' := 24) dprog_19_12_15 (teq hc3).1 (by decide) (by decide)
        replace W := W.iconst (pc' := 25) (v := (1 : Int32)) dprog_19_12_24 rfl rfl
        replace W := W.goto (pc' := 29) dprog_19_12_25 (by decide) (by decide)
        exact W.iret (t := .boolean) dprog_19_12_29 rfl (by simp) (by decide) (by decide) (by decide) (fun V' cv => ⟨(congrArg (fun z => some (Value.int z)) (by unfold escf; rw [if_neg hc1]; rw [if_neg hc2]; rw [if_pos hc3])), rfl⟩)
      · replace W := W.icmpF (pc' := 18) dprog_19_12_15 (feq hc3).1 rfl
        replace W := W.iloadN (pc' := 19) dprog_19_12_18 rfl rfl
        replace W := W.bipush (pc' := 21) (v := (92 : Int32)) dprog_19_12_19 rfl rfl
        by_cases hc4 : cz = (92 : Int32)
        · replace W := W.icmpF (pc' := 24) dprog_19_12_21 (teq hc4).2 rfl
          replace W := W.iconst (pc' := 25) (v := (1 : Int32)) dprog_19_12_24 rfl rfl
          replace W := W.goto (pc' := 29) dprog_19_12_25 (by decide) (by decide)
          exact W.iret (t := .boolean) dprog_19_12_29 rfl (by simp) (by decide) (by decide) (by decide) (fun V' cv => ⟨(congrArg (fun z => some (Value.int z)) (by unfold escf; rw [if_neg hc1]; rw [if_neg hc2]; rw [if_neg hc3]; rw [if_pos hc4])), rfl⟩)
        · replace W := W.icmpT (pc' := 28) dprog_19_12_21 (feq hc4).2 (by decide) (by decide)
          replace W := W.iconst (pc' := 29) (v := (0 : Int32)) dprog_19_12_28 rfl rfl
          exact W.iret (t := .boolean) dprog_19_12_29 rfl (by simp) (by decide) (by decide) (by decide) (fun V' cv => ⟨(congrArg (fun z => some (Value.int z)) (by unfold escf; rw [if_neg hc1]; rw [if_neg hc2]; rw [if_neg hc3]; rw [if_neg hc4])), rfl⟩)
set_option maxRecDepth 65536 in
set_option maxHeartbeats 40000000 in
theorem lit_p3 (l : Launch) (Z : State) (a0 : Array Value) (n0 : Nat) (hw : ∀ d ∈ tables_1, d.before a0 Z = true) (hEL : EW Z a0 consts_1) (G1 : Int32) (O1 : Sta Z Z.heap "java/lang/String" "COMPACT_STRINGS" "Z" (.int G1)) (P1 : ¬ (G1 = (0 : Int32))) (O_as : Sta Z Z.heap "java/lang/StringUTF16" "$assertionsDisabled" "Z" (.int (1 : Int32))) (O_hi : Sta Z Z.heap "java/lang/StringUTF16" "HI_BYTE_SHIFT" "I" (.int (0 : Int32))) (O_lo : Sta Z Z.heap "java/lang/StringUTF16" "LO_BYTE_SHIFT" "I" (.int (8 : Int32))) (G3 : Value) (O3 : Sta Z Z.heap "jdk/internal/util/Preconditions" "SIOOBE_FORMATTER" "Ljava/util/function/BiFunction;" G3) (rG3 : G3.isRef = true) (xa : Addr) (cd : Int32) (ba : Addr) (kb : ClassId) (NB : Nat) (fb : Nat → Int32) (N : Nat) (g : Nat → Int32) (sb : Addr) (va : Addr) (kv : ClassId) (cb : Int32) (KB : Nat) (K : Nat) (f : Nat → Int32) (xv : Int32) (p : Program) (e : Env) (s : State) (m : MethodId) (below : List Frame) (meth : Method) (c : Code) (S0 : State) (V : Vm) (h0 h : Heap) (hO0 : Old Z n0 h0) (E_xa : Exa Z h xa "java/lang/String") (F_xa_coder : Fld Z h xa "java/lang/String" "coder" "B" (.int cd)) (F_xa_value : Fld Z h xa "java/lang/String" "value" "[B" (.ref ba)) (V_ba : Arv Z h ba kb .byte (Int32.ofNat NB) (lst NB fb) (.int (0 : Int32))) (sok : SOK cd NB fb N g) (hN3 : N ≤ 3) (hq : ∀ i, i < N → CH (g i)) (E_sb : Exa Z h sb "java/lang/StringBuilder") (F_sb_value : Fld Z h sb "java/lang/AbstractStringBuilder" "value" "[B" (.ref va)) (F_sb_coder : Fld Z h sb "java/lang/AbstractStringBuilder" "coder" "B" (.int cb)) (F_sb_count : Fld Z h sb "java/lang/AbstractStringBuilder" "count" "I" (.int (Int32.ofNat (oT g 3)))) (F_sb_maybeLatin1 : Fld Z h sb "java/lang/AbstractStringBuilder" "maybeLatin1" "Z" (.int (0 : Int32))) (V_va : Arv Z h va kv .byte (Int32.ofNat KB) (lst KB f) (.int (0 : Int32))) (E_va : Exa Z h va "[B") (S_va : Safe Z consts_1 V h va) (G_va : h0.size ≤ va) (G_sb : h0.size ≤ sb) (N_ba_va : ba ≠ va) (N_ba_sb : ba ≠ sb) (htN : 3 ≤ N) (bok : BOK cb KB K f (oT g 3) (oF g 3)) (hb : oT g 3 ≤ K ∧ 1 ≤ K ∧ K ≤ N + 2 * (oT g 3) + 2) (hnm : meth.name = "literal") (W : Wk p l e ({ frames := 9, cells := 20, slots := 1100, locals := 200 } : Room) s m #[(.ref xa)] below meth c prog_19_method_4_code 4 (some (.object "java/lang/String")) Z a0 consts_1 "com/example/input_under_constraint/inputunderconstraint/MessageTemplate" n0 h0 [] S0 V h 14 792 (mkF m 14 #[.val (.ref xa), .val (.ref sb), .val (.int (Int32.ofNat 3)), .val (.int xv)] [])) : Done p e below S0 s Z consts_1 n0 h0 [] ({ frames := 9, cells := 20, slots := 1100, locals := 200 } : Room) (fun v h V' => ∃ (xr : Addr) (cd2 : Int32) (ba2 : Addr) (kb2 : ClassId) (NB2 : Nat) (fb2 : Nat → Int32), v = some (.ref xr) ∧ Exa Z h xr "java/lang/String" ∧ Fld Z h xr "java/lang/String" "coder" "B" (.int cd2) ∧ Fld Z h xr "java/lang/String" "value" "[B" (.ref ba2) ∧ Arv Z h ba2 kb2 .byte (Int32.ofNat NB2) (lst NB2 fb2) (.int (0 : Int32)) ∧ SOK cd2 NB2 fb2 (oT g N) (oF g N)) := by
  have z0 : h0.size ≤ h.size := W.kept.1
  have hle := oT_le g 3
  replace W := W.iloadN (pc' := 15) dprog_19_4_14 rfl rfl
  replace W := W.aloadN (pc' := 16) dprog_19_4_15 rfl rfl rfl
  obtain ⟨V1, h1, r1, W1, K1, hQ1, SF1⟩ := W.callV (pc' := 19) (argsL := []) (rest := [(.int (Int32.ofNat 3))]) (Wd := 1) (cells' := 14) (slots' := 792) (a := xa) (C := "java/lang/String") (y := (⟨"java/lang/String", "length", "()I"⟩ : MethodName)) (z := (⟨"java/lang/String", "length", "()I"⟩ : MethodName)) dprog_19_4_16 (len_c l Z a0 n0 hw hEL G1 O1 P1 O_as O_hi O_lo G3 O3 rG3 xa cd ba kb NB fb N g h W.old E_xa F_xa_coder F_xa_value V_ba sok (by omega)) E_xa (tw34 hw) (tw35 hw) (Or.inl (tw37 hw)) (tw37 hw) (tw36 hw) (tw8 hw) (tw38 hw) (by decide) (lenOf pd15 rfl) rfl rfl (by decide) (by decide) rfl sf0 all0 rfl rfl rfl (by decide) (by decide)
  clear W
  obtain ⟨rfl, hs1⟩ := hQ1
  subst hs1
  have sf2 := SF1 va V_va.lt S_va
  replace W1 := W1.cast (st' := [(.int (Int32.ofNat N)), (.int (Int32.ofNat 3))]) rfl
  replace W1 := W1.icmpT (pc' := 54) dprog_19_4_19 (flt (own_nlt (X := 3) (Y := N) (by omega) (by omega) (by omega))).2.1 (by decide) (by decide)
  have hNt : N = 3 := by omega
  subst hNt
  replace W1 := W1.aloadN (pc' := 55) dprog_19_4_54 rfl rfl rfl
  obtain ⟨V3, h3, r3, W3, K3, hQ3, SF3⟩ := W1.callV (pc' := 58) (argsL := []) (rest := []) (Wd := 0) (cells' := 16) (slots' := 860) (a := sb) (C := "java/lang/StringBuilder") (y := (⟨"java/lang/StringBuilder", "toString", "()Ljava/lang/String;"⟩ : MethodName)) (z := (⟨"java/lang/StringBuilder", "toString", "()Ljava/lang/String;"⟩ : MethodName)) dprog_19_4_55 (tos l Z a0 n0 hw hEL G1 O1 P1 O_as O_hi O_lo G3 O3 rG3 sb va kv cb KB K f (oT g 3) (oF g 3) h W1.old E_sb F_sb_value F_sb_coder F_sb_count F_sb_maybeLatin1 V_va E_va bok (by omega)) E_sb (tw60 hw) (tw61 hw) (Or.inl (tw63 hw)) (tw63 hw) (tw62 hw) (tw33 hw) (tw64 hw) (by decide) (lenOf pd29 rfl) rfl rfl (by decide) (by decide) rfl sf0 all0 rfl rfl rfl (by decide) (by decide)
  clear W1
  obtain ⟨xr3, cd23, ba23, kb23, NB23, fb23, rfl, q3_1, q3_2, q3_3, q3_4, q3_5⟩ := hQ3
  have z3 : h.size ≤ h3.size := K3.1
  replace W3 := W3.cast (st' := [(.ref xr3)]) rfl
  exact W3.aret (t := (.object "java/lang/String")) dprog_19_4_58 rfl rfl rfl rfl (by decide) (by decide) (fun V' cv => ⟨xr3, cd23, ba23, kb23, NB23, fb23, rfl, q3_1, q3_2, q3_3, q3_4, q3_5⟩)
set_option maxRecDepth 65536 in
set_option maxHeartbeats 40000000 in
theorem lit_p2 (l : Launch) (Z : State) (a0 : Array Value) (n0 : Nat) (hw : ∀ d ∈ tables_1, d.before a0 Z = true) (hEL : EW Z a0 consts_1) (G1 : Int32) (O1 : Sta Z Z.heap "java/lang/String" "COMPACT_STRINGS" "Z" (.int G1)) (P1 : ¬ (G1 = (0 : Int32))) (O_as : Sta Z Z.heap "java/lang/StringUTF16" "$assertionsDisabled" "Z" (.int (1 : Int32))) (O_hi : Sta Z Z.heap "java/lang/StringUTF16" "HI_BYTE_SHIFT" "I" (.int (0 : Int32))) (O_lo : Sta Z Z.heap "java/lang/StringUTF16" "LO_BYTE_SHIFT" "I" (.int (8 : Int32))) (G3 : Value) (O3 : Sta Z Z.heap "jdk/internal/util/Preconditions" "SIOOBE_FORMATTER" "Ljava/util/function/BiFunction;" G3) (rG3 : G3.isRef = true) (xa : Addr) (cd : Int32) (ba : Addr) (kb : ClassId) (NB : Nat) (fb : Nat → Int32) (N : Nat) (g : Nat → Int32) (sb : Addr) (va : Addr) (kv : ClassId) (cb : Int32) (KB : Nat) (K : Nat) (f : Nat → Int32) (xv : Int32) (p : Program) (e : Env) (s : State) (m : MethodId) (below : List Frame) (meth : Method) (c : Code) (S0 : State) (V : Vm) (h0 h : Heap) (hO0 : Old Z n0 h0) (E_xa : Exa Z h xa "java/lang/String") (F_xa_coder : Fld Z h xa "java/lang/String" "coder" "B" (.int cd)) (F_xa_value : Fld Z h xa "java/lang/String" "value" "[B" (.ref ba)) (V_ba : Arv Z h ba kb .byte (Int32.ofNat NB) (lst NB fb) (.int (0 : Int32))) (sok : SOK cd NB fb N g) (hN3 : N ≤ 3) (hq : ∀ i, i < N → CH (g i)) (E_sb : Exa Z h sb "java/lang/StringBuilder") (F_sb_value : Fld Z h sb "java/lang/AbstractStringBuilder" "value" "[B" (.ref va)) (F_sb_coder : Fld Z h sb "java/lang/AbstractStringBuilder" "coder" "B" (.int cb)) (F_sb_count : Fld Z h sb "java/lang/AbstractStringBuilder" "count" "I" (.int (Int32.ofNat (oT g 2)))) (F_sb_maybeLatin1 : Fld Z h sb "java/lang/AbstractStringBuilder" "maybeLatin1" "Z" (.int (0 : Int32))) (V_va : Arv Z h va kv .byte (Int32.ofNat KB) (lst KB f) (.int (0 : Int32))) (E_va : Exa Z h va "[B") (S_va : Safe Z consts_1 V h va) (G_va : h0.size ≤ va) (G_sb : h0.size ≤ sb) (N_ba_va : ba ≠ va) (N_ba_sb : ba ≠ sb) (htN : 2 ≤ N) (bok : BOK cb KB K f (oT g 2) (oF g 2)) (hb : oT g 2 ≤ K ∧ 1 ≤ K ∧ K ≤ N + 2 * (oT g 2) + 2) (hnm : meth.name = "literal") (W : Wk p l e ({ frames := 9, cells := 20, slots := 1100, locals := 200 } : Room) s m #[(.ref xa)] below meth c prog_19_method_4_code 4 (some (.object "java/lang/String")) Z a0 consts_1 "com/example/input_under_constraint/inputunderconstraint/MessageTemplate" n0 h0 [] S0 V h 10 536 (mkF m 14 #[.val (.ref xa), .val (.ref sb), .val (.int (Int32.ofNat 2)), .val (.int xv)] [])) : Done p e below S0 s Z consts_1 n0 h0 [] ({ frames := 9, cells := 20, slots := 1100, locals := 200 } : Room) (fun v h V' => ∃ (xr : Addr) (cd2 : Int32) (ba2 : Addr) (kb2 : ClassId) (NB2 : Nat) (fb2 : Nat → Int32), v = some (.ref xr) ∧ Exa Z h xr "java/lang/String" ∧ Fld Z h xr "java/lang/String" "coder" "B" (.int cd2) ∧ Fld Z h xr "java/lang/String" "value" "[B" (.ref ba2) ∧ Arv Z h ba2 kb2 .byte (Int32.ofNat NB2) (lst NB2 fb2) (.int (0 : Int32)) ∧ SOK cd2 NB2 fb2 (oT g N) (oF g N)) := by
  have z0 : h0.size ≤ h.size := W.kept.1
  have hle := oT_le g 2
  replace W := W.iloadN (pc' := 15) dprog_19_4_14 rfl rfl
  replace W := W.aloadN (pc' := 16) dprog_19_4_15 rfl rfl rfl
  obtain ⟨V1, h1, r1, W1, K1, hQ1, SF1⟩ := W.callV (pc' := 19) (argsL := []) (rest := [(.int (Int32.ofNat 2))]) (Wd := 1) (cells' := 10) (slots' := 536) (a := xa) (C := "java/lang/String") (y := (⟨"java/lang/String", "length", "()I"⟩ : MethodName)) (z := (⟨"java/lang/String", "length", "()I"⟩ : MethodName)) dprog_19_4_16 (len_c l Z a0 n0 hw hEL G1 O1 P1 O_as O_hi O_lo G3 O3 rG3 xa cd ba kb NB fb N g h W.old E_xa F_xa_coder F_xa_value V_ba sok (by omega)) E_xa (tw34 hw) (tw35 hw) (Or.inl (tw37 hw)) (tw37 hw) (tw36 hw) (tw8 hw) (tw38 hw) (by decide) (lenOf pd15 rfl) rfl rfl (by decide) (by decide) rfl sf0 all0 rfl rfl rfl (by decide) (by decide)
  clear W
  obtain ⟨rfl, hs1⟩ := hQ1
  subst hs1
  have sf2 := SF1 va V_va.lt S_va
  replace W1 := W1.cast (st' := [(.int (Int32.ofNat N)), (.int (Int32.ofNat 2))]) rfl
  by_cases hc3 : (Int32.ofNat 2) < (Int32.ofNat N)
  · replace W1 := W1.icmpF (pc' := 22) dprog_19_4_19 (tlt hc3).2.1 rfl
    have hlt2 := own_ltN (by omega) (by omega) hc3
    replace W1 := W1.aloadN (pc' := 23) dprog_19_4_22 rfl rfl rfl
    replace W1 := W1.iloadN (pc' := 24) dprog_19_4_23 rfl rfl
    obtain ⟨V4, h4, r4, W4, K4, hQ4, SF4⟩ := W1.callV (pc' := 27) (argsL := [(.int (Int32.ofNat 2))]) (rest := []) (Wd := 0) (cells' := 10) (slots' := 536) (a := xa) (C := "java/lang/String") (y := (⟨"java/lang/String", "charAt", "(I)C"⟩ : MethodName)) (z := (⟨"java/lang/String", "charAt", "(I)C"⟩ : MethodName)) dprog_19_4_24 (cat_c l Z a0 n0 hw hEL G1 O1 P1 O_as O_hi O_lo G3 O3 rG3 xa cd ba kb NB fb N g 2 h W1.old E_xa F_xa_coder F_xa_value V_ba sok (by omega) (by omega) hq) E_xa (tw123 hw) (tw124 hw) (Or.inl (tw126 hw)) (tw126 hw) (tw125 hw) (tw8 hw) (tw127 hw) (by decide) (lenOf pd30 rfl) rfl rfl (by decide) (by decide) rfl sf0 all0 rfl rfl rfl (by decide) (by decide)
    clear W1
    obtain ⟨rfl, hs4⟩ := hQ4
    subst hs4
    have sf5 := SF4 va V_va.lt sf2
    replace W4 := W4.cast (st' := [(.int (g 2))]) rfl
    replace W4 := W4.istoreN (pc' := 28) (L' := #[.val (.ref xa), .val (.ref sb), .val (.int (Int32.ofNat 2)), .val (.int (g 2))]) dprog_19_4_27 rfl rfl
    replace W4 := W4.iloadN (pc' := 29) dprog_19_4_28 rfl rfl
    obtain ⟨V6, h6, r6, W6, K6, hQ6, SF6⟩ := W4.callS (pc' := 32) (argsL := [(.int (g 2))]) (rest := []) (Wd := 0) (cells' := 10) (slots' := 536) (y := (⟨"com/example/input_under_constraint/inputunderconstraint/MessageTemplate", "isEscapable", "(C)Z"⟩ : MethodName)) dprog_19_4_29 (ise_c l Z a0 n0 hw hEL G1 O1 P1 O_as O_hi O_lo G3 O3 rG3 (g 2) h W4.old) (tw145 hw) (tw146 hw) (tw29 hw) (tw147 hw) (by decide) (lenOf pd22 rfl) rfl rfl (by decide) (by decide) rfl sf0 all0 rfl rfl rfl (by decide) (by decide)
    clear W4
    obtain ⟨rfl, hs6⟩ := hQ6
    subst hs6
    have sf7 := SF6 va V_va.lt sf5
    replace W6 := W6.cast (st' := [(.int (escf (g 2)))]) rfl
    by_cases hc8 : (escf (g 2)) = (0 : Int32)
    · replace W6 := W6.ifT (pc' := 42) dprog_19_4_32 (teq hc8).1 (by decide) (by decide)
      replace W6 := W6.aloadN (pc' := 43) dprog_19_4_42 rfl rfl rfl
      replace W6 := W6.iloadN (pc' := 44) dprog_19_4_43 rfl rfl
      obtain ⟨V9, h9, r9, W9, K9, hQ9, SF9⟩ := W6.callV (pc' := 47) (argsL := [(.int (g 2))]) (rest := []) (Wd := 0) (cells' := 12) (slots' := 664) (a := sb) (C := "java/lang/StringBuilder") (y := (⟨"java/lang/StringBuilder", "append", "(C)Ljava/lang/StringBuilder;"⟩ : MethodName)) (z := (⟨"java/lang/StringBuilder", "append", "(C)Ljava/lang/StringBuilder;"⟩ : MethodName)) dprog_19_4_44 (sapp l Z a0 n0 hw hEL G1 O1 P1 O_as O_hi O_lo G3 O3 rG3 sb va kv cb KB K f (oT g 2) (oF g 2) (g 2) h W6.old E_sb F_sb_value F_sb_coder F_sb_count F_sb_maybeLatin1 V_va E_va bok (by omega) (hq _ (by omega)) (oF_ch hq _ (by omega)) (Nat.le_trans W6.1.2.2.2.2.2.2.2.1 G_sb) (Nat.le_trans W6.1.2.2.2.2.2.2.2.1 G_va)) E_sb (tw148 hw) (tw149 hw) (Or.inl (tw151 hw)) (tw151 hw) (tw150 hw) (tw33 hw) (tw152 hw) (by decide) (lenOf pd31 rfl) rfl rfl (by decide) (by decide) rfl (sfS (W6.safeE E_sb (by decide) (by decide)) (sfS sf7 sf0)) (allS (Or.inr G_sb) (allS (Or.inr G_va) all0)) rfl rfl rfl (by decide) (by decide)
      clear W6
      obtain ⟨va29, kv29, cb29, KB29, K29, f29, rfl, q9_1, q9_2, q9_3, q9_4, q9_5, q9_6, q9_7, q9_8, q9_9, q9_10, q9_11⟩ := hQ9
      have z9 : h.size ≤ h9.size := K9.1
      replace W9 := W9.cast (st' := [(.ref sb)]) rfl
      have ge9 : h0.size ≤ va29 := q9_11.elim (fun e => e ▸ G_va) (fun z => Nat.le_trans z0 z)
      have nb9 : ba ≠ va29 := fun e => q9_11.elim (fun e2 => N_ba_va (e.trans e2)) (fun z => Nat.lt_irrefl _ (Nat.lt_of_lt_of_le V_ba.lt (e ▸ z)))
      obtain ⟨bd9_1, bd9_2⟩ := q9_10
      replace W9 := W9.pop (pc' := 48) dprog_19_4_47 rfl rfl
      replace W9 := W9.iinc (pc' := 51) (v := (Int32.ofNat (2 + 1))) (L' := #[.val (.ref xa), .val (.ref sb), .val (.int (Int32.ofNat (2 + 1))), .val (.int (g 2))]) dprog_19_4_48 rfl (own_add1 _) rfl rfl
      replace W9 := W9.goto (pc' := 14) dprog_19_4_51 (by decide) (by decide)
      have eT10 : oT g 3 = (oT g 2) + 1 := if_pos hc8
      have eF10 : oF g 3 = upd (oF g 2) (oT g 2) (g 2) := if_pos hc8
      have fc10 : Fld Z h9 sb "java/lang/AbstractStringBuilder" "count" "I" (.int (Int32.ofNat (oT g 3))) := by rw [eT10]; exact q9_4
      have bk10 : BOK cb29 KB29 K29 f29 (oT g 3) (oF g 3) := by rw [eT10, eF10]; exact q9_9
      have hbt10 := oT_le g 2
      replace W9 := W9.castL (L' := #[.val (.ref xa), .val (.ref sb), .val (.int (Int32.ofNat 3)), .val (.int (g 2))]) rfl
      have e11 := (E_xa.keep K9)
      have f12 := (F_xa_coder.keep K9 (ninS (Exa.ne e11 q9_1 (by decide)) (ninS (Exa.ne e11 (E_va.keep K9) (by decide)) nin0)))
      have f13 := (F_xa_value.keep K9 (ninS (Exa.ne e11 q9_1 (by decide)) (ninS (Exa.ne e11 (E_va.keep K9) (by decide)) nin0)))
      have v14 := (V_ba.keep K9 (ninS N_ba_sb (ninS N_ba_va nin0)))
      replace W9 := W9.more (cells' := 14) (slots' := 792) (by decide) (by decide)
      exact lit_p3 l Z a0 n0 hw hEL G1 O1 P1 O_as O_hi O_lo G3 O3 rG3 xa cd ba kb NB fb N g sb va29 kv29 cb29 KB29 K29 f29 (g 2) p e s m below meth c S0 V9 h0 h9 hO0 e11 f12 f13 v14 sok hN3 hq q9_1 q9_2 q9_3 fc10 q9_5 q9_6 q9_7 q9_8 ge9 G_sb nb9 N_ba_sb (by omega) bk10 (by rw [eT10]; omega) hnm W9
    · replace W6 := W6.ifF (pc' := 35) dprog_19_4_32 (feq hc8).1 rfl
      replace W6 := W6.aloadN (pc' := 36) dprog_19_4_35 rfl rfl rfl
      replace W6 := W6.bipush (pc' := 38) (v := (92 : Int32)) dprog_19_4_36 rfl rfl
      obtain ⟨V15, h15, r15, W15, K15, hQ15, SF15⟩ := W6.callV (pc' := 41) (argsL := [(.int (92 : Int32))]) (rest := []) (Wd := 0) (cells' := 12) (slots' := 664) (a := sb) (C := "java/lang/StringBuilder") (y := (⟨"java/lang/StringBuilder", "append", "(C)Ljava/lang/StringBuilder;"⟩ : MethodName)) (z := (⟨"java/lang/StringBuilder", "append", "(C)Ljava/lang/StringBuilder;"⟩ : MethodName)) dprog_19_4_38 (sapp l Z a0 n0 hw hEL G1 O1 P1 O_as O_hi O_lo G3 O3 rG3 sb va kv cb KB K f (oT g 2) (oF g 2) (92 : Int32) h W6.old E_sb F_sb_value F_sb_coder F_sb_count F_sb_maybeLatin1 V_va E_va bok (by omega) ch92 (oF_ch hq _ (by omega)) (Nat.le_trans W6.1.2.2.2.2.2.2.2.1 G_sb) (Nat.le_trans W6.1.2.2.2.2.2.2.2.1 G_va)) E_sb (tw148 hw) (tw149 hw) (Or.inl (tw151 hw)) (tw151 hw) (tw150 hw) (tw33 hw) (tw152 hw) (by decide) (lenOf pd31 rfl) rfl rfl (by decide) (by decide) rfl (sfS (W6.safeE E_sb (by decide) (by decide)) (sfS sf7 sf0)) (allS (Or.inr G_sb) (allS (Or.inr G_va) all0)) rfl rfl rfl (by decide) (by decide)
      clear W6
      obtain ⟨va215, kv215, cb215, KB215, K215, f215, rfl, q15_1, q15_2, q15_3, q15_4, q15_5, q15_6, q15_7, q15_8, q15_9, q15_10, q15_11⟩ := hQ15
      have z15 : h.size ≤ h15.size := K15.1
      replace W15 := W15.cast (st' := [(.ref sb)]) rfl
      have ge15 : h0.size ≤ va215 := q15_11.elim (fun e => e ▸ G_va) (fun z => Nat.le_trans z0 z)
      have nb15 : ba ≠ va215 := fun e => q15_11.elim (fun e2 => N_ba_va (e.trans e2)) (fun z => Nat.lt_irrefl _ (Nat.lt_of_lt_of_le V_ba.lt (e ▸ z)))
      obtain ⟨bd15_1, bd15_2⟩ := q15_10
      replace W15 := W15.pop (pc' := 42) dprog_19_4_41 rfl rfl
      replace W15 := W15.aloadN (pc' := 43) dprog_19_4_42 rfl rfl rfl
      replace W15 := W15.iloadN (pc' := 44) dprog_19_4_43 rfl rfl
      obtain ⟨V16, h16, r16, W16, K16, hQ16, SF16⟩ := W15.callV (pc' := 47) (argsL := [(.int (g 2))]) (rest := []) (Wd := 0) (cells' := 14) (slots' := 792) (a := sb) (C := "java/lang/StringBuilder") (y := (⟨"java/lang/StringBuilder", "append", "(C)Ljava/lang/StringBuilder;"⟩ : MethodName)) (z := (⟨"java/lang/StringBuilder", "append", "(C)Ljava/lang/StringBuilder;"⟩ : MethodName)) dprog_19_4_44 (sapp l Z a0 n0 hw hEL G1 O1 P1 O_as O_hi O_lo G3 O3 rG3 sb va215 kv215 cb215 KB215 K215 f215 ((oT g 2) + 1) (upd (oF g 2) (oT g 2) (92 : Int32)) (g 2) h15 W15.old q15_1 q15_2 q15_3 q15_4 q15_5 q15_6 q15_7 q15_9 (by omega) (hq _ (by omega)) (upd_ch (oF_ch hq _ (by omega)) ch92) (Nat.le_trans W15.1.2.2.2.2.2.2.2.1 G_sb) (Nat.le_trans W15.1.2.2.2.2.2.2.2.1 ge15)) q15_1 (tw148 hw) (tw149 hw) (Or.inl (tw151 hw)) (tw151 hw) (tw150 hw) (tw33 hw) (tw152 hw) (by decide) (lenOf pd31 rfl) rfl rfl (by decide) (by decide) rfl (sfS (W15.safeE q15_1 (by decide) (by decide)) (sfS q15_8 sf0)) (allS (Or.inr G_sb) (allS (Or.inr ge15) all0)) rfl rfl rfl (by decide) (by decide)
      clear W15
      obtain ⟨va216, kv216, cb216, KB216, K216, f216, rfl, q16_1, q16_2, q16_3, q16_4, q16_5, q16_6, q16_7, q16_8, q16_9, q16_10, q16_11⟩ := hQ16
      have z16 : h15.size ≤ h16.size := K16.1
      replace W16 := W16.cast (st' := [(.ref sb)]) rfl
      have ge16 : h0.size ≤ va216 := q16_11.elim (fun e => e ▸ ge15) (fun z => Nat.le_trans (Nat.le_trans z0 z15) z)
      have nb16 : ba ≠ va216 := fun e => q16_11.elim (fun e2 => nb15 (e.trans e2)) (fun z => Nat.lt_irrefl _ (Nat.lt_of_lt_of_le (Nat.lt_of_lt_of_le V_ba.lt z15) (e ▸ z)))
      obtain ⟨bd16_1, bd16_2⟩ := q16_10
      replace W16 := W16.pop (pc' := 48) dprog_19_4_47 rfl rfl
      replace W16 := W16.iinc (pc' := 51) (v := (Int32.ofNat (2 + 1))) (L' := #[.val (.ref xa), .val (.ref sb), .val (.int (Int32.ofNat (2 + 1))), .val (.int (g 2))]) dprog_19_4_48 rfl (own_add1 _) rfl rfl
      replace W16 := W16.goto (pc' := 14) dprog_19_4_51 (by decide) (by decide)
      have eT17 : oT g 3 = ((oT g 2) + 1) + 1 := if_neg hc8
      have eF17 : oF g 3 = upd (upd (oF g 2) (oT g 2) (92 : Int32)) ((oT g 2) + 1) (g 2) := if_neg hc8
      have fc17 : Fld Z h16 sb "java/lang/AbstractStringBuilder" "count" "I" (.int (Int32.ofNat (oT g 3))) := by rw [eT17]; exact q16_4
      have bk17 : BOK cb216 KB216 K216 f216 (oT g 3) (oF g 3) := by rw [eT17, eF17]; exact q16_9
      have hbt17 := oT_le g 2
      replace W16 := W16.castL (L' := #[.val (.ref xa), .val (.ref sb), .val (.int (Int32.ofNat 3)), .val (.int (g 2))]) rfl
      have e18 := ((E_xa.keep K15).keep K16)
      have f19 := ((F_xa_coder.keep K15 (ninS (Exa.ne e18 q16_1 (by decide)) (ninS (Exa.ne e18 ((E_va.keep K15).keep K16) (by decide)) nin0))).keep K16 (ninS (Exa.ne e18 q16_1 (by decide)) (ninS (Exa.ne e18 (q15_7.keep K16) (by decide)) nin0)))
      have f20 := ((F_xa_value.keep K15 (ninS (Exa.ne e18 q16_1 (by decide)) (ninS (Exa.ne e18 ((E_va.keep K15).keep K16) (by decide)) nin0))).keep K16 (ninS (Exa.ne e18 q16_1 (by decide)) (ninS (Exa.ne e18 (q15_7.keep K16) (by decide)) nin0)))
      have v21 := ((V_ba.keep K15 (ninS N_ba_sb (ninS N_ba_va nin0))).keep K16 (ninS N_ba_sb (ninS nb15 nin0)))
      exact lit_p3 l Z a0 n0 hw hEL G1 O1 P1 O_as O_hi O_lo G3 O3 rG3 xa cd ba kb NB fb N g sb va216 kv216 cb216 KB216 K216 f216 (g 2) p e s m below meth c S0 V16 h0 h16 hO0 e18 f19 f20 v21 sok hN3 hq q16_1 q16_2 q16_3 fc17 q16_5 q16_6 q16_7 q16_8 ge16 G_sb nb16 N_ba_sb (by omega) bk17 (by rw [eT17]; omega) hnm W16
  · replace W1 := W1.icmpT (pc' := 54) dprog_19_4_19 (flt hc3).2.1 (by decide) (by decide)
    have hNt : N = 2 := by
      rcases Nat.lt_or_ge 2 N with q | q
      · exact absurd (own_lt (by omega) (by omega) q) hc3
      · omega
    subst hNt
    replace W1 := W1.aloadN (pc' := 55) dprog_19_4_54 rfl rfl rfl
    obtain ⟨V22, h22, r22, W22, K22, hQ22, SF22⟩ := W1.callV (pc' := 58) (argsL := []) (rest := []) (Wd := 0) (cells' := 12) (slots' := 604) (a := sb) (C := "java/lang/StringBuilder") (y := (⟨"java/lang/StringBuilder", "toString", "()Ljava/lang/String;"⟩ : MethodName)) (z := (⟨"java/lang/StringBuilder", "toString", "()Ljava/lang/String;"⟩ : MethodName)) dprog_19_4_55 (tos l Z a0 n0 hw hEL G1 O1 P1 O_as O_hi O_lo G3 O3 rG3 sb va kv cb KB K f (oT g 2) (oF g 2) h W1.old E_sb F_sb_value F_sb_coder F_sb_count F_sb_maybeLatin1 V_va E_va bok (by omega)) E_sb (tw60 hw) (tw61 hw) (Or.inl (tw63 hw)) (tw63 hw) (tw62 hw) (tw33 hw) (tw64 hw) (by decide) (lenOf pd29 rfl) rfl rfl (by decide) (by decide) rfl sf0 all0 rfl rfl rfl (by decide) (by decide)
    clear W1
    obtain ⟨xr22, cd222, ba222, kb222, NB222, fb222, rfl, q22_1, q22_2, q22_3, q22_4, q22_5⟩ := hQ22
    have z22 : h.size ≤ h22.size := K22.1
    replace W22 := W22.cast (st' := [(.ref xr22)]) rfl
    exact W22.aret (t := (.object "java/lang/String")) dprog_19_4_58 rfl rfl rfl rfl (by decide) (by decide) (fun V' cv => ⟨xr22, cd222, ba222, kb222, NB222, fb222, rfl, q22_1, q22_2, q22_3, q22_4, q22_5⟩)
set_option maxRecDepth 65536 in
set_option maxHeartbeats 40000000 in
theorem lit_p1 (l : Launch) (Z : State) (a0 : Array Value) (n0 : Nat) (hw : ∀ d ∈ tables_1, d.before a0 Z = true) (hEL : EW Z a0 consts_1) (G1 : Int32) (O1 : Sta Z Z.heap "java/lang/String" "COMPACT_STRINGS" "Z" (.int G1)) (P1 : ¬ (G1 = (0 : Int32))) (O_as : Sta Z Z.heap "java/lang/StringUTF16" "$assertionsDisabled" "Z" (.int (1 : Int32))) (O_hi : Sta Z Z.heap "java/lang/StringUTF16" "HI_BYTE_SHIFT" "I" (.int (0 : Int32))) (O_lo : Sta Z Z.heap "java/lang/StringUTF16" "LO_BYTE_SHIFT" "I" (.int (8 : Int32))) (G3 : Value) (O3 : Sta Z Z.heap "jdk/internal/util/Preconditions" "SIOOBE_FORMATTER" "Ljava/util/function/BiFunction;" G3) (rG3 : G3.isRef = true) (xa : Addr) (cd : Int32) (ba : Addr) (kb : ClassId) (NB : Nat) (fb : Nat → Int32) (N : Nat) (g : Nat → Int32) (sb : Addr) (va : Addr) (kv : ClassId) (cb : Int32) (KB : Nat) (K : Nat) (f : Nat → Int32) (xv : Int32) (p : Program) (e : Env) (s : State) (m : MethodId) (below : List Frame) (meth : Method) (c : Code) (S0 : State) (V : Vm) (h0 h : Heap) (hO0 : Old Z n0 h0) (E_xa : Exa Z h xa "java/lang/String") (F_xa_coder : Fld Z h xa "java/lang/String" "coder" "B" (.int cd)) (F_xa_value : Fld Z h xa "java/lang/String" "value" "[B" (.ref ba)) (V_ba : Arv Z h ba kb .byte (Int32.ofNat NB) (lst NB fb) (.int (0 : Int32))) (sok : SOK cd NB fb N g) (hN3 : N ≤ 3) (hq : ∀ i, i < N → CH (g i)) (E_sb : Exa Z h sb "java/lang/StringBuilder") (F_sb_value : Fld Z h sb "java/lang/AbstractStringBuilder" "value" "[B" (.ref va)) (F_sb_coder : Fld Z h sb "java/lang/AbstractStringBuilder" "coder" "B" (.int cb)) (F_sb_count : Fld Z h sb "java/lang/AbstractStringBuilder" "count" "I" (.int (Int32.ofNat (oT g 1)))) (F_sb_maybeLatin1 : Fld Z h sb "java/lang/AbstractStringBuilder" "maybeLatin1" "Z" (.int (0 : Int32))) (V_va : Arv Z h va kv .byte (Int32.ofNat KB) (lst KB f) (.int (0 : Int32))) (E_va : Exa Z h va "[B") (S_va : Safe Z consts_1 V h va) (G_va : h0.size ≤ va) (G_sb : h0.size ≤ sb) (N_ba_va : ba ≠ va) (N_ba_sb : ba ≠ sb) (htN : 1 ≤ N) (bok : BOK cb KB K f (oT g 1) (oF g 1)) (hb : oT g 1 ≤ K ∧ 1 ≤ K ∧ K ≤ N + 2 * (oT g 1) + 2) (hnm : meth.name = "literal") (W : Wk p l e ({ frames := 9, cells := 20, slots := 1100, locals := 200 } : Room) s m #[(.ref xa)] below meth c prog_19_method_4_code 4 (some (.object "java/lang/String")) Z a0 consts_1 "com/example/input_under_constraint/inputunderconstraint/MessageTemplate" n0 h0 [] S0 V h 6 280 (mkF m 14 #[.val (.ref xa), .val (.ref sb), .val (.int (Int32.ofNat 1)), .val (.int xv)] [])) : Done p e below S0 s Z consts_1 n0 h0 [] ({ frames := 9, cells := 20, slots := 1100, locals := 200 } : Room) (fun v h V' => ∃ (xr : Addr) (cd2 : Int32) (ba2 : Addr) (kb2 : ClassId) (NB2 : Nat) (fb2 : Nat → Int32), v = some (.ref xr) ∧ Exa Z h xr "java/lang/String" ∧ Fld Z h xr "java/lang/String" "coder" "B" (.int cd2) ∧ Fld Z h xr "java/lang/String" "value" "[B" (.ref ba2) ∧ Arv Z h ba2 kb2 .byte (Int32.ofNat NB2) (lst NB2 fb2) (.int (0 : Int32)) ∧ SOK cd2 NB2 fb2 (oT g N) (oF g N)) := by
  have z0 : h0.size ≤ h.size := W.kept.1
  have hle := oT_le g 1
  replace W := W.iloadN (pc' := 15) dprog_19_4_14 rfl rfl
  replace W := W.aloadN (pc' := 16) dprog_19_4_15 rfl rfl rfl
  obtain ⟨V1, h1, r1, W1, K1, hQ1, SF1⟩ := W.callV (pc' := 19) (argsL := []) (rest := [(.int (Int32.ofNat 1))]) (Wd := 1) (cells' := 6) (slots' := 280) (a := xa) (C := "java/lang/String") (y := (⟨"java/lang/String", "length", "()I"⟩ : MethodName)) (z := (⟨"java/lang/String", "length", "()I"⟩ : MethodName)) dprog_19_4_16 (len_c l Z a0 n0 hw hEL G1 O1 P1 O_as O_hi O_lo G3 O3 rG3 xa cd ba kb NB fb N g h W.old E_xa F_xa_coder F_xa_value V_ba sok (by omega)) E_xa (tw34 hw) (tw35 hw) (Or.inl (tw37 hw)) (tw37 hw) (tw36 hw) (tw8 hw) (tw38 hw) (by decide) (lenOf pd15 rfl) rfl rfl (by decide) (by decide) rfl sf0 all0 rfl rfl rfl (by decide) (by decide)
  clear W
  obtain ⟨rfl, hs1⟩ := hQ1
  subst hs1
  have sf2 := SF1 va V_va.lt S_va
  replace W1 := W1.cast (st' := [(.int (Int32.ofNat N)), (.int (Int32.ofNat 1))]) rfl
  by_cases hc3 : (Int32.ofNat 1) < (Int32.ofNat N)
  · replace W1 := W1.icmpF (pc' := 22) dprog_19_4_19 (tlt hc3).2.1 rfl
    have hlt1 := own_ltN (by omega) (by omega) hc3
    replace W1 := W1.aloadN (pc' := 23) dprog_19_4_22 rfl rfl rfl
    replace W1 := W1.iloadN (pc' := 24) dprog_19_4_23 rfl rfl
    obtain ⟨V4, h4, r4, W4, K4, hQ4, SF4⟩ := W1.callV (pc' := 27) (argsL := [(.int (Int32.ofNat 1))]) (rest := []) (Wd := 0) (cells' := 6) (slots' := 280) (a := xa) (C := "java/lang/String") (y := (⟨"java/lang/String", "charAt", "(I)C"⟩ : MethodName)) (z := (⟨"java/lang/String", "charAt", "(I)C"⟩ : MethodName)) dprog_19_4_24 (cat_c l Z a0 n0 hw hEL G1 O1 P1 O_as O_hi O_lo G3 O3 rG3 xa cd ba kb NB fb N g 1 h W1.old E_xa F_xa_coder F_xa_value V_ba sok (by omega) (by omega) hq) E_xa (tw123 hw) (tw124 hw) (Or.inl (tw126 hw)) (tw126 hw) (tw125 hw) (tw8 hw) (tw127 hw) (by decide) (lenOf pd30 rfl) rfl rfl (by decide) (by decide) rfl sf0 all0 rfl rfl rfl (by decide) (by decide)
    clear W1
    obtain ⟨rfl, hs4⟩ := hQ4
    subst hs4
    have sf5 := SF4 va V_va.lt sf2
    replace W4 := W4.cast (st' := [(.int (g 1))]) rfl
    replace W4 := W4.istoreN (pc' := 28) (L' := #[.val (.ref xa), .val (.ref sb), .val (.int (Int32.ofNat 1)), .val (.int (g 1))]) dprog_19_4_27 rfl rfl
    replace W4 := W4.iloadN (pc' := 29) dprog_19_4_28 rfl rfl
    obtain ⟨V6, h6, r6, W6, K6, hQ6, SF6⟩ := W4.callS (pc' := 32) (argsL := [(.int (g 1))]) (rest := []) (Wd := 0) (cells' := 6) (slots' := 280) (y := (⟨"com/example/input_under_constraint/inputunderconstraint/MessageTemplate", "isEscapable", "(C)Z"⟩ : MethodName)) dprog_19_4_29 (ise_c l Z a0 n0 hw hEL G1 O1 P1 O_as O_hi O_lo G3 O3 rG3 (g 1) h W4.old) (tw145 hw) (tw146 hw) (tw29 hw) (tw147 hw) (by decide) (lenOf pd22 rfl) rfl rfl (by decide) (by decide) rfl sf0 all0 rfl rfl rfl (by decide) (by decide)
    clear W4
    obtain ⟨rfl, hs6⟩ := hQ6
    subst hs6
    have sf7 := SF6 va V_va.lt sf5
    replace W6 := W6.cast (st' := [(.int (escf (g 1)))]) rfl
    by_cases hc8 : (escf (g 1)) = (0 : Int32)
    · replace W6 := W6.ifT (pc' := 42) dprog_19_4_32 (teq hc8).1 (by decide) (by decide)
      replace W6 := W6.aloadN (pc' := 43) dprog_19_4_42 rfl rfl rfl
      replace W6 := W6.iloadN (pc' := 44) dprog_19_4_43 rfl rfl
      obtain ⟨V9, h9, r9, W9, K9, hQ9, SF9⟩ := W6.callV (pc' := 47) (argsL := [(.int (g 1))]) (rest := []) (Wd := 0) (cells' := 8) (slots' := 408) (a := sb) (C := "java/lang/StringBuilder") (y := (⟨"java/lang/StringBuilder", "append", "(C)Ljava/lang/StringBuilder;"⟩ : MethodName)) (z := (⟨"java/lang/StringBuilder", "append", "(C)Ljava/lang/StringBuilder;"⟩ : MethodName)) dprog_19_4_44 (sapp l Z a0 n0 hw hEL G1 O1 P1 O_as O_hi O_lo G3 O3 rG3 sb va kv cb KB K f (oT g 1) (oF g 1) (g 1) h W6.old E_sb F_sb_value F_sb_coder F_sb_count F_sb_maybeLatin1 V_va E_va bok (by omega) (hq _ (by omega)) (oF_ch hq _ (by omega)) (Nat.le_trans W6.1.2.2.2.2.2.2.2.1 G_sb) (Nat.le_trans W6.1.2.2.2.2.2.2.2.1 G_va)) E_sb (tw148 hw) (tw149 hw) (Or.inl (tw151 hw)) (tw151 hw) (tw150 hw) (tw33 hw) (tw152 hw) (by decide) (lenOf pd31 rfl) rfl rfl (by decide) (by decide) rfl (sfS (W6.safeE E_sb (by decide) (by decide)) (sfS sf7 sf0)) (allS (Or.inr G_sb) (allS (Or.inr G_va) all0)) rfl rfl rfl (by decide) (by decide)
      clear W6
      obtain ⟨va29, kv29, cb29, KB29, K29, f29, rfl, q9_1, q9_2, q9_3, q9_4, q9_5, q9_6, q9_7, q9_8, q9_9, q9_10, q9_11⟩ := hQ9
      have z9 : h.size ≤ h9.size := K9.1
      replace W9 := W9.cast (st' := [(.ref sb)]) rfl
      have ge9 : h0.size ≤ va29 := q9_11.elim (fun e => e ▸ G_va) (fun z => Nat.le_trans z0 z)
      have nb9 : ba ≠ va29 := fun e => q9_11.elim (fun e2 => N_ba_va (e.trans e2)) (fun z => Nat.lt_irrefl _ (Nat.lt_of_lt_of_le V_ba.lt (e ▸ z)))
      obtain ⟨bd9_1, bd9_2⟩ := q9_10
      replace W9 := W9.pop (pc' := 48) dprog_19_4_47 rfl rfl
      replace W9 := W9.iinc (pc' := 51) (v := (Int32.ofNat (1 + 1))) (L' := #[.val (.ref xa), .val (.ref sb), .val (.int (Int32.ofNat (1 + 1))), .val (.int (g 1))]) dprog_19_4_48 rfl (own_add1 _) rfl rfl
      replace W9 := W9.goto (pc' := 14) dprog_19_4_51 (by decide) (by decide)
      have eT10 : oT g 2 = (oT g 1) + 1 := if_pos hc8
      have eF10 : oF g 2 = upd (oF g 1) (oT g 1) (g 1) := if_pos hc8
      have fc10 : Fld Z h9 sb "java/lang/AbstractStringBuilder" "count" "I" (.int (Int32.ofNat (oT g 2))) := by rw [eT10]; exact q9_4
      have bk10 : BOK cb29 KB29 K29 f29 (oT g 2) (oF g 2) := by rw [eT10, eF10]; exact q9_9
      have hbt10 := oT_le g 1
      replace W9 := W9.castL (L' := #[.val (.ref xa), .val (.ref sb), .val (.int (Int32.ofNat 2)), .val (.int (g 1))]) rfl
      have e11 := (E_xa.keep K9)
      have f12 := (F_xa_coder.keep K9 (ninS (Exa.ne e11 q9_1 (by decide)) (ninS (Exa.ne e11 (E_va.keep K9) (by decide)) nin0)))
      have f13 := (F_xa_value.keep K9 (ninS (Exa.ne e11 q9_1 (by decide)) (ninS (Exa.ne e11 (E_va.keep K9) (by decide)) nin0)))
      have v14 := (V_ba.keep K9 (ninS N_ba_sb (ninS N_ba_va nin0)))
      replace W9 := W9.more (cells' := 10) (slots' := 536) (by decide) (by decide)
      exact lit_p2 l Z a0 n0 hw hEL G1 O1 P1 O_as O_hi O_lo G3 O3 rG3 xa cd ba kb NB fb N g sb va29 kv29 cb29 KB29 K29 f29 (g 1) p e s m below meth c S0 V9 h0 h9 hO0 e11 f12 f13 v14 sok hN3 hq q9_1 q9_2 q9_3 fc10 q9_5 q9_6 q9_7 q9_8 ge9 G_sb nb9 N_ba_sb (by omega) bk10 (by rw [eT10]; omega) hnm W9
    · replace W6 := W6.ifF (pc' := 35) dprog_19_4_32 (feq hc8).1 rfl
      replace W6 := W6.aloadN (pc' := 36) dprog_19_4_35 rfl rfl rfl
      replace W6 := W6.bipush (pc' := 38) (v := (92 : Int32)) dprog_19_4_36 rfl rfl
      obtain ⟨V15, h15, r15, W15, K15, hQ15, SF15⟩ := W6.callV (pc' := 41) (argsL := [(.int (92 : Int32))]) (rest := []) (Wd := 0) (cells' := 8) (slots' := 408) (a := sb) (C := "java/lang/StringBuilder") (y := (⟨"java/lang/StringBuilder", "append", "(C)Ljava/lang/StringBuilder;"⟩ : MethodName)) (z := (⟨"java/lang/StringBuilder", "append", "(C)Ljava/lang/StringBuilder;"⟩ : MethodName)) dprog_19_4_38 (sapp l Z a0 n0 hw hEL G1 O1 P1 O_as O_hi O_lo G3 O3 rG3 sb va kv cb KB K f (oT g 1) (oF g 1) (92 : Int32) h W6.old E_sb F_sb_value F_sb_coder F_sb_count F_sb_maybeLatin1 V_va E_va bok (by omega) ch92 (oF_ch hq _ (by omega)) (Nat.le_trans W6.1.2.2.2.2.2.2.2.1 G_sb) (Nat.le_trans W6.1.2.2.2.2.2.2.2.1 G_va)) E_sb (tw148 hw) (tw149 hw) (Or.inl (tw151 hw)) (tw151 hw) (tw150 hw) (tw33 hw) (tw152 hw) (by decide) (lenOf pd31 rfl) rfl rfl (by decide) (by decide) rfl (sfS (W6.safeE E_sb (by decide) (by decide)) (sfS sf7 sf0)) (allS (Or.inr G_sb) (allS (Or.inr G_va) all0)) rfl rfl rfl (by decide) (by decide)
      clear W6
      obtain ⟨va215, kv215, cb215, KB215, K215, f215, rfl, q15_1, q15_2, q15_3, q15_4, q15_5, q15_6, q15_7, q15_8, q15_9, q15_10, q15_11⟩ := hQ15
      have z15 : h.size ≤ h15.size := K15.1
      replace W15 := W15.cast (st' := [(.ref sb)]) rfl
      have ge15 : h0.size ≤ va215 := q15_11.elim (fun e => e ▸ G_va) (fun z => Nat.le_trans z0 z)
      have nb15 : ba ≠ va215 := fun e => q15_11.elim (fun e2 => N_ba_va (e.trans e2)) (fun z => Nat.lt_irrefl _ (Nat.lt_of_lt_of_le V_ba.lt (e ▸ z)))
      obtain ⟨bd15_1, bd15_2⟩ := q15_10
      replace W15 := W15.pop (pc' := 42) dprog_19_4_41 rfl rfl
      replace W15 := W15.aloadN (pc' := 43) dprog_19_4_42 rfl rfl rfl
      replace W15 := W15.iloadN (pc' := 44) dprog_19_4_43 rfl rfl
      obtain ⟨V16, h16, r16, W16, K16, hQ16, SF16⟩ := W15.callV (pc' := 47) (argsL := [(.int (g 1))]) (rest := []) (Wd := 0) (cells' := 10) (slots' := 536) (a := sb) (C := "java/lang/StringBuilder") (y := (⟨"java/lang/StringBuilder", "append", "(C)Ljava/lang/StringBuilder;"⟩ : MethodName)) (z := (⟨"java/lang/StringBuilder", "append", "(C)Ljava/lang/StringBuilder;"⟩ : MethodName)) dprog_19_4_44 (sapp l Z a0 n0 hw hEL G1 O1 P1 O_as O_hi O_lo G3 O3 rG3 sb va215 kv215 cb215 KB215 K215 f215 ((oT g 1) + 1) (upd (oF g 1) (oT g 1) (92 : Int32)) (g 1) h15 W15.old q15_1 q15_2 q15_3 q15_4 q15_5 q15_6 q15_7 q15_9 (by omega) (hq _ (by omega)) (upd_ch (oF_ch hq _ (by omega)) ch92) (Nat.le_trans W15.1.2.2.2.2.2.2.2.1 G_sb) (Nat.le_trans W15.1.2.2.2.2.2.2.2.1 ge15)) q15_1 (tw148 hw) (tw149 hw) (Or.inl (tw151 hw)) (tw151 hw) (tw150 hw) (tw33 hw) (tw152 hw) (by decide) (lenOf pd31 rfl) rfl rfl (by decide) (by decide) rfl (sfS (W15.safeE q15_1 (by decide) (by decide)) (sfS q15_8 sf0)) (allS (Or.inr G_sb) (allS (Or.inr ge15) all0)) rfl rfl rfl (by decide) (by decide)
      clear W15
      obtain ⟨va216, kv216, cb216, KB216, K216, f216, rfl, q16_1, q16_2, q16_3, q16_4, q16_5, q16_6, q16_7, q16_8, q16_9, q16_10, q16_11⟩ := hQ16
      have z16 : h15.size ≤ h16.size := K16.1
      replace W16 := W16.cast (st' := [(.ref sb)]) rfl
      have ge16 : h0.size ≤ va216 := q16_11.elim (fun e => e ▸ ge15) (fun z => Nat.le_trans (Nat.le_trans z0 z15) z)
      have nb16 : ba ≠ va216 := fun e => q16_11.elim (fun e2 => nb15 (e.trans e2)) (fun z => Nat.lt_irrefl _ (Nat.lt_of_lt_of_le (Nat.lt_of_lt_of_le V_ba.lt z15) (e ▸ z)))
      obtain ⟨bd16_1, bd16_2⟩ := q16_10
      replace W16 := W16.pop (pc' := 48) dprog_19_4_47 rfl rfl
      replace W16 := W16.iinc (pc' := 51) (v := (Int32.ofNat (1 + 1))) (L' := #[.val (.ref xa), .val (.ref sb), .val (.int (Int32.ofNat (1 + 1))), .val (.int (g 1))]) dprog_19_4_48 rfl (own_add1 _) rfl rfl
      replace W16 := W16.goto (pc' := 14) dprog_19_4_51 (by decide) (by decide)
      have eT17 : oT g 2 = ((oT g 1) + 1) + 1 := if_neg hc8
      have eF17 : oF g 2 = upd (upd (oF g 1) (oT g 1) (92 : Int32)) ((oT g 1) + 1) (g 1) := if_neg hc8
      have fc17 : Fld Z h16 sb "java/lang/AbstractStringBuilder" "count" "I" (.int (Int32.ofNat (oT g 2))) := by rw [eT17]; exact q16_4
      have bk17 : BOK cb216 KB216 K216 f216 (oT g 2) (oF g 2) := by rw [eT17, eF17]; exact q16_9
      have hbt17 := oT_le g 1
      replace W16 := W16.castL (L' := #[.val (.ref xa), .val (.ref sb), .val (.int (Int32.ofNat 2)), .val (.int (g 1))]) rfl
      have e18 := ((E_xa.keep K15).keep K16)
      have f19 := ((F_xa_coder.keep K15 (ninS (Exa.ne e18 q16_1 (by decide)) (ninS (Exa.ne e18 ((E_va.keep K15).keep K16) (by decide)) nin0))).keep K16 (ninS (Exa.ne e18 q16_1 (by decide)) (ninS (Exa.ne e18 (q15_7.keep K16) (by decide)) nin0)))
      have f20 := ((F_xa_value.keep K15 (ninS (Exa.ne e18 q16_1 (by decide)) (ninS (Exa.ne e18 ((E_va.keep K15).keep K16) (by decide)) nin0))).keep K16 (ninS (Exa.ne e18 q16_1 (by decide)) (ninS (Exa.ne e18 (q15_7.keep K16) (by decide)) nin0)))
      have v21 := ((V_ba.keep K15 (ninS N_ba_sb (ninS N_ba_va nin0))).keep K16 (ninS N_ba_sb (ninS nb15 nin0)))
      exact lit_p2 l Z a0 n0 hw hEL G1 O1 P1 O_as O_hi O_lo G3 O3 rG3 xa cd ba kb NB fb N g sb va216 kv216 cb216 KB216 K216 f216 (g 1) p e s m below meth c S0 V16 h0 h16 hO0 e18 f19 f20 v21 sok hN3 hq q16_1 q16_2 q16_3 fc17 q16_5 q16_6 q16_7 q16_8 ge16 G_sb nb16 N_ba_sb (by omega) bk17 (by rw [eT17]; omega) hnm W16
  · replace W1 := W1.icmpT (pc' := 54) dprog_19_4_19 (flt hc3).2.1 (by decide) (by decide)
    have hNt : N = 1 := by
      rcases Nat.lt_or_ge 1 N with q | q
      · exact absurd (own_lt (by omega) (by omega) q) hc3
      · omega
    subst hNt
    replace W1 := W1.aloadN (pc' := 55) dprog_19_4_54 rfl rfl rfl
    obtain ⟨V22, h22, r22, W22, K22, hQ22, SF22⟩ := W1.callV (pc' := 58) (argsL := []) (rest := []) (Wd := 0) (cells' := 8) (slots' := 348) (a := sb) (C := "java/lang/StringBuilder") (y := (⟨"java/lang/StringBuilder", "toString", "()Ljava/lang/String;"⟩ : MethodName)) (z := (⟨"java/lang/StringBuilder", "toString", "()Ljava/lang/String;"⟩ : MethodName)) dprog_19_4_55 (tos l Z a0 n0 hw hEL G1 O1 P1 O_as O_hi O_lo G3 O3 rG3 sb va kv cb KB K f (oT g 1) (oF g 1) h W1.old E_sb F_sb_value F_sb_coder F_sb_count F_sb_maybeLatin1 V_va E_va bok (by omega)) E_sb (tw60 hw) (tw61 hw) (Or.inl (tw63 hw)) (tw63 hw) (tw62 hw) (tw33 hw) (tw64 hw) (by decide) (lenOf pd29 rfl) rfl rfl (by decide) (by decide) rfl sf0 all0 rfl rfl rfl (by decide) (by decide)
    clear W1
    obtain ⟨xr22, cd222, ba222, kb222, NB222, fb222, rfl, q22_1, q22_2, q22_3, q22_4, q22_5⟩ := hQ22
    have z22 : h.size ≤ h22.size := K22.1
    replace W22 := W22.cast (st' := [(.ref xr22)]) rfl
    exact W22.aret (t := (.object "java/lang/String")) dprog_19_4_58 rfl rfl rfl rfl (by decide) (by decide) (fun V' cv => ⟨xr22, cd222, ba222, kb222, NB222, fb222, rfl, q22_1, q22_2, q22_3, q22_4, q22_5⟩)
theorem ef_lit_c (m : MethodId) (xa : Addr) (cd : Int32) (ba : Addr) (kb : ClassId) (NB : Nat) (fb : Nat → Int32) (N : Nat) (g : Nat → Int32) : entryFrame m #[(.ref xa)] 4 = mkF m 0 #[.val (.ref xa), .unset, .unset, .unset] [] := by first | (simp [entryFrame, mkF, argsToLocals, Value.category]; done) | rfl
set_option maxRecDepth 65536 in
set_option maxHeartbeats 40000000 in
theorem lit_c (l : Launch) (Z : State) (a0 : Array Value) (n0 : Nat) (hw : ∀ d ∈ tables_1, d.before a0 Z = true) (hEL : EW Z a0 consts_1) (G1 : Int32) (O1 : Sta Z Z.heap "java/lang/String" "COMPACT_STRINGS" "Z" (.int G1)) (P1 : ¬ (G1 = (0 : Int32))) (O_as : Sta Z Z.heap "java/lang/StringUTF16" "$assertionsDisabled" "Z" (.int (1 : Int32))) (O_hi : Sta Z Z.heap "java/lang/StringUTF16" "HI_BYTE_SHIFT" "I" (.int (0 : Int32))) (O_lo : Sta Z Z.heap "java/lang/StringUTF16" "LO_BYTE_SHIFT" "I" (.int (8 : Int32))) (G3 : Value) (O3 : Sta Z Z.heap "jdk/internal/util/Preconditions" "SIOOBE_FORMATTER" "Ljava/util/function/BiFunction;" G3) (rG3 : G3.isRef = true) (xa : Addr) (cd : Int32) (ba : Addr) (kb : ClassId) (NB : Nat) (fb : Nat → Int32) (N : Nat) (g : Nat → Int32) (h0 : Heap) (hO : Old Z n0 h0) (E_xa : Exa Z h0 xa "java/lang/String") (F_xa_coder : Fld Z h0 xa "java/lang/String" "coder" "B" (.int cd)) (F_xa_value : Fld Z h0 xa "java/lang/String" "value" "[B" (.ref ba)) (V_ba : Arv Z h0 ba kb .byte (Int32.ofNat NB) (lst NB fb) (.int (0 : Int32))) (sok : SOK cd NB fb N g) (hN3 : N ≤ 3) (hq : ∀ i, i < N → CH (g i)) :
    Con l Z consts_1 n0 (⟨"com/example/input_under_constraint/inputunderconstraint/MessageTemplate", "literal", "(Ljava/lang/String;)Ljava/lang/String;"⟩ : MethodName) prog_19_method_4_code 4 (some (.object "java/lang/String")) ({ frames := 9, cells := 20, slots := 1100, locals := 200 } : Room) #[(.ref xa)] h0 [] (fun v h V' => ∃ (xr : Addr) (cd2 : Int32) (ba2 : Addr) (kb2 : ClassId) (NB2 : Nat) (fb2 : Nat → Int32), v = some (.ref xr) ∧ Exa Z h xr "java/lang/String" ∧ Fld Z h xr "java/lang/String" "coder" "B" (.int cd2) ∧ Fld Z h xr "java/lang/String" "value" "[B" (.ref ba2) ∧ Arv Z h ba2 kb2 .byte (Int32.ofNat NB2) (lst NB2 fb2) (.int (0 : Int32)) ∧ SOK cd2 NB2 fb2 (oT g N) (oF g N)) [] := by
  refine Con.of (a0 := a0) pf51 (fun m => ef_lit_c m xa cd ba kb NB fb N g) all0 hO hEL ?_
  intro p e s m below meth c S0 hnm hsf W
  obtain ⟨h1, a1, W1, E1, g1, ⟨A1, D1, U1⟩, sf1, SF1⟩ := W.new (pc' := 3) (cells' := 1) (slots' := 4) dprog_19_4_0 (tw31 hw) (tw32 hw) (tw33 hw) rfl rfl rfl (by decide) (by decide)
  clear W
  rw [← g1] at A1 D1 U1
  have z1 : h0.size ≤ h1.size := E1.1
  replace W1 := W1.dup (pc' := 4) dprog_19_4_3 rfl rfl
  replace W1 := W1.aloadN (pc' := 5) dprog_19_4_4 rfl rfl rfl
  have e2 := (E_xa.ext E1)
  have f3 := (F_xa_coder.ext E1)
  have f4 := (F_xa_value.ext E1)
  have v5 := (V_ba.ext E1)
  obtain ⟨V6, h6, r6, W6, K6, hQ6, SF6⟩ := W1.callV (pc' := 8) (argsL := []) (rest := [(.ref a1), (.ref a1)]) (Wd := 2) (cells' := 1) (slots' := 4) (a := xa) (C := "java/lang/String") (y := (⟨"java/lang/String", "length", "()I"⟩ : MethodName)) (z := (⟨"java/lang/String", "length", "()I"⟩ : MethodName)) dprog_19_4_5 (len_c l Z a0 n0 hw hEL G1 O1 P1 O_as O_hi O_lo G3 O3 rG3 xa cd ba kb NB fb N g h1 W1.old e2 f3 f4 v5 sok (by omega)) e2 (tw34 hw) (tw35 hw) (Or.inl (tw37 hw)) (tw37 hw) (tw36 hw) (tw8 hw) (tw38 hw) (by decide) (lenOf pd15 rfl) rfl rfl (by decide) (by decide) rfl sf0 all0 rfl rfl rfl (by decide) (by decide)
  clear W1
  obtain ⟨rfl, hs6⟩ := hQ6
  subst hs6
  replace W6 := W6.cast (st' := [(.int (Int32.ofNat N)), (.ref a1), (.ref a1)]) rfl
  obtain ⟨V7, h7, r7, W7, K7, hQ7, SF7⟩ := W6.callI (pc' := 11) (argsL := [(.int (Int32.ofNat N))]) (rest := [(.ref a1)]) (Wd := 1) (cells' := 2) (slots' := 24) (a := a1) (y := (⟨"java/lang/StringBuilder", "<init>", "(I)V"⟩ : MethodName)) dprog_19_4_8 (sbi l Z a0 n0 hw hEL G1 O1 P1 O_as O_hi O_lo G3 O3 rG3 a1 N h1 W6.old A1 (D1 (Or.inl (tw57 hw)) (ty := (.array .byte)) (by decide) : Fld Z h1 a1 "java/lang/AbstractStringBuilder" "value" "[B" .null) (D1 (Or.inl (tw59 hw)) (ty := .byte) (by decide) : Fld Z h1 a1 "java/lang/AbstractStringBuilder" "coder" "B" (.int (0 : Int32))) (D1 (Or.inl (tw87 hw)) (ty := .int) (by decide) : Fld Z h1 a1 "java/lang/AbstractStringBuilder" "count" "I" (.int (0 : Int32))) (D1 (Or.inl (tw252 hw)) (ty := .boolean) (by decide) : Fld Z h1 a1 "java/lang/AbstractStringBuilder" "maybeLatin1" "Z" (.int (0 : Int32))) (by omega) (Nat.le_trans W6.1.2.2.2.2.2.2.2.1 (Nat.le_of_eq g1.symm))) rfl (tw45 hw) (tw46 hw) (tw33 hw) (tw47 hw) (by decide) (lenOf pd14 rfl) rfl rfl (by decide) (by decide) rfl (sfS (W6.safeE A1 (by decide) (by decide)) sf0) (allS (Or.inr (Nat.le_of_eq g1.symm)) all0) rfl rfl rfl (by decide) (by decide)
  clear W6
  obtain ⟨va7, kv7, rfl, q7_1, q7_2, q7_3, q7_4, q7_5, q7_6, q7_7, q7_8, q7_9⟩ := hQ7
  have z7 : h1.size ≤ h7.size := K7.1
  replace W7 := W7.cast (st' := [(.ref a1)]) rfl
  replace W7 := W7.astoreN (pc' := 12) (L' := #[.val (.ref xa), .val (.ref a1), .unset, .unset]) dprog_19_4_11 rfl rfl rfl
  replace W7 := W7.iconst (pc' := 13) (v := (0 : Int32)) dprog_19_4_12 rfl rfl
  replace W7 := W7.istoreN (pc' := 14) (L' := #[.val (.ref xa), .val (.ref a1), .val (.int (0 : Int32)), .unset]) dprog_19_4_13 rfl rfl
  have fc8 : Fld Z h7 a1 "java/lang/AbstractStringBuilder" "count" "I" (.int (Int32.ofNat (oT g 0))) := q7_4
  have bk0 : BOK (0 : Int32) N N zf (oT g 0) (oF g 0) := Or.inl ⟨rfl, rfl, fun i hi => absurd hi (Nat.not_lt_zero _), fun i hi => absurd hi (Nat.not_lt_zero _)⟩
  have hle := oT_le g 0
  replace W7 := W7.castL (L' := #[.val (.ref xa), .val (.ref a1), .val (.int (Int32.ofNat 0)), .unset]) rfl
  replace W7 := W7.iloadN (pc' := 15) dprog_19_4_14 rfl rfl
  replace W7 := W7.aloadN (pc' := 16) dprog_19_4_15 rfl rfl rfl
  have e9 := (e2.keep K7)
  have f10 := (f3.keep K7 (ninS (Nat.ne_of_lt (Nat.lt_of_lt_of_le E_xa.lt (Nat.le_of_eq g1.symm))) nin0))
  have f11 := (f4.keep K7 (ninS (Nat.ne_of_lt (Nat.lt_of_lt_of_le E_xa.lt (Nat.le_of_eq g1.symm))) nin0))
  have v12 := (v5.keep K7 (ninS (Nat.ne_of_lt (Nat.lt_of_lt_of_le V_ba.lt (Nat.le_of_eq g1.symm))) nin0))
  obtain ⟨V13, h13, r13, W13, K13, hQ13, SF13⟩ := W7.callV (pc' := 19) (argsL := []) (rest := [(.int (Int32.ofNat 0))]) (Wd := 1) (cells' := 2) (slots' := 24) (a := xa) (C := "java/lang/String") (y := (⟨"java/lang/String", "length", "()I"⟩ : MethodName)) (z := (⟨"java/lang/String", "length", "()I"⟩ : MethodName)) dprog_19_4_16 (len_c l Z a0 n0 hw hEL G1 O1 P1 O_as O_hi O_lo G3 O3 rG3 xa cd ba kb NB fb N g h7 W7.old e9 f10 f11 v12 sok (by omega)) e9 (tw34 hw) (tw35 hw) (Or.inl (tw37 hw)) (tw37 hw) (tw36 hw) (tw8 hw) (tw38 hw) (by decide) (lenOf pd15 rfl) rfl rfl (by decide) (by decide) rfl sf0 all0 rfl rfl rfl (by decide) (by decide)
  clear W7
  obtain ⟨rfl, hs13⟩ := hQ13
  subst hs13
  have sf14 := SF13 va7 q7_6.lt q7_9
  replace W13 := W13.cast (st' := [(.int (Int32.ofNat N)), (.int (Int32.ofNat 0))]) rfl
  by_cases hc15 : (Int32.ofNat 0) < (Int32.ofNat N)
  · replace W13 := W13.icmpF (pc' := 22) dprog_19_4_19 (tlt hc15).2.1 rfl
    have hlt0 := own_ltN (by omega) (by omega) hc15
    replace W13 := W13.aloadN (pc' := 23) dprog_19_4_22 rfl rfl rfl
    replace W13 := W13.iloadN (pc' := 24) dprog_19_4_23 rfl rfl
    obtain ⟨V16, h16, r16, W16, K16, hQ16, SF16⟩ := W13.callV (pc' := 27) (argsL := [(.int (Int32.ofNat 0))]) (rest := []) (Wd := 0) (cells' := 2) (slots' := 24) (a := xa) (C := "java/lang/String") (y := (⟨"java/lang/String", "charAt", "(I)C"⟩ : MethodName)) (z := (⟨"java/lang/String", "charAt", "(I)C"⟩ : MethodName)) dprog_19_4_24 (cat_c l Z a0 n0 hw hEL G1 O1 P1 O_as O_hi O_lo G3 O3 rG3 xa cd ba kb NB fb N g 0 h7 W13.old e9 f10 f11 v12 sok (by omega) (by omega) hq) e9 (tw123 hw) (tw124 hw) (Or.inl (tw126 hw)) (tw126 hw) (tw125 hw) (tw8 hw) (tw127 hw) (by decide) (lenOf pd30 rfl) rfl rfl (by decide) (by decide) rfl sf0 all0 rfl rfl rfl (by decide) (by decide)
    clear W13
    obtain ⟨rfl, hs16⟩ := hQ16
    subst hs16
    have sf17 := SF16 va7 q7_6.lt sf14
    replace W16 := W16.cast (st' := [(.int (g 0))]) rfl
    replace W16 := W16.istoreN (pc' := 28) (L' := #[.val (.ref xa), .val (.ref a1), .val (.int (Int32.ofNat 0)), .val (.int (g 0))]) dprog_19_4_27 rfl rfl
    replace W16 := W16.iloadN (pc' := 29) dprog_19_4_28 rfl rfl
    obtain ⟨V18, h18, r18, W18, K18, hQ18, SF18⟩ := W16.callS (pc' := 32) (argsL := [(.int (g 0))]) (rest := []) (Wd := 0) (cells' := 2) (slots' := 24) (y := (⟨"com/example/input_under_constraint/inputunderconstraint/MessageTemplate", "isEscapable", "(C)Z"⟩ : MethodName)) dprog_19_4_29 (ise_c l Z a0 n0 hw hEL G1 O1 P1 O_as O_hi O_lo G3 O3 rG3 (g 0) h7 W16.old) (tw145 hw) (tw146 hw) (tw29 hw) (tw147 hw) (by decide) (lenOf pd22 rfl) rfl rfl (by decide) (by decide) rfl sf0 all0 rfl rfl rfl (by decide) (by decide)
    clear W16
    obtain ⟨rfl, hs18⟩ := hQ18
    subst hs18
    have sf19 := SF18 va7 q7_6.lt sf17
    replace W18 := W18.cast (st' := [(.int (escf (g 0)))]) rfl
    by_cases hc20 : (escf (g 0)) = (0 : Int32)
    · replace W18 := W18.ifT (pc' := 42) dprog_19_4_32 (teq hc20).1 (by decide) (by decide)
      replace W18 := W18.aloadN (pc' := 43) dprog_19_4_42 rfl rfl rfl
      replace W18 := W18.iloadN (pc' := 44) dprog_19_4_43 rfl rfl
      obtain ⟨V21, h21, r21, W21, K21, hQ21, SF21⟩ := W18.callV (pc' := 47) (argsL := [(.int (g 0))]) (rest := []) (Wd := 0) (cells' := 4) (slots' := 152) (a := a1) (C := "java/lang/StringBuilder") (y := (⟨"java/lang/StringBuilder", "append", "(C)Ljava/lang/StringBuilder;"⟩ : MethodName)) (z := (⟨"java/lang/StringBuilder", "append", "(C)Ljava/lang/StringBuilder;"⟩ : MethodName)) dprog_19_4_44 (sapp l Z a0 n0 hw hEL G1 O1 P1 O_as O_hi O_lo G3 O3 rG3 a1 va7 kv7 (0 : Int32) N N zf (oT g 0) (oF g 0) (g 0) h7 W18.old q7_1 q7_2 q7_3 fc8 q7_5 q7_6 q7_7 bk0 (by omega) (hq _ (by omega)) (oF_ch hq _ (by omega)) (Nat.le_trans W18.1.2.2.2.2.2.2.2.1 (Nat.le_of_eq g1.symm)) (Nat.le_trans W18.1.2.2.2.2.2.2.2.1 (Nat.le_trans z1 q7_8))) q7_1 (tw148 hw) (tw149 hw) (Or.inl (tw151 hw)) (tw151 hw) (tw150 hw) (tw33 hw) (tw152 hw) (by decide) (lenOf pd31 rfl) rfl rfl (by decide) (by decide) rfl (sfS (W18.safeE q7_1 (by decide) (by decide)) (sfS sf19 sf0)) (allS (Or.inr (Nat.le_of_eq g1.symm)) (allS (Or.inr (Nat.le_trans z1 q7_8)) all0)) rfl rfl rfl (by decide) (by decide)
      clear W18
      obtain ⟨va221, kv221, cb221, KB221, K221, f221, rfl, q21_1, q21_2, q21_3, q21_4, q21_5, q21_6, q21_7, q21_8, q21_9, q21_10, q21_11⟩ := hQ21
      have z21 : h7.size ≤ h21.size := K21.1
      replace W21 := W21.cast (st' := [(.ref a1)]) rfl
      have ge21 : h0.size ≤ va221 := q21_11.elim (fun e => e ▸ (Nat.le_trans z1 q7_8)) (fun z => Nat.le_trans (Nat.le_trans z1 z7) z)
      have nb21 : ba ≠ va221 := fun e => q21_11.elim (fun e2 => (Nat.ne_of_lt (Nat.lt_of_lt_of_le V_ba.lt (Nat.le_trans z1 q7_8))) (e.trans e2)) (fun z => Nat.lt_irrefl _ (Nat.lt_of_lt_of_le (Nat.lt_of_lt_of_le V_ba.lt (Nat.le_trans z1 z7)) (e ▸ z)))
      obtain ⟨bd21_1, bd21_2⟩ := q21_10
      replace W21 := W21.pop (pc' := 48) dprog_19_4_47 rfl rfl
      replace W21 := W21.iinc (pc' := 51) (v := (Int32.ofNat (0 + 1))) (L' := #[.val (.ref xa), .val (.ref a1), .val (.int (Int32.ofNat (0 + 1))), .val (.int (g 0))]) dprog_19_4_48 rfl (own_add1 _) rfl rfl
      replace W21 := W21.goto (pc' := 14) dprog_19_4_51 (by decide) (by decide)
      have eT22 : oT g 1 = (oT g 0) + 1 := if_pos hc20
      have eF22 : oF g 1 = upd (oF g 0) (oT g 0) (g 0) := if_pos hc20
      have fc22 : Fld Z h21 a1 "java/lang/AbstractStringBuilder" "count" "I" (.int (Int32.ofNat (oT g 1))) := by rw [eT22]; exact q21_4
      have bk22 : BOK cb221 KB221 K221 f221 (oT g 1) (oF g 1) := by rw [eT22, eF22]; exact q21_9
      have hbt22 := oT_le g 0
      replace W21 := W21.castL (L' := #[.val (.ref xa), .val (.ref a1), .val (.int (Int32.ofNat 1)), .val (.int (g 0))]) rfl
      have e23 := (e9.keep K21)
      have f24 := (f10.keep K21 (ninS (Nat.ne_of_lt (Nat.lt_of_lt_of_le E_xa.lt (Nat.le_of_eq g1.symm))) (ninS (Nat.ne_of_lt (Nat.lt_of_lt_of_le E_xa.lt (Nat.le_trans z1 q7_8))) nin0)))
      have f25 := (f11.keep K21 (ninS (Nat.ne_of_lt (Nat.lt_of_lt_of_le E_xa.lt (Nat.le_of_eq g1.symm))) (ninS (Nat.ne_of_lt (Nat.lt_of_lt_of_le E_xa.lt (Nat.le_trans z1 q7_8))) nin0)))
      have v26 := (v12.keep K21 (ninS (Nat.ne_of_lt (Nat.lt_of_lt_of_le V_ba.lt (Nat.le_of_eq g1.symm))) (ninS (Nat.ne_of_lt (Nat.lt_of_lt_of_le V_ba.lt (Nat.le_trans z1 q7_8))) nin0)))
      replace W21 := W21.more (cells' := 6) (slots' := 280) (by decide) (by decide)
      exact lit_p1 l Z a0 n0 hw hEL G1 O1 P1 O_as O_hi O_lo G3 O3 rG3 xa cd ba kb NB fb N g a1 va221 kv221 cb221 KB221 K221 f221 (g 0) p e s m below meth c S0 V21 h0 h21 hO e23 f24 f25 v26 sok hN3 hq q21_1 q21_2 q21_3 fc22 q21_5 q21_6 q21_7 q21_8 ge21 (Nat.le_of_eq g1.symm) nb21 (Nat.ne_of_lt (Nat.lt_of_lt_of_le V_ba.lt (Nat.le_of_eq g1.symm))) (by omega) bk22 (by rw [eT22]; omega) hnm W21
    · replace W18 := W18.ifF (pc' := 35) dprog_19_4_32 (feq hc20).1 rfl
      replace W18 := W18.aloadN (pc' := 36) dprog_19_4_35 rfl rfl rfl
      replace W18 := W18.bipush (pc' := 38) (v := (92 : Int32)) dprog_19_4_36 rfl rfl
      obtain ⟨V27, h27, r27, W27, K27, hQ27, SF27⟩ := W18.callV (pc' := 41) (argsL := [(.int (92 : Int32))]) (rest := []) (Wd := 0) (cells' := 4) (slots' := 152) (a := a1) (C := "java/lang/StringBuilder") (y := (⟨"java/lang/StringBuilder", "append", "(C)Ljava/lang/StringBuilder;"⟩ : MethodName)) (z := (⟨"java/lang/StringBuilder", "append", "(C)Ljava/lang/StringBuilder;"⟩ : MethodName)) dprog_19_4_38 (sapp l Z a0 n0 hw hEL G1 O1 P1 O_as O_hi O_lo G3 O3 rG3 a1 va7 kv7 (0 : Int32) N N zf (oT g 0) (oF g 0) (92 : Int32) h7 W18.old q7_1 q7_2 q7_3 fc8 q7_5 q7_6 q7_7 bk0 (by omega) ch92 (oF_ch hq _ (by omega)) (Nat.le_trans W18.1.2.2.2.2.2.2.2.1 (Nat.le_of_eq g1.symm)) (Nat.le_trans W18.1.2.2.2.2.2.2.2.1 (Nat.le_trans z1 q7_8))) q7_1 (tw148 hw) (tw149 hw) (Or.inl (tw151 hw)) (tw151 hw) (tw150 hw) (tw33 hw) (tw152 hw) (by decide) (lenOf pd31 rfl) rfl rfl (by decide) (by decide) rfl (sfS (W18.safeE q7_1 (by decide) (by decide)) (sfS sf19 sf0)) (allS (Or.inr (Nat.le_of_eq g1.symm)) (allS (Or.inr (Nat.le_trans z1 q7_8)) all0)) rfl rfl rfl (by decide) (by decide)
      clear W18
      obtain ⟨va227, kv227, cb227, KB227, K227, f227, rfl, q27_1, q27_2, q27_3, q27_4, q27_5, q27_6, q27_7, q27_8, q27_9, q27_10, q27_11⟩ := hQ27
      have z27 : h7.size ≤ h27.size := K27.1
      replace W27 := W27.cast (st' := [(.ref a1)]) rfl
      have ge27 : h0.size ≤ va227 := q27_11.elim (fun e => e ▸ (Nat.le_trans z1 q7_8)) (fun z => Nat.le_trans (Nat.le_trans z1 z7) z)
      have nb27 : ba ≠ va227 := fun e => q27_11.elim (fun e2 => (Nat.ne_of_lt (Nat.lt_of_lt_of_le V_ba.lt (Nat.le_trans z1 q7_8))) (e.trans e2)) (fun z => Nat.lt_irrefl _ (Nat.lt_of_lt_of_le (Nat.lt_of_lt_of_le V_ba.lt (Nat.le_trans z1 z7)) (e ▸ z)))
      obtain ⟨bd27_1, bd27_2⟩ := q27_10
      replace W27 := W27.pop (pc' := 42) dprog_19_4_41 rfl rfl
      replace W27 := W27.aloadN (pc' := 43) dprog_19_4_42 rfl rfl rfl
      replace W27 := W27.iloadN (pc' := 44) dprog_19_4_43 rfl rfl
      obtain ⟨V28, h28, r28, W28, K28, hQ28, SF28⟩ := W27.callV (pc' := 47) (argsL := [(.int (g 0))]) (rest := []) (Wd := 0) (cells' := 6) (slots' := 280) (a := a1) (C := "java/lang/StringBuilder") (y := (⟨"java/lang/StringBuilder", "append", "(C)Ljava/lang/StringBuilder;"⟩ : MethodName)) (z := (⟨"java/lang/StringBuilder", "append", "(C)Ljava/lang/StringBuilder;"⟩ : MethodName)) dprog_19_4_44 (sapp l Z a0 n0 hw hEL G1 O1 P1 O_as O_hi O_lo G3 O3 rG3 a1 va227 kv227 cb227 KB227 K227 f227 ((oT g 0) + 1) (upd (oF g 0) (oT g 0) (92 : Int32)) (g 0) h27 W27.old q27_1 q27_2 q27_3 q27_4 q27_5 q27_6 q27_7 q27_9 (by omega) (hq _ (by omega)) (upd_ch (oF_ch hq _ (by omega)) ch92) (Nat.le_trans W27.1.2.2.2.2.2.2.2.1 (Nat.le_of_eq g1.symm)) (Nat.le_trans W27.1.2.2.2.2.2.2.2.1 ge27)) q27_1 (tw148 hw) (tw149 hw) (Or.inl (tw151 hw)) (tw151 hw) (tw150 hw) (tw33 hw) (tw152 hw) (by decide) (lenOf pd31 rfl) rfl rfl (by decide) (by decide) rfl (sfS (W27.safeE q27_1 (by decide) (by decide)) (sfS q27_8 sf0)) (allS (Or.inr (Nat.le_of_eq g1.symm)) (allS (Or.inr ge27) all0)) rfl rfl rfl (by decide) (by decide)
      clear W27
      obtain ⟨va228, kv228, cb228, KB228, K228, f228, rfl, q28_1, q28_2, q28_3, q28_4, q28_5, q28_6, q28_7, q28_8, q28_9, q28_10, q28_11⟩ := hQ28
      have z28 : h27.size ≤ h28.size := K28.1
      replace W28 := W28.cast (st' := [(.ref a1)]) rfl
      have ge28 : h0.size ≤ va228 := q28_11.elim (fun e => e ▸ ge27) (fun z => Nat.le_trans (Nat.le_trans (Nat.le_trans z1 z7) z27) z)
      have nb28 : ba ≠ va228 := fun e => q28_11.elim (fun e2 => nb27 (e.trans e2)) (fun z => Nat.lt_irrefl _ (Nat.lt_of_lt_of_le (Nat.lt_of_lt_of_le V_ba.lt (Nat.le_trans (Nat.le_trans z1 z7) z27)) (e ▸ z)))
      obtain ⟨bd28_1, bd28_2⟩ := q28_10
      replace W28 := W28.pop (pc' := 48) dprog_19_4_47 rfl rfl
      replace W28 := W28.iinc (pc' := 51) (v := (Int32.ofNat (0 + 1))) (L' := #[.val (.ref xa), .val (.ref a1), .val (.int (Int32.ofNat (0 + 1))), .val (.int (g 0))]) dprog_19_4_48 rfl (own_add1 _) rfl rfl
      replace W28 := W28.goto (pc' := 14) dprog_19_4_51 (by decide) (by decide)
      have eT29 : oT g 1 = ((oT g 0) + 1) + 1 := if_neg hc20
      have eF29 : oF g 1 = upd (upd (oF g 0) (oT g 0) (92 : Int32)) ((oT g 0) + 1) (g 0) := if_neg hc20
      have fc29 : Fld Z h28 a1 "java/lang/AbstractStringBuilder" "count" "I" (.int (Int32.ofNat (oT g 1))) := by rw [eT29]; exact q28_4
      have bk29 : BOK cb228 KB228 K228 f228 (oT g 1) (oF g 1) := by rw [eT29, eF29]; exact q28_9
      have hbt29 := oT_le g 0
      replace W28 := W28.castL (L' := #[.val (.ref xa), .val (.ref a1), .val (.int (Int32.ofNat 1)), .val (.int (g 0))]) rfl
      have e30 := ((e9.keep K27).keep K28)
      have f31 := ((f10.keep K27 (ninS (Nat.ne_of_lt (Nat.lt_of_lt_of_le E_xa.lt (Nat.le_of_eq g1.symm))) (ninS (Nat.ne_of_lt (Nat.lt_of_lt_of_le E_xa.lt (Nat.le_trans z1 q7_8))) nin0))).keep K28 (ninS (Nat.ne_of_lt (Nat.lt_of_lt_of_le E_xa.lt (Nat.le_of_eq g1.symm))) (ninS (Nat.ne_of_lt (Nat.lt_of_lt_of_le E_xa.lt ge27)) nin0)))
      have f32 := ((f11.keep K27 (ninS (Nat.ne_of_lt (Nat.lt_of_lt_of_le E_xa.lt (Nat.le_of_eq g1.symm))) (ninS (Nat.ne_of_lt (Nat.lt_of_lt_of_le E_xa.lt (Nat.le_trans z1 q7_8))) nin0))).keep K28 (ninS (Nat.ne_of_lt (Nat.lt_of_lt_of_le E_xa.lt (Nat.le_of_eq g1.symm))) (ninS (Nat.ne_of_lt (Nat.lt_of_lt_of_le E_xa.lt ge27)) nin0)))
      have v33 := ((v12.keep K27 (ninS (Nat.ne_of_lt (Nat.lt_of_lt_of_le V_ba.lt (Nat.le_of_eq g1.symm))) (ninS (Nat.ne_of_lt (Nat.lt_of_lt_of_le V_ba.lt (Nat.le_trans z1 q7_8))) nin0))).keep K28 (ninS (Nat.ne_of_lt (Nat.lt_of_lt_of_le V_ba.lt (Nat.le_of_eq g1.symm))) (ninS nb27 nin0)))
      exact lit_p1 l Z a0 n0 hw hEL G1 O1 P1 O_as O_hi O_lo G3 O3 rG3 xa cd ba kb NB fb N g a1 va228 kv228 cb228 KB228 K228 f228 (g 0) p e s m below meth c S0 V28 h0 h28 hO e30 f31 f32 v33 sok hN3 hq q28_1 q28_2 q28_3 fc29 q28_5 q28_6 q28_7 q28_8 ge28 (Nat.le_of_eq g1.symm) nb28 (Nat.ne_of_lt (Nat.lt_of_lt_of_le V_ba.lt (Nat.le_of_eq g1.symm))) (by omega) bk29 (by rw [eT29]; omega) hnm W28
  · replace W13 := W13.icmpT (pc' := 54) dprog_19_4_19 (flt hc15).2.1 (by decide) (by decide)
    have hNt : N = 0 := by
      rcases Nat.lt_or_ge 0 N with q | q
      · exact absurd (own_lt (by omega) (by omega) q) hc15
      · omega
    subst hNt
    replace W13 := W13.aloadN (pc' := 55) dprog_19_4_54 rfl rfl rfl
    obtain ⟨V34, h34, r34, W34, K34, hQ34, SF34⟩ := W13.callV (pc' := 58) (argsL := []) (rest := []) (Wd := 0) (cells' := 4) (slots' := 92) (a := a1) (C := "java/lang/StringBuilder") (y := (⟨"java/lang/StringBuilder", "toString", "()Ljava/lang/String;"⟩ : MethodName)) (z := (⟨"java/lang/StringBuilder", "toString", "()Ljava/lang/String;"⟩ : MethodName)) dprog_19_4_55 (tos l Z a0 n0 hw hEL G1 O1 P1 O_as O_hi O_lo G3 O3 rG3 a1 va7 kv7 (0 : Int32) 0 0 zf (oT g 0) (oF g 0) h7 W13.old q7_1 q7_2 q7_3 fc8 q7_5 q7_6 q7_7 bk0 (by omega)) q7_1 (tw60 hw) (tw61 hw) (Or.inl (tw63 hw)) (tw63 hw) (tw62 hw) (tw33 hw) (tw64 hw) (by decide) (lenOf pd29 rfl) rfl rfl (by decide) (by decide) rfl sf0 all0 rfl rfl rfl (by decide) (by decide)
    clear W13
    obtain ⟨xr34, cd234, ba234, kb234, NB234, fb234, rfl, q34_1, q34_2, q34_3, q34_4, q34_5⟩ := hQ34
    have z34 : h7.size ≤ h34.size := K34.1
    replace W34 := W34.cast (st' := [(.ref xr34)]) rfl
    exact W34.aret (t := (.object "java/lang/String")) dprog_19_4_58 rfl rfl rfl rfl (by decide) (by decide) (fun V' cv => ⟨xr34, cd234, ba234, kb234, NB234, fb234, rfl, q34_1, q34_2, q34_3, q34_4, q34_5⟩)
theorem ef_same_c (m : MethodId) (xa : Addr) (cd : Int32) (ba : Addr) (kb : ClassId) (NB : Nat) (fb : Nat → Int32) (N : Nat) (g : Nat → Int32) (ea : Addr) (ke : ClassId) (ef : Nat → Int32) (i : Nat) : entryFrame m #[(.ref xa), (.ref ea), (.int (Int32.ofNat N)), (.int (Int32.ofNat i))] 4 = mkF m 0 #[.val (.ref xa), .val (.ref ea), .val (.int (Int32.ofNat N)), .val (.int (Int32.ofNat i))] [] := by first | (simp [entryFrame, mkF, argsToLocals, Value.category]; done) | rfl
set_option maxRecDepth 65536 in
set_option maxHeartbeats 40000000 in
theorem same_c (l : Launch) (Z : State) (a0 : Array Value) (n0 : Nat) (hw : ∀ d ∈ tables_1, d.before a0 Z = true) (hEL : EW Z a0 consts_1) (G1 : Int32) (O1 : Sta Z Z.heap "java/lang/String" "COMPACT_STRINGS" "Z" (.int G1)) (P1 : ¬ (G1 = (0 : Int32))) (O_as : Sta Z Z.heap "java/lang/StringUTF16" "$assertionsDisabled" "Z" (.int (1 : Int32))) (O_hi : Sta Z Z.heap "java/lang/StringUTF16" "HI_BYTE_SHIFT" "I" (.int (0 : Int32))) (O_lo : Sta Z Z.heap "java/lang/StringUTF16" "LO_BYTE_SHIFT" "I" (.int (8 : Int32))) (G3 : Value) (O3 : Sta Z Z.heap "jdk/internal/util/Preconditions" "SIOOBE_FORMATTER" "Ljava/util/function/BiFunction;" G3) (rG3 : G3.isRef = true) (xa : Addr) (cd : Int32) (ba : Addr) (kb : ClassId) (NB : Nat) (fb : Nat → Int32) (N : Nat) (g : Nat → Int32) (ea : Addr) (ke : ClassId) (ef : Nat → Int32) (i : Nat) (h0 : Heap) (hO : Old Z n0 h0) (E_xa : Exa Z h0 xa "java/lang/String") (F_xa_coder : Fld Z h0 xa "java/lang/String" "coder" "B" (.int cd)) (F_xa_value : Fld Z h0 xa "java/lang/String" "value" "[B" (.ref ba)) (V_ba : Arv Z h0 ba kb .byte (Int32.ofNat NB) (lst NB fb) (.int (0 : Int32))) (sok : SOK cd NB fb N g) (hN : N ≤ 20) (hq : ∀ i, i < N → CH (g i)) (V_ea : Arv Z h0 ea ke .char (Int32.ofNat 6) (lst 6 ef) (.int (0 : Int32))) (hi6 : i < 6) (he : ∀ j, j < N → ef j = g j) :
    Con l Z consts_1 n0 (⟨"com/example/input_under_constraint/inputunderconstraint/MessageTemplateLiteralPinLaw", "same", "(Ljava/lang/String;[CII)Z"⟩ : MethodName) method_4_code 4 (some .boolean) ({ frames := 5, cells := 0, slots := 0, locals := 66 } : Room) #[(.ref xa), (.ref ea), (.int (Int32.ofNat N)), (.int (Int32.ofNat i))] h0 [] (fun v h V' => v = some (.int (1 : Int32)) ∧ h0 = h) [] := by
  refine Con.of (a0 := a0) pf52 (fun m => ef_same_c m xa cd ba kb NB fb N g ea ke ef i) all0 hO hEL ?_
  intro p e s m below meth c S0 hnm hsf W
  replace W := W.iloadN (pc' := 1) dm_4_0 rfl rfl
  replace W := W.iloadN (pc' := 2) dm_4_1 rfl rfl
  by_cases hc1 : (Int32.ofNat i) < (Int32.ofNat N)
  · replace W := W.icmpF (pc' := 5) dm_4_2 (tlt hc1).2.1 rfl
    have hlt := own_ltN (by omega) (by omega) hc1
    replace W := W.aloadN (pc' := 6) dm_4_5 rfl rfl rfl
    replace W := W.iloadN (pc' := 7) dm_4_6 rfl rfl
    obtain ⟨V2, h2, r2, W2, K2, hQ2, SF2⟩ := W.callV (pc' := 10) (argsL := [(.int (Int32.ofNat i))]) (rest := []) (Wd := 0) (cells' := 0) (slots' := 0) (a := xa) (C := "java/lang/String") (y := (⟨"java/lang/String", "charAt", "(I)C"⟩ : MethodName)) (z := (⟨"java/lang/String", "charAt", "(I)C"⟩ : MethodName)) dm_4_7 (cat_c l Z a0 n0 hw hEL G1 O1 P1 O_as O_hi O_lo G3 O3 rG3 xa cd ba kb NB fb N g i h0 W.old E_xa F_xa_coder F_xa_value V_ba sok (by omega) (by omega) hq) E_xa (tw197 hw) (tw124 hw) (Or.inl (tw126 hw)) (tw126 hw) (tw125 hw) (tw8 hw) (tw127 hw) (by decide) (lenOf pd30 rfl) rfl rfl (by decide) (by decide) rfl sf0 all0 rfl rfl rfl (by decide) (by decide)
    clear W
    obtain ⟨rfl, hs2⟩ := hQ2
    subst hs2
    replace W2 := W2.cast (st' := [(.int (g i))]) rfl
    replace W2 := W2.aloadN (pc' := 11) dm_4_10 rfl rfl rfl
    replace W2 := W2.iloadN (pc' := 12) dm_4_11 rfl rfl
    replace W2 := W2.caload (pc' := 13) (w := (.int (g i))) dm_4_12 V_ea ⟨own_nn (by omega), own_lt (by omega) (by omega) (by omega)⟩ (by rw [own_clamp (by omega), own_lst_get (by omega)]; exact congrArg Value.int (he _ (by omega))) rfl
    replace W2 := W2.icmpF (pc' := 16) dm_4_13 (teq rfl).2 rfl
    replace W2 := W2.iconst (pc' := 17) (v := (1 : Int32)) dm_4_16 rfl rfl
    replace W2 := W2.goto (pc' := 21) dm_4_17 (by decide) (by decide)
    exact W2.iret (t := .boolean) dm_4_21 rfl (by simp) (by decide) (by decide) (by decide) (fun V' cv => ⟨rfl, rfl⟩)
  · replace W := W.icmpT (pc' := 16) dm_4_2 (flt hc1).2.1 (by decide) (by decide)
    replace W := W.iconst (pc' := 17) (v := (1 : Int32)) dm_4_16 rfl rfl
    replace W := W.goto (pc' := 21) dm_4_17 (by decide) (by decide)
    exact W.iret (t := .boolean) dm_4_21 rfl (by simp) (by decide) (by decide) (by decide) (fun V' cv => ⟨rfl, rfl⟩)
theorem ef_new4_0 (m : MethodId) (xa : Addr) (ca : Addr) (kc : ClassId) : entryFrame m #[(.ref xa), (.ref ca), (.int (0 : Int32)), (.int (0 : Int32)), .null] 6 = mkF m 0 #[.val (.ref xa), .val (.ref ca), .val (.int (0 : Int32)), .val (.int (0 : Int32)), .val .null, .unset] [] := by first | (simp [entryFrame, mkF, argsToLocals, Value.category]; done) | rfl
set_option maxRecDepth 65536 in
set_option maxHeartbeats 40000000 in
theorem new4_0 (l : Launch) (Z : State) (a0 : Array Value) (n0 : Nat) (hw : ∀ d ∈ tables_1, d.before a0 Z = true) (hEL : EW Z a0 consts_1) (G1 : Int32) (O1 : Sta Z Z.heap "java/lang/String" "COMPACT_STRINGS" "Z" (.int G1)) (P1 : ¬ (G1 = (0 : Int32))) (O_as : Sta Z Z.heap "java/lang/StringUTF16" "$assertionsDisabled" "Z" (.int (1 : Int32))) (O_hi : Sta Z Z.heap "java/lang/StringUTF16" "HI_BYTE_SHIFT" "I" (.int (0 : Int32))) (O_lo : Sta Z Z.heap "java/lang/StringUTF16" "LO_BYTE_SHIFT" "I" (.int (8 : Int32))) (G3 : Value) (O3 : Sta Z Z.heap "jdk/internal/util/Preconditions" "SIOOBE_FORMATTER" "Ljava/util/function/BiFunction;" G3) (rG3 : G3.isRef = true) (xa : Addr) (ca : Addr) (kc : ClassId) (h0 : Heap) (hO : Old Z n0 h0) (E_xa : Exa Z h0 xa "java/lang/String") (F_xa_value : Fld Z h0 xa "java/lang/String" "value" "[B" .null) (F_xa_coder : Fld Z h0 xa "java/lang/String" "coder" "B" (.int (0 : Int32))) (V_ca : Arv Z h0 ca kc .char (0 : Int32) [] (.int (0 : Int32))) (g_xa : n0 ≤ xa) :
    Con l Z consts_1 n0 (⟨"java/lang/String", "<init>", "([CIILjava/lang/Void;)V"⟩ : MethodName) jdk_42_method_149_code 6 none ({ frames := 1, cells := 2, slots := 4, locals := 12 } : Room) #[(.ref xa), (.ref ca), (.int (0 : Int32)), (.int (0 : Int32)), .null] h0 [xa] (fun v h V' => ∃ (t : Addr) (kt : ClassId), v = none ∧ Exa Z h xa "java/lang/String" ∧ Fld Z h xa "java/lang/String" "coder" "B" (.int (0 : Int32)) ∧ Fld Z h xa "java/lang/String" "value" "[B" (.ref t) ∧ Arv Z h t kt .byte (0 : Int32) [] (.int (0 : Int32))) [] := by
  refine Con.of (a0 := a0) pf8 (fun m => ef_new4_0 m xa ca kc) (allS g_xa all0) hO hEL ?_
  intro p e s m below meth c S0 hnm hsf W
  replace W := W.aloadN (pc' := 1) djdk_42_149_0 rfl rfl rfl
  replace W := W.initO (pc' := 4) (Wd := 0) djdk_42_149_1 (tw16 hw) (tw17 hw) (tw18 hw) rfl rfl (by decide) (by decide) rfl
  replace W := W.iloadN (pc' := 5) djdk_42_149_4 rfl rfl
  replace W := W.ifF (pc' := 8) djdk_42_149_5 (teq (by decide : (0 : Int32) = (0 : Int32))).2 rfl
  replace W := W.aloadN (pc' := 9) djdk_42_149_8 rfl rfl rfl
  obtain ⟨V1, h1, a1, b1, k1, W1, E1, A1, C1, F1, B1, t1, ne1, SF1⟩ := W.ldcT (pc' := 11) (n := 0) (vs := []) (z := (0 : Int32)) (cells' := 2) (slots' := 4) djdk_42_149_9 (tw19 hw) (hSA hw) (by decide) ⟨by decide, by decide⟩ (by decide) (by decide) (by decide) (by decide) rfl rfl rfl (by decide) (by decide)
  clear W
  have z1 : h0.size ≤ h1.size := E1.1
  have sf2 := (SF1 xa E_xa.lt (hsf _ (List.mem_of_getElem? (i := 0) rfl)))
  replace W1 := W1.getf (pc' := 14) djdk_42_149_11 (tw25 hw) Via.refl F1 rfl
  have f3 := (F_xa_value.ext E1)
  have e4 := (E_xa.ext E1)
  obtain ⟨h5, W5, w5, SF5⟩ := W1.putf (pc' := 17) (ty := (.array .byte)) djdk_42_149_14 (tw25 hw) Via.refl f3 e4 (Or.inr ⟨(tw21 hw), rfl, hnm⟩) (tw7 hw) (by decide) rfl rfl sf2 (Or.inl (List.mem_of_getElem? (i := 0) rfl)) rfl
  clear W1
  have z5 : h1.size ≤ h5.size := Nat.le_of_eq w5.size.symm
  have f5 := f3.same w5
  replace W5 := W5.aloadN (pc' := 18) djdk_42_149_17 rfl rfl rfl
  replace W5 := W5.ldcA (pc' := 20) djdk_42_149_18 (tw19 hw) t1 rfl
  have f6 := (C1.other w5 (Or.inl (Ne.symm (ne1 _ sf2).1)))
  replace W5 := W5.getf (pc' := 23) djdk_42_149_20 (tw26 hw) Via.refl f6 rfl
  have f7 := ((F_xa_coder.ext E1).other w5 (Or.inr (slot_ne (C := "java/lang/String") (Or.inr (tw22 hw)) (Or.inr (tw21 hw)) (by decide) (t := .byte) (t' := (.array .byte)) (by decide) (by decide))))
  have e8 := (e4.wr w5)
  have sf9 := (SF5 xa sf2)
  obtain ⟨h10, W10, w10, SF10⟩ := W5.putf (pc' := 26) (ty := .byte) djdk_42_149_23 (tw26 hw) Via.refl f7 e8 (Or.inr ⟨(tw22 hw), rfl, hnm⟩) (tw7 hw) (by decide) rfl rfl sf9 (Or.inl (List.mem_of_getElem? (i := 0) rfl)) rfl
  clear W5
  have z10 : h5.size ≤ h10.size := Nat.le_of_eq w10.size.symm
  have f10 := f7.same w10
  have e11 := (e8.wr w10)
  have f12 := (f5.other w10 (Or.inr (slot_ne (C := "java/lang/String") (Or.inr (tw21 hw)) (Or.inr (tw22 hw)) (by decide) (t := (.array .byte)) (t' := .byte) (by decide) (by decide))))
  have v13 := ((B1.other w5 (Ne.symm (ne1 _ sf2).2)).other w10 (Ne.symm (ne1 _ sf2).2))
  exact W10.vret djdk_42_149_26 rfl (by decide) (by decide) (fun V' cv => ⟨b1, k1, rfl, e11, f10, f12, v13⟩)
theorem ef_new1_0 (m : MethodId) (xa : Addr) (ca : Addr) (kc : ClassId) : entryFrame m #[(.ref xa), (.ref ca)] 2 = mkF m 0 #[.val (.ref xa), .val (.ref ca)] [] := by first | (simp [entryFrame, mkF, argsToLocals, Value.category]; done) | rfl
set_option maxRecDepth 65536 in
set_option maxHeartbeats 40000000 in
theorem new1_0 (l : Launch) (Z : State) (a0 : Array Value) (n0 : Nat) (hw : ∀ d ∈ tables_1, d.before a0 Z = true) (hEL : EW Z a0 consts_1) (G1 : Int32) (O1 : Sta Z Z.heap "java/lang/String" "COMPACT_STRINGS" "Z" (.int G1)) (P1 : ¬ (G1 = (0 : Int32))) (O_as : Sta Z Z.heap "java/lang/StringUTF16" "$assertionsDisabled" "Z" (.int (1 : Int32))) (O_hi : Sta Z Z.heap "java/lang/StringUTF16" "HI_BYTE_SHIFT" "I" (.int (0 : Int32))) (O_lo : Sta Z Z.heap "java/lang/StringUTF16" "LO_BYTE_SHIFT" "I" (.int (8 : Int32))) (G3 : Value) (O3 : Sta Z Z.heap "jdk/internal/util/Preconditions" "SIOOBE_FORMATTER" "Ljava/util/function/BiFunction;" G3) (rG3 : G3.isRef = true) (xa : Addr) (ca : Addr) (kc : ClassId) (h0 : Heap) (hO : Old Z n0 h0) (E_xa : Exa Z h0 xa "java/lang/String") (F_xa_value : Fld Z h0 xa "java/lang/String" "value" "[B" .null) (F_xa_coder : Fld Z h0 xa "java/lang/String" "coder" "B" (.int (0 : Int32))) (V_ca : Arv Z h0 ca kc .char (0 : Int32) [] (.int (0 : Int32))) (g_xa : n0 ≤ xa) :
    Con l Z consts_1 n0 (⟨"java/lang/String", "<init>", "([C)V"⟩ : MethodName) jdk_42_method_3_code 2 none ({ frames := 2, cells := 2, slots := 4, locals := 29 } : Room) #[(.ref xa), (.ref ca)] h0 [xa] (fun v h V' => ∃ (t : Addr) (kt : ClassId), v = none ∧ Exa Z h xa "java/lang/String" ∧ Fld Z h xa "java/lang/String" "coder" "B" (.int (0 : Int32)) ∧ Fld Z h xa "java/lang/String" "value" "[B" (.ref t) ∧ Arv Z h t kt .byte (0 : Int32) [] (.int (0 : Int32))) [] := by
  refine Con.of (a0 := a0) pf9 (fun m => ef_new1_0 m xa ca kc) (allS g_xa all0) hO hEL ?_
  intro p e s m below meth c S0 hnm hsf W
  replace W := W.aloadN (pc' := 1) djdk_42_3_0 rfl rfl rfl
  replace W := W.aloadN (pc' := 2) djdk_42_3_1 rfl rfl rfl
  replace W := W.iconst (pc' := 3) (v := (0 : Int32)) djdk_42_3_2 rfl rfl
  replace W := W.aloadN (pc' := 4) djdk_42_3_3 rfl rfl rfl
  replace W := W.alen (pc' := 5) djdk_42_3_4 V_ca rfl
  replace W := W.aconstNull (pc' := 6) djdk_42_3_5 rfl
  obtain ⟨V1, h1, r1, W1, K1, hQ1, SF1⟩ := W.callI (pc' := 9) (argsL := [(.ref ca), (.int (0 : Int32)), (.int (0 : Int32)), .null]) (rest := []) (Wd := 0) (cells' := 2) (slots' := 4) (a := xa) (y := (⟨"java/lang/String", "<init>", "([CIILjava/lang/Void;)V"⟩ : MethodName)) djdk_42_3_6 (new4_0 l Z a0 n0 hw hEL G1 O1 P1 O_as O_hi O_lo G3 O3 rG3 xa ca kc h0 W.old E_xa F_xa_value F_xa_coder V_ca g_xa) rfl (tw12 hw) (tw13 hw) (tw8 hw) (tw15 hw) (by decide) (lenOf pd7 rfl) rfl rfl (by decide) (by decide) rfl (sfS (hsf _ (List.mem_of_getElem? (i := 0) rfl)) sf0) (allS (Or.inl (List.mem_of_getElem? (i := 0) rfl)) all0) rfl rfl rfl (by decide) (by decide)
  clear W
  obtain ⟨t1, kt1, rfl, q1_1, q1_2, q1_3, q1_4⟩ := hQ1
  have z1 : h0.size ≤ h1.size := K1.1
  replace W1 := W1.cast (st' := []) rfl
  exact W1.vret djdk_42_3_9 rfl (by decide) (by decide) (fun V' cv => ⟨t1, kt1, rfl, q1_1, q1_2, q1_3, q1_4⟩)
set_option maxRecDepth 65536 in
set_option maxHeartbeats 40000000 in
theorem law_b (l : Launch) (Z : State) (a0 : Array Value) (n0 : Nat) (hw : ∀ d ∈ tables_1, d.before a0 Z = true) (hEL : EW Z a0 consts_1) (G1 : Int32) (O1 : Sta Z Z.heap "java/lang/String" "COMPACT_STRINGS" "Z" (.int G1)) (P1 : ¬ (G1 = (0 : Int32))) (O_as : Sta Z Z.heap "java/lang/StringUTF16" "$assertionsDisabled" "Z" (.int (1 : Int32))) (O_hi : Sta Z Z.heap "java/lang/StringUTF16" "HI_BYTE_SHIFT" "I" (.int (0 : Int32))) (O_lo : Sta Z Z.heap "java/lang/StringUTF16" "LO_BYTE_SHIFT" "I" (.int (8 : Int32))) (G3 : Value) (O3 : Sta Z Z.heap "jdk/internal/util/Preconditions" "SIOOBE_FORMATTER" "Ljava/util/function/BiFunction;" G3) (rG3 : G3.isRef = true) (p0 : Int32) (p1 : Int32) (p2 : Int32) (p3 : Int32) (r0 : Int32) (r1 : Int32) (r2 : Int32) (ca : Addr) (kc : ClassId) (N : Nat) (g : Nat → Int32) (ea : Addr) (ke : ClassId) (ef : Nat → Int32) (p : Program) (e : Env) (s : State) (m : MethodId) (below : List Frame) (meth : Method) (c : Code) (S0 : State) (V : Vm) (h0 h : Heap) (hO0 : Old Z n0 h0) (V_ca : Arv Z h ca kc .char (Int32.ofNat N) (lst N g) (.int (0 : Int32))) (V_ea : Arv Z h ea ke .char (Int32.ofNat 6) (lst 6 ef) (.int (0 : Int32))) (G_ca : h0.size ≤ ca) (G_ea : h0.size ≤ ea) (hN3 : N ≤ 3) (hq : ∀ i, i < N → CH (g i)) (he : ∀ j, j < oT g N → ef j = oF g N j) (hnm : meth.name = "law") (W : Wk p l e room_1 s m #[(.int p0), (.int p1), (.int p2), (.int p3)] below meth c code maxLocals ret Z a0 consts_1 "com/example/input_under_constraint/inputunderconstraint/MessageTemplateLiteralPinLaw" n0 h0 [] S0 V h 2 9 (mkF m 230 #[.val (.int p0), .val (.int p1), .val (.int p2), .val (.int p3), .val (.int (Int32.ofNat N)), .val (.int r0), .val (.int r1), .val (.int r2), .val (.ref ca), .val (.ref ea), .val (.int (Int32.ofNat (oT g N))), .unset] [])) : Done p e below S0 s Z consts_1 n0 h0 [] room_1 (fun v h V' => v = some (.int (1 : Int32))) := by
  have z0 : h0.size ≤ h.size := W.kept.1
  have hot := oT_le g N
  rcases Nat.eq_zero_or_pos N with hz | hz
  · subst hz
    have vz : Arv Z h ca kc .char (0 : Int32) [] (.int (0 : Int32)) := V_ca
    obtain ⟨h1, a1, W1, E1, g1, ⟨A1, D1, U1⟩, sf1, SF1⟩ := W.new (pc' := 233) (cells' := 3) (slots' := 13) at_230 (tw6 hw) (tw7 hw) (tw8 hw) rfl rfl rfl (by decide) (by decide)
    clear W
    rw [← g1] at A1 D1 U1
    have z1 : h.size ≤ h1.size := E1.1
    replace W1 := W1.dup (pc' := 234) at_233 rfl rfl
    replace W1 := W1.aload (pc' := 236) at_234 rfl rfl rfl
    have v2 := (vz.ext E1)
    obtain ⟨V3, h3, r3, W3, K3, hQ3, SF3⟩ := W1.callI (pc' := 239) (argsL := [(.ref ca)]) (rest := [(.ref a1)]) (Wd := 1) (cells' := 5) (slots' := 17) (a := a1) (y := (⟨"java/lang/String", "<init>", "([C)V"⟩ : MethodName)) at_236 (new1_0 l Z a0 n0 hw hEL G1 O1 P1 O_as O_hi O_lo G3 O3 rG3 a1 ca kc h1 W1.old A1 (D1 (Or.inr (tw21 hw)) (ty := (.array .byte)) (by decide) : Fld Z h1 a1 "java/lang/String" "value" "[B" .null) (D1 (Or.inr (tw22 hw)) (ty := .byte) (by decide) : Fld Z h1 a1 "java/lang/String" "coder" "B" (.int (0 : Int32))) v2 (Nat.le_trans W1.1.2.2.2.2.2.2.2.1 (Nat.le_trans z0 (Nat.le_of_eq g1.symm)))) rfl (tw9 hw) (tw10 hw) (tw8 hw) (tw11 hw) (by decide) (lenOf pd32 rfl) rfl rfl (by decide) (by decide) rfl (sfS sf1 sf0) (allS (Or.inr (Nat.le_trans z0 (Nat.le_of_eq g1.symm))) all0) rfl rfl rfl (by decide) (by decide)
    clear W1
    obtain ⟨t3, kt3, rfl, q3_1, q3_2, q3_3, q3_4⟩ := hQ3
    have z3 : h1.size ≤ h3.size := K3.1
    replace W3 := W3.cast (st' := [(.ref a1)]) rfl
    have v4 : Arv Z h3 t3 kt3 .byte (Int32.ofNat 0) (lst 0 zf) (.int (0 : Int32)) := q3_4
    have sok : SOK (0 : Int32) 0 zf 0 g := Or.inl ⟨rfl, rfl, fun i hi => absurd hi (Nat.not_lt_zero _), fun i hi => absurd hi (Nat.not_lt_zero _)⟩
    obtain ⟨V5, h5, r5, W5, K5, hQ5, SF5⟩ := W3.callS (pc' := 242) (argsL := [(.ref a1)]) (rest := []) (Wd := 0) (cells' := 25) (slots' := 1117) (y := (⟨"com/example/input_under_constraint/inputunderconstraint/MessageTemplate", "literal", "(Ljava/lang/String;)Ljava/lang/String;"⟩ : MethodName)) at_239 (lit_c l Z a0 n0 hw hEL G1 O1 P1 O_as O_hi O_lo G3 O3 rG3 a1 (0 : Int32) t3 kt3 0 zf 0 g h3 W3.old q3_1 q3_2 q3_3 v4 sok hN3 hq) (tw27 hw) (tw28 hw) (tw29 hw) (tw30 hw) (by decide) (lenOf pd33 rfl) rfl rfl (by decide) (by decide) rfl sf0 all0 rfl rfl rfl (by decide) (by decide)
    clear W3
    obtain ⟨xr5, cd25, ba25, kb25, NB25, fb25, rfl, q5_1, q5_2, q5_3, q5_4, q5_5⟩ := hQ5
    have z5 : h3.size ≤ h5.size := K5.1
    replace W5 := W5.cast (st' := [(.ref xr5)]) rfl
    have sok2 := q5_5
    replace W5 := W5.astore (pc' := 244) (L' := #[.val (.int p0), .val (.int p1), .val (.int p2), .val (.int p3), .val (.int (Int32.ofNat 0)), .val (.int r0), .val (.int r1), .val (.int r2), .val (.ref ca), .val (.ref ea), .val (.int (Int32.ofNat (oT g 0))), .val (.ref xr5)]) at_242 rfl rfl rfl
    replace W5 := W5.aload (pc' := 246) at_244 rfl rfl rfl
    obtain ⟨V6, h6, r6, W6, K6, hQ6, SF6⟩ := W5.callV (pc' := 249) (argsL := []) (rest := []) (Wd := 0) (cells' := 25) (slots' := 1117) (a := xr5) (C := "java/lang/String") (y := (⟨"java/lang/String", "length", "()I"⟩ : MethodName)) (z := (⟨"java/lang/String", "length", "()I"⟩ : MethodName)) at_246 (len_c l Z a0 n0 hw hEL G1 O1 P1 O_as O_hi O_lo G3 O3 rG3 xr5 cd25 ba25 kb25 NB25 fb25 (oT g 0) (oF g 0) h5 W5.old q5_1 q5_2 q5_3 q5_4 sok2 (by omega)) q5_1 (tw106 hw) (tw35 hw) (Or.inl (tw37 hw)) (tw37 hw) (tw36 hw) (tw8 hw) (tw38 hw) (by decide) (lenOf pd15 rfl) rfl rfl (by decide) (by decide) rfl sf0 all0 rfl rfl rfl (by decide) (by decide)
    clear W5
    obtain ⟨rfl, hs6⟩ := hQ6
    subst hs6
    have sf7 := (SF5 a1 q3_1.lt (SF3 a1 A1.lt sf1))
    have sf8 := SF6 a1 (Nat.lt_of_lt_of_le q3_1.lt z5) sf7
    replace W6 := W6.cast (st' := [(.int (Int32.ofNat (oT g 0)))]) rfl
    replace W6 := W6.iload (pc' := 251) at_249 rfl rfl
    replace W6 := W6.icmpT (pc' := 256) at_251 (teq rfl).1 (by decide) (by decide)
    replace W6 := W6.aload (pc' := 258) at_256 rfl rfl rfl
    replace W6 := W6.aload (pc' := 260) at_258 rfl rfl rfl
    replace W6 := W6.iload (pc' := 262) at_260 rfl rfl
    replace W6 := W6.iconst (pc' := 263) (v := (0 : Int32)) at_262 rfl rfl
    replace W6 := W6.cast (st' := [(.int (Int32.ofNat 0)), (.int (Int32.ofNat (oT g 0))), (.ref ea), (.ref xr5)]) rfl
    have v9 := (((V_ea.ext E1).keep K3 (ninS (Nat.ne_of_lt (Nat.lt_of_lt_of_le V_ea.lt (Nat.le_of_eq g1.symm))) nin0)).keep K5 nin0)
    obtain ⟨V10, h10, r10, W10, K10, hQ10, SF10⟩ := W6.callS (pc' := 266) (argsL := [(.ref xr5), (.ref ea), (.int (Int32.ofNat (oT g 0))), (.int (Int32.ofNat 0))]) (rest := []) (Wd := 0) (cells' := 25) (slots' := 1117) (y := (⟨"com/example/input_under_constraint/inputunderconstraint/MessageTemplateLiteralPinLaw", "same", "(Ljava/lang/String;[CII)Z"⟩ : MethodName)) at_263 (same_c l Z a0 n0 hw hEL G1 O1 P1 O_as O_hi O_lo G3 O3 rG3 xr5 cd25 ba25 kb25 NB25 fb25 (oT g 0) (oF g 0) ea ke ef 0 h5 W6.old q5_1 q5_2 q5_3 q5_4 sok2 (by omega) (oF_ch hq _ (Nat.le_refl _)) v9 (by omega) he) (tw107 hw) (tw108 hw) (tw3 hw) (tw109 hw) (by decide) (lenOf pd34 rfl) rfl rfl (by decide) (by decide) rfl sf0 all0 rfl rfl rfl (by decide) (by decide)
    clear W6
    obtain ⟨rfl, hs10⟩ := hQ10
    subst hs10
    have sf11 := SF10 a1 (Nat.lt_of_lt_of_le q3_1.lt z5) sf8
    replace W10 := W10.cast (st' := [(.int (1 : Int32))]) rfl
    replace W10 := W10.ifF (pc' := 269) at_266 (feq (by decide : ¬ ((1 : Int32) = (0 : Int32)))).1 rfl
    replace W10 := W10.aload (pc' := 271) at_269 rfl rfl rfl
    replace W10 := W10.aload (pc' := 273) at_271 rfl rfl rfl
    replace W10 := W10.iload (pc' := 275) at_273 rfl rfl
    replace W10 := W10.iconst (pc' := 276) (v := (1 : Int32)) at_275 rfl rfl
    replace W10 := W10.cast (st' := [(.int (Int32.ofNat 1)), (.int (Int32.ofNat (oT g 0))), (.ref ea), (.ref xr5)]) rfl
    obtain ⟨V12, h12, r12, W12, K12, hQ12, SF12⟩ := W10.callS (pc' := 279) (argsL := [(.ref xr5), (.ref ea), (.int (Int32.ofNat (oT g 0))), (.int (Int32.ofNat 1))]) (rest := []) (Wd := 0) (cells' := 25) (slots' := 1117) (y := (⟨"com/example/input_under_constraint/inputunderconstraint/MessageTemplateLiteralPinLaw", "same", "(Ljava/lang/String;[CII)Z"⟩ : MethodName)) at_276 (same_c l Z a0 n0 hw hEL G1 O1 P1 O_as O_hi O_lo G3 O3 rG3 xr5 cd25 ba25 kb25 NB25 fb25 (oT g 0) (oF g 0) ea ke ef 1 h5 W10.old q5_1 q5_2 q5_3 q5_4 sok2 (by omega) (oF_ch hq _ (Nat.le_refl _)) v9 (by omega) he) (tw107 hw) (tw108 hw) (tw3 hw) (tw109 hw) (by decide) (lenOf pd34 rfl) rfl rfl (by decide) (by decide) rfl sf0 all0 rfl rfl rfl (by decide) (by decide)
    clear W10
    obtain ⟨rfl, hs12⟩ := hQ12
    subst hs12
    have sf13 := SF12 a1 (Nat.lt_of_lt_of_le q3_1.lt z5) sf11
    replace W12 := W12.cast (st' := [(.int (1 : Int32))]) rfl
    replace W12 := W12.ifF (pc' := 282) at_279 (feq (by decide : ¬ ((1 : Int32) = (0 : Int32)))).1 rfl
    replace W12 := W12.aload (pc' := 284) at_282 rfl rfl rfl
    replace W12 := W12.aload (pc' := 286) at_284 rfl rfl rfl
    replace W12 := W12.iload (pc' := 288) at_286 rfl rfl
    replace W12 := W12.iconst (pc' := 289) (v := (2 : Int32)) at_288 rfl rfl
    replace W12 := W12.cast (st' := [(.int (Int32.ofNat 2)), (.int (Int32.ofNat (oT g 0))), (.ref ea), (.ref xr5)]) rfl
    obtain ⟨V14, h14, r14, W14, K14, hQ14, SF14⟩ := W12.callS (pc' := 292) (argsL := [(.ref xr5), (.ref ea), (.int (Int32.ofNat (oT g 0))), (.int (Int32.ofNat 2))]) (rest := []) (Wd := 0) (cells' := 25) (slots' := 1117) (y := (⟨"com/example/input_under_constraint/inputunderconstraint/MessageTemplateLiteralPinLaw", "same", "(Ljava/lang/String;[CII)Z"⟩ : MethodName)) at_289 (same_c l Z a0 n0 hw hEL G1 O1 P1 O_as O_hi O_lo G3 O3 rG3 xr5 cd25 ba25 kb25 NB25 fb25 (oT g 0) (oF g 0) ea ke ef 2 h5 W12.old q5_1 q5_2 q5_3 q5_4 sok2 (by omega) (oF_ch hq _ (Nat.le_refl _)) v9 (by omega) he) (tw107 hw) (tw108 hw) (tw3 hw) (tw109 hw) (by decide) (lenOf pd34 rfl) rfl rfl (by decide) (by decide) rfl sf0 all0 rfl rfl rfl (by decide) (by decide)
    clear W12
    obtain ⟨rfl, hs14⟩ := hQ14
    subst hs14
    have sf15 := SF14 a1 (Nat.lt_of_lt_of_le q3_1.lt z5) sf13
    replace W14 := W14.cast (st' := [(.int (1 : Int32))]) rfl
    replace W14 := W14.ifF (pc' := 295) at_292 (feq (by decide : ¬ ((1 : Int32) = (0 : Int32)))).1 rfl
    replace W14 := W14.aload (pc' := 297) at_295 rfl rfl rfl
    replace W14 := W14.aload (pc' := 299) at_297 rfl rfl rfl
    replace W14 := W14.iload (pc' := 301) at_299 rfl rfl
    replace W14 := W14.iconst (pc' := 302) (v := (3 : Int32)) at_301 rfl rfl
    replace W14 := W14.cast (st' := [(.int (Int32.ofNat 3)), (.int (Int32.ofNat (oT g 0))), (.ref ea), (.ref xr5)]) rfl
    obtain ⟨V16, h16, r16, W16, K16, hQ16, SF16⟩ := W14.callS (pc' := 305) (argsL := [(.ref xr5), (.ref ea), (.int (Int32.ofNat (oT g 0))), (.int (Int32.ofNat 3))]) (rest := []) (Wd := 0) (cells' := 25) (slots' := 1117) (y := (⟨"com/example/input_under_constraint/inputunderconstraint/MessageTemplateLiteralPinLaw", "same", "(Ljava/lang/String;[CII)Z"⟩ : MethodName)) at_302 (same_c l Z a0 n0 hw hEL G1 O1 P1 O_as O_hi O_lo G3 O3 rG3 xr5 cd25 ba25 kb25 NB25 fb25 (oT g 0) (oF g 0) ea ke ef 3 h5 W14.old q5_1 q5_2 q5_3 q5_4 sok2 (by omega) (oF_ch hq _ (Nat.le_refl _)) v9 (by omega) he) (tw107 hw) (tw108 hw) (tw3 hw) (tw109 hw) (by decide) (lenOf pd34 rfl) rfl rfl (by decide) (by decide) rfl sf0 all0 rfl rfl rfl (by decide) (by decide)
    clear W14
    obtain ⟨rfl, hs16⟩ := hQ16
    subst hs16
    have sf17 := SF16 a1 (Nat.lt_of_lt_of_le q3_1.lt z5) sf15
    replace W16 := W16.cast (st' := [(.int (1 : Int32))]) rfl
    replace W16 := W16.ifF (pc' := 308) at_305 (feq (by decide : ¬ ((1 : Int32) = (0 : Int32)))).1 rfl
    replace W16 := W16.aload (pc' := 310) at_308 rfl rfl rfl
    replace W16 := W16.aload (pc' := 312) at_310 rfl rfl rfl
    replace W16 := W16.iload (pc' := 314) at_312 rfl rfl
    replace W16 := W16.iconst (pc' := 315) (v := (4 : Int32)) at_314 rfl rfl
    replace W16 := W16.cast (st' := [(.int (Int32.ofNat 4)), (.int (Int32.ofNat (oT g 0))), (.ref ea), (.ref xr5)]) rfl
    obtain ⟨V18, h18, r18, W18, K18, hQ18, SF18⟩ := W16.callS (pc' := 318) (argsL := [(.ref xr5), (.ref ea), (.int (Int32.ofNat (oT g 0))), (.int (Int32.ofNat 4))]) (rest := []) (Wd := 0) (cells' := 25) (slots' := 1117) (y := (⟨"com/example/input_under_constraint/inputunderconstraint/MessageTemplateLiteralPinLaw", "same", "(Ljava/lang/String;[CII)Z"⟩ : MethodName)) at_315 (same_c l Z a0 n0 hw hEL G1 O1 P1 O_as O_hi O_lo G3 O3 rG3 xr5 cd25 ba25 kb25 NB25 fb25 (oT g 0) (oF g 0) ea ke ef 4 h5 W16.old q5_1 q5_2 q5_3 q5_4 sok2 (by omega) (oF_ch hq _ (Nat.le_refl _)) v9 (by omega) he) (tw107 hw) (tw108 hw) (tw3 hw) (tw109 hw) (by decide) (lenOf pd34 rfl) rfl rfl (by decide) (by decide) rfl sf0 all0 rfl rfl rfl (by decide) (by decide)
    clear W16
    obtain ⟨rfl, hs18⟩ := hQ18
    subst hs18
    have sf19 := SF18 a1 (Nat.lt_of_lt_of_le q3_1.lt z5) sf17
    replace W18 := W18.cast (st' := [(.int (1 : Int32))]) rfl
    replace W18 := W18.ifF (pc' := 321) at_318 (feq (by decide : ¬ ((1 : Int32) = (0 : Int32)))).1 rfl
    replace W18 := W18.aload (pc' := 323) at_321 rfl rfl rfl
    replace W18 := W18.aload (pc' := 325) at_323 rfl rfl rfl
    replace W18 := W18.iload (pc' := 327) at_325 rfl rfl
    replace W18 := W18.iconst (pc' := 328) (v := (5 : Int32)) at_327 rfl rfl
    replace W18 := W18.cast (st' := [(.int (Int32.ofNat 5)), (.int (Int32.ofNat (oT g 0))), (.ref ea), (.ref xr5)]) rfl
    obtain ⟨V20, h20, r20, W20, K20, hQ20, SF20⟩ := W18.callS (pc' := 331) (argsL := [(.ref xr5), (.ref ea), (.int (Int32.ofNat (oT g 0))), (.int (Int32.ofNat 5))]) (rest := []) (Wd := 0) (cells' := 25) (slots' := 1117) (y := (⟨"com/example/input_under_constraint/inputunderconstraint/MessageTemplateLiteralPinLaw", "same", "(Ljava/lang/String;[CII)Z"⟩ : MethodName)) at_328 (same_c l Z a0 n0 hw hEL G1 O1 P1 O_as O_hi O_lo G3 O3 rG3 xr5 cd25 ba25 kb25 NB25 fb25 (oT g 0) (oF g 0) ea ke ef 5 h5 W18.old q5_1 q5_2 q5_3 q5_4 sok2 (by omega) (oF_ch hq _ (Nat.le_refl _)) v9 (by omega) he) (tw107 hw) (tw108 hw) (tw3 hw) (tw109 hw) (by decide) (lenOf pd34 rfl) rfl rfl (by decide) (by decide) rfl sf0 all0 rfl rfl rfl (by decide) (by decide)
    clear W18
    obtain ⟨rfl, hs20⟩ := hQ20
    subst hs20
    have sf21 := SF20 a1 (Nat.lt_of_lt_of_le q3_1.lt z5) sf19
    replace W20 := W20.cast (st' := [(.int (1 : Int32))]) rfl
    replace W20 := W20.ifF (pc' := 334) at_331 (feq (by decide : ¬ ((1 : Int32) = (0 : Int32)))).1 rfl
    replace W20 := W20.iconst (pc' := 335) (v := (1 : Int32)) at_334 rfl rfl
    replace W20 := W20.goto (pc' := 339) at_335 (by decide) (by decide)
    exact W20.iret (t := .boolean) at_339 rfl (by simp) (by decide) (by decide) (by decide) (fun V' cv => rfl)
  · rcases first_wide g N with hl | ⟨k, hkN, hkl, gk⟩
    · obtain ⟨h22, a22, W22, E22, g22, ⟨A22, D22, U22⟩, sf22, SF22⟩ := W.new (pc' := 233) (cells' := 3) (slots' := 13) at_230 (tw6 hw) (tw7 hw) (tw8 hw) rfl rfl rfl (by decide) (by decide)
      clear W
      rw [← g22] at A22 D22 U22
      have z22 : h.size ≤ h22.size := E22.1
      replace W22 := W22.dup (pc' := 234) at_233 rfl rfl
      replace W22 := W22.aload (pc' := 236) at_234 rfl rfl rfl
      have v23 := (V_ca.ext E22)
      obtain ⟨V24, h24, r24, W24, K24, hQ24, SF24⟩ := W22.callI (pc' := 239) (argsL := [(.ref ca)]) (rest := [(.ref a22)]) (Wd := 1) (cells' := 4) (slots' := 33) (a := a22) (y := (⟨"java/lang/String", "<init>", "([C)V"⟩ : MethodName)) at_236 (new1l l Z a0 n0 hw hEL G1 O1 P1 O_as O_hi O_lo G3 O3 rG3 a22 ca kc N g h22 W22.old A22 (D22 (Or.inr (tw21 hw)) (ty := (.array .byte)) (by decide) : Fld Z h22 a22 "java/lang/String" "value" "[B" .null) (D22 (Or.inr (tw22 hw)) (ty := .byte) (by decide) : Fld Z h22 a22 "java/lang/String" "coder" "B" (.int (0 : Int32))) v23 (by omega) (by omega) hl (Nat.le_trans W22.1.2.2.2.2.2.2.2.1 (Nat.le_trans z0 (Nat.le_of_eq g22.symm)))) rfl (tw9 hw) (tw10 hw) (tw8 hw) (tw11 hw) (by decide) (lenOf pd32 rfl) rfl rfl (by decide) (by decide) rfl (sfS sf22 sf0) (allS (Or.inr (Nat.le_trans z0 (Nat.le_of_eq g22.symm))) all0) rfl rfl rfl (by decide) (by decide)
      clear W22
      obtain ⟨ba24, kb24, rfl, q24_1, q24_2, q24_3, q24_4, q24_5, q24_6⟩ := hQ24
      have z24 : h22.size ≤ h24.size := K24.1
      replace W24 := W24.cast (st' := [(.ref a22)]) rfl
      have sok : SOK (0 : Int32) N (lb g) N g := Or.inl ⟨rfl, rfl, fun i hi => rfl, hl⟩
      obtain ⟨V25, h25, r25, W25, K25, hQ25, SF25⟩ := W24.callS (pc' := 242) (argsL := [(.ref a22)]) (rest := []) (Wd := 0) (cells' := 24) (slots' := 1133) (y := (⟨"com/example/input_under_constraint/inputunderconstraint/MessageTemplate", "literal", "(Ljava/lang/String;)Ljava/lang/String;"⟩ : MethodName)) at_239 (lit_c l Z a0 n0 hw hEL G1 O1 P1 O_as O_hi O_lo G3 O3 rG3 a22 (0 : Int32) ba24 kb24 N (lb g) N g h24 W24.old q24_1 q24_2 q24_3 q24_4 sok hN3 hq) (tw27 hw) (tw28 hw) (tw29 hw) (tw30 hw) (by decide) (lenOf pd33 rfl) rfl rfl (by decide) (by decide) rfl sf0 all0 rfl rfl rfl (by decide) (by decide)
      clear W24
      obtain ⟨xr25, cd225, ba225, kb225, NB225, fb225, rfl, q25_1, q25_2, q25_3, q25_4, q25_5⟩ := hQ25
      have z25 : h24.size ≤ h25.size := K25.1
      replace W25 := W25.cast (st' := [(.ref xr25)]) rfl
      have sok2 := q25_5
      replace W25 := W25.astore (pc' := 244) (L' := #[.val (.int p0), .val (.int p1), .val (.int p2), .val (.int p3), .val (.int (Int32.ofNat N)), .val (.int r0), .val (.int r1), .val (.int r2), .val (.ref ca), .val (.ref ea), .val (.int (Int32.ofNat (oT g N))), .val (.ref xr25)]) at_242 rfl rfl rfl
      replace W25 := W25.aload (pc' := 246) at_244 rfl rfl rfl
      obtain ⟨V26, h26, r26, W26, K26, hQ26, SF26⟩ := W25.callV (pc' := 249) (argsL := []) (rest := []) (Wd := 0) (cells' := 24) (slots' := 1133) (a := xr25) (C := "java/lang/String") (y := (⟨"java/lang/String", "length", "()I"⟩ : MethodName)) (z := (⟨"java/lang/String", "length", "()I"⟩ : MethodName)) at_246 (len_c l Z a0 n0 hw hEL G1 O1 P1 O_as O_hi O_lo G3 O3 rG3 xr25 cd225 ba225 kb225 NB225 fb225 (oT g N) (oF g N) h25 W25.old q25_1 q25_2 q25_3 q25_4 sok2 (by omega)) q25_1 (tw106 hw) (tw35 hw) (Or.inl (tw37 hw)) (tw37 hw) (tw36 hw) (tw8 hw) (tw38 hw) (by decide) (lenOf pd15 rfl) rfl rfl (by decide) (by decide) rfl sf0 all0 rfl rfl rfl (by decide) (by decide)
      clear W25
      obtain ⟨rfl, hs26⟩ := hQ26
      subst hs26
      have sf27 := (SF25 a22 q24_1.lt (SF24 a22 A22.lt sf22))
      have sf28 := SF26 a22 (Nat.lt_of_lt_of_le q24_1.lt z25) sf27
      replace W26 := W26.cast (st' := [(.int (Int32.ofNat (oT g N)))]) rfl
      replace W26 := W26.iload (pc' := 251) at_249 rfl rfl
      replace W26 := W26.icmpT (pc' := 256) at_251 (teq rfl).1 (by decide) (by decide)
      replace W26 := W26.aload (pc' := 258) at_256 rfl rfl rfl
      replace W26 := W26.aload (pc' := 260) at_258 rfl rfl rfl
      replace W26 := W26.iload (pc' := 262) at_260 rfl rfl
      replace W26 := W26.iconst (pc' := 263) (v := (0 : Int32)) at_262 rfl rfl
      replace W26 := W26.cast (st' := [(.int (Int32.ofNat 0)), (.int (Int32.ofNat (oT g N))), (.ref ea), (.ref xr25)]) rfl
      have v29 := (((V_ea.ext E22).keep K24 (ninS (Nat.ne_of_lt (Nat.lt_of_lt_of_le V_ea.lt (Nat.le_of_eq g22.symm))) nin0)).keep K25 nin0)
      obtain ⟨V30, h30, r30, W30, K30, hQ30, SF30⟩ := W26.callS (pc' := 266) (argsL := [(.ref xr25), (.ref ea), (.int (Int32.ofNat (oT g N))), (.int (Int32.ofNat 0))]) (rest := []) (Wd := 0) (cells' := 24) (slots' := 1133) (y := (⟨"com/example/input_under_constraint/inputunderconstraint/MessageTemplateLiteralPinLaw", "same", "(Ljava/lang/String;[CII)Z"⟩ : MethodName)) at_263 (same_c l Z a0 n0 hw hEL G1 O1 P1 O_as O_hi O_lo G3 O3 rG3 xr25 cd225 ba225 kb225 NB225 fb225 (oT g N) (oF g N) ea ke ef 0 h25 W26.old q25_1 q25_2 q25_3 q25_4 sok2 (by omega) (oF_ch hq _ (Nat.le_refl _)) v29 (by omega) he) (tw107 hw) (tw108 hw) (tw3 hw) (tw109 hw) (by decide) (lenOf pd34 rfl) rfl rfl (by decide) (by decide) rfl sf0 all0 rfl rfl rfl (by decide) (by decide)
      clear W26
      obtain ⟨rfl, hs30⟩ := hQ30
      subst hs30
      have sf31 := SF30 a22 (Nat.lt_of_lt_of_le q24_1.lt z25) sf28
      replace W30 := W30.cast (st' := [(.int (1 : Int32))]) rfl
      replace W30 := W30.ifF (pc' := 269) at_266 (feq (by decide : ¬ ((1 : Int32) = (0 : Int32)))).1 rfl
      replace W30 := W30.aload (pc' := 271) at_269 rfl rfl rfl
      replace W30 := W30.aload (pc' := 273) at_271 rfl rfl rfl
      replace W30 := W30.iload (pc' := 275) at_273 rfl rfl
      replace W30 := W30.iconst (pc' := 276) (v := (1 : Int32)) at_275 rfl rfl
      replace W30 := W30.cast (st' := [(.int (Int32.ofNat 1)), (.int (Int32.ofNat (oT g N))), (.ref ea), (.ref xr25)]) rfl
      obtain ⟨V32, h32, r32, W32, K32, hQ32, SF32⟩ := W30.callS (pc' := 279) (argsL := [(.ref xr25), (.ref ea), (.int (Int32.ofNat (oT g N))), (.int (Int32.ofNat 1))]) (rest := []) (Wd := 0) (cells' := 24) (slots' := 1133) (y := (⟨"com/example/input_under_constraint/inputunderconstraint/MessageTemplateLiteralPinLaw", "same", "(Ljava/lang/String;[CII)Z"⟩ : MethodName)) at_276 (same_c l Z a0 n0 hw hEL G1 O1 P1 O_as O_hi O_lo G3 O3 rG3 xr25 cd225 ba225 kb225 NB225 fb225 (oT g N) (oF g N) ea ke ef 1 h25 W30.old q25_1 q25_2 q25_3 q25_4 sok2 (by omega) (oF_ch hq _ (Nat.le_refl _)) v29 (by omega) he) (tw107 hw) (tw108 hw) (tw3 hw) (tw109 hw) (by decide) (lenOf pd34 rfl) rfl rfl (by decide) (by decide) rfl sf0 all0 rfl rfl rfl (by decide) (by decide)
      clear W30
      obtain ⟨rfl, hs32⟩ := hQ32
      subst hs32
      have sf33 := SF32 a22 (Nat.lt_of_lt_of_le q24_1.lt z25) sf31
      replace W32 := W32.cast (st' := [(.int (1 : Int32))]) rfl
      replace W32 := W32.ifF (pc' := 282) at_279 (feq (by decide : ¬ ((1 : Int32) = (0 : Int32)))).1 rfl
      replace W32 := W32.aload (pc' := 284) at_282 rfl rfl rfl
      replace W32 := W32.aload (pc' := 286) at_284 rfl rfl rfl
      replace W32 := W32.iload (pc' := 288) at_286 rfl rfl
      replace W32 := W32.iconst (pc' := 289) (v := (2 : Int32)) at_288 rfl rfl
      replace W32 := W32.cast (st' := [(.int (Int32.ofNat 2)), (.int (Int32.ofNat (oT g N))), (.ref ea), (.ref xr25)]) rfl
      obtain ⟨V34, h34, r34, W34, K34, hQ34, SF34⟩ := W32.callS (pc' := 292) (argsL := [(.ref xr25), (.ref ea), (.int (Int32.ofNat (oT g N))), (.int (Int32.ofNat 2))]) (rest := []) (Wd := 0) (cells' := 24) (slots' := 1133) (y := (⟨"com/example/input_under_constraint/inputunderconstraint/MessageTemplateLiteralPinLaw", "same", "(Ljava/lang/String;[CII)Z"⟩ : MethodName)) at_289 (same_c l Z a0 n0 hw hEL G1 O1 P1 O_as O_hi O_lo G3 O3 rG3 xr25 cd225 ba225 kb225 NB225 fb225 (oT g N) (oF g N) ea ke ef 2 h25 W32.old q25_1 q25_2 q25_3 q25_4 sok2 (by omega) (oF_ch hq _ (Nat.le_refl _)) v29 (by omega) he) (tw107 hw) (tw108 hw) (tw3 hw) (tw109 hw) (by decide) (lenOf pd34 rfl) rfl rfl (by decide) (by decide) rfl sf0 all0 rfl rfl rfl (by decide) (by decide)
      clear W32
      obtain ⟨rfl, hs34⟩ := hQ34
      subst hs34
      have sf35 := SF34 a22 (Nat.lt_of_lt_of_le q24_1.lt z25) sf33
      replace W34 := W34.cast (st' := [(.int (1 : Int32))]) rfl
      replace W34 := W34.ifF (pc' := 295) at_292 (feq (by decide : ¬ ((1 : Int32) = (0 : Int32)))).1 rfl
      replace W34 := W34.aload (pc' := 297) at_295 rfl rfl rfl
      replace W34 := W34.aload (pc' := 299) at_297 rfl rfl rfl
      replace W34 := W34.iload (pc' := 301) at_299 rfl rfl
      replace W34 := W34.iconst (pc' := 302) (v := (3 : Int32)) at_301 rfl rfl
      replace W34 := W34.cast (st' := [(.int (Int32.ofNat 3)), (.int (Int32.ofNat (oT g N))), (.ref ea), (.ref xr25)]) rfl
      obtain ⟨V36, h36, r36, W36, K36, hQ36, SF36⟩ := W34.callS (pc' := 305) (argsL := [(.ref xr25), (.ref ea), (.int (Int32.ofNat (oT g N))), (.int (Int32.ofNat 3))]) (rest := []) (Wd := 0) (cells' := 24) (slots' := 1133) (y := (⟨"com/example/input_under_constraint/inputunderconstraint/MessageTemplateLiteralPinLaw", "same", "(Ljava/lang/String;[CII)Z"⟩ : MethodName)) at_302 (same_c l Z a0 n0 hw hEL G1 O1 P1 O_as O_hi O_lo G3 O3 rG3 xr25 cd225 ba225 kb225 NB225 fb225 (oT g N) (oF g N) ea ke ef 3 h25 W34.old q25_1 q25_2 q25_3 q25_4 sok2 (by omega) (oF_ch hq _ (Nat.le_refl _)) v29 (by omega) he) (tw107 hw) (tw108 hw) (tw3 hw) (tw109 hw) (by decide) (lenOf pd34 rfl) rfl rfl (by decide) (by decide) rfl sf0 all0 rfl rfl rfl (by decide) (by decide)
      clear W34
      obtain ⟨rfl, hs36⟩ := hQ36
      subst hs36
      have sf37 := SF36 a22 (Nat.lt_of_lt_of_le q24_1.lt z25) sf35
      replace W36 := W36.cast (st' := [(.int (1 : Int32))]) rfl
      replace W36 := W36.ifF (pc' := 308) at_305 (feq (by decide : ¬ ((1 : Int32) = (0 : Int32)))).1 rfl
      replace W36 := W36.aload (pc' := 310) at_308 rfl rfl rfl
      replace W36 := W36.aload (pc' := 312) at_310 rfl rfl rfl
      replace W36 := W36.iload (pc' := 314) at_312 rfl rfl
      replace W36 := W36.iconst (pc' := 315) (v := (4 : Int32)) at_314 rfl rfl
      replace W36 := W36.cast (st' := [(.int (Int32.ofNat 4)), (.int (Int32.ofNat (oT g N))), (.ref ea), (.ref xr25)]) rfl
      obtain ⟨V38, h38, r38, W38, K38, hQ38, SF38⟩ := W36.callS (pc' := 318) (argsL := [(.ref xr25), (.ref ea), (.int (Int32.ofNat (oT g N))), (.int (Int32.ofNat 4))]) (rest := []) (Wd := 0) (cells' := 24) (slots' := 1133) (y := (⟨"com/example/input_under_constraint/inputunderconstraint/MessageTemplateLiteralPinLaw", "same", "(Ljava/lang/String;[CII)Z"⟩ : MethodName)) at_315 (same_c l Z a0 n0 hw hEL G1 O1 P1 O_as O_hi O_lo G3 O3 rG3 xr25 cd225 ba225 kb225 NB225 fb225 (oT g N) (oF g N) ea ke ef 4 h25 W36.old q25_1 q25_2 q25_3 q25_4 sok2 (by omega) (oF_ch hq _ (Nat.le_refl _)) v29 (by omega) he) (tw107 hw) (tw108 hw) (tw3 hw) (tw109 hw) (by decide) (lenOf pd34 rfl) rfl rfl (by decide) (by decide) rfl sf0 all0 rfl rfl rfl (by decide) (by decide)
      clear W36
      obtain ⟨rfl, hs38⟩ := hQ38
      subst hs38
      have sf39 := SF38 a22 (Nat.lt_of_lt_of_le q24_1.lt z25) sf37
      replace W38 := W38.cast (st' := [(.int (1 : Int32))]) rfl
      replace W38 := W38.ifF (pc' := 321) at_318 (feq (by decide : ¬ ((1 : Int32) = (0 : Int32)))).1 rfl
      replace W38 := W38.aload (pc' := 323) at_321 rfl rfl rfl
      replace W38 := W38.aload (pc' := 325) at_323 rfl rfl rfl
      replace W38 := W38.iload (pc' := 327) at_325 rfl rfl
      replace W38 := W38.iconst (pc' := 328) (v := (5 : Int32)) at_327 rfl rfl
      replace W38 := W38.cast (st' := [(.int (Int32.ofNat 5)), (.int (Int32.ofNat (oT g N))), (.ref ea), (.ref xr25)]) rfl
      obtain ⟨V40, h40, r40, W40, K40, hQ40, SF40⟩ := W38.callS (pc' := 331) (argsL := [(.ref xr25), (.ref ea), (.int (Int32.ofNat (oT g N))), (.int (Int32.ofNat 5))]) (rest := []) (Wd := 0) (cells' := 24) (slots' := 1133) (y := (⟨"com/example/input_under_constraint/inputunderconstraint/MessageTemplateLiteralPinLaw", "same", "(Ljava/lang/String;[CII)Z"⟩ : MethodName)) at_328 (same_c l Z a0 n0 hw hEL G1 O1 P1 O_as O_hi O_lo G3 O3 rG3 xr25 cd225 ba225 kb225 NB225 fb225 (oT g N) (oF g N) ea ke ef 5 h25 W38.old q25_1 q25_2 q25_3 q25_4 sok2 (by omega) (oF_ch hq _ (Nat.le_refl _)) v29 (by omega) he) (tw107 hw) (tw108 hw) (tw3 hw) (tw109 hw) (by decide) (lenOf pd34 rfl) rfl rfl (by decide) (by decide) rfl sf0 all0 rfl rfl rfl (by decide) (by decide)
      clear W38
      obtain ⟨rfl, hs40⟩ := hQ40
      subst hs40
      have sf41 := SF40 a22 (Nat.lt_of_lt_of_le q24_1.lt z25) sf39
      replace W40 := W40.cast (st' := [(.int (1 : Int32))]) rfl
      replace W40 := W40.ifF (pc' := 334) at_331 (feq (by decide : ¬ ((1 : Int32) = (0 : Int32)))).1 rfl
      replace W40 := W40.iconst (pc' := 335) (v := (1 : Int32)) at_334 rfl rfl
      replace W40 := W40.goto (pc' := 339) at_335 (by decide) (by decide)
      exact W40.iret (t := .boolean) at_339 rfl (by simp) (by decide) (by decide) (by decide) (fun V' cv => rfl)
    · obtain ⟨h42, a42, W42, E42, g42, ⟨A42, D42, U42⟩, sf42, SF42⟩ := W.new (pc' := 233) (cells' := 3) (slots' := 13) at_230 (tw6 hw) (tw7 hw) (tw8 hw) rfl rfl rfl (by decide) (by decide)
      clear W
      rw [← g42] at A42 D42 U42
      have z42 : h.size ≤ h42.size := E42.1
      replace W42 := W42.dup (pc' := 234) at_233 rfl rfl
      replace W42 := W42.aload (pc' := 236) at_234 rfl rfl rfl
      have v43 := (V_ca.ext E42)
      obtain ⟨V44, h44, r44, W44, K44, hQ44, SF44⟩ := W42.callI (pc' := 239) (argsL := [(.ref ca)]) (rest := [(.ref a42)]) (Wd := 1) (cells' := 5) (slots' := 97) (a := a42) (y := (⟨"java/lang/String", "<init>", "([C)V"⟩ : MethodName)) at_236 (new1w l Z a0 n0 hw hEL G1 O1 P1 O_as O_hi O_lo G3 O3 rG3 a42 ca kc N g k h42 W42.old A42 (D42 (Or.inr (tw21 hw)) (ty := (.array .byte)) (by decide) : Fld Z h42 a42 "java/lang/String" "value" "[B" .null) (D42 (Or.inr (tw22 hw)) (ty := .byte) (by decide) : Fld Z h42 a42 "java/lang/String" "coder" "B" (.int (0 : Int32))) v43 (by omega) hq hkl (by omega) gk (Nat.le_trans W42.1.2.2.2.2.2.2.2.1 (Nat.le_trans z0 (Nat.le_of_eq g42.symm)))) rfl (tw9 hw) (tw10 hw) (tw8 hw) (tw11 hw) (by decide) (lenOf pd32 rfl) rfl rfl (by decide) (by decide) rfl (sfS sf42 sf0) (allS (Or.inr (Nat.le_trans z0 (Nat.le_of_eq g42.symm))) all0) rfl rfl rfl (by decide) (by decide)
      clear W42
      obtain ⟨ba44, kb44, rfl, q44_1, q44_2, q44_3, q44_4, q44_5, q44_6⟩ := hQ44
      have z44 : h42.size ≤ h44.size := K44.1
      replace W44 := W44.cast (st' := [(.ref a42)]) rfl
      have sok : SOK (1 : Int32) (2 * N) (ub g) N g := Or.inr ⟨rfl, rfl, fun i hi => ⟨own_ub0 g i, own_ub1 g i⟩⟩
      obtain ⟨V45, h45, r45, W45, K45, hQ45, SF45⟩ := W44.callS (pc' := 242) (argsL := [(.ref a42)]) (rest := []) (Wd := 0) (cells' := 25) (slots' := 1197) (y := (⟨"com/example/input_under_constraint/inputunderconstraint/MessageTemplate", "literal", "(Ljava/lang/String;)Ljava/lang/String;"⟩ : MethodName)) at_239 (lit_c l Z a0 n0 hw hEL G1 O1 P1 O_as O_hi O_lo G3 O3 rG3 a42 (1 : Int32) ba44 kb44 (2 * N) (ub g) N g h44 W44.old q44_1 q44_2 q44_3 q44_4 sok hN3 hq) (tw27 hw) (tw28 hw) (tw29 hw) (tw30 hw) (by decide) (lenOf pd33 rfl) rfl rfl (by decide) (by decide) rfl sf0 all0 rfl rfl rfl (by decide) (by decide)
      clear W44
      obtain ⟨xr45, cd245, ba245, kb245, NB245, fb245, rfl, q45_1, q45_2, q45_3, q45_4, q45_5⟩ := hQ45
      have z45 : h44.size ≤ h45.size := K45.1
      replace W45 := W45.cast (st' := [(.ref xr45)]) rfl
      have sok2 := q45_5
      replace W45 := W45.astore (pc' := 244) (L' := #[.val (.int p0), .val (.int p1), .val (.int p2), .val (.int p3), .val (.int (Int32.ofNat N)), .val (.int r0), .val (.int r1), .val (.int r2), .val (.ref ca), .val (.ref ea), .val (.int (Int32.ofNat (oT g N))), .val (.ref xr45)]) at_242 rfl rfl rfl
      replace W45 := W45.aload (pc' := 246) at_244 rfl rfl rfl
      obtain ⟨V46, h46, r46, W46, K46, hQ46, SF46⟩ := W45.callV (pc' := 249) (argsL := []) (rest := []) (Wd := 0) (cells' := 25) (slots' := 1197) (a := xr45) (C := "java/lang/String") (y := (⟨"java/lang/String", "length", "()I"⟩ : MethodName)) (z := (⟨"java/lang/String", "length", "()I"⟩ : MethodName)) at_246 (len_c l Z a0 n0 hw hEL G1 O1 P1 O_as O_hi O_lo G3 O3 rG3 xr45 cd245 ba245 kb245 NB245 fb245 (oT g N) (oF g N) h45 W45.old q45_1 q45_2 q45_3 q45_4 sok2 (by omega)) q45_1 (tw106 hw) (tw35 hw) (Or.inl (tw37 hw)) (tw37 hw) (tw36 hw) (tw8 hw) (tw38 hw) (by decide) (lenOf pd15 rfl) rfl rfl (by decide) (by decide) rfl sf0 all0 rfl rfl rfl (by decide) (by decide)
      clear W45
      obtain ⟨rfl, hs46⟩ := hQ46
      subst hs46
      have sf47 := (SF45 a42 q44_1.lt (SF44 a42 A42.lt sf42))
      have sf48 := SF46 a42 (Nat.lt_of_lt_of_le q44_1.lt z45) sf47
      replace W46 := W46.cast (st' := [(.int (Int32.ofNat (oT g N)))]) rfl
      replace W46 := W46.iload (pc' := 251) at_249 rfl rfl
      replace W46 := W46.icmpT (pc' := 256) at_251 (teq rfl).1 (by decide) (by decide)
      replace W46 := W46.aload (pc' := 258) at_256 rfl rfl rfl
      replace W46 := W46.aload (pc' := 260) at_258 rfl rfl rfl
      replace W46 := W46.iload (pc' := 262) at_260 rfl rfl
      replace W46 := W46.iconst (pc' := 263) (v := (0 : Int32)) at_262 rfl rfl
      replace W46 := W46.cast (st' := [(.int (Int32.ofNat 0)), (.int (Int32.ofNat (oT g N))), (.ref ea), (.ref xr45)]) rfl
      have v49 := (((V_ea.ext E42).keep K44 (ninS (Nat.ne_of_lt (Nat.lt_of_lt_of_le V_ea.lt (Nat.le_of_eq g42.symm))) nin0)).keep K45 nin0)
      obtain ⟨V50, h50, r50, W50, K50, hQ50, SF50⟩ := W46.callS (pc' := 266) (argsL := [(.ref xr45), (.ref ea), (.int (Int32.ofNat (oT g N))), (.int (Int32.ofNat 0))]) (rest := []) (Wd := 0) (cells' := 25) (slots' := 1197) (y := (⟨"com/example/input_under_constraint/inputunderconstraint/MessageTemplateLiteralPinLaw", "same", "(Ljava/lang/String;[CII)Z"⟩ : MethodName)) at_263 (same_c l Z a0 n0 hw hEL G1 O1 P1 O_as O_hi O_lo G3 O3 rG3 xr45 cd245 ba245 kb245 NB245 fb245 (oT g N) (oF g N) ea ke ef 0 h45 W46.old q45_1 q45_2 q45_3 q45_4 sok2 (by omega) (oF_ch hq _ (Nat.le_refl _)) v49 (by omega) he) (tw107 hw) (tw108 hw) (tw3 hw) (tw109 hw) (by decide) (lenOf pd34 rfl) rfl rfl (by decide) (by decide) rfl sf0 all0 rfl rfl rfl (by decide) (by decide)
      clear W46
      obtain ⟨rfl, hs50⟩ := hQ50
      subst hs50
      have sf51 := SF50 a42 (Nat.lt_of_lt_of_le q44_1.lt z45) sf48
      replace W50 := W50.cast (st' := [(.int (1 : Int32))]) rfl
      replace W50 := W50.ifF (pc' := 269) at_266 (feq (by decide : ¬ ((1 : Int32) = (0 : Int32)))).1 rfl
      replace W50 := W50.aload (pc' := 271) at_269 rfl rfl rfl
      replace W50 := W50.aload (pc' := 273) at_271 rfl rfl rfl
      replace W50 := W50.iload (pc' := 275) at_273 rfl rfl
      replace W50 := W50.iconst (pc' := 276) (v := (1 : Int32)) at_275 rfl rfl
      replace W50 := W50.cast (st' := [(.int (Int32.ofNat 1)), (.int (Int32.ofNat (oT g N))), (.ref ea), (.ref xr45)]) rfl
      obtain ⟨V52, h52, r52, W52, K52, hQ52, SF52⟩ := W50.callS (pc' := 279) (argsL := [(.ref xr45), (.ref ea), (.int (Int32.ofNat (oT g N))), (.int (Int32.ofNat 1))]) (rest := []) (Wd := 0) (cells' := 25) (slots' := 1197) (y := (⟨"com/example/input_under_constraint/inputunderconstraint/MessageTemplateLiteralPinLaw", "same", "(Ljava/lang/String;[CII)Z"⟩ : MethodName)) at_276 (same_c l Z a0 n0 hw hEL G1 O1 P1 O_as O_hi O_lo G3 O3 rG3 xr45 cd245 ba245 kb245 NB245 fb245 (oT g N) (oF g N) ea ke ef 1 h45 W50.old q45_1 q45_2 q45_3 q45_4 sok2 (by omega) (oF_ch hq _ (Nat.le_refl _)) v49 (by omega) he) (tw107 hw) (tw108 hw) (tw3 hw) (tw109 hw) (by decide) (lenOf pd34 rfl) rfl rfl (by decide) (by decide) rfl sf0 all0 rfl rfl rfl (by decide) (by decide)
      clear W50
      obtain ⟨rfl, hs52⟩ := hQ52
      subst hs52
      have sf53 := SF52 a42 (Nat.lt_of_lt_of_le q44_1.lt z45) sf51
      replace W52 := W52.cast (st' := [(.int (1 : Int32))]) rfl
      replace W52 := W52.ifF (pc' := 282) at_279 (feq (by decide : ¬ ((1 : Int32) = (0 : Int32)))).1 rfl
      replace W52 := W52.aload (pc' := 284) at_282 rfl rfl rfl
      replace W52 := W52.aload (pc' := 286) at_284 rfl rfl rfl
      replace W52 := W52.iload (pc' := 288) at_286 rfl rfl
      replace W52 := W52.iconst (pc' := 289) (v := (2 : Int32)) at_288 rfl rfl
      replace W52 := W52.cast (st' := [(.int (Int32.ofNat 2)), (.int (Int32.ofNat (oT g N))), (.ref ea), (.ref xr45)]) rfl
      obtain ⟨V54, h54, r54, W54, K54, hQ54, SF54⟩ := W52.callS (pc' := 292) (argsL := [(.ref xr45), (.ref ea), (.int (Int32.ofNat (oT g N))), (.int (Int32.ofNat 2))]) (rest := []) (Wd := 0) (cells' := 25) (slots' := 1197) (y := (⟨"com/example/input_under_constraint/inputunderconstraint/MessageTemplateLiteralPinLaw", "same", "(Ljava/lang/String;[CII)Z"⟩ : MethodName)) at_289 (same_c l Z a0 n0 hw hEL G1 O1 P1 O_as O_hi O_lo G3 O3 rG3 xr45 cd245 ba245 kb245 NB245 fb245 (oT g N) (oF g N) ea ke ef 2 h45 W52.old q45_1 q45_2 q45_3 q45_4 sok2 (by omega) (oF_ch hq _ (Nat.le_refl _)) v49 (by omega) he) (tw107 hw) (tw108 hw) (tw3 hw) (tw109 hw) (by decide) (lenOf pd34 rfl) rfl rfl (by decide) (by decide) rfl sf0 all0 rfl rfl rfl (by decide) (by decide)
      clear W52
      obtain ⟨rfl, hs54⟩ := hQ54
      subst hs54
      have sf55 := SF54 a42 (Nat.lt_of_lt_of_le q44_1.lt z45) sf53
      replace W54 := W54.cast (st' := [(.int (1 : Int32))]) rfl
      replace W54 := W54.ifF (pc' := 295) at_292 (feq (by decide : ¬ ((1 : Int32) = (0 : Int32)))).1 rfl
      replace W54 := W54.aload (pc' := 297) at_295 rfl rfl rfl
      replace W54 := W54.aload (pc' := 299) at_297 rfl rfl rfl
      replace W54 := W54.iload (pc' := 301) at_299 rfl rfl
      replace W54 := W54.iconst (pc' := 302) (v := (3 : Int32)) at_301 rfl rfl
      replace W54 := W54.cast (st' := [(.int (Int32.ofNat 3)), (.int (Int32.ofNat (oT g N))), (.ref ea), (.ref xr45)]) rfl
      obtain ⟨V56, h56, r56, W56, K56, hQ56, SF56⟩ := W54.callS (pc' := 305) (argsL := [(.ref xr45), (.ref ea), (.int (Int32.ofNat (oT g N))), (.int (Int32.ofNat 3))]) (rest := []) (Wd := 0) (cells' := 25) (slots' := 1197) (y := (⟨"com/example/input_under_constraint/inputunderconstraint/MessageTemplateLiteralPinLaw", "same", "(Ljava/lang/String;[CII)Z"⟩ : MethodName)) at_302 (same_c l Z a0 n0 hw hEL G1 O1 P1 O_as O_hi O_lo G3 O3 rG3 xr45 cd245 ba245 kb245 NB245 fb245 (oT g N) (oF g N) ea ke ef 3 h45 W54.old q45_1 q45_2 q45_3 q45_4 sok2 (by omega) (oF_ch hq _ (Nat.le_refl _)) v49 (by omega) he) (tw107 hw) (tw108 hw) (tw3 hw) (tw109 hw) (by decide) (lenOf pd34 rfl) rfl rfl (by decide) (by decide) rfl sf0 all0 rfl rfl rfl (by decide) (by decide)
      clear W54
      obtain ⟨rfl, hs56⟩ := hQ56
      subst hs56
      have sf57 := SF56 a42 (Nat.lt_of_lt_of_le q44_1.lt z45) sf55
      replace W56 := W56.cast (st' := [(.int (1 : Int32))]) rfl
      replace W56 := W56.ifF (pc' := 308) at_305 (feq (by decide : ¬ ((1 : Int32) = (0 : Int32)))).1 rfl
      replace W56 := W56.aload (pc' := 310) at_308 rfl rfl rfl
      replace W56 := W56.aload (pc' := 312) at_310 rfl rfl rfl
      replace W56 := W56.iload (pc' := 314) at_312 rfl rfl
      replace W56 := W56.iconst (pc' := 315) (v := (4 : Int32)) at_314 rfl rfl
      replace W56 := W56.cast (st' := [(.int (Int32.ofNat 4)), (.int (Int32.ofNat (oT g N))), (.ref ea), (.ref xr45)]) rfl
      obtain ⟨V58, h58, r58, W58, K58, hQ58, SF58⟩ := W56.callS (pc' := 318) (argsL := [(.ref xr45), (.ref ea), (.int (Int32.ofNat (oT g N))), (.int (Int32.ofNat 4))]) (rest := []) (Wd := 0) (cells' := 25) (slots' := 1197) (y := (⟨"com/example/input_under_constraint/inputunderconstraint/MessageTemplateLiteralPinLaw", "same", "(Ljava/lang/String;[CII)Z"⟩ : MethodName)) at_315 (same_c l Z a0 n0 hw hEL G1 O1 P1 O_as O_hi O_lo G3 O3 rG3 xr45 cd245 ba245 kb245 NB245 fb245 (oT g N) (oF g N) ea ke ef 4 h45 W56.old q45_1 q45_2 q45_3 q45_4 sok2 (by omega) (oF_ch hq _ (Nat.le_refl _)) v49 (by omega) he) (tw107 hw) (tw108 hw) (tw3 hw) (tw109 hw) (by decide) (lenOf pd34 rfl) rfl rfl (by decide) (by decide) rfl sf0 all0 rfl rfl rfl (by decide) (by decide)
      clear W56
      obtain ⟨rfl, hs58⟩ := hQ58
      subst hs58
      have sf59 := SF58 a42 (Nat.lt_of_lt_of_le q44_1.lt z45) sf57
      replace W58 := W58.cast (st' := [(.int (1 : Int32))]) rfl
      replace W58 := W58.ifF (pc' := 321) at_318 (feq (by decide : ¬ ((1 : Int32) = (0 : Int32)))).1 rfl
      replace W58 := W58.aload (pc' := 323) at_321 rfl rfl rfl
      replace W58 := W58.aload (pc' := 325) at_323 rfl rfl rfl
      replace W58 := W58.iload (pc' := 327) at_325 rfl rfl
      replace W58 := W58.iconst (pc' := 328) (v := (5 : Int32)) at_327 rfl rfl
      replace W58 := W58.cast (st' := [(.int (Int32.ofNat 5)), (.int (Int32.ofNat (oT g N))), (.ref ea), (.ref xr45)]) rfl
      obtain ⟨V60, h60, r60, W60, K60, hQ60, SF60⟩ := W58.callS (pc' := 331) (argsL := [(.ref xr45), (.ref ea), (.int (Int32.ofNat (oT g N))), (.int (Int32.ofNat 5))]) (rest := []) (Wd := 0) (cells' := 25) (slots' := 1197) (y := (⟨"com/example/input_under_constraint/inputunderconstraint/MessageTemplateLiteralPinLaw", "same", "(Ljava/lang/String;[CII)Z"⟩ : MethodName)) at_328 (same_c l Z a0 n0 hw hEL G1 O1 P1 O_as O_hi O_lo G3 O3 rG3 xr45 cd245 ba245 kb245 NB245 fb245 (oT g N) (oF g N) ea ke ef 5 h45 W58.old q45_1 q45_2 q45_3 q45_4 sok2 (by omega) (oF_ch hq _ (Nat.le_refl _)) v49 (by omega) he) (tw107 hw) (tw108 hw) (tw3 hw) (tw109 hw) (by decide) (lenOf pd34 rfl) rfl rfl (by decide) (by decide) rfl sf0 all0 rfl rfl rfl (by decide) (by decide)
      clear W58
      obtain ⟨rfl, hs60⟩ := hQ60
      subst hs60
      have sf61 := SF60 a42 (Nat.lt_of_lt_of_le q44_1.lt z45) sf59
      replace W60 := W60.cast (st' := [(.int (1 : Int32))]) rfl
      replace W60 := W60.ifF (pc' := 334) at_331 (feq (by decide : ¬ ((1 : Int32) = (0 : Int32)))).1 rfl
      replace W60 := W60.iconst (pc' := 335) (v := (1 : Int32)) at_334 rfl rfl
      replace W60 := W60.goto (pc' := 339) at_335 (by decide) (by decide)
      exact W60.iret (t := .boolean) at_339 rfl (by simp) (by decide) (by decide) (by decide) (fun V' cv => rfl)
theorem ef_law_c (m : MethodId) (p0 : Int32) (p1 : Int32) (p2 : Int32) (p3 : Int32) : entryFrame m #[(.int p0), (.int p1), (.int p2), (.int p3)] maxLocals = mkF m 0 #[.val (.int p0), .val (.int p1), .val (.int p2), .val (.int p3), .unset, .unset, .unset, .unset, .unset, .unset, .unset, .unset] [] := by first | (simp [entryFrame, mkF, argsToLocals, Value.category, maxLocals]; done) | rfl
set_option maxRecDepth 65536 in
set_option maxHeartbeats 40000000 in
theorem law_c (l : Launch) (Z : State) (a0 : Array Value) (n0 : Nat) (hw : ∀ d ∈ tables_1, d.before a0 Z = true) (hEL : EW Z a0 consts_1) (G1 : Int32) (O1 : Sta Z Z.heap "java/lang/String" "COMPACT_STRINGS" "Z" (.int G1)) (P1 : ¬ (G1 = (0 : Int32))) (O_as : Sta Z Z.heap "java/lang/StringUTF16" "$assertionsDisabled" "Z" (.int (1 : Int32))) (O_hi : Sta Z Z.heap "java/lang/StringUTF16" "HI_BYTE_SHIFT" "I" (.int (0 : Int32))) (O_lo : Sta Z Z.heap "java/lang/StringUTF16" "LO_BYTE_SHIFT" "I" (.int (8 : Int32))) (G3 : Value) (O3 : Sta Z Z.heap "jdk/internal/util/Preconditions" "SIOOBE_FORMATTER" "Ljava/util/function/BiFunction;" G3) (rG3 : G3.isRef = true) (p0 : Int32) (p1 : Int32) (p2 : Int32) (p3 : Int32) (h0 : Heap) (hO : Old Z n0 h0)  (wds : List Jvm.Cond) :
    Con l Z consts_1 n0 x code maxLocals ret room_1 #[(.int p0), (.int p1), (.int p2), (.int p3)] h0 [] (fun v h V' => v = some (.int (1 : Int32))) wds := by
  refine Con.of (a0 := a0) pf53 (fun m => ef_law_c m p0 p1 p2 p3) all0 hO hEL ?_
  intro p e s m below meth c S0 hnm hsf W
  replace W := W.iloadN (pc' := 1) at_0 rfl rfl
  replace W := W.ldcI (pc' := 3) at_1 (tw0 hw) rfl
  replace W := W.iand (pc' := 4) (v := (p0 &&& (2147483647 : Int32))) at_3 rfl rfl
  replace W := W.iconst (pc' := 5) (v := (4 : Int32)) at_4 rfl rfl
  obtain ⟨nn, hnn⟩ : ∃ z, ((p0 &&& (2147483647 : Int32)) - ((p0 &&& (2147483647 : Int32)) / (4 : Int32)) * (4 : Int32)) = z := ⟨_, rfl⟩
  replace W := W.irem (pc' := 6) (v := nn) at_5 (by decide) hnn rfl
  rcases own_rem4 hnn with rfl | rfl | rfl | rfl
  · replace W := W.istore (pc' := 8) (L' := #[.val (.int p0), .val (.int p1), .val (.int p2), .val (.int p3), .val (.int (0 : Int32)), .unset, .unset, .unset, .unset, .unset, .unset, .unset]) at_6 rfl rfl
    replace W := W.iloadN (pc' := 9) at_8 rfl rfl
    obtain ⟨V1, h1, r1, W1, K1, hQ1, SF1⟩ := W.callS (pc' := 12) (argsL := [(.int p1)]) (rest := []) (Wd := 0) (cells' := 0) (slots' := 0) (y := (⟨"com/example/input_under_constraint/inputunderconstraint/MessageTemplateLiteralPinLaw", "pick", "(I)C"⟩ : MethodName)) at_9 (pick_c l Z a0 n0 hw hEL G1 O1 P1 O_as O_hi O_lo G3 O3 rG3 p1 h0 W.old) (tw1 hw) (tw2 hw) (tw3 hw) (tw4 hw) (by decide) (lenOf pd30 rfl) rfl rfl (by decide) (by decide) rfl sf0 all0 rfl rfl rfl (by decide) (by decide)
    clear W
    obtain ⟨r1, rfl, hs1, q1_2⟩ := hQ1
    subst hs1
    replace W1 := W1.cast (st' := [(.int r1)]) rfl
    replace W1 := W1.istore (pc' := 14) (L' := #[.val (.int p0), .val (.int p1), .val (.int p2), .val (.int p3), .val (.int (0 : Int32)), .val (.int r1), .unset, .unset, .unset, .unset, .unset, .unset]) at_12 rfl rfl
    replace W1 := W1.iloadN (pc' := 15) at_14 rfl rfl
    obtain ⟨V2, h2, r2, W2, K2, hQ2, SF2⟩ := W1.callS (pc' := 18) (argsL := [(.int p2)]) (rest := []) (Wd := 0) (cells' := 0) (slots' := 0) (y := (⟨"com/example/input_under_constraint/inputunderconstraint/MessageTemplateLiteralPinLaw", "pick", "(I)C"⟩ : MethodName)) at_15 (pick_c l Z a0 n0 hw hEL G1 O1 P1 O_as O_hi O_lo G3 O3 rG3 p2 h0 W1.old) (tw1 hw) (tw2 hw) (tw3 hw) (tw4 hw) (by decide) (lenOf pd30 rfl) rfl rfl (by decide) (by decide) rfl sf0 all0 rfl rfl rfl (by decide) (by decide)
    clear W1
    obtain ⟨r2, rfl, hs2, q2_2⟩ := hQ2
    subst hs2
    replace W2 := W2.cast (st' := [(.int r2)]) rfl
    replace W2 := W2.istore (pc' := 20) (L' := #[.val (.int p0), .val (.int p1), .val (.int p2), .val (.int p3), .val (.int (0 : Int32)), .val (.int r1), .val (.int r2), .unset, .unset, .unset, .unset, .unset]) at_18 rfl rfl
    replace W2 := W2.iloadN (pc' := 21) at_20 rfl rfl
    obtain ⟨V3, h3, r3, W3, K3, hQ3, SF3⟩ := W2.callS (pc' := 24) (argsL := [(.int p3)]) (rest := []) (Wd := 0) (cells' := 0) (slots' := 0) (y := (⟨"com/example/input_under_constraint/inputunderconstraint/MessageTemplateLiteralPinLaw", "pick", "(I)C"⟩ : MethodName)) at_21 (pick_c l Z a0 n0 hw hEL G1 O1 P1 O_as O_hi O_lo G3 O3 rG3 p3 h0 W2.old) (tw1 hw) (tw2 hw) (tw3 hw) (tw4 hw) (by decide) (lenOf pd30 rfl) rfl rfl (by decide) (by decide) rfl sf0 all0 rfl rfl rfl (by decide) (by decide)
    clear W2
    obtain ⟨r3, rfl, hs3, q3_2⟩ := hQ3
    subst hs3
    replace W3 := W3.cast (st' := [(.int r3)]) rfl
    replace W3 := W3.istore (pc' := 26) (L' := #[.val (.int p0), .val (.int p1), .val (.int p2), .val (.int p3), .val (.int (0 : Int32)), .val (.int r1), .val (.int r2), .val (.int r3), .unset, .unset, .unset, .unset]) at_24 rfl rfl
    replace W3 := W3.iload (pc' := 28) at_26 rfl rfl
    replace W3 := W3.ifF (pc' := 31) at_28 (teq (by decide : (0 : Int32) = (0 : Int32))).2 rfl
    replace W3 := W3.iconst (pc' := 32) (v := (0 : Int32)) at_31 rfl rfl
    obtain ⟨h4, a4, W4, E4, g4, ⟨k4, A4⟩, sf4, SF4⟩ := W3.newarr (pc' := 34) (cap := 0) (cells' := 1) (slots' := 0) at_32 (tw5 hw) (by decide) (by decide) (by decide) rfl rfl rfl (by decide) (by decide)
    clear W3
    rw [← g4] at A4
    have z4 : h0.size ≤ h4.size := E4.1
    have v4 : Arv Z h4 a4 k4 .char (0 : Int32) [] (.int (0 : Int32)) := A4.pad (pad_rep [] (.int (0 : Int32)) 0)
    replace W4 := W4.astore (pc' := 36) (L' := #[.val (.int p0), .val (.int p1), .val (.int p2), .val (.int p3), .val (.int (0 : Int32)), .val (.int r1), .val (.int r2), .val (.int r3), .val (.ref a4), .unset, .unset, .unset]) at_34 rfl rfl rfl
    replace W4 := W4.goto (pc' := 102) at_36 (by decide) (by decide)
    replace W4 := W4.bipush (pc' := 104) (v := (6 : Int32)) at_102 rfl rfl
    obtain ⟨h5, a5, W5, E5, g5, ⟨k5, A5⟩, sf5, SF5⟩ := W4.newarr (pc' := 106) (cap := 6) (cells' := 2) (slots' := 6) at_104 (tw5 hw) (by decide) (by decide) (by decide) rfl rfl rfl (by decide) (by decide)
    clear W4
    rw [← g5] at A5
    have z5 : h4.size ≤ h5.size := E5.1
    have v5 : Arv Z h5 a5 k5 .char (6 : Int32) [(.int (0 : Int32)), (.int (0 : Int32)), (.int (0 : Int32)), (.int (0 : Int32)), (.int (0 : Int32)), (.int (0 : Int32))] (.int (0 : Int32)) := A5.pad (pad_rep [] (.int (0 : Int32)) 6)
    replace W5 := W5.astore (pc' := 108) (L' := #[.val (.int p0), .val (.int p1), .val (.int p2), .val (.int p3), .val (.int (0 : Int32)), .val (.int r1), .val (.int r2), .val (.int r3), .val (.ref a4), .val (.ref a5), .unset, .unset]) at_106 rfl rfl rfl
    replace W5 := W5.iconst (pc' := 109) (v := (0 : Int32)) at_108 rfl rfl
    replace W5 := W5.istore (pc' := 111) (L' := #[.val (.int p0), .val (.int p1), .val (.int p2), .val (.int p3), .val (.int (0 : Int32)), .val (.int r1), .val (.int r2), .val (.int r3), .val (.ref a4), .val (.ref a5), .val (.int (0 : Int32)), .unset]) at_109 rfl rfl
    replace W5 := W5.iload (pc' := 113) at_111 rfl rfl
    replace W5 := W5.ifT (pc' := 150) at_113 (flt (by decide : ¬ ((0 : Int32) < (0 : Int32)))).2.2.2 (by decide) (by decide)
    replace W5 := W5.iload (pc' := 152) at_150 rfl rfl
    replace W5 := W5.iconst (pc' := 153) (v := (1 : Int32)) at_152 rfl rfl
    replace W5 := W5.icmpT (pc' := 190) at_153 (flt (by decide : ¬ ((1 : Int32) < (0 : Int32)))).2.2.2 (by decide) (by decide)
    replace W5 := W5.iload (pc' := 192) at_190 rfl rfl
    replace W5 := W5.iconst (pc' := 193) (v := (2 : Int32)) at_192 rfl rfl
    replace W5 := W5.icmpT (pc' := 230) at_193 (flt (by decide : ¬ ((2 : Int32) < (0 : Int32)))).2.2.2 (by decide) (by decide)
    have v7 := (v4.ext E5)
    have v6c : Arv Z h5 a4 k4 .char (Int32.ofNat 0) (lst 0 (gl [])) (.int (0 : Int32)) := v7
    have v6e : Arv Z h5 a5 k5 .char (Int32.ofNat 6) (lst 6 (gl [(0 : Int32), (0 : Int32), (0 : Int32), (0 : Int32), (0 : Int32), (0 : Int32)])) (.int (0 : Int32)) := v5
    have hP6 : oT (gl []) 0 = 0 := by simp [oT, gl]
    have he6 : ∀ j, j < oT (gl []) 0 → (gl [(0 : Int32), (0 : Int32), (0 : Int32), (0 : Int32), (0 : Int32), (0 : Int32)]) j = oF (gl []) 0 j := by
      intro j hj
      rw [hP6] at hj
      exact absurd hj (Nat.not_lt_zero _)
    replace W5 := W5.castL (L' := #[.val (.int p0), .val (.int p1), .val (.int p2), .val (.int p3), .val (.int (Int32.ofNat 0)), .val (.int r1), .val (.int r2), .val (.int r3), .val (.ref a4), .val (.ref a5), .val (.int (Int32.ofNat (oT (gl []) 0))), .unset]) (by rw [hP6]; rfl)
    replace W5 := W5.more (cells' := 2) (slots' := 9) (by decide) (by decide)
    exact law_b l Z a0 n0 hw hEL G1 O1 P1 O_as O_hi O_lo G3 O3 rG3 p0 p1 p2 p3 r1 r2 r3 a4 k4 0 (gl []) a5 k5 (gl [(0 : Int32), (0 : Int32), (0 : Int32), (0 : Int32), (0 : Int32), (0 : Int32)]) p e s m below meth c S0 V3 h0 h5 hO v6c v6e (Nat.le_of_eq g4.symm) (Nat.le_trans z4 (Nat.le_of_eq g5.symm)) (by omega) (own_glc own_allc0) he6 hnm W5
  · replace W := W.istore (pc' := 8) (L' := #[.val (.int p0), .val (.int p1), .val (.int p2), .val (.int p3), .val (.int (1 : Int32)), .unset, .unset, .unset, .unset, .unset, .unset, .unset]) at_6 rfl rfl
    replace W := W.iloadN (pc' := 9) at_8 rfl rfl
    obtain ⟨V8, h8, r8, W8, K8, hQ8, SF8⟩ := W.callS (pc' := 12) (argsL := [(.int p1)]) (rest := []) (Wd := 0) (cells' := 0) (slots' := 0) (y := (⟨"com/example/input_under_constraint/inputunderconstraint/MessageTemplateLiteralPinLaw", "pick", "(I)C"⟩ : MethodName)) at_9 (pick_c l Z a0 n0 hw hEL G1 O1 P1 O_as O_hi O_lo G3 O3 rG3 p1 h0 W.old) (tw1 hw) (tw2 hw) (tw3 hw) (tw4 hw) (by decide) (lenOf pd30 rfl) rfl rfl (by decide) (by decide) rfl sf0 all0 rfl rfl rfl (by decide) (by decide)
    clear W
    obtain ⟨r8, rfl, hs8, q8_2⟩ := hQ8
    subst hs8
    replace W8 := W8.cast (st' := [(.int r8)]) rfl
    replace W8 := W8.istore (pc' := 14) (L' := #[.val (.int p0), .val (.int p1), .val (.int p2), .val (.int p3), .val (.int (1 : Int32)), .val (.int r8), .unset, .unset, .unset, .unset, .unset, .unset]) at_12 rfl rfl
    replace W8 := W8.iloadN (pc' := 15) at_14 rfl rfl
    obtain ⟨V9, h9, r9, W9, K9, hQ9, SF9⟩ := W8.callS (pc' := 18) (argsL := [(.int p2)]) (rest := []) (Wd := 0) (cells' := 0) (slots' := 0) (y := (⟨"com/example/input_under_constraint/inputunderconstraint/MessageTemplateLiteralPinLaw", "pick", "(I)C"⟩ : MethodName)) at_15 (pick_c l Z a0 n0 hw hEL G1 O1 P1 O_as O_hi O_lo G3 O3 rG3 p2 h0 W8.old) (tw1 hw) (tw2 hw) (tw3 hw) (tw4 hw) (by decide) (lenOf pd30 rfl) rfl rfl (by decide) (by decide) rfl sf0 all0 rfl rfl rfl (by decide) (by decide)
    clear W8
    obtain ⟨r9, rfl, hs9, q9_2⟩ := hQ9
    subst hs9
    replace W9 := W9.cast (st' := [(.int r9)]) rfl
    replace W9 := W9.istore (pc' := 20) (L' := #[.val (.int p0), .val (.int p1), .val (.int p2), .val (.int p3), .val (.int (1 : Int32)), .val (.int r8), .val (.int r9), .unset, .unset, .unset, .unset, .unset]) at_18 rfl rfl
    replace W9 := W9.iloadN (pc' := 21) at_20 rfl rfl
    obtain ⟨V10, h10, r10, W10, K10, hQ10, SF10⟩ := W9.callS (pc' := 24) (argsL := [(.int p3)]) (rest := []) (Wd := 0) (cells' := 0) (slots' := 0) (y := (⟨"com/example/input_under_constraint/inputunderconstraint/MessageTemplateLiteralPinLaw", "pick", "(I)C"⟩ : MethodName)) at_21 (pick_c l Z a0 n0 hw hEL G1 O1 P1 O_as O_hi O_lo G3 O3 rG3 p3 h0 W9.old) (tw1 hw) (tw2 hw) (tw3 hw) (tw4 hw) (by decide) (lenOf pd30 rfl) rfl rfl (by decide) (by decide) rfl sf0 all0 rfl rfl rfl (by decide) (by decide)
    clear W9
    obtain ⟨r10, rfl, hs10, q10_2⟩ := hQ10
    subst hs10
    replace W10 := W10.cast (st' := [(.int r10)]) rfl
    replace W10 := W10.istore (pc' := 26) (L' := #[.val (.int p0), .val (.int p1), .val (.int p2), .val (.int p3), .val (.int (1 : Int32)), .val (.int r8), .val (.int r9), .val (.int r10), .unset, .unset, .unset, .unset]) at_24 rfl rfl
    replace W10 := W10.iload (pc' := 28) at_26 rfl rfl
    replace W10 := W10.ifT (pc' := 39) at_28 (feq (by decide : ¬ ((1 : Int32) = (0 : Int32)))).2 (by decide) (by decide)
    replace W10 := W10.iload (pc' := 41) at_39 rfl rfl
    replace W10 := W10.iconst (pc' := 42) (v := (1 : Int32)) at_41 rfl rfl
    replace W10 := W10.icmpF (pc' := 45) at_42 (teq (by decide : (1 : Int32) = (1 : Int32))).2 rfl
    replace W10 := W10.iconst (pc' := 46) (v := (1 : Int32)) at_45 rfl rfl
    obtain ⟨h11, a11, W11, E11, g11, ⟨k11, A11⟩, sf11, SF11⟩ := W10.newarr (pc' := 48) (cap := 1) (cells' := 1) (slots' := 1) at_46 (tw5 hw) (by decide) (by decide) (by decide) rfl rfl rfl (by decide) (by decide)
    clear W10
    rw [← g11] at A11
    have z11 : h0.size ≤ h11.size := E11.1
    have v11 : Arv Z h11 a11 k11 .char (1 : Int32) [(.int (0 : Int32))] (.int (0 : Int32)) := A11.pad (pad_rep [] (.int (0 : Int32)) 1)
    replace W11 := W11.dup (pc' := 49) at_48 rfl rfl
    replace W11 := W11.iconst (pc' := 50) (v := (0 : Int32)) at_49 rfl rfl
    replace W11 := W11.iload (pc' := 52) at_50 rfl rfl
    obtain ⟨h12, W12, w12, A12, SF12⟩ := W11.castore (pc' := 53) (i := 0) (x' := r8) at_52 v11 ⟨by decide, by decide⟩ rfl (by show 0 < 1; decide) (own_narc q8_2) (W11.safeA v11 (by decide)) (Or.inr (Nat.le_of_eq g11.symm)) rfl
    clear W11
    have z12 : h11.size ≤ h12.size := Nat.le_of_eq w12.size.symm
    have v12 : Arv Z h12 a11 k11 .char (1 : Int32) [(.int r8)] (.int (0 : Int32)) := A12
    replace W12 := W12.astore (pc' := 55) (L' := #[.val (.int p0), .val (.int p1), .val (.int p2), .val (.int p3), .val (.int (1 : Int32)), .val (.int r8), .val (.int r9), .val (.int r10), .val (.ref a11), .unset, .unset, .unset]) at_53 rfl rfl rfl
    replace W12 := W12.goto (pc' := 102) at_55 (by decide) (by decide)
    replace W12 := W12.bipush (pc' := 104) (v := (6 : Int32)) at_102 rfl rfl
    obtain ⟨h13, a13, W13, E13, g13, ⟨k13, A13⟩, sf13, SF13⟩ := W12.newarr (pc' := 106) (cap := 6) (cells' := 2) (slots' := 7) at_104 (tw5 hw) (by decide) (by decide) (by decide) rfl rfl rfl (by decide) (by decide)
    clear W12
    rw [← g13] at A13
    have z13 : h12.size ≤ h13.size := E13.1
    have v13 : Arv Z h13 a13 k13 .char (6 : Int32) [(.int (0 : Int32)), (.int (0 : Int32)), (.int (0 : Int32)), (.int (0 : Int32)), (.int (0 : Int32)), (.int (0 : Int32))] (.int (0 : Int32)) := A13.pad (pad_rep [] (.int (0 : Int32)) 6)
    replace W13 := W13.astore (pc' := 108) (L' := #[.val (.int p0), .val (.int p1), .val (.int p2), .val (.int p3), .val (.int (1 : Int32)), .val (.int r8), .val (.int r9), .val (.int r10), .val (.ref a11), .val (.ref a13), .unset, .unset]) at_106 rfl rfl rfl
    replace W13 := W13.iconst (pc' := 109) (v := (0 : Int32)) at_108 rfl rfl
    replace W13 := W13.istore (pc' := 111) (L' := #[.val (.int p0), .val (.int p1), .val (.int p2), .val (.int p3), .val (.int (1 : Int32)), .val (.int r8), .val (.int r9), .val (.int r10), .val (.ref a11), .val (.ref a13), .val (.int (0 : Int32)), .unset]) at_109 rfl rfl
    replace W13 := W13.iload (pc' := 113) at_111 rfl rfl
    replace W13 := W13.ifF (pc' := 116) at_113 (tlt (by decide : (0 : Int32) < (1 : Int32))).2.2.2 rfl
    replace W13 := W13.iload (pc' := 118) at_116 rfl rfl
    obtain ⟨V14, h14, r14, W14, K14, hQ14, SF14⟩ := W13.callS (pc' := 121) (argsL := [(.int r8)]) (rest := []) (Wd := 0) (cells' := 2) (slots' := 7) (y := (⟨"com/example/input_under_constraint/inputunderconstraint/MessageTemplateLiteralPinLaw", "esc", "(C)Z"⟩ : MethodName)) at_118 (esc_c l Z a0 n0 hw hEL G1 O1 P1 O_as O_hi O_lo G3 O3 rG3 r8 h13 W13.old) (tw110 hw) (tw111 hw) (tw3 hw) (tw112 hw) (by decide) (lenOf pd22 rfl) rfl rfl (by decide) (by decide) rfl sf0 all0 rfl rfl rfl (by decide) (by decide)
    clear W13
    obtain ⟨rfl, hs14⟩ := hQ14
    subst hs14
    replace W14 := W14.cast (st' := [(.int (escf r8))]) rfl
    by_cases hc15 : (escf r8) = (0 : Int32)
    · replace W14 := W14.ifT (pc' := 137) at_121 (teq hc15).1 (by decide) (by decide)
      replace W14 := W14.aload (pc' := 139) at_137 rfl rfl rfl
      replace W14 := W14.iload (pc' := 141) at_139 rfl rfl
      replace W14 := W14.iload (pc' := 143) at_141 rfl rfl
      obtain ⟨h16, W16, w16, A16, SF16⟩ := W14.castore (pc' := 144) (i := 0) (x' := r8) at_143 v13 ⟨by decide, by decide⟩ rfl (by show 0 < 6; decide) (own_narc q8_2) (W14.safeA v13 (by decide)) (Or.inr (Nat.le_trans (Nat.le_trans z11 z12) (Nat.le_of_eq g13.symm))) rfl
      clear W14
      have z16 : h13.size ≤ h16.size := Nat.le_of_eq w16.size.symm
      have v16 : Arv Z h16 a13 k13 .char (6 : Int32) [(.int r8), (.int (0 : Int32)), (.int (0 : Int32)), (.int (0 : Int32)), (.int (0 : Int32)), (.int (0 : Int32))] (.int (0 : Int32)) := A16
      replace W16 := W16.iload (pc' := 146) at_144 rfl rfl
      replace W16 := W16.iconst (pc' := 147) (v := (1 : Int32)) at_146 rfl rfl
      replace W16 := W16.iadd (pc' := 148) (v := (1 : Int32)) at_147 (by decide) rfl
      replace W16 := W16.istore (pc' := 150) (L' := #[.val (.int p0), .val (.int p1), .val (.int p2), .val (.int p3), .val (.int (1 : Int32)), .val (.int r8), .val (.int r9), .val (.int r10), .val (.ref a11), .val (.ref a13), .val (.int (1 : Int32)), .unset]) at_148 rfl rfl
      replace W16 := W16.iload (pc' := 152) at_150 rfl rfl
      replace W16 := W16.iconst (pc' := 153) (v := (1 : Int32)) at_152 rfl rfl
      replace W16 := W16.icmpT (pc' := 190) at_153 (flt (by decide : ¬ ((1 : Int32) < (1 : Int32)))).2.2.2 (by decide) (by decide)
      replace W16 := W16.iload (pc' := 192) at_190 rfl rfl
      replace W16 := W16.iconst (pc' := 193) (v := (2 : Int32)) at_192 rfl rfl
      replace W16 := W16.icmpT (pc' := 230) at_193 (flt (by decide : ¬ ((2 : Int32) < (1 : Int32)))).2.2.2 (by decide) (by decide)
      have v18 := ((v12.ext E13).other w16 (Nat.ne_of_lt (Nat.lt_of_lt_of_le v11.lt (Nat.le_trans z12 (Nat.le_of_eq g13.symm)))))
      have v17c : Arv Z h16 a11 k11 .char (Int32.ofNat 1) (lst 1 (gl [r8])) (.int (0 : Int32)) := v18
      have v17e : Arv Z h16 a13 k13 .char (Int32.ofNat 6) (lst 6 (gl [r8, (0 : Int32), (0 : Int32), (0 : Int32), (0 : Int32), (0 : Int32)])) (.int (0 : Int32)) := v16
      have hP17 : oT (gl [r8]) 1 = 1 := by simp [oT, gl, hc15]
      have he17 : ∀ j, j < oT (gl [r8]) 1 → (gl [r8, (0 : Int32), (0 : Int32), (0 : Int32), (0 : Int32), (0 : Int32)]) j = oF (gl [r8]) 1 j := by
        intro j hj
        rw [hP17] at hj
        rcases (by omega : j = 0) with rfl <;> simp [oF, oT, upd, gl, hc15]
      replace W16 := W16.castL (L' := #[.val (.int p0), .val (.int p1), .val (.int p2), .val (.int p3), .val (.int (Int32.ofNat 1)), .val (.int r8), .val (.int r9), .val (.int r10), .val (.ref a11), .val (.ref a13), .val (.int (Int32.ofNat (oT (gl [r8]) 1))), .unset]) (by rw [hP17]; rfl)
      replace W16 := W16.more (cells' := 2) (slots' := 9) (by decide) (by decide)
      exact law_b l Z a0 n0 hw hEL G1 O1 P1 O_as O_hi O_lo G3 O3 rG3 p0 p1 p2 p3 r8 r9 r10 a11 k11 1 (gl [r8]) a13 k13 (gl [r8, (0 : Int32), (0 : Int32), (0 : Int32), (0 : Int32), (0 : Int32)]) p e s m below meth c S0 V14 h0 h16 hO v17c v17e (Nat.le_of_eq g11.symm) (Nat.le_trans (Nat.le_trans z11 z12) (Nat.le_of_eq g13.symm)) (by omega) (own_glc (own_allcS q8_2 own_allc0)) he17 hnm W16
    · replace W14 := W14.ifF (pc' := 124) at_121 (feq hc15).1 rfl
      replace W14 := W14.aload (pc' := 126) at_124 rfl rfl rfl
      replace W14 := W14.iload (pc' := 128) at_126 rfl rfl
      replace W14 := W14.bipush (pc' := 130) (v := (92 : Int32)) at_128 rfl rfl
      obtain ⟨h19, W19, w19, A19, SF19⟩ := W14.castore (pc' := 131) (i := 0) (x' := (92 : Int32)) at_130 v13 ⟨by decide, by decide⟩ rfl (by show 0 < 6; decide) (by decide) (W14.safeA v13 (by decide)) (Or.inr (Nat.le_trans (Nat.le_trans z11 z12) (Nat.le_of_eq g13.symm))) rfl
      clear W14
      have z19 : h13.size ≤ h19.size := Nat.le_of_eq w19.size.symm
      have v19 : Arv Z h19 a13 k13 .char (6 : Int32) [(.int (92 : Int32)), (.int (0 : Int32)), (.int (0 : Int32)), (.int (0 : Int32)), (.int (0 : Int32)), (.int (0 : Int32))] (.int (0 : Int32)) := A19
      replace W19 := W19.iload (pc' := 133) at_131 rfl rfl
      replace W19 := W19.iconst (pc' := 134) (v := (1 : Int32)) at_133 rfl rfl
      replace W19 := W19.iadd (pc' := 135) (v := (1 : Int32)) at_134 (by decide) rfl
      replace W19 := W19.istore (pc' := 137) (L' := #[.val (.int p0), .val (.int p1), .val (.int p2), .val (.int p3), .val (.int (1 : Int32)), .val (.int r8), .val (.int r9), .val (.int r10), .val (.ref a11), .val (.ref a13), .val (.int (1 : Int32)), .unset]) at_135 rfl rfl
      replace W19 := W19.aload (pc' := 139) at_137 rfl rfl rfl
      replace W19 := W19.iload (pc' := 141) at_139 rfl rfl
      replace W19 := W19.iload (pc' := 143) at_141 rfl rfl
      obtain ⟨h20, W20, w20, A20, SF20⟩ := W19.castore (pc' := 144) (i := 1) (x' := r8) at_143 v19 ⟨by decide, by decide⟩ rfl (by show 1 < 6; decide) (own_narc q8_2) (W19.safeA v19 (by decide)) (Or.inr (Nat.le_trans (Nat.le_trans z11 z12) (Nat.le_of_eq g13.symm))) rfl
      clear W19
      have z20 : h19.size ≤ h20.size := Nat.le_of_eq w20.size.symm
      have v20 : Arv Z h20 a13 k13 .char (6 : Int32) [(.int (92 : Int32)), (.int r8), (.int (0 : Int32)), (.int (0 : Int32)), (.int (0 : Int32)), (.int (0 : Int32))] (.int (0 : Int32)) := A20
      replace W20 := W20.iload (pc' := 146) at_144 rfl rfl
      replace W20 := W20.iconst (pc' := 147) (v := (1 : Int32)) at_146 rfl rfl
      replace W20 := W20.iadd (pc' := 148) (v := (2 : Int32)) at_147 (by decide) rfl
      replace W20 := W20.istore (pc' := 150) (L' := #[.val (.int p0), .val (.int p1), .val (.int p2), .val (.int p3), .val (.int (1 : Int32)), .val (.int r8), .val (.int r9), .val (.int r10), .val (.ref a11), .val (.ref a13), .val (.int (2 : Int32)), .unset]) at_148 rfl rfl
      replace W20 := W20.iload (pc' := 152) at_150 rfl rfl
      replace W20 := W20.iconst (pc' := 153) (v := (1 : Int32)) at_152 rfl rfl
      replace W20 := W20.icmpT (pc' := 190) at_153 (flt (by decide : ¬ ((1 : Int32) < (1 : Int32)))).2.2.2 (by decide) (by decide)
      replace W20 := W20.iload (pc' := 192) at_190 rfl rfl
      replace W20 := W20.iconst (pc' := 193) (v := (2 : Int32)) at_192 rfl rfl
      replace W20 := W20.icmpT (pc' := 230) at_193 (flt (by decide : ¬ ((2 : Int32) < (1 : Int32)))).2.2.2 (by decide) (by decide)
      have v22 := (((v12.ext E13).other w19 (Nat.ne_of_lt (Nat.lt_of_lt_of_le v11.lt (Nat.le_trans z12 (Nat.le_of_eq g13.symm))))).other w20 (Nat.ne_of_lt (Nat.lt_of_lt_of_le v11.lt (Nat.le_trans z12 (Nat.le_of_eq g13.symm)))))
      have v21c : Arv Z h20 a11 k11 .char (Int32.ofNat 1) (lst 1 (gl [r8])) (.int (0 : Int32)) := v22
      have v21e : Arv Z h20 a13 k13 .char (Int32.ofNat 6) (lst 6 (gl [(92 : Int32), r8, (0 : Int32), (0 : Int32), (0 : Int32), (0 : Int32)])) (.int (0 : Int32)) := v20
      have hP21 : oT (gl [r8]) 1 = 2 := by simp [oT, gl, hc15]
      have he21 : ∀ j, j < oT (gl [r8]) 1 → (gl [(92 : Int32), r8, (0 : Int32), (0 : Int32), (0 : Int32), (0 : Int32)]) j = oF (gl [r8]) 1 j := by
        intro j hj
        rw [hP21] at hj
        rcases (by omega : j = 0 ∨ j = 1) with rfl | rfl <;> simp [oF, oT, upd, gl, hc15]
      replace W20 := W20.castL (L' := #[.val (.int p0), .val (.int p1), .val (.int p2), .val (.int p3), .val (.int (Int32.ofNat 1)), .val (.int r8), .val (.int r9), .val (.int r10), .val (.ref a11), .val (.ref a13), .val (.int (Int32.ofNat (oT (gl [r8]) 1))), .unset]) (by rw [hP21]; rfl)
      replace W20 := W20.more (cells' := 2) (slots' := 9) (by decide) (by decide)
      exact law_b l Z a0 n0 hw hEL G1 O1 P1 O_as O_hi O_lo G3 O3 rG3 p0 p1 p2 p3 r8 r9 r10 a11 k11 1 (gl [r8]) a13 k13 (gl [(92 : Int32), r8, (0 : Int32), (0 : Int32), (0 : Int32), (0 : Int32)]) p e s m below meth c S0 V14 h0 h20 hO v21c v21e (Nat.le_of_eq g11.symm) (Nat.le_trans (Nat.le_trans z11 z12) (Nat.le_of_eq g13.symm)) (by omega) (own_glc (own_allcS q8_2 own_allc0)) he21 hnm W20
  · replace W := W.istore (pc' := 8) (L' := #[.val (.int p0), .val (.int p1), .val (.int p2), .val (.int p3), .val (.int (2 : Int32)), .unset, .unset, .unset, .unset, .unset, .unset, .unset]) at_6 rfl rfl
    replace W := W.iloadN (pc' := 9) at_8 rfl rfl
    obtain ⟨V23, h23, r23, W23, K23, hQ23, SF23⟩ := W.callS (pc' := 12) (argsL := [(.int p1)]) (rest := []) (Wd := 0) (cells' := 0) (slots' := 0) (y := (⟨"com/example/input_under_constraint/inputunderconstraint/MessageTemplateLiteralPinLaw", "pick", "(I)C"⟩ : MethodName)) at_9 (pick_c l Z a0 n0 hw hEL G1 O1 P1 O_as O_hi O_lo G3 O3 rG3 p1 h0 W.old) (tw1 hw) (tw2 hw) (tw3 hw) (tw4 hw) (by decide) (lenOf pd30 rfl) rfl rfl (by decide) (by decide) rfl sf0 all0 rfl rfl rfl (by decide) (by decide)
    clear W
    obtain ⟨r23, rfl, hs23, q23_2⟩ := hQ23
    subst hs23
    replace W23 := W23.cast (st' := [(.int r23)]) rfl
    replace W23 := W23.istore (pc' := 14) (L' := #[.val (.int p0), .val (.int p1), .val (.int p2), .val (.int p3), .val (.int (2 : Int32)), .val (.int r23), .unset, .unset, .unset, .unset, .unset, .unset]) at_12 rfl rfl
    replace W23 := W23.iloadN (pc' := 15) at_14 rfl rfl
    obtain ⟨V24, h24, r24, W24, K24, hQ24, SF24⟩ := W23.callS (pc' := 18) (argsL := [(.int p2)]) (rest := []) (Wd := 0) (cells' := 0) (slots' := 0) (y := (⟨"com/example/input_under_constraint/inputunderconstraint/MessageTemplateLiteralPinLaw", "pick", "(I)C"⟩ : MethodName)) at_15 (pick_c l Z a0 n0 hw hEL G1 O1 P1 O_as O_hi O_lo G3 O3 rG3 p2 h0 W23.old) (tw1 hw) (tw2 hw) (tw3 hw) (tw4 hw) (by decide) (lenOf pd30 rfl) rfl rfl (by decide) (by decide) rfl sf0 all0 rfl rfl rfl (by decide) (by decide)
    clear W23
    obtain ⟨r24, rfl, hs24, q24_2⟩ := hQ24
    subst hs24
    replace W24 := W24.cast (st' := [(.int r24)]) rfl
    replace W24 := W24.istore (pc' := 20) (L' := #[.val (.int p0), .val (.int p1), .val (.int p2), .val (.int p3), .val (.int (2 : Int32)), .val (.int r23), .val (.int r24), .unset, .unset, .unset, .unset, .unset]) at_18 rfl rfl
    replace W24 := W24.iloadN (pc' := 21) at_20 rfl rfl
    obtain ⟨V25, h25, r25, W25, K25, hQ25, SF25⟩ := W24.callS (pc' := 24) (argsL := [(.int p3)]) (rest := []) (Wd := 0) (cells' := 0) (slots' := 0) (y := (⟨"com/example/input_under_constraint/inputunderconstraint/MessageTemplateLiteralPinLaw", "pick", "(I)C"⟩ : MethodName)) at_21 (pick_c l Z a0 n0 hw hEL G1 O1 P1 O_as O_hi O_lo G3 O3 rG3 p3 h0 W24.old) (tw1 hw) (tw2 hw) (tw3 hw) (tw4 hw) (by decide) (lenOf pd30 rfl) rfl rfl (by decide) (by decide) rfl sf0 all0 rfl rfl rfl (by decide) (by decide)
    clear W24
    obtain ⟨r25, rfl, hs25, q25_2⟩ := hQ25
    subst hs25
    replace W25 := W25.cast (st' := [(.int r25)]) rfl
    replace W25 := W25.istore (pc' := 26) (L' := #[.val (.int p0), .val (.int p1), .val (.int p2), .val (.int p3), .val (.int (2 : Int32)), .val (.int r23), .val (.int r24), .val (.int r25), .unset, .unset, .unset, .unset]) at_24 rfl rfl
    replace W25 := W25.iload (pc' := 28) at_26 rfl rfl
    replace W25 := W25.ifT (pc' := 39) at_28 (feq (by decide : ¬ ((2 : Int32) = (0 : Int32)))).2 (by decide) (by decide)
    replace W25 := W25.iload (pc' := 41) at_39 rfl rfl
    replace W25 := W25.iconst (pc' := 42) (v := (1 : Int32)) at_41 rfl rfl
    replace W25 := W25.icmpT (pc' := 58) at_42 (feq (by decide : ¬ ((2 : Int32) = (1 : Int32)))).2 (by decide) (by decide)
    replace W25 := W25.iload (pc' := 60) at_58 rfl rfl
    replace W25 := W25.iconst (pc' := 61) (v := (2 : Int32)) at_60 rfl rfl
    replace W25 := W25.icmpF (pc' := 64) at_61 (teq (by decide : (2 : Int32) = (2 : Int32))).2 rfl
    replace W25 := W25.iconst (pc' := 65) (v := (2 : Int32)) at_64 rfl rfl
    obtain ⟨h26, a26, W26, E26, g26, ⟨k26, A26⟩, sf26, SF26⟩ := W25.newarr (pc' := 67) (cap := 2) (cells' := 1) (slots' := 2) at_65 (tw5 hw) (by decide) (by decide) (by decide) rfl rfl rfl (by decide) (by decide)
    clear W25
    rw [← g26] at A26
    have z26 : h0.size ≤ h26.size := E26.1
    have v26 : Arv Z h26 a26 k26 .char (2 : Int32) [(.int (0 : Int32)), (.int (0 : Int32))] (.int (0 : Int32)) := A26.pad (pad_rep [] (.int (0 : Int32)) 2)
    replace W26 := W26.dup (pc' := 68) at_67 rfl rfl
    replace W26 := W26.iconst (pc' := 69) (v := (0 : Int32)) at_68 rfl rfl
    replace W26 := W26.iload (pc' := 71) at_69 rfl rfl
    obtain ⟨h27, W27, w27, A27, SF27⟩ := W26.castore (pc' := 72) (i := 0) (x' := r23) at_71 v26 ⟨by decide, by decide⟩ rfl (by show 0 < 2; decide) (own_narc q23_2) (W26.safeA v26 (by decide)) (Or.inr (Nat.le_of_eq g26.symm)) rfl
    clear W26
    have z27 : h26.size ≤ h27.size := Nat.le_of_eq w27.size.symm
    have v27 : Arv Z h27 a26 k26 .char (2 : Int32) [(.int r23), (.int (0 : Int32))] (.int (0 : Int32)) := A27
    replace W27 := W27.dup (pc' := 73) at_72 rfl rfl
    replace W27 := W27.iconst (pc' := 74) (v := (1 : Int32)) at_73 rfl rfl
    replace W27 := W27.iload (pc' := 76) at_74 rfl rfl
    obtain ⟨h28, W28, w28, A28, SF28⟩ := W27.castore (pc' := 77) (i := 1) (x' := r24) at_76 v27 ⟨by decide, by decide⟩ rfl (by show 1 < 2; decide) (own_narc q24_2) (W27.safeA v27 (by decide)) (Or.inr (Nat.le_of_eq g26.symm)) rfl
    clear W27
    have z28 : h27.size ≤ h28.size := Nat.le_of_eq w28.size.symm
    have v28 : Arv Z h28 a26 k26 .char (2 : Int32) [(.int r23), (.int r24)] (.int (0 : Int32)) := A28
    replace W28 := W28.astore (pc' := 79) (L' := #[.val (.int p0), .val (.int p1), .val (.int p2), .val (.int p3), .val (.int (2 : Int32)), .val (.int r23), .val (.int r24), .val (.int r25), .val (.ref a26), .unset, .unset, .unset]) at_77 rfl rfl rfl
    replace W28 := W28.goto (pc' := 102) at_79 (by decide) (by decide)
    replace W28 := W28.bipush (pc' := 104) (v := (6 : Int32)) at_102 rfl rfl
    obtain ⟨h29, a29, W29, E29, g29, ⟨k29, A29⟩, sf29, SF29⟩ := W28.newarr (pc' := 106) (cap := 6) (cells' := 2) (slots' := 8) at_104 (tw5 hw) (by decide) (by decide) (by decide) rfl rfl rfl (by decide) (by decide)
    clear W28
    rw [← g29] at A29
    have z29 : h28.size ≤ h29.size := E29.1
    have v29 : Arv Z h29 a29 k29 .char (6 : Int32) [(.int (0 : Int32)), (.int (0 : Int32)), (.int (0 : Int32)), (.int (0 : Int32)), (.int (0 : Int32)), (.int (0 : Int32))] (.int (0 : Int32)) := A29.pad (pad_rep [] (.int (0 : Int32)) 6)
    replace W29 := W29.astore (pc' := 108) (L' := #[.val (.int p0), .val (.int p1), .val (.int p2), .val (.int p3), .val (.int (2 : Int32)), .val (.int r23), .val (.int r24), .val (.int r25), .val (.ref a26), .val (.ref a29), .unset, .unset]) at_106 rfl rfl rfl
    replace W29 := W29.iconst (pc' := 109) (v := (0 : Int32)) at_108 rfl rfl
    replace W29 := W29.istore (pc' := 111) (L' := #[.val (.int p0), .val (.int p1), .val (.int p2), .val (.int p3), .val (.int (2 : Int32)), .val (.int r23), .val (.int r24), .val (.int r25), .val (.ref a26), .val (.ref a29), .val (.int (0 : Int32)), .unset]) at_109 rfl rfl
    replace W29 := W29.iload (pc' := 113) at_111 rfl rfl
    replace W29 := W29.ifF (pc' := 116) at_113 (tlt (by decide : (0 : Int32) < (2 : Int32))).2.2.2 rfl
    replace W29 := W29.iload (pc' := 118) at_116 rfl rfl
    obtain ⟨V30, h30, r30, W30, K30, hQ30, SF30⟩ := W29.callS (pc' := 121) (argsL := [(.int r23)]) (rest := []) (Wd := 0) (cells' := 2) (slots' := 8) (y := (⟨"com/example/input_under_constraint/inputunderconstraint/MessageTemplateLiteralPinLaw", "esc", "(C)Z"⟩ : MethodName)) at_118 (esc_c l Z a0 n0 hw hEL G1 O1 P1 O_as O_hi O_lo G3 O3 rG3 r23 h29 W29.old) (tw110 hw) (tw111 hw) (tw3 hw) (tw112 hw) (by decide) (lenOf pd22 rfl) rfl rfl (by decide) (by decide) rfl sf0 all0 rfl rfl rfl (by decide) (by decide)
    clear W29
    obtain ⟨rfl, hs30⟩ := hQ30
    subst hs30
    replace W30 := W30.cast (st' := [(.int (escf r23))]) rfl
    by_cases hc31 : (escf r23) = (0 : Int32)
    · replace W30 := W30.ifT (pc' := 137) at_121 (teq hc31).1 (by decide) (by decide)
      replace W30 := W30.aload (pc' := 139) at_137 rfl rfl rfl
      replace W30 := W30.iload (pc' := 141) at_139 rfl rfl
      replace W30 := W30.iload (pc' := 143) at_141 rfl rfl
      obtain ⟨h32, W32, w32, A32, SF32⟩ := W30.castore (pc' := 144) (i := 0) (x' := r23) at_143 v29 ⟨by decide, by decide⟩ rfl (by show 0 < 6; decide) (own_narc q23_2) (W30.safeA v29 (by decide)) (Or.inr (Nat.le_trans (Nat.le_trans (Nat.le_trans z26 z27) z28) (Nat.le_of_eq g29.symm))) rfl
      clear W30
      have z32 : h29.size ≤ h32.size := Nat.le_of_eq w32.size.symm
      have v32 : Arv Z h32 a29 k29 .char (6 : Int32) [(.int r23), (.int (0 : Int32)), (.int (0 : Int32)), (.int (0 : Int32)), (.int (0 : Int32)), (.int (0 : Int32))] (.int (0 : Int32)) := A32
      replace W32 := W32.iload (pc' := 146) at_144 rfl rfl
      replace W32 := W32.iconst (pc' := 147) (v := (1 : Int32)) at_146 rfl rfl
      replace W32 := W32.iadd (pc' := 148) (v := (1 : Int32)) at_147 (by decide) rfl
      replace W32 := W32.istore (pc' := 150) (L' := #[.val (.int p0), .val (.int p1), .val (.int p2), .val (.int p3), .val (.int (2 : Int32)), .val (.int r23), .val (.int r24), .val (.int r25), .val (.ref a26), .val (.ref a29), .val (.int (1 : Int32)), .unset]) at_148 rfl rfl
      replace W32 := W32.iload (pc' := 152) at_150 rfl rfl
      replace W32 := W32.iconst (pc' := 153) (v := (1 : Int32)) at_152 rfl rfl
      replace W32 := W32.icmpF (pc' := 156) at_153 (tlt (by decide : (1 : Int32) < (2 : Int32))).2.2.2 rfl
      replace W32 := W32.iload (pc' := 158) at_156 rfl rfl
      obtain ⟨V33, h33, r33, W33, K33, hQ33, SF33⟩ := W32.callS (pc' := 161) (argsL := [(.int r24)]) (rest := []) (Wd := 0) (cells' := 2) (slots' := 8) (y := (⟨"com/example/input_under_constraint/inputunderconstraint/MessageTemplateLiteralPinLaw", "esc", "(C)Z"⟩ : MethodName)) at_158 (esc_c l Z a0 n0 hw hEL G1 O1 P1 O_as O_hi O_lo G3 O3 rG3 r24 h32 W32.old) (tw110 hw) (tw111 hw) (tw3 hw) (tw112 hw) (by decide) (lenOf pd22 rfl) rfl rfl (by decide) (by decide) rfl sf0 all0 rfl rfl rfl (by decide) (by decide)
      clear W32
      obtain ⟨rfl, hs33⟩ := hQ33
      subst hs33
      replace W33 := W33.cast (st' := [(.int (escf r24))]) rfl
      by_cases hc34 : (escf r24) = (0 : Int32)
      · replace W33 := W33.ifT (pc' := 177) at_161 (teq hc34).1 (by decide) (by decide)
        replace W33 := W33.aload (pc' := 179) at_177 rfl rfl rfl
        replace W33 := W33.iload (pc' := 181) at_179 rfl rfl
        replace W33 := W33.iload (pc' := 183) at_181 rfl rfl
        obtain ⟨h35, W35, w35, A35, SF35⟩ := W33.castore (pc' := 184) (i := 1) (x' := r24) at_183 v32 ⟨by decide, by decide⟩ rfl (by show 1 < 6; decide) (own_narc q24_2) (W33.safeA v32 (by decide)) (Or.inr (Nat.le_trans (Nat.le_trans (Nat.le_trans z26 z27) z28) (Nat.le_of_eq g29.symm))) rfl
        clear W33
        have z35 : h32.size ≤ h35.size := Nat.le_of_eq w35.size.symm
        have v35 : Arv Z h35 a29 k29 .char (6 : Int32) [(.int r23), (.int r24), (.int (0 : Int32)), (.int (0 : Int32)), (.int (0 : Int32)), (.int (0 : Int32))] (.int (0 : Int32)) := A35
        replace W35 := W35.iload (pc' := 186) at_184 rfl rfl
        replace W35 := W35.iconst (pc' := 187) (v := (1 : Int32)) at_186 rfl rfl
        replace W35 := W35.iadd (pc' := 188) (v := (2 : Int32)) at_187 (by decide) rfl
        replace W35 := W35.istore (pc' := 190) (L' := #[.val (.int p0), .val (.int p1), .val (.int p2), .val (.int p3), .val (.int (2 : Int32)), .val (.int r23), .val (.int r24), .val (.int r25), .val (.ref a26), .val (.ref a29), .val (.int (2 : Int32)), .unset]) at_188 rfl rfl
        replace W35 := W35.iload (pc' := 192) at_190 rfl rfl
        replace W35 := W35.iconst (pc' := 193) (v := (2 : Int32)) at_192 rfl rfl
        replace W35 := W35.icmpT (pc' := 230) at_193 (flt (by decide : ¬ ((2 : Int32) < (2 : Int32)))).2.2.2 (by decide) (by decide)
        have v37 := (((v28.ext E29).other w32 (Nat.ne_of_lt (Nat.lt_of_lt_of_le v26.lt (Nat.le_trans (Nat.le_trans z27 z28) (Nat.le_of_eq g29.symm))))).other w35 (Nat.ne_of_lt (Nat.lt_of_lt_of_le v26.lt (Nat.le_trans (Nat.le_trans z27 z28) (Nat.le_of_eq g29.symm)))))
        have v36c : Arv Z h35 a26 k26 .char (Int32.ofNat 2) (lst 2 (gl [r23, r24])) (.int (0 : Int32)) := v37
        have v36e : Arv Z h35 a29 k29 .char (Int32.ofNat 6) (lst 6 (gl [r23, r24, (0 : Int32), (0 : Int32), (0 : Int32), (0 : Int32)])) (.int (0 : Int32)) := v35
        have hP36 : oT (gl [r23, r24]) 2 = 2 := by simp [oT, gl, hc31, hc34]
        have he36 : ∀ j, j < oT (gl [r23, r24]) 2 → (gl [r23, r24, (0 : Int32), (0 : Int32), (0 : Int32), (0 : Int32)]) j = oF (gl [r23, r24]) 2 j := by
          intro j hj
          rw [hP36] at hj
          rcases (by omega : j = 0 ∨ j = 1) with rfl | rfl <;> simp [oF, oT, upd, gl, hc31, hc34]
        replace W35 := W35.castL (L' := #[.val (.int p0), .val (.int p1), .val (.int p2), .val (.int p3), .val (.int (Int32.ofNat 2)), .val (.int r23), .val (.int r24), .val (.int r25), .val (.ref a26), .val (.ref a29), .val (.int (Int32.ofNat (oT (gl [r23, r24]) 2))), .unset]) (by rw [hP36]; rfl)
        replace W35 := W35.more (cells' := 2) (slots' := 9) (by decide) (by decide)
        exact law_b l Z a0 n0 hw hEL G1 O1 P1 O_as O_hi O_lo G3 O3 rG3 p0 p1 p2 p3 r23 r24 r25 a26 k26 2 (gl [r23, r24]) a29 k29 (gl [r23, r24, (0 : Int32), (0 : Int32), (0 : Int32), (0 : Int32)]) p e s m below meth c S0 V33 h0 h35 hO v36c v36e (Nat.le_of_eq g26.symm) (Nat.le_trans (Nat.le_trans (Nat.le_trans z26 z27) z28) (Nat.le_of_eq g29.symm)) (by omega) (own_glc (own_allcS q23_2 (own_allcS q24_2 own_allc0))) he36 hnm W35
      · replace W33 := W33.ifF (pc' := 164) at_161 (feq hc34).1 rfl
        replace W33 := W33.aload (pc' := 166) at_164 rfl rfl rfl
        replace W33 := W33.iload (pc' := 168) at_166 rfl rfl
        replace W33 := W33.bipush (pc' := 170) (v := (92 : Int32)) at_168 rfl rfl
        obtain ⟨h38, W38, w38, A38, SF38⟩ := W33.castore (pc' := 171) (i := 1) (x' := (92 : Int32)) at_170 v32 ⟨by decide, by decide⟩ rfl (by show 1 < 6; decide) (by decide) (W33.safeA v32 (by decide)) (Or.inr (Nat.le_trans (Nat.le_trans (Nat.le_trans z26 z27) z28) (Nat.le_of_eq g29.symm))) rfl
        clear W33
        have z38 : h32.size ≤ h38.size := Nat.le_of_eq w38.size.symm
        have v38 : Arv Z h38 a29 k29 .char (6 : Int32) [(.int r23), (.int (92 : Int32)), (.int (0 : Int32)), (.int (0 : Int32)), (.int (0 : Int32)), (.int (0 : Int32))] (.int (0 : Int32)) := A38
        replace W38 := W38.iload (pc' := 173) at_171 rfl rfl
        replace W38 := W38.iconst (pc' := 174) (v := (1 : Int32)) at_173 rfl rfl
        replace W38 := W38.iadd (pc' := 175) (v := (2 : Int32)) at_174 (by decide) rfl
        replace W38 := W38.istore (pc' := 177) (L' := #[.val (.int p0), .val (.int p1), .val (.int p2), .val (.int p3), .val (.int (2 : Int32)), .val (.int r23), .val (.int r24), .val (.int r25), .val (.ref a26), .val (.ref a29), .val (.int (2 : Int32)), .unset]) at_175 rfl rfl
        replace W38 := W38.aload (pc' := 179) at_177 rfl rfl rfl
        replace W38 := W38.iload (pc' := 181) at_179 rfl rfl
        replace W38 := W38.iload (pc' := 183) at_181 rfl rfl
        obtain ⟨h39, W39, w39, A39, SF39⟩ := W38.castore (pc' := 184) (i := 2) (x' := r24) at_183 v38 ⟨by decide, by decide⟩ rfl (by show 2 < 6; decide) (own_narc q24_2) (W38.safeA v38 (by decide)) (Or.inr (Nat.le_trans (Nat.le_trans (Nat.le_trans z26 z27) z28) (Nat.le_of_eq g29.symm))) rfl
        clear W38
        have z39 : h38.size ≤ h39.size := Nat.le_of_eq w39.size.symm
        have v39 : Arv Z h39 a29 k29 .char (6 : Int32) [(.int r23), (.int (92 : Int32)), (.int r24), (.int (0 : Int32)), (.int (0 : Int32)), (.int (0 : Int32))] (.int (0 : Int32)) := A39
        replace W39 := W39.iload (pc' := 186) at_184 rfl rfl
        replace W39 := W39.iconst (pc' := 187) (v := (1 : Int32)) at_186 rfl rfl
        replace W39 := W39.iadd (pc' := 188) (v := (3 : Int32)) at_187 (by decide) rfl
        replace W39 := W39.istore (pc' := 190) (L' := #[.val (.int p0), .val (.int p1), .val (.int p2), .val (.int p3), .val (.int (2 : Int32)), .val (.int r23), .val (.int r24), .val (.int r25), .val (.ref a26), .val (.ref a29), .val (.int (3 : Int32)), .unset]) at_188 rfl rfl
        replace W39 := W39.iload (pc' := 192) at_190 rfl rfl
        replace W39 := W39.iconst (pc' := 193) (v := (2 : Int32)) at_192 rfl rfl
        replace W39 := W39.icmpT (pc' := 230) at_193 (flt (by decide : ¬ ((2 : Int32) < (2 : Int32)))).2.2.2 (by decide) (by decide)
        have v41 := ((((v28.ext E29).other w32 (Nat.ne_of_lt (Nat.lt_of_lt_of_le v26.lt (Nat.le_trans (Nat.le_trans z27 z28) (Nat.le_of_eq g29.symm))))).other w38 (Nat.ne_of_lt (Nat.lt_of_lt_of_le v26.lt (Nat.le_trans (Nat.le_trans z27 z28) (Nat.le_of_eq g29.symm))))).other w39 (Nat.ne_of_lt (Nat.lt_of_lt_of_le v26.lt (Nat.le_trans (Nat.le_trans z27 z28) (Nat.le_of_eq g29.symm)))))
        have v40c : Arv Z h39 a26 k26 .char (Int32.ofNat 2) (lst 2 (gl [r23, r24])) (.int (0 : Int32)) := v41
        have v40e : Arv Z h39 a29 k29 .char (Int32.ofNat 6) (lst 6 (gl [r23, (92 : Int32), r24, (0 : Int32), (0 : Int32), (0 : Int32)])) (.int (0 : Int32)) := v39
        have hP40 : oT (gl [r23, r24]) 2 = 3 := by simp [oT, gl, hc31, hc34]
        have he40 : ∀ j, j < oT (gl [r23, r24]) 2 → (gl [r23, (92 : Int32), r24, (0 : Int32), (0 : Int32), (0 : Int32)]) j = oF (gl [r23, r24]) 2 j := by
          intro j hj
          rw [hP40] at hj
          rcases (by omega : j = 0 ∨ j = 1 ∨ j = 2) with rfl | rfl | rfl <;> simp [oF, oT, upd, gl, hc31, hc34]
        replace W39 := W39.castL (L' := #[.val (.int p0), .val (.int p1), .val (.int p2), .val (.int p3), .val (.int (Int32.ofNat 2)), .val (.int r23), .val (.int r24), .val (.int r25), .val (.ref a26), .val (.ref a29), .val (.int (Int32.ofNat (oT (gl [r23, r24]) 2))), .unset]) (by rw [hP40]; rfl)
        replace W39 := W39.more (cells' := 2) (slots' := 9) (by decide) (by decide)
        exact law_b l Z a0 n0 hw hEL G1 O1 P1 O_as O_hi O_lo G3 O3 rG3 p0 p1 p2 p3 r23 r24 r25 a26 k26 2 (gl [r23, r24]) a29 k29 (gl [r23, (92 : Int32), r24, (0 : Int32), (0 : Int32), (0 : Int32)]) p e s m below meth c S0 V33 h0 h39 hO v40c v40e (Nat.le_of_eq g26.symm) (Nat.le_trans (Nat.le_trans (Nat.le_trans z26 z27) z28) (Nat.le_of_eq g29.symm)) (by omega) (own_glc (own_allcS q23_2 (own_allcS q24_2 own_allc0))) he40 hnm W39
    · replace W30 := W30.ifF (pc' := 124) at_121 (feq hc31).1 rfl
      replace W30 := W30.aload (pc' := 126) at_124 rfl rfl rfl
      replace W30 := W30.iload (pc' := 128) at_126 rfl rfl
      replace W30 := W30.bipush (pc' := 130) (v := (92 : Int32)) at_128 rfl rfl
      obtain ⟨h42, W42, w42, A42, SF42⟩ := W30.castore (pc' := 131) (i := 0) (x' := (92 : Int32)) at_130 v29 ⟨by decide, by decide⟩ rfl (by show 0 < 6; decide) (by decide) (W30.safeA v29 (by decide)) (Or.inr (Nat.le_trans (Nat.le_trans (Nat.le_trans z26 z27) z28) (Nat.le_of_eq g29.symm))) rfl
      clear W30
      have z42 : h29.size ≤ h42.size := Nat.le_of_eq w42.size.symm
      have v42 : Arv Z h42 a29 k29 .char (6 : Int32) [(.int (92 : Int32)), (.int (0 : Int32)), (.int (0 : Int32)), (.int (0 : Int32)), (.int (0 : Int32)), (.int (0 : Int32))] (.int (0 : Int32)) := A42
      replace W42 := W42.iload (pc' := 133) at_131 rfl rfl
      replace W42 := W42.iconst (pc' := 134) (v := (1 : Int32)) at_133 rfl rfl
      replace W42 := W42.iadd (pc' := 135) (v := (1 : Int32)) at_134 (by decide) rfl
      replace W42 := W42.istore (pc' := 137) (L' := #[.val (.int p0), .val (.int p1), .val (.int p2), .val (.int p3), .val (.int (2 : Int32)), .val (.int r23), .val (.int r24), .val (.int r25), .val (.ref a26), .val (.ref a29), .val (.int (1 : Int32)), .unset]) at_135 rfl rfl
      replace W42 := W42.aload (pc' := 139) at_137 rfl rfl rfl
      replace W42 := W42.iload (pc' := 141) at_139 rfl rfl
      replace W42 := W42.iload (pc' := 143) at_141 rfl rfl
      obtain ⟨h43, W43, w43, A43, SF43⟩ := W42.castore (pc' := 144) (i := 1) (x' := r23) at_143 v42 ⟨by decide, by decide⟩ rfl (by show 1 < 6; decide) (own_narc q23_2) (W42.safeA v42 (by decide)) (Or.inr (Nat.le_trans (Nat.le_trans (Nat.le_trans z26 z27) z28) (Nat.le_of_eq g29.symm))) rfl
      clear W42
      have z43 : h42.size ≤ h43.size := Nat.le_of_eq w43.size.symm
      have v43 : Arv Z h43 a29 k29 .char (6 : Int32) [(.int (92 : Int32)), (.int r23), (.int (0 : Int32)), (.int (0 : Int32)), (.int (0 : Int32)), (.int (0 : Int32))] (.int (0 : Int32)) := A43
      replace W43 := W43.iload (pc' := 146) at_144 rfl rfl
      replace W43 := W43.iconst (pc' := 147) (v := (1 : Int32)) at_146 rfl rfl
      replace W43 := W43.iadd (pc' := 148) (v := (2 : Int32)) at_147 (by decide) rfl
      replace W43 := W43.istore (pc' := 150) (L' := #[.val (.int p0), .val (.int p1), .val (.int p2), .val (.int p3), .val (.int (2 : Int32)), .val (.int r23), .val (.int r24), .val (.int r25), .val (.ref a26), .val (.ref a29), .val (.int (2 : Int32)), .unset]) at_148 rfl rfl
      replace W43 := W43.iload (pc' := 152) at_150 rfl rfl
      replace W43 := W43.iconst (pc' := 153) (v := (1 : Int32)) at_152 rfl rfl
      replace W43 := W43.icmpF (pc' := 156) at_153 (tlt (by decide : (1 : Int32) < (2 : Int32))).2.2.2 rfl
      replace W43 := W43.iload (pc' := 158) at_156 rfl rfl
      obtain ⟨V44, h44, r44, W44, K44, hQ44, SF44⟩ := W43.callS (pc' := 161) (argsL := [(.int r24)]) (rest := []) (Wd := 0) (cells' := 2) (slots' := 8) (y := (⟨"com/example/input_under_constraint/inputunderconstraint/MessageTemplateLiteralPinLaw", "esc", "(C)Z"⟩ : MethodName)) at_158 (esc_c l Z a0 n0 hw hEL G1 O1 P1 O_as O_hi O_lo G3 O3 rG3 r24 h43 W43.old) (tw110 hw) (tw111 hw) (tw3 hw) (tw112 hw) (by decide) (lenOf pd22 rfl) rfl rfl (by decide) (by decide) rfl sf0 all0 rfl rfl rfl (by decide) (by decide)
      clear W43
      obtain ⟨rfl, hs44⟩ := hQ44
      subst hs44
      replace W44 := W44.cast (st' := [(.int (escf r24))]) rfl
      by_cases hc45 : (escf r24) = (0 : Int32)
      · replace W44 := W44.ifT (pc' := 177) at_161 (teq hc45).1 (by decide) (by decide)
        replace W44 := W44.aload (pc' := 179) at_177 rfl rfl rfl
        replace W44 := W44.iload (pc' := 181) at_179 rfl rfl
        replace W44 := W44.iload (pc' := 183) at_181 rfl rfl
        obtain ⟨h46, W46, w46, A46, SF46⟩ := W44.castore (pc' := 184) (i := 2) (x' := r24) at_183 v43 ⟨by decide, by decide⟩ rfl (by show 2 < 6; decide) (own_narc q24_2) (W44.safeA v43 (by decide)) (Or.inr (Nat.le_trans (Nat.le_trans (Nat.le_trans z26 z27) z28) (Nat.le_of_eq g29.symm))) rfl
        clear W44
        have z46 : h43.size ≤ h46.size := Nat.le_of_eq w46.size.symm
        have v46 : Arv Z h46 a29 k29 .char (6 : Int32) [(.int (92 : Int32)), (.int r23), (.int r24), (.int (0 : Int32)), (.int (0 : Int32)), (.int (0 : Int32))] (.int (0 : Int32)) := A46
        replace W46 := W46.iload (pc' := 186) at_184 rfl rfl
        replace W46 := W46.iconst (pc' := 187) (v := (1 : Int32)) at_186 rfl rfl
        replace W46 := W46.iadd (pc' := 188) (v := (3 : Int32)) at_187 (by decide) rfl
        replace W46 := W46.istore (pc' := 190) (L' := #[.val (.int p0), .val (.int p1), .val (.int p2), .val (.int p3), .val (.int (2 : Int32)), .val (.int r23), .val (.int r24), .val (.int r25), .val (.ref a26), .val (.ref a29), .val (.int (3 : Int32)), .unset]) at_188 rfl rfl
        replace W46 := W46.iload (pc' := 192) at_190 rfl rfl
        replace W46 := W46.iconst (pc' := 193) (v := (2 : Int32)) at_192 rfl rfl
        replace W46 := W46.icmpT (pc' := 230) at_193 (flt (by decide : ¬ ((2 : Int32) < (2 : Int32)))).2.2.2 (by decide) (by decide)
        have v48 := ((((v28.ext E29).other w42 (Nat.ne_of_lt (Nat.lt_of_lt_of_le v26.lt (Nat.le_trans (Nat.le_trans z27 z28) (Nat.le_of_eq g29.symm))))).other w43 (Nat.ne_of_lt (Nat.lt_of_lt_of_le v26.lt (Nat.le_trans (Nat.le_trans z27 z28) (Nat.le_of_eq g29.symm))))).other w46 (Nat.ne_of_lt (Nat.lt_of_lt_of_le v26.lt (Nat.le_trans (Nat.le_trans z27 z28) (Nat.le_of_eq g29.symm)))))
        have v47c : Arv Z h46 a26 k26 .char (Int32.ofNat 2) (lst 2 (gl [r23, r24])) (.int (0 : Int32)) := v48
        have v47e : Arv Z h46 a29 k29 .char (Int32.ofNat 6) (lst 6 (gl [(92 : Int32), r23, r24, (0 : Int32), (0 : Int32), (0 : Int32)])) (.int (0 : Int32)) := v46
        have hP47 : oT (gl [r23, r24]) 2 = 3 := by simp [oT, gl, hc31, hc45]
        have he47 : ∀ j, j < oT (gl [r23, r24]) 2 → (gl [(92 : Int32), r23, r24, (0 : Int32), (0 : Int32), (0 : Int32)]) j = oF (gl [r23, r24]) 2 j := by
          intro j hj
          rw [hP47] at hj
          rcases (by omega : j = 0 ∨ j = 1 ∨ j = 2) with rfl | rfl | rfl <;> simp [oF, oT, upd, gl, hc31, hc45]
        replace W46 := W46.castL (L' := #[.val (.int p0), .val (.int p1), .val (.int p2), .val (.int p3), .val (.int (Int32.ofNat 2)), .val (.int r23), .val (.int r24), .val (.int r25), .val (.ref a26), .val (.ref a29), .val (.int (Int32.ofNat (oT (gl [r23, r24]) 2))), .unset]) (by rw [hP47]; rfl)
        replace W46 := W46.more (cells' := 2) (slots' := 9) (by decide) (by decide)
        exact law_b l Z a0 n0 hw hEL G1 O1 P1 O_as O_hi O_lo G3 O3 rG3 p0 p1 p2 p3 r23 r24 r25 a26 k26 2 (gl [r23, r24]) a29 k29 (gl [(92 : Int32), r23, r24, (0 : Int32), (0 : Int32), (0 : Int32)]) p e s m below meth c S0 V44 h0 h46 hO v47c v47e (Nat.le_of_eq g26.symm) (Nat.le_trans (Nat.le_trans (Nat.le_trans z26 z27) z28) (Nat.le_of_eq g29.symm)) (by omega) (own_glc (own_allcS q23_2 (own_allcS q24_2 own_allc0))) he47 hnm W46
      · replace W44 := W44.ifF (pc' := 164) at_161 (feq hc45).1 rfl
        replace W44 := W44.aload (pc' := 166) at_164 rfl rfl rfl
        replace W44 := W44.iload (pc' := 168) at_166 rfl rfl
        replace W44 := W44.bipush (pc' := 170) (v := (92 : Int32)) at_168 rfl rfl
        obtain ⟨h49, W49, w49, A49, SF49⟩ := W44.castore (pc' := 171) (i := 2) (x' := (92 : Int32)) at_170 v43 ⟨by decide, by decide⟩ rfl (by show 2 < 6; decide) (by decide) (W44.safeA v43 (by decide)) (Or.inr (Nat.le_trans (Nat.le_trans (Nat.le_trans z26 z27) z28) (Nat.le_of_eq g29.symm))) rfl
        clear W44
        have z49 : h43.size ≤ h49.size := Nat.le_of_eq w49.size.symm
        have v49 : Arv Z h49 a29 k29 .char (6 : Int32) [(.int (92 : Int32)), (.int r23), (.int (92 : Int32)), (.int (0 : Int32)), (.int (0 : Int32)), (.int (0 : Int32))] (.int (0 : Int32)) := A49
        replace W49 := W49.iload (pc' := 173) at_171 rfl rfl
        replace W49 := W49.iconst (pc' := 174) (v := (1 : Int32)) at_173 rfl rfl
        replace W49 := W49.iadd (pc' := 175) (v := (3 : Int32)) at_174 (by decide) rfl
        replace W49 := W49.istore (pc' := 177) (L' := #[.val (.int p0), .val (.int p1), .val (.int p2), .val (.int p3), .val (.int (2 : Int32)), .val (.int r23), .val (.int r24), .val (.int r25), .val (.ref a26), .val (.ref a29), .val (.int (3 : Int32)), .unset]) at_175 rfl rfl
        replace W49 := W49.aload (pc' := 179) at_177 rfl rfl rfl
        replace W49 := W49.iload (pc' := 181) at_179 rfl rfl
        replace W49 := W49.iload (pc' := 183) at_181 rfl rfl
        obtain ⟨h50, W50, w50, A50, SF50⟩ := W49.castore (pc' := 184) (i := 3) (x' := r24) at_183 v49 ⟨by decide, by decide⟩ rfl (by show 3 < 6; decide) (own_narc q24_2) (W49.safeA v49 (by decide)) (Or.inr (Nat.le_trans (Nat.le_trans (Nat.le_trans z26 z27) z28) (Nat.le_of_eq g29.symm))) rfl
        clear W49
        have z50 : h49.size ≤ h50.size := Nat.le_of_eq w50.size.symm
        have v50 : Arv Z h50 a29 k29 .char (6 : Int32) [(.int (92 : Int32)), (.int r23), (.int (92 : Int32)), (.int r24), (.int (0 : Int32)), (.int (0 : Int32))] (.int (0 : Int32)) := A50
        replace W50 := W50.iload (pc' := 186) at_184 rfl rfl
        replace W50 := W50.iconst (pc' := 187) (v := (1 : Int32)) at_186 rfl rfl
        replace W50 := W50.iadd (pc' := 188) (v := (4 : Int32)) at_187 (by decide) rfl
        replace W50 := W50.istore (pc' := 190) (L' := #[.val (.int p0), .val (.int p1), .val (.int p2), .val (.int p3), .val (.int (2 : Int32)), .val (.int r23), .val (.int r24), .val (.int r25), .val (.ref a26), .val (.ref a29), .val (.int (4 : Int32)), .unset]) at_188 rfl rfl
        replace W50 := W50.iload (pc' := 192) at_190 rfl rfl
        replace W50 := W50.iconst (pc' := 193) (v := (2 : Int32)) at_192 rfl rfl
        replace W50 := W50.icmpT (pc' := 230) at_193 (flt (by decide : ¬ ((2 : Int32) < (2 : Int32)))).2.2.2 (by decide) (by decide)
        have v52 := (((((v28.ext E29).other w42 (Nat.ne_of_lt (Nat.lt_of_lt_of_le v26.lt (Nat.le_trans (Nat.le_trans z27 z28) (Nat.le_of_eq g29.symm))))).other w43 (Nat.ne_of_lt (Nat.lt_of_lt_of_le v26.lt (Nat.le_trans (Nat.le_trans z27 z28) (Nat.le_of_eq g29.symm))))).other w49 (Nat.ne_of_lt (Nat.lt_of_lt_of_le v26.lt (Nat.le_trans (Nat.le_trans z27 z28) (Nat.le_of_eq g29.symm))))).other w50 (Nat.ne_of_lt (Nat.lt_of_lt_of_le v26.lt (Nat.le_trans (Nat.le_trans z27 z28) (Nat.le_of_eq g29.symm)))))
        have v51c : Arv Z h50 a26 k26 .char (Int32.ofNat 2) (lst 2 (gl [r23, r24])) (.int (0 : Int32)) := v52
        have v51e : Arv Z h50 a29 k29 .char (Int32.ofNat 6) (lst 6 (gl [(92 : Int32), r23, (92 : Int32), r24, (0 : Int32), (0 : Int32)])) (.int (0 : Int32)) := v50
        have hP51 : oT (gl [r23, r24]) 2 = 4 := by simp [oT, gl, hc31, hc45]
        have he51 : ∀ j, j < oT (gl [r23, r24]) 2 → (gl [(92 : Int32), r23, (92 : Int32), r24, (0 : Int32), (0 : Int32)]) j = oF (gl [r23, r24]) 2 j := by
          intro j hj
          rw [hP51] at hj
          rcases (by omega : j = 0 ∨ j = 1 ∨ j = 2 ∨ j = 3) with rfl | rfl | rfl | rfl <;> simp [oF, oT, upd, gl, hc31, hc45]
        replace W50 := W50.castL (L' := #[.val (.int p0), .val (.int p1), .val (.int p2), .val (.int p3), .val (.int (Int32.ofNat 2)), .val (.int r23), .val (.int r24), .val (.int r25), .val (.ref a26), .val (.ref a29), .val (.int (Int32.ofNat (oT (gl [r23, r24]) 2))), .unset]) (by rw [hP51]; rfl)
        replace W50 := W50.more (cells' := 2) (slots' := 9) (by decide) (by decide)
        exact law_b l Z a0 n0 hw hEL G1 O1 P1 O_as O_hi O_lo G3 O3 rG3 p0 p1 p2 p3 r23 r24 r25 a26 k26 2 (gl [r23, r24]) a29 k29 (gl [(92 : Int32), r23, (92 : Int32), r24, (0 : Int32), (0 : Int32)]) p e s m below meth c S0 V44 h0 h50 hO v51c v51e (Nat.le_of_eq g26.symm) (Nat.le_trans (Nat.le_trans (Nat.le_trans z26 z27) z28) (Nat.le_of_eq g29.symm)) (by omega) (own_glc (own_allcS q23_2 (own_allcS q24_2 own_allc0))) he51 hnm W50
  · replace W := W.istore (pc' := 8) (L' := #[.val (.int p0), .val (.int p1), .val (.int p2), .val (.int p3), .val (.int (3 : Int32)), .unset, .unset, .unset, .unset, .unset, .unset, .unset]) at_6 rfl rfl
    replace W := W.iloadN (pc' := 9) at_8 rfl rfl
    obtain ⟨V53, h53, r53, W53, K53, hQ53, SF53⟩ := W.callS (pc' := 12) (argsL := [(.int p1)]) (rest := []) (Wd := 0) (cells' := 0) (slots' := 0) (y := (⟨"com/example/input_under_constraint/inputunderconstraint/MessageTemplateLiteralPinLaw", "pick", "(I)C"⟩ : MethodName)) at_9 (pick_c l Z a0 n0 hw hEL G1 O1 P1 O_as O_hi O_lo G3 O3 rG3 p1 h0 W.old) (tw1 hw) (tw2 hw) (tw3 hw) (tw4 hw) (by decide) (lenOf pd30 rfl) rfl rfl (by decide) (by decide) rfl sf0 all0 rfl rfl rfl (by decide) (by decide)
    clear W
    obtain ⟨r53, rfl, hs53, q53_2⟩ := hQ53
    subst hs53
    replace W53 := W53.cast (st' := [(.int r53)]) rfl
    replace W53 := W53.istore (pc' := 14) (L' := #[.val (.int p0), .val (.int p1), .val (.int p2), .val (.int p3), .val (.int (3 : Int32)), .val (.int r53), .unset, .unset, .unset, .unset, .unset, .unset]) at_12 rfl rfl
    replace W53 := W53.iloadN (pc' := 15) at_14 rfl rfl
    obtain ⟨V54, h54, r54, W54, K54, hQ54, SF54⟩ := W53.callS (pc' := 18) (argsL := [(.int p2)]) (rest := []) (Wd := 0) (cells' := 0) (slots' := 0) (y := (⟨"com/example/input_under_constraint/inputunderconstraint/MessageTemplateLiteralPinLaw", "pick", "(I)C"⟩ : MethodName)) at_15 (pick_c l Z a0 n0 hw hEL G1 O1 P1 O_as O_hi O_lo G3 O3 rG3 p2 h0 W53.old) (tw1 hw) (tw2 hw) (tw3 hw) (tw4 hw) (by decide) (lenOf pd30 rfl) rfl rfl (by decide) (by decide) rfl sf0 all0 rfl rfl rfl (by decide) (by decide)
    clear W53
    obtain ⟨r54, rfl, hs54, q54_2⟩ := hQ54
    subst hs54
    replace W54 := W54.cast (st' := [(.int r54)]) rfl
    replace W54 := W54.istore (pc' := 20) (L' := #[.val (.int p0), .val (.int p1), .val (.int p2), .val (.int p3), .val (.int (3 : Int32)), .val (.int r53), .val (.int r54), .unset, .unset, .unset, .unset, .unset]) at_18 rfl rfl
    replace W54 := W54.iloadN (pc' := 21) at_20 rfl rfl
    obtain ⟨V55, h55, r55, W55, K55, hQ55, SF55⟩ := W54.callS (pc' := 24) (argsL := [(.int p3)]) (rest := []) (Wd := 0) (cells' := 0) (slots' := 0) (y := (⟨"com/example/input_under_constraint/inputunderconstraint/MessageTemplateLiteralPinLaw", "pick", "(I)C"⟩ : MethodName)) at_21 (pick_c l Z a0 n0 hw hEL G1 O1 P1 O_as O_hi O_lo G3 O3 rG3 p3 h0 W54.old) (tw1 hw) (tw2 hw) (tw3 hw) (tw4 hw) (by decide) (lenOf pd30 rfl) rfl rfl (by decide) (by decide) rfl sf0 all0 rfl rfl rfl (by decide) (by decide)
    clear W54
    obtain ⟨r55, rfl, hs55, q55_2⟩ := hQ55
    subst hs55
    replace W55 := W55.cast (st' := [(.int r55)]) rfl
    replace W55 := W55.istore (pc' := 26) (L' := #[.val (.int p0), .val (.int p1), .val (.int p2), .val (.int p3), .val (.int (3 : Int32)), .val (.int r53), .val (.int r54), .val (.int r55), .unset, .unset, .unset, .unset]) at_24 rfl rfl
    replace W55 := W55.iload (pc' := 28) at_26 rfl rfl
    replace W55 := W55.ifT (pc' := 39) at_28 (feq (by decide : ¬ ((3 : Int32) = (0 : Int32)))).2 (by decide) (by decide)
    replace W55 := W55.iload (pc' := 41) at_39 rfl rfl
    replace W55 := W55.iconst (pc' := 42) (v := (1 : Int32)) at_41 rfl rfl
    replace W55 := W55.icmpT (pc' := 58) at_42 (feq (by decide : ¬ ((3 : Int32) = (1 : Int32)))).2 (by decide) (by decide)
    replace W55 := W55.iload (pc' := 60) at_58 rfl rfl
    replace W55 := W55.iconst (pc' := 61) (v := (2 : Int32)) at_60 rfl rfl
    replace W55 := W55.icmpT (pc' := 82) at_61 (feq (by decide : ¬ ((3 : Int32) = (2 : Int32)))).2 (by decide) (by decide)
    replace W55 := W55.iconst (pc' := 83) (v := (3 : Int32)) at_82 rfl rfl
    obtain ⟨h56, a56, W56, E56, g56, ⟨k56, A56⟩, sf56, SF56⟩ := W55.newarr (pc' := 85) (cap := 3) (cells' := 1) (slots' := 3) at_83 (tw5 hw) (by decide) (by decide) (by decide) rfl rfl rfl (by decide) (by decide)
    clear W55
    rw [← g56] at A56
    have z56 : h0.size ≤ h56.size := E56.1
    have v56 : Arv Z h56 a56 k56 .char (3 : Int32) [(.int (0 : Int32)), (.int (0 : Int32)), (.int (0 : Int32))] (.int (0 : Int32)) := A56.pad (pad_rep [] (.int (0 : Int32)) 3)
    replace W56 := W56.dup (pc' := 86) at_85 rfl rfl
    replace W56 := W56.iconst (pc' := 87) (v := (0 : Int32)) at_86 rfl rfl
    replace W56 := W56.iload (pc' := 89) at_87 rfl rfl
    obtain ⟨h57, W57, w57, A57, SF57⟩ := W56.castore (pc' := 90) (i := 0) (x' := r53) at_89 v56 ⟨by decide, by decide⟩ rfl (by show 0 < 3; decide) (own_narc q53_2) (W56.safeA v56 (by decide)) (Or.inr (Nat.le_of_eq g56.symm)) rfl
    clear W56
    have z57 : h56.size ≤ h57.size := Nat.le_of_eq w57.size.symm
    have v57 : Arv Z h57 a56 k56 .char (3 : Int32) [(.int r53), (.int (0 : Int32)), (.int (0 : Int32))] (.int (0 : Int32)) := A57
    replace W57 := W57.dup (pc' := 91) at_90 rfl rfl
    replace W57 := W57.iconst (pc' := 92) (v := (1 : Int32)) at_91 rfl rfl
    replace W57 := W57.iload (pc' := 94) at_92 rfl rfl
    obtain ⟨h58, W58, w58, A58, SF58⟩ := W57.castore (pc' := 95) (i := 1) (x' := r54) at_94 v57 ⟨by decide, by decide⟩ rfl (by show 1 < 3; decide) (own_narc q54_2) (W57.safeA v57 (by decide)) (Or.inr (Nat.le_of_eq g56.symm)) rfl
    clear W57
    have z58 : h57.size ≤ h58.size := Nat.le_of_eq w58.size.symm
    have v58 : Arv Z h58 a56 k56 .char (3 : Int32) [(.int r53), (.int r54), (.int (0 : Int32))] (.int (0 : Int32)) := A58
    replace W58 := W58.dup (pc' := 96) at_95 rfl rfl
    replace W58 := W58.iconst (pc' := 97) (v := (2 : Int32)) at_96 rfl rfl
    replace W58 := W58.iload (pc' := 99) at_97 rfl rfl
    obtain ⟨h59, W59, w59, A59, SF59⟩ := W58.castore (pc' := 100) (i := 2) (x' := r55) at_99 v58 ⟨by decide, by decide⟩ rfl (by show 2 < 3; decide) (own_narc q55_2) (W58.safeA v58 (by decide)) (Or.inr (Nat.le_of_eq g56.symm)) rfl
    clear W58
    have z59 : h58.size ≤ h59.size := Nat.le_of_eq w59.size.symm
    have v59 : Arv Z h59 a56 k56 .char (3 : Int32) [(.int r53), (.int r54), (.int r55)] (.int (0 : Int32)) := A59
    replace W59 := W59.astore (pc' := 102) (L' := #[.val (.int p0), .val (.int p1), .val (.int p2), .val (.int p3), .val (.int (3 : Int32)), .val (.int r53), .val (.int r54), .val (.int r55), .val (.ref a56), .unset, .unset, .unset]) at_100 rfl rfl rfl
    replace W59 := W59.bipush (pc' := 104) (v := (6 : Int32)) at_102 rfl rfl
    obtain ⟨h60, a60, W60, E60, g60, ⟨k60, A60⟩, sf60, SF60⟩ := W59.newarr (pc' := 106) (cap := 6) (cells' := 2) (slots' := 9) at_104 (tw5 hw) (by decide) (by decide) (by decide) rfl rfl rfl (by decide) (by decide)
    clear W59
    rw [← g60] at A60
    have z60 : h59.size ≤ h60.size := E60.1
    have v60 : Arv Z h60 a60 k60 .char (6 : Int32) [(.int (0 : Int32)), (.int (0 : Int32)), (.int (0 : Int32)), (.int (0 : Int32)), (.int (0 : Int32)), (.int (0 : Int32))] (.int (0 : Int32)) := A60.pad (pad_rep [] (.int (0 : Int32)) 6)
    replace W60 := W60.astore (pc' := 108) (L' := #[.val (.int p0), .val (.int p1), .val (.int p2), .val (.int p3), .val (.int (3 : Int32)), .val (.int r53), .val (.int r54), .val (.int r55), .val (.ref a56), .val (.ref a60), .unset, .unset]) at_106 rfl rfl rfl
    replace W60 := W60.iconst (pc' := 109) (v := (0 : Int32)) at_108 rfl rfl
    replace W60 := W60.istore (pc' := 111) (L' := #[.val (.int p0), .val (.int p1), .val (.int p2), .val (.int p3), .val (.int (3 : Int32)), .val (.int r53), .val (.int r54), .val (.int r55), .val (.ref a56), .val (.ref a60), .val (.int (0 : Int32)), .unset]) at_109 rfl rfl
    replace W60 := W60.iload (pc' := 113) at_111 rfl rfl
    replace W60 := W60.ifF (pc' := 116) at_113 (tlt (by decide : (0 : Int32) < (3 : Int32))).2.2.2 rfl
    replace W60 := W60.iload (pc' := 118) at_116 rfl rfl
    obtain ⟨V61, h61, r61, W61, K61, hQ61, SF61⟩ := W60.callS (pc' := 121) (argsL := [(.int r53)]) (rest := []) (Wd := 0) (cells' := 2) (slots' := 9) (y := (⟨"com/example/input_under_constraint/inputunderconstraint/MessageTemplateLiteralPinLaw", "esc", "(C)Z"⟩ : MethodName)) at_118 (esc_c l Z a0 n0 hw hEL G1 O1 P1 O_as O_hi O_lo G3 O3 rG3 r53 h60 W60.old) (tw110 hw) (tw111 hw) (tw3 hw) (tw112 hw) (by decide) (lenOf pd22 rfl) rfl rfl (by decide) (by decide) rfl sf0 all0 rfl rfl rfl (by decide) (by decide)
    clear W60
    obtain ⟨rfl, hs61⟩ := hQ61
    subst hs61
    replace W61 := W61.cast (st' := [(.int (escf r53))]) rfl
    by_cases hc62 : (escf r53) = (0 : Int32)
    · replace W61 := W61.ifT (pc' := 137) at_121 (teq hc62).1 (by decide) (by decide)
      replace W61 := W61.aload (pc' := 139) at_137 rfl rfl rfl
      replace W61 := W61.iload (pc' := 141) at_139 rfl rfl
      replace W61 := W61.iload (pc' := 143) at_141 rfl rfl
      obtain ⟨h63, W63, w63, A63, SF63⟩ := W61.castore (pc' := 144) (i := 0) (x' := r53) at_143 v60 ⟨by decide, by decide⟩ rfl (by show 0 < 6; decide) (own_narc q53_2) (W61.safeA v60 (by decide)) (Or.inr (Nat.le_trans (Nat.le_trans (Nat.le_trans (Nat.le_trans z56 z57) z58) z59) (Nat.le_of_eq g60.symm))) rfl
      clear W61
      have z63 : h60.size ≤ h63.size := Nat.le_of_eq w63.size.symm
      have v63 : Arv Z h63 a60 k60 .char (6 : Int32) [(.int r53), (.int (0 : Int32)), (.int (0 : Int32)), (.int (0 : Int32)), (.int (0 : Int32)), (.int (0 : Int32))] (.int (0 : Int32)) := A63
      replace W63 := W63.iload (pc' := 146) at_144 rfl rfl
      replace W63 := W63.iconst (pc' := 147) (v := (1 : Int32)) at_146 rfl rfl
      replace W63 := W63.iadd (pc' := 148) (v := (1 : Int32)) at_147 (by decide) rfl
      replace W63 := W63.istore (pc' := 150) (L' := #[.val (.int p0), .val (.int p1), .val (.int p2), .val (.int p3), .val (.int (3 : Int32)), .val (.int r53), .val (.int r54), .val (.int r55), .val (.ref a56), .val (.ref a60), .val (.int (1 : Int32)), .unset]) at_148 rfl rfl
      replace W63 := W63.iload (pc' := 152) at_150 rfl rfl
      replace W63 := W63.iconst (pc' := 153) (v := (1 : Int32)) at_152 rfl rfl
      replace W63 := W63.icmpF (pc' := 156) at_153 (tlt (by decide : (1 : Int32) < (3 : Int32))).2.2.2 rfl
      replace W63 := W63.iload (pc' := 158) at_156 rfl rfl
      obtain ⟨V64, h64, r64, W64, K64, hQ64, SF64⟩ := W63.callS (pc' := 161) (argsL := [(.int r54)]) (rest := []) (Wd := 0) (cells' := 2) (slots' := 9) (y := (⟨"com/example/input_under_constraint/inputunderconstraint/MessageTemplateLiteralPinLaw", "esc", "(C)Z"⟩ : MethodName)) at_158 (esc_c l Z a0 n0 hw hEL G1 O1 P1 O_as O_hi O_lo G3 O3 rG3 r54 h63 W63.old) (tw110 hw) (tw111 hw) (tw3 hw) (tw112 hw) (by decide) (lenOf pd22 rfl) rfl rfl (by decide) (by decide) rfl sf0 all0 rfl rfl rfl (by decide) (by decide)
      clear W63
      obtain ⟨rfl, hs64⟩ := hQ64
      subst hs64
      replace W64 := W64.cast (st' := [(.int (escf r54))]) rfl
      by_cases hc65 : (escf r54) = (0 : Int32)
      · replace W64 := W64.ifT (pc' := 177) at_161 (teq hc65).1 (by decide) (by decide)
        replace W64 := W64.aload (pc' := 179) at_177 rfl rfl rfl
        replace W64 := W64.iload (pc' := 181) at_179 rfl rfl
        replace W64 := W64.iload (pc' := 183) at_181 rfl rfl
        obtain ⟨h66, W66, w66, A66, SF66⟩ := W64.castore (pc' := 184) (i := 1) (x' := r54) at_183 v63 ⟨by decide, by decide⟩ rfl (by show 1 < 6; decide) (own_narc q54_2) (W64.safeA v63 (by decide)) (Or.inr (Nat.le_trans (Nat.le_trans (Nat.le_trans (Nat.le_trans z56 z57) z58) z59) (Nat.le_of_eq g60.symm))) rfl
        clear W64
        have z66 : h63.size ≤ h66.size := Nat.le_of_eq w66.size.symm
        have v66 : Arv Z h66 a60 k60 .char (6 : Int32) [(.int r53), (.int r54), (.int (0 : Int32)), (.int (0 : Int32)), (.int (0 : Int32)), (.int (0 : Int32))] (.int (0 : Int32)) := A66
        replace W66 := W66.iload (pc' := 186) at_184 rfl rfl
        replace W66 := W66.iconst (pc' := 187) (v := (1 : Int32)) at_186 rfl rfl
        replace W66 := W66.iadd (pc' := 188) (v := (2 : Int32)) at_187 (by decide) rfl
        replace W66 := W66.istore (pc' := 190) (L' := #[.val (.int p0), .val (.int p1), .val (.int p2), .val (.int p3), .val (.int (3 : Int32)), .val (.int r53), .val (.int r54), .val (.int r55), .val (.ref a56), .val (.ref a60), .val (.int (2 : Int32)), .unset]) at_188 rfl rfl
        replace W66 := W66.iload (pc' := 192) at_190 rfl rfl
        replace W66 := W66.iconst (pc' := 193) (v := (2 : Int32)) at_192 rfl rfl
        replace W66 := W66.icmpF (pc' := 196) at_193 (tlt (by decide : (2 : Int32) < (3 : Int32))).2.2.2 rfl
        replace W66 := W66.iload (pc' := 198) at_196 rfl rfl
        obtain ⟨V67, h67, r67, W67, K67, hQ67, SF67⟩ := W66.callS (pc' := 201) (argsL := [(.int r55)]) (rest := []) (Wd := 0) (cells' := 2) (slots' := 9) (y := (⟨"com/example/input_under_constraint/inputunderconstraint/MessageTemplateLiteralPinLaw", "esc", "(C)Z"⟩ : MethodName)) at_198 (esc_c l Z a0 n0 hw hEL G1 O1 P1 O_as O_hi O_lo G3 O3 rG3 r55 h66 W66.old) (tw110 hw) (tw111 hw) (tw3 hw) (tw112 hw) (by decide) (lenOf pd22 rfl) rfl rfl (by decide) (by decide) rfl sf0 all0 rfl rfl rfl (by decide) (by decide)
        clear W66
        obtain ⟨rfl, hs67⟩ := hQ67
        subst hs67
        replace W67 := W67.cast (st' := [(.int (escf r55))]) rfl
        by_cases hc68 : (escf r55) = (0 : Int32)
        · replace W67 := W67.ifT (pc' := 217) at_201 (teq hc68).1 (by decide) (by decide)
          replace W67 := W67.aload (pc' := 219) at_217 rfl rfl rfl
          replace W67 := W67.iload (pc' := 221) at_219 rfl rfl
          replace W67 := W67.iload (pc' := 223) at_221 rfl rfl
          obtain ⟨h69, W69, w69, A69, SF69⟩ := W67.castore (pc' := 224) (i := 2) (x' := r55) at_223 v66 ⟨by decide, by decide⟩ rfl (by show 2 < 6; decide) (own_narc q55_2) (W67.safeA v66 (by decide)) (Or.inr (Nat.le_trans (Nat.le_trans (Nat.le_trans (Nat.le_trans z56 z57) z58) z59) (Nat.le_of_eq g60.symm))) rfl
          clear W67
          have z69 : h66.size ≤ h69.size := Nat.le_of_eq w69.size.symm
          have v69 : Arv Z h69 a60 k60 .char (6 : Int32) [(.int r53), (.int r54), (.int r55), (.int (0 : Int32)), (.int (0 : Int32)), (.int (0 : Int32))] (.int (0 : Int32)) := A69
          replace W69 := W69.iload (pc' := 226) at_224 rfl rfl
          replace W69 := W69.iconst (pc' := 227) (v := (1 : Int32)) at_226 rfl rfl
          replace W69 := W69.iadd (pc' := 228) (v := (3 : Int32)) at_227 (by decide) rfl
          replace W69 := W69.istore (pc' := 230) (L' := #[.val (.int p0), .val (.int p1), .val (.int p2), .val (.int p3), .val (.int (3 : Int32)), .val (.int r53), .val (.int r54), .val (.int r55), .val (.ref a56), .val (.ref a60), .val (.int (3 : Int32)), .unset]) at_228 rfl rfl
          have v71 := ((((v59.ext E60).other w63 (Nat.ne_of_lt (Nat.lt_of_lt_of_le v56.lt (Nat.le_trans (Nat.le_trans (Nat.le_trans z57 z58) z59) (Nat.le_of_eq g60.symm))))).other w66 (Nat.ne_of_lt (Nat.lt_of_lt_of_le v56.lt (Nat.le_trans (Nat.le_trans (Nat.le_trans z57 z58) z59) (Nat.le_of_eq g60.symm))))).other w69 (Nat.ne_of_lt (Nat.lt_of_lt_of_le v56.lt (Nat.le_trans (Nat.le_trans (Nat.le_trans z57 z58) z59) (Nat.le_of_eq g60.symm)))))
          have v70c : Arv Z h69 a56 k56 .char (Int32.ofNat 3) (lst 3 (gl [r53, r54, r55])) (.int (0 : Int32)) := v71
          have v70e : Arv Z h69 a60 k60 .char (Int32.ofNat 6) (lst 6 (gl [r53, r54, r55, (0 : Int32), (0 : Int32), (0 : Int32)])) (.int (0 : Int32)) := v69
          have hP70 : oT (gl [r53, r54, r55]) 3 = 3 := by simp [oT, gl, hc62, hc65, hc68]
          have he70 : ∀ j, j < oT (gl [r53, r54, r55]) 3 → (gl [r53, r54, r55, (0 : Int32), (0 : Int32), (0 : Int32)]) j = oF (gl [r53, r54, r55]) 3 j := by
            intro j hj
            rw [hP70] at hj
            rcases (by omega : j = 0 ∨ j = 1 ∨ j = 2) with rfl | rfl | rfl <;> simp [oF, oT, upd, gl, hc62, hc65, hc68]
          replace W69 := W69.castL (L' := #[.val (.int p0), .val (.int p1), .val (.int p2), .val (.int p3), .val (.int (Int32.ofNat 3)), .val (.int r53), .val (.int r54), .val (.int r55), .val (.ref a56), .val (.ref a60), .val (.int (Int32.ofNat (oT (gl [r53, r54, r55]) 3))), .unset]) (by rw [hP70]; rfl)
          exact law_b l Z a0 n0 hw hEL G1 O1 P1 O_as O_hi O_lo G3 O3 rG3 p0 p1 p2 p3 r53 r54 r55 a56 k56 3 (gl [r53, r54, r55]) a60 k60 (gl [r53, r54, r55, (0 : Int32), (0 : Int32), (0 : Int32)]) p e s m below meth c S0 V67 h0 h69 hO v70c v70e (Nat.le_of_eq g56.symm) (Nat.le_trans (Nat.le_trans (Nat.le_trans (Nat.le_trans z56 z57) z58) z59) (Nat.le_of_eq g60.symm)) (by omega) (own_glc (own_allcS q53_2 (own_allcS q54_2 (own_allcS q55_2 own_allc0)))) he70 hnm W69
        · replace W67 := W67.ifF (pc' := 204) at_201 (feq hc68).1 rfl
          replace W67 := W67.aload (pc' := 206) at_204 rfl rfl rfl
          replace W67 := W67.iload (pc' := 208) at_206 rfl rfl
          replace W67 := W67.bipush (pc' := 210) (v := (92 : Int32)) at_208 rfl rfl
          obtain ⟨h72, W72, w72, A72, SF72⟩ := W67.castore (pc' := 211) (i := 2) (x' := (92 : Int32)) at_210 v66 ⟨by decide, by decide⟩ rfl (by show 2 < 6; decide) (by decide) (W67.safeA v66 (by decide)) (Or.inr (Nat.le_trans (Nat.le_trans (Nat.le_trans (Nat.le_trans z56 z57) z58) z59) (Nat.le_of_eq g60.symm))) rfl
          clear W67
          have z72 : h66.size ≤ h72.size := Nat.le_of_eq w72.size.symm
          have v72 : Arv Z h72 a60 k60 .char (6 : Int32) [(.int r53), (.int r54), (.int (92 : Int32)), (.int (0 : Int32)), (.int (0 : Int32)), (.int (0 : Int32))] (.int (0 : Int32)) := A72
          replace W72 := W72.iload (pc' := 213) at_211 rfl rfl
          replace W72 := W72.iconst (pc' := 214) (v := (1 : Int32)) at_213 rfl rfl
          replace W72 := W72.iadd (pc' := 215) (v := (3 : Int32)) at_214 (by decide) rfl
          replace W72 := W72.istore (pc' := 217) (L' := #[.val (.int p0), .val (.int p1), .val (.int p2), .val (.int p3), .val (.int (3 : Int32)), .val (.int r53), .val (.int r54), .val (.int r55), .val (.ref a56), .val (.ref a60), .val (.int (3 : Int32)), .unset]) at_215 rfl rfl
          replace W72 := W72.aload (pc' := 219) at_217 rfl rfl rfl
          replace W72 := W72.iload (pc' := 221) at_219 rfl rfl
          replace W72 := W72.iload (pc' := 223) at_221 rfl rfl
          obtain ⟨h73, W73, w73, A73, SF73⟩ := W72.castore (pc' := 224) (i := 3) (x' := r55) at_223 v72 ⟨by decide, by decide⟩ rfl (by show 3 < 6; decide) (own_narc q55_2) (W72.safeA v72 (by decide)) (Or.inr (Nat.le_trans (Nat.le_trans (Nat.le_trans (Nat.le_trans z56 z57) z58) z59) (Nat.le_of_eq g60.symm))) rfl
          clear W72
          have z73 : h72.size ≤ h73.size := Nat.le_of_eq w73.size.symm
          have v73 : Arv Z h73 a60 k60 .char (6 : Int32) [(.int r53), (.int r54), (.int (92 : Int32)), (.int r55), (.int (0 : Int32)), (.int (0 : Int32))] (.int (0 : Int32)) := A73
          replace W73 := W73.iload (pc' := 226) at_224 rfl rfl
          replace W73 := W73.iconst (pc' := 227) (v := (1 : Int32)) at_226 rfl rfl
          replace W73 := W73.iadd (pc' := 228) (v := (4 : Int32)) at_227 (by decide) rfl
          replace W73 := W73.istore (pc' := 230) (L' := #[.val (.int p0), .val (.int p1), .val (.int p2), .val (.int p3), .val (.int (3 : Int32)), .val (.int r53), .val (.int r54), .val (.int r55), .val (.ref a56), .val (.ref a60), .val (.int (4 : Int32)), .unset]) at_228 rfl rfl
          have v75 := (((((v59.ext E60).other w63 (Nat.ne_of_lt (Nat.lt_of_lt_of_le v56.lt (Nat.le_trans (Nat.le_trans (Nat.le_trans z57 z58) z59) (Nat.le_of_eq g60.symm))))).other w66 (Nat.ne_of_lt (Nat.lt_of_lt_of_le v56.lt (Nat.le_trans (Nat.le_trans (Nat.le_trans z57 z58) z59) (Nat.le_of_eq g60.symm))))).other w72 (Nat.ne_of_lt (Nat.lt_of_lt_of_le v56.lt (Nat.le_trans (Nat.le_trans (Nat.le_trans z57 z58) z59) (Nat.le_of_eq g60.symm))))).other w73 (Nat.ne_of_lt (Nat.lt_of_lt_of_le v56.lt (Nat.le_trans (Nat.le_trans (Nat.le_trans z57 z58) z59) (Nat.le_of_eq g60.symm)))))
          have v74c : Arv Z h73 a56 k56 .char (Int32.ofNat 3) (lst 3 (gl [r53, r54, r55])) (.int (0 : Int32)) := v75
          have v74e : Arv Z h73 a60 k60 .char (Int32.ofNat 6) (lst 6 (gl [r53, r54, (92 : Int32), r55, (0 : Int32), (0 : Int32)])) (.int (0 : Int32)) := v73
          have hP74 : oT (gl [r53, r54, r55]) 3 = 4 := by simp [oT, gl, hc62, hc65, hc68]
          have he74 : ∀ j, j < oT (gl [r53, r54, r55]) 3 → (gl [r53, r54, (92 : Int32), r55, (0 : Int32), (0 : Int32)]) j = oF (gl [r53, r54, r55]) 3 j := by
            intro j hj
            rw [hP74] at hj
            rcases (by omega : j = 0 ∨ j = 1 ∨ j = 2 ∨ j = 3) with rfl | rfl | rfl | rfl <;> simp [oF, oT, upd, gl, hc62, hc65, hc68]
          replace W73 := W73.castL (L' := #[.val (.int p0), .val (.int p1), .val (.int p2), .val (.int p3), .val (.int (Int32.ofNat 3)), .val (.int r53), .val (.int r54), .val (.int r55), .val (.ref a56), .val (.ref a60), .val (.int (Int32.ofNat (oT (gl [r53, r54, r55]) 3))), .unset]) (by rw [hP74]; rfl)
          exact law_b l Z a0 n0 hw hEL G1 O1 P1 O_as O_hi O_lo G3 O3 rG3 p0 p1 p2 p3 r53 r54 r55 a56 k56 3 (gl [r53, r54, r55]) a60 k60 (gl [r53, r54, (92 : Int32), r55, (0 : Int32), (0 : Int32)]) p e s m below meth c S0 V67 h0 h73 hO v74c v74e (Nat.le_of_eq g56.symm) (Nat.le_trans (Nat.le_trans (Nat.le_trans (Nat.le_trans z56 z57) z58) z59) (Nat.le_of_eq g60.symm)) (by omega) (own_glc (own_allcS q53_2 (own_allcS q54_2 (own_allcS q55_2 own_allc0)))) he74 hnm W73
      · replace W64 := W64.ifF (pc' := 164) at_161 (feq hc65).1 rfl
        replace W64 := W64.aload (pc' := 166) at_164 rfl rfl rfl
        replace W64 := W64.iload (pc' := 168) at_166 rfl rfl
        replace W64 := W64.bipush (pc' := 170) (v := (92 : Int32)) at_168 rfl rfl
        obtain ⟨h76, W76, w76, A76, SF76⟩ := W64.castore (pc' := 171) (i := 1) (x' := (92 : Int32)) at_170 v63 ⟨by decide, by decide⟩ rfl (by show 1 < 6; decide) (by decide) (W64.safeA v63 (by decide)) (Or.inr (Nat.le_trans (Nat.le_trans (Nat.le_trans (Nat.le_trans z56 z57) z58) z59) (Nat.le_of_eq g60.symm))) rfl
        clear W64
        have z76 : h63.size ≤ h76.size := Nat.le_of_eq w76.size.symm
        have v76 : Arv Z h76 a60 k60 .char (6 : Int32) [(.int r53), (.int (92 : Int32)), (.int (0 : Int32)), (.int (0 : Int32)), (.int (0 : Int32)), (.int (0 : Int32))] (.int (0 : Int32)) := A76
        replace W76 := W76.iload (pc' := 173) at_171 rfl rfl
        replace W76 := W76.iconst (pc' := 174) (v := (1 : Int32)) at_173 rfl rfl
        replace W76 := W76.iadd (pc' := 175) (v := (2 : Int32)) at_174 (by decide) rfl
        replace W76 := W76.istore (pc' := 177) (L' := #[.val (.int p0), .val (.int p1), .val (.int p2), .val (.int p3), .val (.int (3 : Int32)), .val (.int r53), .val (.int r54), .val (.int r55), .val (.ref a56), .val (.ref a60), .val (.int (2 : Int32)), .unset]) at_175 rfl rfl
        replace W76 := W76.aload (pc' := 179) at_177 rfl rfl rfl
        replace W76 := W76.iload (pc' := 181) at_179 rfl rfl
        replace W76 := W76.iload (pc' := 183) at_181 rfl rfl
        obtain ⟨h77, W77, w77, A77, SF77⟩ := W76.castore (pc' := 184) (i := 2) (x' := r54) at_183 v76 ⟨by decide, by decide⟩ rfl (by show 2 < 6; decide) (own_narc q54_2) (W76.safeA v76 (by decide)) (Or.inr (Nat.le_trans (Nat.le_trans (Nat.le_trans (Nat.le_trans z56 z57) z58) z59) (Nat.le_of_eq g60.symm))) rfl
        clear W76
        have z77 : h76.size ≤ h77.size := Nat.le_of_eq w77.size.symm
        have v77 : Arv Z h77 a60 k60 .char (6 : Int32) [(.int r53), (.int (92 : Int32)), (.int r54), (.int (0 : Int32)), (.int (0 : Int32)), (.int (0 : Int32))] (.int (0 : Int32)) := A77
        replace W77 := W77.iload (pc' := 186) at_184 rfl rfl
        replace W77 := W77.iconst (pc' := 187) (v := (1 : Int32)) at_186 rfl rfl
        replace W77 := W77.iadd (pc' := 188) (v := (3 : Int32)) at_187 (by decide) rfl
        replace W77 := W77.istore (pc' := 190) (L' := #[.val (.int p0), .val (.int p1), .val (.int p2), .val (.int p3), .val (.int (3 : Int32)), .val (.int r53), .val (.int r54), .val (.int r55), .val (.ref a56), .val (.ref a60), .val (.int (3 : Int32)), .unset]) at_188 rfl rfl
        replace W77 := W77.iload (pc' := 192) at_190 rfl rfl
        replace W77 := W77.iconst (pc' := 193) (v := (2 : Int32)) at_192 rfl rfl
        replace W77 := W77.icmpF (pc' := 196) at_193 (tlt (by decide : (2 : Int32) < (3 : Int32))).2.2.2 rfl
        replace W77 := W77.iload (pc' := 198) at_196 rfl rfl
        obtain ⟨V78, h78, r78, W78, K78, hQ78, SF78⟩ := W77.callS (pc' := 201) (argsL := [(.int r55)]) (rest := []) (Wd := 0) (cells' := 2) (slots' := 9) (y := (⟨"com/example/input_under_constraint/inputunderconstraint/MessageTemplateLiteralPinLaw", "esc", "(C)Z"⟩ : MethodName)) at_198 (esc_c l Z a0 n0 hw hEL G1 O1 P1 O_as O_hi O_lo G3 O3 rG3 r55 h77 W77.old) (tw110 hw) (tw111 hw) (tw3 hw) (tw112 hw) (by decide) (lenOf pd22 rfl) rfl rfl (by decide) (by decide) rfl sf0 all0 rfl rfl rfl (by decide) (by decide)
        clear W77
        obtain ⟨rfl, hs78⟩ := hQ78
        subst hs78
        replace W78 := W78.cast (st' := [(.int (escf r55))]) rfl
        by_cases hc79 : (escf r55) = (0 : Int32)
        · replace W78 := W78.ifT (pc' := 217) at_201 (teq hc79).1 (by decide) (by decide)
          replace W78 := W78.aload (pc' := 219) at_217 rfl rfl rfl
          replace W78 := W78.iload (pc' := 221) at_219 rfl rfl
          replace W78 := W78.iload (pc' := 223) at_221 rfl rfl
          obtain ⟨h80, W80, w80, A80, SF80⟩ := W78.castore (pc' := 224) (i := 3) (x' := r55) at_223 v77 ⟨by decide, by decide⟩ rfl (by show 3 < 6; decide) (own_narc q55_2) (W78.safeA v77 (by decide)) (Or.inr (Nat.le_trans (Nat.le_trans (Nat.le_trans (Nat.le_trans z56 z57) z58) z59) (Nat.le_of_eq g60.symm))) rfl
          clear W78
          have z80 : h77.size ≤ h80.size := Nat.le_of_eq w80.size.symm
          have v80 : Arv Z h80 a60 k60 .char (6 : Int32) [(.int r53), (.int (92 : Int32)), (.int r54), (.int r55), (.int (0 : Int32)), (.int (0 : Int32))] (.int (0 : Int32)) := A80
          replace W80 := W80.iload (pc' := 226) at_224 rfl rfl
          replace W80 := W80.iconst (pc' := 227) (v := (1 : Int32)) at_226 rfl rfl
          replace W80 := W80.iadd (pc' := 228) (v := (4 : Int32)) at_227 (by decide) rfl
          replace W80 := W80.istore (pc' := 230) (L' := #[.val (.int p0), .val (.int p1), .val (.int p2), .val (.int p3), .val (.int (3 : Int32)), .val (.int r53), .val (.int r54), .val (.int r55), .val (.ref a56), .val (.ref a60), .val (.int (4 : Int32)), .unset]) at_228 rfl rfl
          have v82 := (((((v59.ext E60).other w63 (Nat.ne_of_lt (Nat.lt_of_lt_of_le v56.lt (Nat.le_trans (Nat.le_trans (Nat.le_trans z57 z58) z59) (Nat.le_of_eq g60.symm))))).other w76 (Nat.ne_of_lt (Nat.lt_of_lt_of_le v56.lt (Nat.le_trans (Nat.le_trans (Nat.le_trans z57 z58) z59) (Nat.le_of_eq g60.symm))))).other w77 (Nat.ne_of_lt (Nat.lt_of_lt_of_le v56.lt (Nat.le_trans (Nat.le_trans (Nat.le_trans z57 z58) z59) (Nat.le_of_eq g60.symm))))).other w80 (Nat.ne_of_lt (Nat.lt_of_lt_of_le v56.lt (Nat.le_trans (Nat.le_trans (Nat.le_trans z57 z58) z59) (Nat.le_of_eq g60.symm)))))
          have v81c : Arv Z h80 a56 k56 .char (Int32.ofNat 3) (lst 3 (gl [r53, r54, r55])) (.int (0 : Int32)) := v82
          have v81e : Arv Z h80 a60 k60 .char (Int32.ofNat 6) (lst 6 (gl [r53, (92 : Int32), r54, r55, (0 : Int32), (0 : Int32)])) (.int (0 : Int32)) := v80
          have hP81 : oT (gl [r53, r54, r55]) 3 = 4 := by simp [oT, gl, hc62, hc65, hc79]
          have he81 : ∀ j, j < oT (gl [r53, r54, r55]) 3 → (gl [r53, (92 : Int32), r54, r55, (0 : Int32), (0 : Int32)]) j = oF (gl [r53, r54, r55]) 3 j := by
            intro j hj
            rw [hP81] at hj
            rcases (by omega : j = 0 ∨ j = 1 ∨ j = 2 ∨ j = 3) with rfl | rfl | rfl | rfl <;> simp [oF, oT, upd, gl, hc62, hc65, hc79]
          replace W80 := W80.castL (L' := #[.val (.int p0), .val (.int p1), .val (.int p2), .val (.int p3), .val (.int (Int32.ofNat 3)), .val (.int r53), .val (.int r54), .val (.int r55), .val (.ref a56), .val (.ref a60), .val (.int (Int32.ofNat (oT (gl [r53, r54, r55]) 3))), .unset]) (by rw [hP81]; rfl)
          exact law_b l Z a0 n0 hw hEL G1 O1 P1 O_as O_hi O_lo G3 O3 rG3 p0 p1 p2 p3 r53 r54 r55 a56 k56 3 (gl [r53, r54, r55]) a60 k60 (gl [r53, (92 : Int32), r54, r55, (0 : Int32), (0 : Int32)]) p e s m below meth c S0 V78 h0 h80 hO v81c v81e (Nat.le_of_eq g56.symm) (Nat.le_trans (Nat.le_trans (Nat.le_trans (Nat.le_trans z56 z57) z58) z59) (Nat.le_of_eq g60.symm)) (by omega) (own_glc (own_allcS q53_2 (own_allcS q54_2 (own_allcS q55_2 own_allc0)))) he81 hnm W80
        · replace W78 := W78.ifF (pc' := 204) at_201 (feq hc79).1 rfl
          replace W78 := W78.aload (pc' := 206) at_204 rfl rfl rfl
          replace W78 := W78.iload (pc' := 208) at_206 rfl rfl
          replace W78 := W78.bipush (pc' := 210) (v := (92 : Int32)) at_208 rfl rfl
          obtain ⟨h83, W83, w83, A83, SF83⟩ := W78.castore (pc' := 211) (i := 3) (x' := (92 : Int32)) at_210 v77 ⟨by decide, by decide⟩ rfl (by show 3 < 6; decide) (by decide) (W78.safeA v77 (by decide)) (Or.inr (Nat.le_trans (Nat.le_trans (Nat.le_trans (Nat.le_trans z56 z57) z58) z59) (Nat.le_of_eq g60.symm))) rfl
          clear W78
          have z83 : h77.size ≤ h83.size := Nat.le_of_eq w83.size.symm
          have v83 : Arv Z h83 a60 k60 .char (6 : Int32) [(.int r53), (.int (92 : Int32)), (.int r54), (.int (92 : Int32)), (.int (0 : Int32)), (.int (0 : Int32))] (.int (0 : Int32)) := A83
          replace W83 := W83.iload (pc' := 213) at_211 rfl rfl
          replace W83 := W83.iconst (pc' := 214) (v := (1 : Int32)) at_213 rfl rfl
          replace W83 := W83.iadd (pc' := 215) (v := (4 : Int32)) at_214 (by decide) rfl
          replace W83 := W83.istore (pc' := 217) (L' := #[.val (.int p0), .val (.int p1), .val (.int p2), .val (.int p3), .val (.int (3 : Int32)), .val (.int r53), .val (.int r54), .val (.int r55), .val (.ref a56), .val (.ref a60), .val (.int (4 : Int32)), .unset]) at_215 rfl rfl
          replace W83 := W83.aload (pc' := 219) at_217 rfl rfl rfl
          replace W83 := W83.iload (pc' := 221) at_219 rfl rfl
          replace W83 := W83.iload (pc' := 223) at_221 rfl rfl
          obtain ⟨h84, W84, w84, A84, SF84⟩ := W83.castore (pc' := 224) (i := 4) (x' := r55) at_223 v83 ⟨by decide, by decide⟩ rfl (by show 4 < 6; decide) (own_narc q55_2) (W83.safeA v83 (by decide)) (Or.inr (Nat.le_trans (Nat.le_trans (Nat.le_trans (Nat.le_trans z56 z57) z58) z59) (Nat.le_of_eq g60.symm))) rfl
          clear W83
          have z84 : h83.size ≤ h84.size := Nat.le_of_eq w84.size.symm
          have v84 : Arv Z h84 a60 k60 .char (6 : Int32) [(.int r53), (.int (92 : Int32)), (.int r54), (.int (92 : Int32)), (.int r55), (.int (0 : Int32))] (.int (0 : Int32)) := A84
          replace W84 := W84.iload (pc' := 226) at_224 rfl rfl
          replace W84 := W84.iconst (pc' := 227) (v := (1 : Int32)) at_226 rfl rfl
          replace W84 := W84.iadd (pc' := 228) (v := (5 : Int32)) at_227 (by decide) rfl
          replace W84 := W84.istore (pc' := 230) (L' := #[.val (.int p0), .val (.int p1), .val (.int p2), .val (.int p3), .val (.int (3 : Int32)), .val (.int r53), .val (.int r54), .val (.int r55), .val (.ref a56), .val (.ref a60), .val (.int (5 : Int32)), .unset]) at_228 rfl rfl
          have v86 := ((((((v59.ext E60).other w63 (Nat.ne_of_lt (Nat.lt_of_lt_of_le v56.lt (Nat.le_trans (Nat.le_trans (Nat.le_trans z57 z58) z59) (Nat.le_of_eq g60.symm))))).other w76 (Nat.ne_of_lt (Nat.lt_of_lt_of_le v56.lt (Nat.le_trans (Nat.le_trans (Nat.le_trans z57 z58) z59) (Nat.le_of_eq g60.symm))))).other w77 (Nat.ne_of_lt (Nat.lt_of_lt_of_le v56.lt (Nat.le_trans (Nat.le_trans (Nat.le_trans z57 z58) z59) (Nat.le_of_eq g60.symm))))).other w83 (Nat.ne_of_lt (Nat.lt_of_lt_of_le v56.lt (Nat.le_trans (Nat.le_trans (Nat.le_trans z57 z58) z59) (Nat.le_of_eq g60.symm))))).other w84 (Nat.ne_of_lt (Nat.lt_of_lt_of_le v56.lt (Nat.le_trans (Nat.le_trans (Nat.le_trans z57 z58) z59) (Nat.le_of_eq g60.symm)))))
          have v85c : Arv Z h84 a56 k56 .char (Int32.ofNat 3) (lst 3 (gl [r53, r54, r55])) (.int (0 : Int32)) := v86
          have v85e : Arv Z h84 a60 k60 .char (Int32.ofNat 6) (lst 6 (gl [r53, (92 : Int32), r54, (92 : Int32), r55, (0 : Int32)])) (.int (0 : Int32)) := v84
          have hP85 : oT (gl [r53, r54, r55]) 3 = 5 := by simp [oT, gl, hc62, hc65, hc79]
          have he85 : ∀ j, j < oT (gl [r53, r54, r55]) 3 → (gl [r53, (92 : Int32), r54, (92 : Int32), r55, (0 : Int32)]) j = oF (gl [r53, r54, r55]) 3 j := by
            intro j hj
            rw [hP85] at hj
            rcases (by omega : j = 0 ∨ j = 1 ∨ j = 2 ∨ j = 3 ∨ j = 4) with rfl | rfl | rfl | rfl | rfl <;> simp [oF, oT, upd, gl, hc62, hc65, hc79]
          replace W84 := W84.castL (L' := #[.val (.int p0), .val (.int p1), .val (.int p2), .val (.int p3), .val (.int (Int32.ofNat 3)), .val (.int r53), .val (.int r54), .val (.int r55), .val (.ref a56), .val (.ref a60), .val (.int (Int32.ofNat (oT (gl [r53, r54, r55]) 3))), .unset]) (by rw [hP85]; rfl)
          exact law_b l Z a0 n0 hw hEL G1 O1 P1 O_as O_hi O_lo G3 O3 rG3 p0 p1 p2 p3 r53 r54 r55 a56 k56 3 (gl [r53, r54, r55]) a60 k60 (gl [r53, (92 : Int32), r54, (92 : Int32), r55, (0 : Int32)]) p e s m below meth c S0 V78 h0 h84 hO v85c v85e (Nat.le_of_eq g56.symm) (Nat.le_trans (Nat.le_trans (Nat.le_trans (Nat.le_trans z56 z57) z58) z59) (Nat.le_of_eq g60.symm)) (by omega) (own_glc (own_allcS q53_2 (own_allcS q54_2 (own_allcS q55_2 own_allc0)))) he85 hnm W84
    · replace W61 := W61.ifF (pc' := 124) at_121 (feq hc62).1 rfl
      replace W61 := W61.aload (pc' := 126) at_124 rfl rfl rfl
      replace W61 := W61.iload (pc' := 128) at_126 rfl rfl
      replace W61 := W61.bipush (pc' := 130) (v := (92 : Int32)) at_128 rfl rfl
      obtain ⟨h87, W87, w87, A87, SF87⟩ := W61.castore (pc' := 131) (i := 0) (x' := (92 : Int32)) at_130 v60 ⟨by decide, by decide⟩ rfl (by show 0 < 6; decide) (by decide) (W61.safeA v60 (by decide)) (Or.inr (Nat.le_trans (Nat.le_trans (Nat.le_trans (Nat.le_trans z56 z57) z58) z59) (Nat.le_of_eq g60.symm))) rfl
      clear W61
      have z87 : h60.size ≤ h87.size := Nat.le_of_eq w87.size.symm
      have v87 : Arv Z h87 a60 k60 .char (6 : Int32) [(.int (92 : Int32)), (.int (0 : Int32)), (.int (0 : Int32)), (.int (0 : Int32)), (.int (0 : Int32)), (.int (0 : Int32))] (.int (0 : Int32)) := A87
      replace W87 := W87.iload (pc' := 133) at_131 rfl rfl
      replace W87 := W87.iconst (pc' := 134) (v := (1 : Int32)) at_133 rfl rfl
      replace W87 := W87.iadd (pc' := 135) (v := (1 : Int32)) at_134 (by decide) rfl
      replace W87 := W87.istore (pc' := 137) (L' := #[.val (.int p0), .val (.int p1), .val (.int p2), .val (.int p3), .val (.int (3 : Int32)), .val (.int r53), .val (.int r54), .val (.int r55), .val (.ref a56), .val (.ref a60), .val (.int (1 : Int32)), .unset]) at_135 rfl rfl
      replace W87 := W87.aload (pc' := 139) at_137 rfl rfl rfl
      replace W87 := W87.iload (pc' := 141) at_139 rfl rfl
      replace W87 := W87.iload (pc' := 143) at_141 rfl rfl
      obtain ⟨h88, W88, w88, A88, SF88⟩ := W87.castore (pc' := 144) (i := 1) (x' := r53) at_143 v87 ⟨by decide, by decide⟩ rfl (by show 1 < 6; decide) (own_narc q53_2) (W87.safeA v87 (by decide)) (Or.inr (Nat.le_trans (Nat.le_trans (Nat.le_trans (Nat.le_trans z56 z57) z58) z59) (Nat.le_of_eq g60.symm))) rfl
      clear W87
      have z88 : h87.size ≤ h88.size := Nat.le_of_eq w88.size.symm
      have v88 : Arv Z h88 a60 k60 .char (6 : Int32) [(.int (92 : Int32)), (.int r53), (.int (0 : Int32)), (.int (0 : Int32)), (.int (0 : Int32)), (.int (0 : Int32))] (.int (0 : Int32)) := A88
      replace W88 := W88.iload (pc' := 146) at_144 rfl rfl
      replace W88 := W88.iconst (pc' := 147) (v := (1 : Int32)) at_146 rfl rfl
      replace W88 := W88.iadd (pc' := 148) (v := (2 : Int32)) at_147 (by decide) rfl
      replace W88 := W88.istore (pc' := 150) (L' := #[.val (.int p0), .val (.int p1), .val (.int p2), .val (.int p3), .val (.int (3 : Int32)), .val (.int r53), .val (.int r54), .val (.int r55), .val (.ref a56), .val (.ref a60), .val (.int (2 : Int32)), .unset]) at_148 rfl rfl
      replace W88 := W88.iload (pc' := 152) at_150 rfl rfl
      replace W88 := W88.iconst (pc' := 153) (v := (1 : Int32)) at_152 rfl rfl
      replace W88 := W88.icmpF (pc' := 156) at_153 (tlt (by decide : (1 : Int32) < (3 : Int32))).2.2.2 rfl
      replace W88 := W88.iload (pc' := 158) at_156 rfl rfl
      obtain ⟨V89, h89, r89, W89, K89, hQ89, SF89⟩ := W88.callS (pc' := 161) (argsL := [(.int r54)]) (rest := []) (Wd := 0) (cells' := 2) (slots' := 9) (y := (⟨"com/example/input_under_constraint/inputunderconstraint/MessageTemplateLiteralPinLaw", "esc", "(C)Z"⟩ : MethodName)) at_158 (esc_c l Z a0 n0 hw hEL G1 O1 P1 O_as O_hi O_lo G3 O3 rG3 r54 h88 W88.old) (tw110 hw) (tw111 hw) (tw3 hw) (tw112 hw) (by decide) (lenOf pd22 rfl) rfl rfl (by decide) (by decide) rfl sf0 all0 rfl rfl rfl (by decide) (by decide)
      clear W88
      obtain ⟨rfl, hs89⟩ := hQ89
      subst hs89
      replace W89 := W89.cast (st' := [(.int (escf r54))]) rfl
      by_cases hc90 : (escf r54) = (0 : Int32)
      · replace W89 := W89.ifT (pc' := 177) at_161 (teq hc90).1 (by decide) (by decide)
        replace W89 := W89.aload (pc' := 179) at_177 rfl rfl rfl
        replace W89 := W89.iload (pc' := 181) at_179 rfl rfl
        replace W89 := W89.iload (pc' := 183) at_181 rfl rfl
        obtain ⟨h91, W91, w91, A91, SF91⟩ := W89.castore (pc' := 184) (i := 2) (x' := r54) at_183 v88 ⟨by decide, by decide⟩ rfl (by show 2 < 6; decide) (own_narc q54_2) (W89.safeA v88 (by decide)) (Or.inr (Nat.le_trans (Nat.le_trans (Nat.le_trans (Nat.le_trans z56 z57) z58) z59) (Nat.le_of_eq g60.symm))) rfl
        clear W89
        have z91 : h88.size ≤ h91.size := Nat.le_of_eq w91.size.symm
        have v91 : Arv Z h91 a60 k60 .char (6 : Int32) [(.int (92 : Int32)), (.int r53), (.int r54), (.int (0 : Int32)), (.int (0 : Int32)), (.int (0 : Int32))] (.int (0 : Int32)) := A91
        replace W91 := W91.iload (pc' := 186) at_184 rfl rfl
        replace W91 := W91.iconst (pc' := 187) (v := (1 : Int32)) at_186 rfl rfl
        replace W91 := W91.iadd (pc' := 188) (v := (3 : Int32)) at_187 (by decide) rfl
        replace W91 := W91.istore (pc' := 190) (L' := #[.val (.int p0), .val (.int p1), .val (.int p2), .val (.int p3), .val (.int (3 : Int32)), .val (.int r53), .val (.int r54), .val (.int r55), .val (.ref a56), .val (.ref a60), .val (.int (3 : Int32)), .unset]) at_188 rfl rfl
        replace W91 := W91.iload (pc' := 192) at_190 rfl rfl
        replace W91 := W91.iconst (pc' := 193) (v := (2 : Int32)) at_192 rfl rfl
        replace W91 := W91.icmpF (pc' := 196) at_193 (tlt (by decide : (2 : Int32) < (3 : Int32))).2.2.2 rfl
        replace W91 := W91.iload (pc' := 198) at_196 rfl rfl
        obtain ⟨V92, h92, r92, W92, K92, hQ92, SF92⟩ := W91.callS (pc' := 201) (argsL := [(.int r55)]) (rest := []) (Wd := 0) (cells' := 2) (slots' := 9) (y := (⟨"com/example/input_under_constraint/inputunderconstraint/MessageTemplateLiteralPinLaw", "esc", "(C)Z"⟩ : MethodName)) at_198 (esc_c l Z a0 n0 hw hEL G1 O1 P1 O_as O_hi O_lo G3 O3 rG3 r55 h91 W91.old) (tw110 hw) (tw111 hw) (tw3 hw) (tw112 hw) (by decide) (lenOf pd22 rfl) rfl rfl (by decide) (by decide) rfl sf0 all0 rfl rfl rfl (by decide) (by decide)
        clear W91
        obtain ⟨rfl, hs92⟩ := hQ92
        subst hs92
        replace W92 := W92.cast (st' := [(.int (escf r55))]) rfl
        by_cases hc93 : (escf r55) = (0 : Int32)
        · replace W92 := W92.ifT (pc' := 217) at_201 (teq hc93).1 (by decide) (by decide)
          replace W92 := W92.aload (pc' := 219) at_217 rfl rfl rfl
          replace W92 := W92.iload (pc' := 221) at_219 rfl rfl
          replace W92 := W92.iload (pc' := 223) at_221 rfl rfl
          obtain ⟨h94, W94, w94, A94, SF94⟩ := W92.castore (pc' := 224) (i := 3) (x' := r55) at_223 v91 ⟨by decide, by decide⟩ rfl (by show 3 < 6; decide) (own_narc q55_2) (W92.safeA v91 (by decide)) (Or.inr (Nat.le_trans (Nat.le_trans (Nat.le_trans (Nat.le_trans z56 z57) z58) z59) (Nat.le_of_eq g60.symm))) rfl
          clear W92
          have z94 : h91.size ≤ h94.size := Nat.le_of_eq w94.size.symm
          have v94 : Arv Z h94 a60 k60 .char (6 : Int32) [(.int (92 : Int32)), (.int r53), (.int r54), (.int r55), (.int (0 : Int32)), (.int (0 : Int32))] (.int (0 : Int32)) := A94
          replace W94 := W94.iload (pc' := 226) at_224 rfl rfl
          replace W94 := W94.iconst (pc' := 227) (v := (1 : Int32)) at_226 rfl rfl
          replace W94 := W94.iadd (pc' := 228) (v := (4 : Int32)) at_227 (by decide) rfl
          replace W94 := W94.istore (pc' := 230) (L' := #[.val (.int p0), .val (.int p1), .val (.int p2), .val (.int p3), .val (.int (3 : Int32)), .val (.int r53), .val (.int r54), .val (.int r55), .val (.ref a56), .val (.ref a60), .val (.int (4 : Int32)), .unset]) at_228 rfl rfl
          have v96 := (((((v59.ext E60).other w87 (Nat.ne_of_lt (Nat.lt_of_lt_of_le v56.lt (Nat.le_trans (Nat.le_trans (Nat.le_trans z57 z58) z59) (Nat.le_of_eq g60.symm))))).other w88 (Nat.ne_of_lt (Nat.lt_of_lt_of_le v56.lt (Nat.le_trans (Nat.le_trans (Nat.le_trans z57 z58) z59) (Nat.le_of_eq g60.symm))))).other w91 (Nat.ne_of_lt (Nat.lt_of_lt_of_le v56.lt (Nat.le_trans (Nat.le_trans (Nat.le_trans z57 z58) z59) (Nat.le_of_eq g60.symm))))).other w94 (Nat.ne_of_lt (Nat.lt_of_lt_of_le v56.lt (Nat.le_trans (Nat.le_trans (Nat.le_trans z57 z58) z59) (Nat.le_of_eq g60.symm)))))
          have v95c : Arv Z h94 a56 k56 .char (Int32.ofNat 3) (lst 3 (gl [r53, r54, r55])) (.int (0 : Int32)) := v96
          have v95e : Arv Z h94 a60 k60 .char (Int32.ofNat 6) (lst 6 (gl [(92 : Int32), r53, r54, r55, (0 : Int32), (0 : Int32)])) (.int (0 : Int32)) := v94
          have hP95 : oT (gl [r53, r54, r55]) 3 = 4 := by simp [oT, gl, hc62, hc90, hc93]
          have he95 : ∀ j, j < oT (gl [r53, r54, r55]) 3 → (gl [(92 : Int32), r53, r54, r55, (0 : Int32), (0 : Int32)]) j = oF (gl [r53, r54, r55]) 3 j := by
            intro j hj
            rw [hP95] at hj
            rcases (by omega : j = 0 ∨ j = 1 ∨ j = 2 ∨ j = 3) with rfl | rfl | rfl | rfl <;> simp [oF, oT, upd, gl, hc62, hc90, hc93]
          replace W94 := W94.castL (L' := #[.val (.int p0), .val (.int p1), .val (.int p2), .val (.int p3), .val (.int (Int32.ofNat 3)), .val (.int r53), .val (.int r54), .val (.int r55), .val (.ref a56), .val (.ref a60), .val (.int (Int32.ofNat (oT (gl [r53, r54, r55]) 3))), .unset]) (by rw [hP95]; rfl)
          exact law_b l Z a0 n0 hw hEL G1 O1 P1 O_as O_hi O_lo G3 O3 rG3 p0 p1 p2 p3 r53 r54 r55 a56 k56 3 (gl [r53, r54, r55]) a60 k60 (gl [(92 : Int32), r53, r54, r55, (0 : Int32), (0 : Int32)]) p e s m below meth c S0 V92 h0 h94 hO v95c v95e (Nat.le_of_eq g56.symm) (Nat.le_trans (Nat.le_trans (Nat.le_trans (Nat.le_trans z56 z57) z58) z59) (Nat.le_of_eq g60.symm)) (by omega) (own_glc (own_allcS q53_2 (own_allcS q54_2 (own_allcS q55_2 own_allc0)))) he95 hnm W94
        · replace W92 := W92.ifF (pc' := 204) at_201 (feq hc93).1 rfl
          replace W92 := W92.aload (pc' := 206) at_204 rfl rfl rfl
          replace W92 := W92.iload (pc' := 208) at_206 rfl rfl
          replace W92 := W92.bipush (pc' := 210) (v := (92 : Int32)) at_208 rfl rfl
          obtain ⟨h97, W97, w97, A97, SF97⟩ := W92.castore (pc' := 211) (i := 3) (x' := (92 : Int32)) at_210 v91 ⟨by decide, by decide⟩ rfl (by show 3 < 6; decide) (by decide) (W92.safeA v91 (by decide)) (Or.inr (Nat.le_trans (Nat.le_trans (Nat.le_trans (Nat.le_trans z56 z57) z58) z59) (Nat.le_of_eq g60.symm))) rfl
          clear W92
          have z97 : h91.size ≤ h97.size := Nat.le_of_eq w97.size.symm
          have v97 : Arv Z h97 a60 k60 .char (6 : Int32) [(.int (92 : Int32)), (.int r53), (.int r54), (.int (92 : Int32)), (.int (0 : Int32)), (.int (0 : Int32))] (.int (0 : Int32)) := A97
          replace W97 := W97.iload (pc' := 213) at_211 rfl rfl
          replace W97 := W97.iconst (pc' := 214) (v := (1 : Int32)) at_213 rfl rfl
          replace W97 := W97.iadd (pc' := 215) (v := (4 : Int32)) at_214 (by decide) rfl
          replace W97 := W97.istore (pc' := 217) (L' := #[.val (.int p0), .val (.int p1), .val (.int p2), .val (.int p3), .val (.int (3 : Int32)), .val (.int r53), .val (.int r54), .val (.int r55), .val (.ref a56), .val (.ref a60), .val (.int (4 : Int32)), .unset]) at_215 rfl rfl
          replace W97 := W97.aload (pc' := 219) at_217 rfl rfl rfl
          replace W97 := W97.iload (pc' := 221) at_219 rfl rfl
          replace W97 := W97.iload (pc' := 223) at_221 rfl rfl
          obtain ⟨h98, W98, w98, A98, SF98⟩ := W97.castore (pc' := 224) (i := 4) (x' := r55) at_223 v97 ⟨by decide, by decide⟩ rfl (by show 4 < 6; decide) (own_narc q55_2) (W97.safeA v97 (by decide)) (Or.inr (Nat.le_trans (Nat.le_trans (Nat.le_trans (Nat.le_trans z56 z57) z58) z59) (Nat.le_of_eq g60.symm))) rfl
          clear W97
          have z98 : h97.size ≤ h98.size := Nat.le_of_eq w98.size.symm
          have v98 : Arv Z h98 a60 k60 .char (6 : Int32) [(.int (92 : Int32)), (.int r53), (.int r54), (.int (92 : Int32)), (.int r55), (.int (0 : Int32))] (.int (0 : Int32)) := A98
          replace W98 := W98.iload (pc' := 226) at_224 rfl rfl
          replace W98 := W98.iconst (pc' := 227) (v := (1 : Int32)) at_226 rfl rfl
          replace W98 := W98.iadd (pc' := 228) (v := (5 : Int32)) at_227 (by decide) rfl
          replace W98 := W98.istore (pc' := 230) (L' := #[.val (.int p0), .val (.int p1), .val (.int p2), .val (.int p3), .val (.int (3 : Int32)), .val (.int r53), .val (.int r54), .val (.int r55), .val (.ref a56), .val (.ref a60), .val (.int (5 : Int32)), .unset]) at_228 rfl rfl
          have v100 := ((((((v59.ext E60).other w87 (Nat.ne_of_lt (Nat.lt_of_lt_of_le v56.lt (Nat.le_trans (Nat.le_trans (Nat.le_trans z57 z58) z59) (Nat.le_of_eq g60.symm))))).other w88 (Nat.ne_of_lt (Nat.lt_of_lt_of_le v56.lt (Nat.le_trans (Nat.le_trans (Nat.le_trans z57 z58) z59) (Nat.le_of_eq g60.symm))))).other w91 (Nat.ne_of_lt (Nat.lt_of_lt_of_le v56.lt (Nat.le_trans (Nat.le_trans (Nat.le_trans z57 z58) z59) (Nat.le_of_eq g60.symm))))).other w97 (Nat.ne_of_lt (Nat.lt_of_lt_of_le v56.lt (Nat.le_trans (Nat.le_trans (Nat.le_trans z57 z58) z59) (Nat.le_of_eq g60.symm))))).other w98 (Nat.ne_of_lt (Nat.lt_of_lt_of_le v56.lt (Nat.le_trans (Nat.le_trans (Nat.le_trans z57 z58) z59) (Nat.le_of_eq g60.symm)))))
          have v99c : Arv Z h98 a56 k56 .char (Int32.ofNat 3) (lst 3 (gl [r53, r54, r55])) (.int (0 : Int32)) := v100
          have v99e : Arv Z h98 a60 k60 .char (Int32.ofNat 6) (lst 6 (gl [(92 : Int32), r53, r54, (92 : Int32), r55, (0 : Int32)])) (.int (0 : Int32)) := v98
          have hP99 : oT (gl [r53, r54, r55]) 3 = 5 := by simp [oT, gl, hc62, hc90, hc93]
          have he99 : ∀ j, j < oT (gl [r53, r54, r55]) 3 → (gl [(92 : Int32), r53, r54, (92 : Int32), r55, (0 : Int32)]) j = oF (gl [r53, r54, r55]) 3 j := by
            intro j hj
            rw [hP99] at hj
            rcases (by omega : j = 0 ∨ j = 1 ∨ j = 2 ∨ j = 3 ∨ j = 4) with rfl | rfl | rfl | rfl | rfl <;> simp [oF, oT, upd, gl, hc62, hc90, hc93]
          replace W98 := W98.castL (L' := #[.val (.int p0), .val (.int p1), .val (.int p2), .val (.int p3), .val (.int (Int32.ofNat 3)), .val (.int r53), .val (.int r54), .val (.int r55), .val (.ref a56), .val (.ref a60), .val (.int (Int32.ofNat (oT (gl [r53, r54, r55]) 3))), .unset]) (by rw [hP99]; rfl)
          exact law_b l Z a0 n0 hw hEL G1 O1 P1 O_as O_hi O_lo G3 O3 rG3 p0 p1 p2 p3 r53 r54 r55 a56 k56 3 (gl [r53, r54, r55]) a60 k60 (gl [(92 : Int32), r53, r54, (92 : Int32), r55, (0 : Int32)]) p e s m below meth c S0 V92 h0 h98 hO v99c v99e (Nat.le_of_eq g56.symm) (Nat.le_trans (Nat.le_trans (Nat.le_trans (Nat.le_trans z56 z57) z58) z59) (Nat.le_of_eq g60.symm)) (by omega) (own_glc (own_allcS q53_2 (own_allcS q54_2 (own_allcS q55_2 own_allc0)))) he99 hnm W98
      · replace W89 := W89.ifF (pc' := 164) at_161 (feq hc90).1 rfl
        replace W89 := W89.aload (pc' := 166) at_164 rfl rfl rfl
        replace W89 := W89.iload (pc' := 168) at_166 rfl rfl
        replace W89 := W89.bipush (pc' := 170) (v := (92 : Int32)) at_168 rfl rfl
        obtain ⟨h101, W101, w101, A101, SF101⟩ := W89.castore (pc' := 171) (i := 2) (x' := (92 : Int32)) at_170 v88 ⟨by decide, by decide⟩ rfl (by show 2 < 6; decide) (by decide) (W89.safeA v88 (by decide)) (Or.inr (Nat.le_trans (Nat.le_trans (Nat.le_trans (Nat.le_trans z56 z57) z58) z59) (Nat.le_of_eq g60.symm))) rfl
        clear W89
        have z101 : h88.size ≤ h101.size := Nat.le_of_eq w101.size.symm
        have v101 : Arv Z h101 a60 k60 .char (6 : Int32) [(.int (92 : Int32)), (.int r53), (.int (92 : Int32)), (.int (0 : Int32)), (.int (0 : Int32)), (.int (0 : Int32))] (.int (0 : Int32)) := A101
        replace W101 := W101.iload (pc' := 173) at_171 rfl rfl
        replace W101 := W101.iconst (pc' := 174) (v := (1 : Int32)) at_173 rfl rfl
        replace W101 := W101.iadd (pc' := 175) (v := (3 : Int32)) at_174 (by decide) rfl
        replace W101 := W101.istore (pc' := 177) (L' := #[.val (.int p0), .val (.int p1), .val (.int p2), .val (.int p3), .val (.int (3 : Int32)), .val (.int r53), .val (.int r54), .val (.int r55), .val (.ref a56), .val (.ref a60), .val (.int (3 : Int32)), .unset]) at_175 rfl rfl
        replace W101 := W101.aload (pc' := 179) at_177 rfl rfl rfl
        replace W101 := W101.iload (pc' := 181) at_179 rfl rfl
        replace W101 := W101.iload (pc' := 183) at_181 rfl rfl
        obtain ⟨h102, W102, w102, A102, SF102⟩ := W101.castore (pc' := 184) (i := 3) (x' := r54) at_183 v101 ⟨by decide, by decide⟩ rfl (by show 3 < 6; decide) (own_narc q54_2) (W101.safeA v101 (by decide)) (Or.inr (Nat.le_trans (Nat.le_trans (Nat.le_trans (Nat.le_trans z56 z57) z58) z59) (Nat.le_of_eq g60.symm))) rfl
        clear W101
        have z102 : h101.size ≤ h102.size := Nat.le_of_eq w102.size.symm
        have v102 : Arv Z h102 a60 k60 .char (6 : Int32) [(.int (92 : Int32)), (.int r53), (.int (92 : Int32)), (.int r54), (.int (0 : Int32)), (.int (0 : Int32))] (.int (0 : Int32)) := A102
        replace W102 := W102.iload (pc' := 186) at_184 rfl rfl
        replace W102 := W102.iconst (pc' := 187) (v := (1 : Int32)) at_186 rfl rfl
        replace W102 := W102.iadd (pc' := 188) (v := (4 : Int32)) at_187 (by decide) rfl
        replace W102 := W102.istore (pc' := 190) (L' := #[.val (.int p0), .val (.int p1), .val (.int p2), .val (.int p3), .val (.int (3 : Int32)), .val (.int r53), .val (.int r54), .val (.int r55), .val (.ref a56), .val (.ref a60), .val (.int (4 : Int32)), .unset]) at_188 rfl rfl
        replace W102 := W102.iload (pc' := 192) at_190 rfl rfl
        replace W102 := W102.iconst (pc' := 193) (v := (2 : Int32)) at_192 rfl rfl
        replace W102 := W102.icmpF (pc' := 196) at_193 (tlt (by decide : (2 : Int32) < (3 : Int32))).2.2.2 rfl
        replace W102 := W102.iload (pc' := 198) at_196 rfl rfl
        obtain ⟨V103, h103, r103, W103, K103, hQ103, SF103⟩ := W102.callS (pc' := 201) (argsL := [(.int r55)]) (rest := []) (Wd := 0) (cells' := 2) (slots' := 9) (y := (⟨"com/example/input_under_constraint/inputunderconstraint/MessageTemplateLiteralPinLaw", "esc", "(C)Z"⟩ : MethodName)) at_198 (esc_c l Z a0 n0 hw hEL G1 O1 P1 O_as O_hi O_lo G3 O3 rG3 r55 h102 W102.old) (tw110 hw) (tw111 hw) (tw3 hw) (tw112 hw) (by decide) (lenOf pd22 rfl) rfl rfl (by decide) (by decide) rfl sf0 all0 rfl rfl rfl (by decide) (by decide)
        clear W102
        obtain ⟨rfl, hs103⟩ := hQ103
        subst hs103
        replace W103 := W103.cast (st' := [(.int (escf r55))]) rfl
        by_cases hc104 : (escf r55) = (0 : Int32)
        · replace W103 := W103.ifT (pc' := 217) at_201 (teq hc104).1 (by decide) (by decide)
          replace W103 := W103.aload (pc' := 219) at_217 rfl rfl rfl
          replace W103 := W103.iload (pc' := 221) at_219 rfl rfl
          replace W103 := W103.iload (pc' := 223) at_221 rfl rfl
          obtain ⟨h105, W105, w105, A105, SF105⟩ := W103.castore (pc' := 224) (i := 4) (x' := r55) at_223 v102 ⟨by decide, by decide⟩ rfl (by show 4 < 6; decide) (own_narc q55_2) (W103.safeA v102 (by decide)) (Or.inr (Nat.le_trans (Nat.le_trans (Nat.le_trans (Nat.le_trans z56 z57) z58) z59) (Nat.le_of_eq g60.symm))) rfl
          clear W103
          have z105 : h102.size ≤ h105.size := Nat.le_of_eq w105.size.symm
          have v105 : Arv Z h105 a60 k60 .char (6 : Int32) [(.int (92 : Int32)), (.int r53), (.int (92 : Int32)), (.int r54), (.int r55), (.int (0 : Int32))] (.int (0 : Int32)) := A105
          replace W105 := W105.iload (pc' := 226) at_224 rfl rfl
          replace W105 := W105.iconst (pc' := 227) (v := (1 : Int32)) at_226 rfl rfl
          replace W105 := W105.iadd (pc' := 228) (v := (5 : Int32)) at_227 (by decide) rfl
          replace W105 := W105.istore (pc' := 230) (L' := #[.val (.int p0), .val (.int p1), .val (.int p2), .val (.int p3), .val (.int (3 : Int32)), .val (.int r53), .val (.int r54), .val (.int r55), .val (.ref a56), .val (.ref a60), .val (.int (5 : Int32)), .unset]) at_228 rfl rfl
          have v107 := ((((((v59.ext E60).other w87 (Nat.ne_of_lt (Nat.lt_of_lt_of_le v56.lt (Nat.le_trans (Nat.le_trans (Nat.le_trans z57 z58) z59) (Nat.le_of_eq g60.symm))))).other w88 (Nat.ne_of_lt (Nat.lt_of_lt_of_le v56.lt (Nat.le_trans (Nat.le_trans (Nat.le_trans z57 z58) z59) (Nat.le_of_eq g60.symm))))).other w101 (Nat.ne_of_lt (Nat.lt_of_lt_of_le v56.lt (Nat.le_trans (Nat.le_trans (Nat.le_trans z57 z58) z59) (Nat.le_of_eq g60.symm))))).other w102 (Nat.ne_of_lt (Nat.lt_of_lt_of_le v56.lt (Nat.le_trans (Nat.le_trans (Nat.le_trans z57 z58) z59) (Nat.le_of_eq g60.symm))))).other w105 (Nat.ne_of_lt (Nat.lt_of_lt_of_le v56.lt (Nat.le_trans (Nat.le_trans (Nat.le_trans z57 z58) z59) (Nat.le_of_eq g60.symm)))))
          have v106c : Arv Z h105 a56 k56 .char (Int32.ofNat 3) (lst 3 (gl [r53, r54, r55])) (.int (0 : Int32)) := v107
          have v106e : Arv Z h105 a60 k60 .char (Int32.ofNat 6) (lst 6 (gl [(92 : Int32), r53, (92 : Int32), r54, r55, (0 : Int32)])) (.int (0 : Int32)) := v105
          have hP106 : oT (gl [r53, r54, r55]) 3 = 5 := by simp [oT, gl, hc62, hc90, hc104]
          have he106 : ∀ j, j < oT (gl [r53, r54, r55]) 3 → (gl [(92 : Int32), r53, (92 : Int32), r54, r55, (0 : Int32)]) j = oF (gl [r53, r54, r55]) 3 j := by
            intro j hj
            rw [hP106] at hj
            rcases (by omega : j = 0 ∨ j = 1 ∨ j = 2 ∨ j = 3 ∨ j = 4) with rfl | rfl | rfl | rfl | rfl <;> simp [oF, oT, upd, gl, hc62, hc90, hc104]
          replace W105 := W105.castL (L' := #[.val (.int p0), .val (.int p1), .val (.int p2), .val (.int p3), .val (.int (Int32.ofNat 3)), .val (.int r53), .val (.int r54), .val (.int r55), .val (.ref a56), .val (.ref a60), .val (.int (Int32.ofNat (oT (gl [r53, r54, r55]) 3))), .unset]) (by rw [hP106]; rfl)
          exact law_b l Z a0 n0 hw hEL G1 O1 P1 O_as O_hi O_lo G3 O3 rG3 p0 p1 p2 p3 r53 r54 r55 a56 k56 3 (gl [r53, r54, r55]) a60 k60 (gl [(92 : Int32), r53, (92 : Int32), r54, r55, (0 : Int32)]) p e s m below meth c S0 V103 h0 h105 hO v106c v106e (Nat.le_of_eq g56.symm) (Nat.le_trans (Nat.le_trans (Nat.le_trans (Nat.le_trans z56 z57) z58) z59) (Nat.le_of_eq g60.symm)) (by omega) (own_glc (own_allcS q53_2 (own_allcS q54_2 (own_allcS q55_2 own_allc0)))) he106 hnm W105
        · replace W103 := W103.ifF (pc' := 204) at_201 (feq hc104).1 rfl
          replace W103 := W103.aload (pc' := 206) at_204 rfl rfl rfl
          replace W103 := W103.iload (pc' := 208) at_206 rfl rfl
          replace W103 := W103.bipush (pc' := 210) (v := (92 : Int32)) at_208 rfl rfl
          obtain ⟨h108, W108, w108, A108, SF108⟩ := W103.castore (pc' := 211) (i := 4) (x' := (92 : Int32)) at_210 v102 ⟨by decide, by decide⟩ rfl (by show 4 < 6; decide) (by decide) (W103.safeA v102 (by decide)) (Or.inr (Nat.le_trans (Nat.le_trans (Nat.le_trans (Nat.le_trans z56 z57) z58) z59) (Nat.le_of_eq g60.symm))) rfl
          clear W103
          have z108 : h102.size ≤ h108.size := Nat.le_of_eq w108.size.symm
          have v108 : Arv Z h108 a60 k60 .char (6 : Int32) [(.int (92 : Int32)), (.int r53), (.int (92 : Int32)), (.int r54), (.int (92 : Int32)), (.int (0 : Int32))] (.int (0 : Int32)) := A108
          replace W108 := W108.iload (pc' := 213) at_211 rfl rfl
          replace W108 := W108.iconst (pc' := 214) (v := (1 : Int32)) at_213 rfl rfl
          replace W108 := W108.iadd (pc' := 215) (v := (5 : Int32)) at_214 (by decide) rfl
          replace W108 := W108.istore (pc' := 217) (L' := #[.val (.int p0), .val (.int p1), .val (.int p2), .val (.int p3), .val (.int (3 : Int32)), .val (.int r53), .val (.int r54), .val (.int r55), .val (.ref a56), .val (.ref a60), .val (.int (5 : Int32)), .unset]) at_215 rfl rfl
          replace W108 := W108.aload (pc' := 219) at_217 rfl rfl rfl
          replace W108 := W108.iload (pc' := 221) at_219 rfl rfl
          replace W108 := W108.iload (pc' := 223) at_221 rfl rfl
          obtain ⟨h109, W109, w109, A109, SF109⟩ := W108.castore (pc' := 224) (i := 5) (x' := r55) at_223 v108 ⟨by decide, by decide⟩ rfl (by show 5 < 6; decide) (own_narc q55_2) (W108.safeA v108 (by decide)) (Or.inr (Nat.le_trans (Nat.le_trans (Nat.le_trans (Nat.le_trans z56 z57) z58) z59) (Nat.le_of_eq g60.symm))) rfl
          clear W108
          have z109 : h108.size ≤ h109.size := Nat.le_of_eq w109.size.symm
          have v109 : Arv Z h109 a60 k60 .char (6 : Int32) [(.int (92 : Int32)), (.int r53), (.int (92 : Int32)), (.int r54), (.int (92 : Int32)), (.int r55)] (.int (0 : Int32)) := A109
          replace W109 := W109.iload (pc' := 226) at_224 rfl rfl
          replace W109 := W109.iconst (pc' := 227) (v := (1 : Int32)) at_226 rfl rfl
          replace W109 := W109.iadd (pc' := 228) (v := (6 : Int32)) at_227 (by decide) rfl
          replace W109 := W109.istore (pc' := 230) (L' := #[.val (.int p0), .val (.int p1), .val (.int p2), .val (.int p3), .val (.int (3 : Int32)), .val (.int r53), .val (.int r54), .val (.int r55), .val (.ref a56), .val (.ref a60), .val (.int (6 : Int32)), .unset]) at_228 rfl rfl
          have v111 := (((((((v59.ext E60).other w87 (Nat.ne_of_lt (Nat.lt_of_lt_of_le v56.lt (Nat.le_trans (Nat.le_trans (Nat.le_trans z57 z58) z59) (Nat.le_of_eq g60.symm))))).other w88 (Nat.ne_of_lt (Nat.lt_of_lt_of_le v56.lt (Nat.le_trans (Nat.le_trans (Nat.le_trans z57 z58) z59) (Nat.le_of_eq g60.symm))))).other w101 (Nat.ne_of_lt (Nat.lt_of_lt_of_le v56.lt (Nat.le_trans (Nat.le_trans (Nat.le_trans z57 z58) z59) (Nat.le_of_eq g60.symm))))).other w102 (Nat.ne_of_lt (Nat.lt_of_lt_of_le v56.lt (Nat.le_trans (Nat.le_trans (Nat.le_trans z57 z58) z59) (Nat.le_of_eq g60.symm))))).other w108 (Nat.ne_of_lt (Nat.lt_of_lt_of_le v56.lt (Nat.le_trans (Nat.le_trans (Nat.le_trans z57 z58) z59) (Nat.le_of_eq g60.symm))))).other w109 (Nat.ne_of_lt (Nat.lt_of_lt_of_le v56.lt (Nat.le_trans (Nat.le_trans (Nat.le_trans z57 z58) z59) (Nat.le_of_eq g60.symm)))))
          have v110c : Arv Z h109 a56 k56 .char (Int32.ofNat 3) (lst 3 (gl [r53, r54, r55])) (.int (0 : Int32)) := v111
          have v110e : Arv Z h109 a60 k60 .char (Int32.ofNat 6) (lst 6 (gl [(92 : Int32), r53, (92 : Int32), r54, (92 : Int32), r55])) (.int (0 : Int32)) := v109
          have hP110 : oT (gl [r53, r54, r55]) 3 = 6 := by simp [oT, gl, hc62, hc90, hc104]
          have he110 : ∀ j, j < oT (gl [r53, r54, r55]) 3 → (gl [(92 : Int32), r53, (92 : Int32), r54, (92 : Int32), r55]) j = oF (gl [r53, r54, r55]) 3 j := by
            intro j hj
            rw [hP110] at hj
            rcases (by omega : j = 0 ∨ j = 1 ∨ j = 2 ∨ j = 3 ∨ j = 4 ∨ j = 5) with rfl | rfl | rfl | rfl | rfl | rfl <;> simp [oF, oT, upd, gl, hc62, hc90, hc104]
          replace W109 := W109.castL (L' := #[.val (.int p0), .val (.int p1), .val (.int p2), .val (.int p3), .val (.int (Int32.ofNat 3)), .val (.int r53), .val (.int r54), .val (.int r55), .val (.ref a56), .val (.ref a60), .val (.int (Int32.ofNat (oT (gl [r53, r54, r55]) 3))), .unset]) (by rw [hP110]; rfl)
          exact law_b l Z a0 n0 hw hEL G1 O1 P1 O_as O_hi O_lo G3 O3 rG3 p0 p1 p2 p3 r53 r54 r55 a56 k56 3 (gl [r53, r54, r55]) a60 k60 (gl [(92 : Int32), r53, (92 : Int32), r54, (92 : Int32), r55]) p e s m below meth c S0 V103 h0 h109 hO v110c v110e (Nat.le_of_eq g56.symm) (Nat.le_trans (Nat.le_trans (Nat.le_trans (Nat.le_trans z56 z57) z58) z59) (Nat.le_of_eq g60.symm)) (by omega) (own_glc (own_allcS q53_2 (own_allcS q54_2 (own_allcS q55_2 own_allc0)))) he110 hnm W109
set_option maxRecDepth 65536 in
set_option maxHeartbeats 40000000 in
theorem comes_1 {Post : Tables → Env → Array Value → State → Outcome → State → Prop} (hpost : ∀ tb e args s v u, (limb_1_1.after args s (.returned v) u = true ∧ limb_1_2.after args s (.returned v) u = true ∧ True) → FramedW s (.returned v) u (Jvm.fieldLocs frame_1_writes args s ++ Jvm.arrayLocs frame_1_arrays args s ++ Jvm.staticLocs frame_1_statics s) 32 1280 → Post tb e args s (.returned v) u) :
    ArmFor flags0 classFile x code maxLocals ret World_1 tables_1 room_1 Calls_1 rest_1 Pre_1 Post := by
  intro l hfl _ _ p e ha hc hk s m args below hf hA hF happ hP
  obtain ⟨hcalls, hrest, hpre⟩ := hP
  obtain ⟨-, -, -, hnamed, -, -, -, hat⟩ := (Spec.applies_iff hf).mp happ
  obtain ⟨hg, hn⟩ := and_e (Cond.before_iff.mp (show (Jvm.Cond.and given_1 narrow_1).before args s = true from hpre))
  obtain ⟨hcount, hr0⟩ := and_e hg
  obtain ⟨ha0, hr1⟩ := and_e hr0
  obtain ⟨ha1, hr2⟩ := and_e hr1
  obtain ⟨ha2, hr3⟩ := and_e hr2
  have ha3 := hr3
  obtain ⟨w0, w1, w2, w3, rfl⟩ : ∃ w0 w1 w2 w3 : Value, args = #[w0, w1, w2, w3] := by
    have hs : args.size = 4 := by simpa [Cond.value, given_1] using hcount
    obtain ⟨L⟩ := args
    match L, hs with
    | [w0, w1, w2, w3], _ => exact ⟨w0, w1, w2, w3, rfl⟩
  have hw := fun d (hd : d ∈ tables_1) => atoms_spec (ws := Jvm.Cond.code x code maxLocals ret :: tables_1) hat d (List.mem_cons_of_mem _ hd)
  obtain ⟨hsets, hown0⟩ := atoms_of _ (rest_1_c_eq ▸ (show rest_1_c.before _ s = true from hrest))
  obtain ⟨i0, ei0⟩ := is_v ha0
  obtain rfl : w0 = (.int i0) := Option.some.inj ei0
  obtain ⟨i1, ei1⟩ := is_v ha1
  obtain rfl : w1 = (.int i1) := Option.some.inj ei1
  obtain ⟨i2, ei2⟩ := is_v ha2
  obtain rfl : w2 = (.int i2) := Option.some.inj ei2
  obtain ⟨i3, ei3⟩ := is_v ha3
  obtain rfl : w3 = (.int i3) := Option.some.inj ei3
  have n5 := not_v (Cond.before_iff.mp (hsets _ (List.mem_of_getElem? (i := 2) rfl)))
  obtain ⟨i11, e10⟩ := is_v (Cond.before_iff.mp (hsets _ (List.mem_of_getElem? (i := 1) rfl)))
  have S12 : Sta s s.heap "java/lang/String" "COMPACT_STRINGS" "Z" (.int i11) := Sta.start e10 (Or.inl (hsets _ (List.mem_of_getElem? (i := 0) rfl)))
  have c17 : ¬ (i11 = (0 : Int32)) := gotF (Cond.eq_ints e10 (Term.int_eval (0))) n5
  have SO_as : Sta s s.heap "java/lang/StringUTF16" "$assertionsDisabled" "Z" (.int (1 : Int32)) := Sta.start (eqv_i (Term.int_eval (1)) (Cond.before_iff.mp (hsets _ (List.mem_of_getElem? (i := 12) rfl)))) (Or.inl (hsets _ (List.mem_of_getElem? (i := 11) rfl)))
  have SO_hi : Sta s s.heap "java/lang/StringUTF16" "HI_BYTE_SHIFT" "I" (.int (0 : Int32)) := Sta.start (eqv_i (Term.int_eval (0)) (Cond.before_iff.mp (hsets _ (List.mem_of_getElem? (i := 15) rfl)))) (Or.inl (hsets _ (List.mem_of_getElem? (i := 14) rfl)))
  have SO_lo : Sta s s.heap "java/lang/StringUTF16" "LO_BYTE_SHIFT" "I" (.int (8 : Int32)) := Sta.start (eqv_i (Term.int_eval (8)) (Cond.before_iff.mp (hsets _ (List.mem_of_getElem? (i := 18) rfl)))) (Or.inl (hsets _ (List.mem_of_getElem? (i := 17) rfl)))
  obtain ⟨G3, eG3, rG3⟩ := isR_v (Cond.before_iff.mp (hsets _ (List.mem_of_getElem? (i := 8) rfl)))
  have SG3 : Sta s s.heap "jdk/internal/util/Preconditions" "SIOOBE_FORMATTER" "Ljava/util/function/BiFunction;" G3 := Sta.start eG3 (Or.inl (hsets _ (List.mem_of_getElem? (i := 7) rfl)))
  have hCH : CHv s consts_1 s.vm s.heap := CHv.start (hELs hw) (fun q hq => hcalls.1 q hq) (hsets _ (List.mem_of_getElem? (i := 2) rfl)) (tw20 hw) (tw7 hw)
  obtain ⟨n, o, h1, h2, h3, v, L, rfl, ⟨N, -, rfl⟩, -, r1, r2, r3, r4⟩ := law_c l s _ s.heap.size hw (hELs hw) i11 S12 c17 SO_as SO_hi SO_lo G3 SG3 rG3 i0 i1 i2 i3 s.heap (Old.start s) tables_1 p e ha hc hk s m _ below hf ((Spec.applies_iff_loose hf).mp happ).1 ⟨rfl, State.Warmed39.refl s, rfl, hCH, sf0⟩ trivial
  exact ⟨n, _, h1, h2, h3, hpost _ _ _ _ _ _ ⟨Cond.after_iff.mpr rfl, Cond.after_iff.mpr (eq_i res_at (Term.int_eval (1)) rfl), trivial⟩ ⟨r1, r2, r3, (r4.sift fun y hy => Or.inr (N y hy)).mono (by decide) (by decide)⟩⟩
theorem main_1_1 : Claimed_1_1 := comes_1 fun _ _ _ _ _ _ h hF => ⟨h.1, hF⟩
theorem main_1_2 : Claimed_1_2 := comes_1 fun _ _ _ _ _ _ h hF => ⟨h.2.1, hF⟩
end Jvm.Pilot.@@N@@
namespace Jvm.Pilot.@@N@@
open Jvm Jvm.ClassFile Sem Op Lib Jvm.Free Jvm.Stand Jvm.Pilot.@@N@@.Jvm.D
/-! MADE BY PROGRAM (witnessworld.py) out of the Statement's table words and the real class files: 26 classes; the members and pool entries that the words name. The judged class is class 1, her method 4. -/
namespace start1
open Jvm.ClassFile
def u (s : String) : CpInfo := .utf8 (stringToUtf16 s)
/-- a pool by its gaps: so many unusable entries, then the entry; so many at the end -/
def gap : Nat → List CpInfo → List CpInfo
  | 0, r => r
  | n + 1, r => .unusable :: gap n r
def poolList (es : List (Nat × CpInfo)) (last : Nat) : List CpInfo := es.foldr (fun e r => gap e.1 (e.2 :: r)) (gap last [])
def pool (es : List (Nat × CpInfo)) (last : Nat) : Array CpInfo := ⟨poolList es last⟩
def fileOf (pool : Array CpInfo) (this : Nat) (attrs : Array Attribute := #[]) (ms : Array MethodInfo := #[]) (fl : Nat := 33) (sup : Nat := 0) (ifs : Array Nat := #[]) (fds : Array FieldInfo := #[]) : ClassFile where
  minorVersion := 0
  majorVersion := 65
  constantPool := pool
  accessFlags := fl
  thisClass := this
  superClass := sup
  interfaces := ifs
  fields := fds
  methods := ms
  attributes := attrs
def plain (name : String) (sup : Option ClassId) : Class where
  name := name
  kind := .ordinary
  loader := none
  accessFlags := 33
  super := sup
  interfaces := #[]
  cf := none
  fields := #[]
  methods := #[]
  instanceTypes := #[]
  staticTypes := #[]
  resolved := #[]
  callSites := []
  init := .initialized
  statics := none
  mirror := none

def pool0 : Array CpInfo := pool [(5, u "<init>"), (0, u "()V"), (1, .class_ 10), (1, u "java/lang/Object"), (85, u "clone"), (0, u "()Ljava/lang/Object;")] 26

def k0c0 : Code := { maxStack := 0, maxLocals := 1, code := object_method_1_code, exceptionTable := #[], attributes := #[] }
def k0m0 : Method := { name := "<init>", desc := "()V", sig := { parameters := [], returnType := none }, accessFlags := 1, code := some k0c0 }
def k0m1 : Method := { name := "clone", desc := "()Ljava/lang/Object;", sig := { parameters := [], returnType := some (.object "java/lang/Object") }, accessFlags := 260, code := none }
/-- java/lang/Object -/
def k0 : Class := { plain "java/lang/Object" none with
  accessFlags := 33
  interfaces := #[]
  cf := some (fileOf pool0 8 #[] #[{ accessFlags := 1, nameIndex := 5, descriptorIndex := 6, attributes := #[] }, { accessFlags := 260, nameIndex := 96, descriptorIndex := 97, attributes := #[] }] 33 0 #[] #[])
  fields := #[]
  methods := #[k0m0, k0m1]
  instanceTypes := #[]
  staticTypes := #[]
  resolved := Array.replicate 124 none
  statics := none }

def pool1 : Array CpInfo := pool [(2, .class_ 4), (1, u "java/lang/Object"), (0, u "<init>"), (0, u "()V"), (0, .methodref 8 9), (0, .class_ 10), (0, .nameAndType 11 12), (0, u "java/lang/String"), (0, u "charAt"), (0, u "(I)C"), (0, .integer 2147483647), (0, .methodref 15 16), (0, .class_ 17), (0, .nameAndType 18 12), (0, u "com/example/input_under_constraint/inputunderconstraint/MessageTemplateLiteralPinLaw"), (0, u "pick"), (0, .methodref 15 20), (0, .nameAndType 21 22), (0, u "esc"), (0, u "(C)Z"), (0, .methodref 8 24), (0, .nameAndType 5 25), (0, u "([C)V"), (0, .methodref 27 28), (0, .class_ 29), (0, .nameAndType 30 31), (0, u "com/example/input_under_constraint/inputunderconstraint/MessageTemplate"), (0, u "literal"), (0, u "(Ljava/lang/String;)Ljava/lang/String;"), (0, .methodref 8 33), (0, .nameAndType 34 35), (0, u "length"), (0, u "()I"), (0, .methodref 15 37), (0, .nameAndType 38 39), (0, u "same"), (0, u "(Ljava/lang/String;[CII)Z"), (3, u "law"), (0, u "(IIII)Z")] 4

def k1m0 : Method := { name := "<init>", desc := "()V", sig := { parameters := [], returnType := none }, accessFlags := 1, code := none }
def k1c1 : Code := { maxStack := 2, maxLocals := 2, code := method_2_code, exceptionTable := #[], attributes := #[] }
def k1m1 : Method := { name := "pick", desc := "(I)C", sig := { parameters := [.int], returnType := some .char }, accessFlags := 10, code := some k1c1 }
def k1c2 : Code := { maxStack := 2, maxLocals := 1, code := method_3_code, exceptionTable := #[], attributes := #[] }
def k1m2 : Method := { name := "esc", desc := "(C)Z", sig := { parameters := [.char], returnType := some .boolean }, accessFlags := 10, code := some k1c2 }
def k1c3 : Code := { maxStack := 3, maxLocals := 4, code := method_4_code, exceptionTable := #[], attributes := #[] }
def k1m3 : Method := { name := "same", desc := "(Ljava/lang/String;[CII)Z", sig := { parameters := [(.object "java/lang/String"), (.array .char), .int, .int], returnType := some .boolean }, accessFlags := 10, code := some k1c3 }
def k1c4 : Code := { maxStack := 4, maxLocals := 12, code := code, exceptionTable := #[], attributes := #[] }
def k1m4 : Method := { name := "law", desc := "(IIII)Z", sig := { parameters := [.int, .int, .int, .int], returnType := some .boolean }, accessFlags := 9, code := some k1c4 }
/-- com/example/input_under_constraint/inputunderconstraint/MessageTemplateLiteralPinLaw -/
def k1 : Class := { plain "com/example/input_under_constraint/inputunderconstraint/MessageTemplateLiteralPinLaw" (some 0) with
  accessFlags := 49
  interfaces := #[]
  cf := some (fileOf pool1 15 #[] #[{ accessFlags := 1, nameIndex := 5, descriptorIndex := 6, attributes := #[] }, { accessFlags := 10, nameIndex := 18, descriptorIndex := 12, attributes := #[] }, { accessFlags := 10, nameIndex := 21, descriptorIndex := 22, attributes := #[] }, { accessFlags := 10, nameIndex := 38, descriptorIndex := 39, attributes := #[] }, { accessFlags := 9, nameIndex := 43, descriptorIndex := 44, attributes := #[] }] 49 2 #[] #[])
  fields := #[]
  methods := #[k1m0, k1m1, k1m2, k1m3, k1m4]
  instanceTypes := #[]
  staticTypes := #[]
  resolved := Array.replicate 49 none
  statics := none }

def pool2 : Array CpInfo := pool [(1, .class_ 2), (0, u "java/io/Serializable"), (0, .class_ 4), (0, u "java/lang/Object")] 2

/-- java/io/Serializable -/
def k2 : Class := { plain "java/io/Serializable" (some 0) with
  accessFlags := 1537
  interfaces := #[]
  cf := some (fileOf pool2 1 #[] #[] 1537 3 #[] #[])
  fields := #[]
  methods := #[]
  instanceTypes := #[]
  staticTypes := #[]
  resolved := Array.replicate 7 none
  statics := none }

def pool3 : Array CpInfo := pool [(1, .class_ 2), (0, u "java/lang/Comparable"), (0, .class_ 4), (0, u "java/lang/Object")] 7

/-- java/lang/Comparable -/
def k3 : Class := { plain "java/lang/Comparable" (some 0) with
  accessFlags := 1537
  interfaces := #[]
  cf := some (fileOf pool3 1 #[] #[] 1537 3 #[] #[])
  fields := #[]
  methods := #[]
  instanceTypes := #[]
  staticTypes := #[]
  resolved := Array.replicate 12 none
  statics := none }

def pool4 : Array CpInfo := pool [(2, .class_ 4), (1, u "java/lang/CharSequence"), (42, .class_ 48), (0, u "java/lang/CharSequence$1CodePointIterator"), (10, .class_ 60), (0, u "java/lang/CharSequence$1CharIterator"), (5, .class_ 67), (0, u "java/lang/Object")] 63

/-- java/lang/CharSequence -/
def k4 : Class := { plain "java/lang/CharSequence" (some 0) with
  accessFlags := 1537
  interfaces := #[]
  cf := some (fileOf pool4 2 #[.nestMembers #[47, 59]] #[] 1537 66 #[] #[])
  fields := #[]
  methods := #[]
  instanceTypes := #[]
  staticTypes := #[]
  resolved := Array.replicate 131 none
  statics := none }

def pool5 : Array CpInfo := pool [(1, .class_ 2), (0, u "java/lang/constant/Constable"), (0, .class_ 4), (0, u "java/lang/Object")] 6

/-- java/lang/constant/Constable -/
def k5 : Class := { plain "java/lang/constant/Constable" (some 0) with
  accessFlags := 1537
  interfaces := #[]
  cf := some (fileOf pool5 1 #[] #[] 1537 3 #[] #[])
  fields := #[]
  methods := #[]
  instanceTypes := #[]
  staticTypes := #[]
  resolved := Array.replicate 11 none
  statics := none }

def pool6 : Array CpInfo := pool [(1, .class_ 2), (0, u "java/lang/constant/ConstantDesc"), (0, .class_ 4), (0, u "java/lang/Object")] 32

/-- java/lang/constant/ConstantDesc -/
def k6 : Class := { plain "java/lang/constant/ConstantDesc" (some 0) with
  accessFlags := 1537
  interfaces := #[]
  cf := some (fileOf pool6 1 #[] #[] 1537 3 #[] #[])
  fields := #[]
  methods := #[]
  instanceTypes := #[]
  staticTypes := #[]
  resolved := Array.replicate 37 none
  statics := none }

def pool7 : Array CpInfo := pool [(1, .methodref 2 3), (0, .class_ 4), (0, .nameAndType 5 6), (0, u "java/lang/Object"), (0, u "<init>"), (0, u "()V"), (0, .string 8), (0, u ""), (0, .fieldref 10 11), (0, .class_ 12), (0, .nameAndType 13 14), (0, u "java/lang/String"), (0, u "value"), (0, u "[B"), (0, .fieldref 10 16), (0, .nameAndType 17 18), (0, u "coder"), (0, u "B"), (2, u "hash"), (0, u "I"), (2, u "hashIsZero"), (0, u "Z"), (0, .methodref 10 28), (0, .nameAndType 5 29), (0, u "([CIILjava/lang/Void;)V"), (6, u "checkBoundsOffCount"), (0, u "(III)I"), (0, .fieldref 10 39), (0, .nameAndType 40 26), (0, u "COMPACT_STRINGS"), (1, .class_ 44), (1, u "java/lang/StringUTF16"), (0, u "compress"), (1, .methodref 42 48), (0, .nameAndType 49 50), (0, u "coderFromArrayLen"), (0, u "([BI)B"), (3, .methodref 55 56), (0, .class_ 57), (0, .nameAndType 58 59), (0, u "java/util/Arrays"), (0, u "copyOfRange"), (0, u "([BII)[B"), (47, .class_ 109), (1, u "java/lang/StringLatin1"), (32, u "()Z"), (34, .methodref 42 178), (0, .nameAndType 45 179), (0, u "([CII)[B"), (154, u "()I"), (0, .methodref 10 336), (0, .nameAndType 17 337), (0, u "()B"), (2, u "()[B"), (22, u "([BI)C"), (27, u "(II)V"), (35, u "(I)C"), (61, .methodref 10 490), (0, .nameAndType 5 491), (0, u "(Ljava/lang/AbstractStringBuilder;Ljava/lang/Void;)V"), (0, .methodref 10 493), (0, .nameAndType 494 142), (0, u "isLatin1"), (0, .methodref 107 496), (0, .nameAndType 497 363), (0, u "charAt"), (0, .methodref 42 496), (2, u "checkIndex"), (4, .nameAndType 507 334), (0, u "length"), (41, .methodref 550 506), (0, .class_ 551), (0, u "java/lang/AbstractStringBuilder"), (0, .methodref 550 553), (0, .nameAndType 554 340), (0, u "getValue"), (20, .class_ 576), (0, u "java/lang/CharSequence"), (22, u "CASE_INSENSITIVE_ORDER"), (0, u "Ljava/util/Comparator;"), (409, u "([C)V"), (36, .methodref 550 493), (0, .fieldref 550 1049), (0, .nameAndType 1050 26), (0, u "maybeLatin1"), (2, .fieldref 1054 1055), (0, .class_ 1056), (0, .nameAndType 1057 1058), (0, u "jdk/internal/util/Preconditions"), (0, u "SIOOBE_FORMATTER"), (0, u "Ljava/util/function/BiFunction;"), (0, .methodref 1054 1060), (0, .nameAndType 501 1061), (0, u "(IILjava/util/function/BiFunction;)I"), (2, u "(IIILjava/util/function/BiFunction;)I"), (0, .methodref 1054 1066), (0, .nameAndType 1067 1064), (0, u "checkFromIndexSize"), (33, u "serialPersistentFields"), (0, u "[Ljava/io/ObjectStreamField;"), (0, .class_ 1104), (0, u "java/lang/String$CaseInsensitiveComparator"), (1, .class_ 1107), (0, u "java/io/Serializable"), (0, .class_ 1109), (0, u "java/lang/Comparable"), (0, .class_ 1111), (0, u "java/lang/constant/Constable"), (0, .class_ 1113), (0, u "java/lang/constant/ConstantDesc"), (2, u "serialVersionUID"), (0, u "J"), (3, u "REPL"), (0, u "C"), (2, u "LATIN1"), (1, u "UTF16"), (105, u "(Ljava/lang/StringBuilder;)V")] 217

def k7m0 : Method := { name := "<init>", desc := "()V", sig := { parameters := [], returnType := none }, accessFlags := 1, code := none }
def k7c1 : Code := { maxStack := 5, maxLocals := 2, code := jdk_42_method_3_code, exceptionTable := #[], attributes := #[] }
def k7m1 : Method := { name := "<init>", desc := "([C)V", sig := { parameters := [(.array .char)], returnType := none }, accessFlags := 1, code := some k7c1 }
def k7c2 : Code := { maxStack := 3, maxLocals := 2, code := jdk_42_method_53_code, exceptionTable := #[], attributes := #[] }
def k7m2 : Method := { name := "<init>", desc := "(Ljava/lang/StringBuilder;)V", sig := { parameters := [(.object "java/lang/StringBuilder")], returnType := none }, accessFlags := 1, code := some k7c2 }
def k7c3 : Code := { maxStack := 2, maxLocals := 1, code := jdk_42_method_54_code, exceptionTable := #[], attributes := #[] }
def k7m3 : Method := { name := "length", desc := "()I", sig := { parameters := [], returnType := some .int }, accessFlags := 1, code := some k7c3 }
def k7c4 : Code := { maxStack := 2, maxLocals := 2, code := jdk_42_method_56_code, exceptionTable := #[], attributes := #[] }
def k7m4 : Method := { name := "charAt", desc := "(I)C", sig := { parameters := [.int], returnType := some .char }, accessFlags := 1, code := some k7c4 }
def k7c5 : Code := { maxStack := 4, maxLocals := 6, code := jdk_42_method_149_code, exceptionTable := #[], attributes := #[] }
def k7m5 : Method := { name := "<init>", desc := "([CIILjava/lang/Void;)V", sig := { parameters := [(.array .char), .int, .int, (.object "java/lang/Void")], returnType := none }, accessFlags := 2, code := some k7c5 }
def k7c6 : Code := { maxStack := 5, maxLocals := 5, code := jdk_42_method_150_code, exceptionTable := #[], attributes := #[] }
def k7m6 : Method := { name := "<init>", desc := "(Ljava/lang/AbstractStringBuilder;Ljava/lang/Void;)V", sig := { parameters := [(.object "java/lang/AbstractStringBuilder"), (.object "java/lang/Void")], returnType := none }, accessFlags := 0, code := some k7c6 }
def k7c7 : Code := { maxStack := 1, maxLocals := 1, code := jdk_42_method_152_code, exceptionTable := #[], attributes := #[] }
def k7m7 : Method := { name := "coder", desc := "()B", sig := { parameters := [], returnType := some .byte }, accessFlags := 0, code := some k7c7 }
def k7c8 : Code := { maxStack := 1, maxLocals := 1, code := jdk_42_method_154_code, exceptionTable := #[], attributes := #[] }
def k7m8 : Method := { name := "isLatin1", desc := "()Z", sig := { parameters := [], returnType := some .boolean }, accessFlags := 0, code := some k7c8 }
def k7c9 : Code := { maxStack := 3, maxLocals := 2, code := jdk_42_method_155_code, exceptionTable := #[], attributes := #[] }
def k7m9 : Method := { name := "checkIndex", desc := "(II)V", sig := { parameters := [.int, .int], returnType := none }, accessFlags := 8, code := some k7c9 }
def k7c10 : Code := { maxStack := 4, maxLocals := 3, code := jdk_42_method_157_code, exceptionTable := #[], attributes := #[] }
def k7m10 : Method := { name := "checkBoundsOffCount", desc := "(III)I", sig := { parameters := [.int, .int, .int], returnType := some .int }, accessFlags := 8, code := some k7c10 }
/-- java/lang/String -/
def k7 : Class := { plain "java/lang/String" (some 0) with
  accessFlags := 49
  interfaces := #[2, 3, 4, 5, 6]
  cf := some (fileOf pool7 10 #[.nestMembers #[1103]] #[{ accessFlags := 1, nameIndex := 5, descriptorIndex := 6, attributes := #[] }, { accessFlags := 1, nameIndex := 5, descriptorIndex := 1010, attributes := #[] }, { accessFlags := 1, nameIndex := 5, descriptorIndex := 1233, attributes := #[] }, { accessFlags := 1, nameIndex := 507, descriptorIndex := 334, attributes := #[] }, { accessFlags := 1, nameIndex := 497, descriptorIndex := 427, attributes := #[] }, { accessFlags := 2, nameIndex := 5, descriptorIndex := 29, attributes := #[] }, { accessFlags := 0, nameIndex := 5, descriptorIndex := 491, attributes := #[] }, { accessFlags := 0, nameIndex := 17, descriptorIndex := 337, attributes := #[] }, { accessFlags := 0, nameIndex := 494, descriptorIndex := 142, attributes := #[] }, { accessFlags := 8, nameIndex := 501, descriptorIndex := 391, attributes := #[] }, { accessFlags := 8, nameIndex := 36, descriptorIndex := 37, attributes := #[] }] 49 2 #[1106, 1108, 575, 1110, 1112] #[{ accessFlags := 18, nameIndex := 13, descriptorIndex := 14, attributes := #[] }, { accessFlags := 18, nameIndex := 17, descriptorIndex := 18, attributes := #[] }, { accessFlags := 2, nameIndex := 21, descriptorIndex := 22, attributes := #[] }, { accessFlags := 2, nameIndex := 25, descriptorIndex := 26, attributes := #[] }, { accessFlags := 26, nameIndex := 1116, descriptorIndex := 1117, attributes := #[] }, { accessFlags := 24, nameIndex := 40, descriptorIndex := 26, attributes := #[] }, { accessFlags := 26, nameIndex := 1101, descriptorIndex := 1102, attributes := #[] }, { accessFlags := 26, nameIndex := 1121, descriptorIndex := 1122, attributes := #[] }, { accessFlags := 25, nameIndex := 599, descriptorIndex := 600, attributes := #[] }, { accessFlags := 24, nameIndex := 1125, descriptorIndex := 18, attributes := #[] }, { accessFlags := 24, nameIndex := 1127, descriptorIndex := 18, attributes := #[] }])
  fields := #[{ name := "value", type := (.array .byte), accessFlags := 18, slot := 0, constantValue := 0 }, { name := "coder", type := .byte, accessFlags := 18, slot := 1, constantValue := 0 }, { name := "hash", type := .int, accessFlags := 2, slot := 2, constantValue := 0 }, { name := "hashIsZero", type := .boolean, accessFlags := 2, slot := 3, constantValue := 0 }, { name := "serialVersionUID", type := .long, accessFlags := 26, slot := 0, constantValue := 0 }, { name := "COMPACT_STRINGS", type := .boolean, accessFlags := 24, slot := 1, constantValue := 0 }, { name := "serialPersistentFields", type := (.array (.object "java/io/ObjectStreamField")), accessFlags := 26, slot := 2, constantValue := 0 }, { name := "REPL", type := .char, accessFlags := 26, slot := 3, constantValue := 0 }, { name := "CASE_INSENSITIVE_ORDER", type := (.object "java/util/Comparator"), accessFlags := 25, slot := 4, constantValue := 0 }, { name := "LATIN1", type := .byte, accessFlags := 24, slot := 5, constantValue := 0 }, { name := "UTF16", type := .byte, accessFlags := 24, slot := 6, constantValue := 0 }]
  methods := #[k7m0, k7m1, k7m2, k7m3, k7m4, k7m5, k7m6, k7m7, k7m8, k7m9, k7m10]
  instanceTypes := #[(.array .byte), .byte, .int, .boolean]
  staticTypes := #[.long, .boolean, (.array (.object "java/io/ObjectStreamField")), .char, (.object "java/util/Comparator"), .byte, .byte]
  resolved := Array.replicate 1451 none
  statics := some 0 }

def pool8 : Array CpInfo := pool [(2, .class_ 4), (1, u "java/lang/Object"), (0, u "<init>"), (3, .class_ 10), (0, u "com/example/input_under_constraint/inputunderconstraint/MessageTemplate"), (1, .nameAndType 5 13), (0, u "(I)V"), (2, u "messages"), (0, u "Lcom/example/input_under_constraint/inputunderconstraint/Memo;"), (0, .class_ 19), (0, u "java/lang/String"), (7, u "[Ljava/lang/String;"), (2, u "texts"), (2, u "parameters"), (2, u "literal"), (0, u "Z"), (0, .class_ 39), (0, u "com/example/input_under_constraint/inputunderconstraint/MessageTemplate$Parts"), (18, u "(Ljava/lang/String;)Ljava/lang/String;"), (0, .class_ 60), (0, u "java/lang/StringBuilder"), (0, .methodref 18 62), (0, .nameAndType 63 64), (0, u "length"), (0, u "()I"), (0, .methodref 59 12), (0, .methodref 18 67), (0, .nameAndType 68 69), (0, u "charAt"), (0, u "(I)C"), (0, .methodref 9 71), (0, .nameAndType 72 73), (0, u "isEscapable"), (0, u "(C)Z"), (0, .methodref 59 75), (0, .nameAndType 76 77), (0, u "append"), (0, u "(C)Ljava/lang/StringBuilder;"), (0, .methodref 59 79), (0, .nameAndType 80 81), (0, u "toString"), (0, u "()Ljava/lang/String;"), (103, u "MOST_MESSAGES"), (0, u "I")] 39

def k8c0 : Code := { maxStack := 3, maxLocals := 4, code := prog_19_method_4_code, exceptionTable := #[], attributes := #[] }
def k8m0 : Method := { name := "literal", desc := "(Ljava/lang/String;)Ljava/lang/String;", sig := { parameters := [(.object "java/lang/String")], returnType := some (.object "java/lang/String") }, accessFlags := 8, code := some k8c0 }
def k8c1 : Code := { maxStack := 2, maxLocals := 1, code := prog_19_method_12_code, exceptionTable := #[], attributes := #[] }
def k8m1 : Method := { name := "isEscapable", desc := "(C)Z", sig := { parameters := [.char], returnType := some .boolean }, accessFlags := 10, code := some k8c1 }
/-- com/example/input_under_constraint/inputunderconstraint/MessageTemplate -/
def k8 : Class := { plain "com/example/input_under_constraint/inputunderconstraint/MessageTemplate" (some 0) with
  accessFlags := 48
  interfaces := #[]
  cf := some (fileOf pool8 9 #[.nestMembers #[38]] #[{ accessFlags := 8, nameIndex := 36, descriptorIndex := 58, attributes := #[] }, { accessFlags := 10, nameIndex := 72, descriptorIndex := 73, attributes := #[] }] 48 2 #[] #[{ accessFlags := 26, nameIndex := 185, descriptorIndex := 186, attributes := #[] }, { accessFlags := 18, nameIndex := 30, descriptorIndex := 27, attributes := #[] }, { accessFlags := 18, nameIndex := 33, descriptorIndex := 27, attributes := #[] }, { accessFlags := 18, nameIndex := 36, descriptorIndex := 37, attributes := #[] }, { accessFlags := 18, nameIndex := 16, descriptorIndex := 17, attributes := #[] }])
  fields := #[{ name := "MOST_MESSAGES", type := .int, accessFlags := 26, slot := 0, constantValue := 0 }, { name := "texts", type := (.array (.object "java/lang/String")), accessFlags := 18, slot := 0, constantValue := 0 }, { name := "parameters", type := (.array (.object "java/lang/String")), accessFlags := 18, slot := 1, constantValue := 0 }, { name := "literal", type := .boolean, accessFlags := 18, slot := 2, constantValue := 0 }, { name := "messages", type := (.object "com/example/input_under_constraint/inputunderconstraint/Memo"), accessFlags := 18, slot := 3, constantValue := 0 }]
  methods := #[k8m0, k8m1]
  instanceTypes := #[(.array (.object "java/lang/String")), (.array (.object "java/lang/String")), .boolean, (.object "com/example/input_under_constraint/inputunderconstraint/Memo")]
  staticTypes := #[.int]
  resolved := Array.replicate 226 none
  statics := none }

def pool9 : Array CpInfo := pool [(1, .class_ 2), (0, u "java/lang/Appendable"), (0, .class_ 4), (0, u "java/lang/Object")] 9

/-- java/lang/Appendable -/
def k9 : Class := { plain "java/lang/Appendable" (some 0) with
  accessFlags := 1537
  interfaces := #[]
  cf := some (fileOf pool9 1 #[] #[] 1537 3 #[] #[])
  fields := #[]
  methods := #[]
  instanceTypes := #[]
  staticTypes := #[]
  resolved := Array.replicate 14 none
  statics := none }

def pool10 : Array CpInfo := pool [(1, .class_ 2), (0, u "java/lang/String"), (0, .methodref 4 5), (0, .class_ 6), (0, .nameAndType 7 8), (0, u "java/lang/Object"), (0, u "<init>"), (0, u "()V"), (1, .class_ 12), (1, u "java/lang/AbstractStringBuilder"), (0, u "EMPTYVALUE"), (0, u "[B"), (0, .fieldref 10 16), (0, .nameAndType 17 14), (0, u "value"), (0, .fieldref 1 19), (0, .nameAndType 20 21), (0, u "COMPACT_STRINGS"), (0, u "Z"), (0, .fieldref 10 23), (0, .nameAndType 24 25), (0, u "coder"), (0, u "B"), (0, .methodref 27 28), (0, .class_ 29), (0, .nameAndType 30 31), (0, u "java/lang/StringUTF16"), (0, u "newBytesFor"), (0, u "(I)[B"), (2, u "length"), (0, u "()I"), (3, .integer 2147483647), (5, u "append"), (2, .class_ 49), (0, u "java/lang/CharSequence"), (25, u "maybeLatin1"), (3, .fieldref 10 80), (0, .nameAndType 81 82), (0, u "count"), (0, u "I"), (0, .methodref 10 84), (0, .nameAndType 85 86), (0, u "isLatin1"), (0, u "()Z"), (1, .class_ 90), (1, u "java/lang/StringLatin1"), (9, .methodref 10 101), (0, .nameAndType 102 103), (0, u "ensureCapacityInternal"), (0, u "(I)V"), (0, .methodref 10 105), (0, .nameAndType 106 107), (0, u "newCapacity"), (0, u "(I)I"), (0, .methodref 109 110), (0, .class_ 111), (0, .nameAndType 112 113), (0, u "java/util/Arrays"), (0, u "copyOf"), (0, u "([BI)[B"), (0, .methodref 115 116), (0, .class_ 117), (0, .nameAndType 118 119), (0, u "jdk/internal/util/ArraysSupport"), (0, u "newLength"), (0, u "(III)I"), (5, .methodref 88 126), (0, .nameAndType 127 128), (0, u "inflate"), (0, u "([BI[BII)V"), (7, u "([BII)V"), (54, .methodref 88 192), (0, .nameAndType 193 194), (0, u "canEncode"), (0, u "(C)Z"), (0, .methodref 10 196), (0, .nameAndType 127 8), (0, .methodref 27 198), (0, .nameAndType 199 136), (0, u "putCharSB"), (92, u "(C)Ljava/lang/AbstractStringBuilder;"), (110, u "()[B"), (40, .class_ 445), (0, u "java/lang/Appendable"), (106, u "getValue")] 56

def k10m0 : Method := { name := "<init>", desc := "()V", sig := { parameters := [], returnType := none }, accessFlags := 0, code := none }
def k10c1 : Code := { maxStack := 2, maxLocals := 2, code := jdk_68_method_2_code, exceptionTable := #[], attributes := #[] }
def k10m1 : Method := { name := "<init>", desc := "(I)V", sig := { parameters := [.int], returnType := none }, accessFlags := 0, code := some k10c1 }
def k10c2 : Code := { maxStack := 1, maxLocals := 1, code := jdk_68_method_6_code, exceptionTable := #[], attributes := #[] }
def k10m2 : Method := { name := "length", desc := "()I", sig := { parameters := [], returnType := some .int }, accessFlags := 1, code := some k10c2 }
def k10c3 : Code := { maxStack := 4, maxLocals := 3, code := jdk_68_method_9_code, exceptionTable := #[], attributes := #[] }
def k10m3 : Method := { name := "ensureCapacityInternal", desc := "(I)V", sig := { parameters := [.int], returnType := none }, accessFlags := 2, code := some k10c3 }
def k10c4 : Code := { maxStack := 5, maxLocals := 6, code := jdk_68_method_10_code, exceptionTable := #[], attributes := #[] }
def k10m4 : Method := { name := "newCapacity", desc := "(I)I", sig := { parameters := [.int], returnType := some .int }, accessFlags := 2, code := some k10c4 }
def k10c5 : Code := { maxStack := 5, maxLocals := 2, code := jdk_68_method_11_code, exceptionTable := #[], attributes := #[] }
def k10m5 : Method := { name := "inflate", desc := "()V", sig := { parameters := [], returnType := none }, accessFlags := 2, code := some k10c5 }
def k10c6 : Code := { maxStack := 5, maxLocals := 2, code := jdk_68_method_31_code, exceptionTable := #[], attributes := #[] }
def k10m6 : Method := { name := "append", desc := "(C)Ljava/lang/AbstractStringBuilder;", sig := { parameters := [.char], returnType := some (.object "java/lang/AbstractStringBuilder") }, accessFlags := 1, code := some k10c6 }
def k10c7 : Code := { maxStack := 1, maxLocals := 1, code := jdk_68_method_64_code, exceptionTable := #[], attributes := #[] }
def k10m7 : Method := { name := "getValue", desc := "()[B", sig := { parameters := [], returnType := some (.array .byte) }, accessFlags := 16, code := some k10c7 }
def k10c8 : Code := { maxStack := 1, maxLocals := 1, code := jdk_68_method_68_code, exceptionTable := #[], attributes := #[] }
def k10m8 : Method := { name := "isLatin1", desc := "()Z", sig := { parameters := [], returnType := some .boolean }, accessFlags := 16, code := some k10c8 }
/-- java/lang/AbstractStringBuilder -/
def k10 : Class := { plain "java/lang/AbstractStringBuilder" (some 0) with
  accessFlags := 1056
  interfaces := #[9, 4]
  cf := some (fileOf pool10 10 #[] #[{ accessFlags := 0, nameIndex := 7, descriptorIndex := 8, attributes := #[] }, { accessFlags := 0, nameIndex := 7, descriptorIndex := 103, attributes := #[] }, { accessFlags := 1, nameIndex := 34, descriptorIndex := 35, attributes := #[] }, { accessFlags := 2, nameIndex := 102, descriptorIndex := 103, attributes := #[] }, { accessFlags := 2, nameIndex := 106, descriptorIndex := 107, attributes := #[] }, { accessFlags := 2, nameIndex := 127, descriptorIndex := 8, attributes := #[] }, { accessFlags := 1, nameIndex := 45, descriptorIndex := 292, attributes := #[] }, { accessFlags := 16, nameIndex := 552, descriptorIndex := 403, attributes := #[] }, { accessFlags := 16, nameIndex := 85, descriptorIndex := 86, attributes := #[] }] 1056 4 #[444, 48] #[{ accessFlags := 0, nameIndex := 17, descriptorIndex := 14, attributes := #[] }, { accessFlags := 0, nameIndex := 24, descriptorIndex := 25, attributes := #[] }, { accessFlags := 0, nameIndex := 75, descriptorIndex := 21, attributes := #[] }, { accessFlags := 0, nameIndex := 81, descriptorIndex := 82, attributes := #[] }, { accessFlags := 26, nameIndex := 13, descriptorIndex := 14, attributes := #[] }])
  fields := #[{ name := "value", type := (.array .byte), accessFlags := 0, slot := 0, constantValue := 0 }, { name := "coder", type := .byte, accessFlags := 0, slot := 1, constantValue := 0 }, { name := "maybeLatin1", type := .boolean, accessFlags := 0, slot := 2, constantValue := 0 }, { name := "count", type := .int, accessFlags := 0, slot := 3, constantValue := 0 }, { name := "EMPTYVALUE", type := (.array .byte), accessFlags := 26, slot := 0, constantValue := 0 }]
  methods := #[k10m0, k10m1, k10m2, k10m3, k10m4, k10m5, k10m6, k10m7, k10m8]
  instanceTypes := #[(.array .byte), .byte, .boolean, .int]
  staticTypes := #[(.array .byte)]
  resolved := Array.replicate 609 none
  statics := none }

def pool11 : Array CpInfo := pool [(1, .methodref 2 3), (0, .class_ 4), (0, .nameAndType 5 6), (0, u "java/lang/AbstractStringBuilder"), (0, u "<init>"), (0, u "(I)V"), (11, .class_ 20), (1, u "java/lang/String"), (3, .class_ 26), (1, u "java/lang/StringBuilder"), (0, u "append"), (22, .methodref 2 51), (0, .nameAndType 27 52), (0, u "(C)Ljava/lang/AbstractStringBuilder;"), (84, .methodref 18 138), (0, .nameAndType 5 139), (0, u "(Ljava/lang/StringBuilder;)V"), (5, u "()V"), (10, u "()I"), (129, u "(C)Ljava/lang/StringBuilder;"), (56, .methodref 2 344), (0, .nameAndType 345 156), (0, u "length"), (3, .class_ 350), (0, u "java/lang/Appendable"), (0, .class_ 352), (0, u "java/io/Serializable"), (0, .class_ 354), (0, u "java/lang/Comparable"), (0, .class_ 356), (0, u "java/lang/CharSequence"), (0, u "serialVersionUID"), (0, u "J"), (40, u "toString"), (0, u "()Ljava/lang/String;")] 21

def k11m0 : Method := { name := "<init>", desc := "()V", sig := { parameters := [], returnType := none }, accessFlags := 1, code := none }
def k11c1 : Code := { maxStack := 2, maxLocals := 2, code := jdk_67_method_2_code, exceptionTable := #[], attributes := #[] }
def k11m1 : Method := { name := "<init>", desc := "(I)V", sig := { parameters := [.int], returnType := none }, accessFlags := 1, code := some k11c1 }
def k11c2 : Code := { maxStack := 2, maxLocals := 2, code := jdk_67_method_14_code, exceptionTable := #[], attributes := #[] }
def k11m2 : Method := { name := "append", desc := "(C)Ljava/lang/StringBuilder;", sig := { parameters := [.char], returnType := some (.object "java/lang/StringBuilder") }, accessFlags := 1, code := some k11c2 }
def k11c3 : Code := { maxStack := 3, maxLocals := 1, code := jdk_67_method_42_code, exceptionTable := #[], attributes := #[] }
def k11m3 : Method := { name := "toString", desc := "()Ljava/lang/String;", sig := { parameters := [], returnType := some (.object "java/lang/String") }, accessFlags := 1, code := some k11c3 }
def k11c4 : Code := { maxStack := 1, maxLocals := 1, code := jdk_67_method_93_code, exceptionTable := #[], attributes := #[] }
def k11m4 : Method := { name := "length", desc := "()I", sig := { parameters := [], returnType := some .int }, accessFlags := 4161, code := some k11c4 }
/-- java/lang/StringBuilder -/
def k11 : Class := { plain "java/lang/StringBuilder" (some 10) with
  accessFlags := 49
  interfaces := #[9, 2, 3, 4]
  cf := some (fileOf pool11 24 #[] #[{ accessFlags := 1, nameIndex := 5, descriptorIndex := 145, attributes := #[] }, { accessFlags := 1, nameIndex := 5, descriptorIndex := 6, attributes := #[] }, { accessFlags := 1, nameIndex := 27, descriptorIndex := 286, attributes := #[] }, { accessFlags := 1, nameIndex := 399, descriptorIndex := 400, attributes := #[] }, { accessFlags := 4161, nameIndex := 345, descriptorIndex := 156, attributes := #[] }] 49 2 #[349, 351, 353, 355] #[{ accessFlags := 24, nameIndex := 357, descriptorIndex := 358, attributes := #[] }])
  fields := #[{ name := "serialVersionUID", type := .long, accessFlags := 24, slot := 0, constantValue := 0 }]
  methods := #[k11m0, k11m1, k11m2, k11m3, k11m4]
  instanceTypes := #[(.array .byte), .byte, .boolean, .int]
  staticTypes := #[.long]
  resolved := Array.replicate 422 none
  statics := none }

def pool12 : Array CpInfo := pool [(2, .class_ 4), (1, u "java/lang/Object"), (0, u "<init>"), (0, u "()V"), (7, .class_ 16), (1, u "java/util/Arrays"), (57, .class_ 76), (1, u "java/util/Arrays$NaturalOrder"), (32, u "()Ljava/lang/Object;"), (3, .class_ 115), (1, u "java/util/Arrays$LegacyMergeSort"), (1, u "Z"), (10, .nameAndType 129 109), (0, u "clone"), (9, u "copyOfRange"), (10, .methodref 151 152), (0, .class_ 153), (0, .nameAndType 154 155), (0, u "java/lang/System"), (0, u "arraycopy"), (0, u "(Ljava/lang/Object;ILjava/lang/Object;II)V"), (146, u "copyOf"), (1, .methodref 305 306), (0, .class_ 307), (0, .nameAndType 308 309), (0, u "java/lang/Math"), (0, u "min"), (0, u "(II)I"), (0, .methodref 311 128), (0, .class_ 312), (0, u "[B"), (26, .methodref 14 340), (0, .nameAndType 341 342), (0, u "copyOfRangeByte"), (0, u "([BII)[B"), (0, .methodref 14 344), (0, .nameAndType 345 346), (0, u "checkLength"), (0, u "(II)V"), (28, .class_ 376), (0, u "java/util/Arrays$ArrayList"), (68, u "$assertionsDisabled"), (269, u "MIN_ARRAY_SORT_GRAN"), (0, u "I"), (2, u "INSERTIONSORT_THRESHOLD"), (149, u "([BI)[B"), (105, .class_ 976), (0, u "java/util/Arrays$ArrayItr")] 52

def k12m0 : Method := { name := "<init>", desc := "()V", sig := { parameters := [], returnType := none }, accessFlags := 2, code := none }
def k12c1 : Code := { maxStack := 6, maxLocals := 3, code := jdk_65_method_121_code, exceptionTable := #[], attributes := #[] }
def k12m1 : Method := { name := "copyOf", desc := "([BI)[B", sig := { parameters := [(.array .byte), .int], returnType := some (.array .byte) }, accessFlags := 9, code := some k12c1 }
def k12c2 : Code := { maxStack := 4, maxLocals := 2, code := jdk_65_method_131_code, exceptionTable := #[], attributes := #[] }
def k12m2 : Method := { name := "checkLength", desc := "(II)V", sig := { parameters := [.int, .int], returnType := none }, accessFlags := 10, code := some k12c2 }
def k12c3 : Code := { maxStack := 3, maxLocals := 3, code := jdk_65_method_132_code, exceptionTable := #[], attributes := #[] }
def k12m3 : Method := { name := "copyOfRange", desc := "([BII)[B", sig := { parameters := [(.array .byte), .int, .int], returnType := some (.array .byte) }, accessFlags := 9, code := some k12c3 }
def k12c4 : Code := { maxStack := 6, maxLocals := 5, code := jdk_65_method_133_code, exceptionTable := #[], attributes := #[] }
def k12m4 : Method := { name := "copyOfRangeByte", desc := "([BII)[B", sig := { parameters := [(.array .byte), .int, .int], returnType := some (.array .byte) }, accessFlags := 10, code := some k12c4 }
/-- java/util/Arrays -/
def k12 : Class := { plain "java/util/Arrays" (some 0) with
  accessFlags := 49
  interfaces := #[]
  cf := some (fileOf pool12 14 #[.nestMembers #[975, 375, 113, 74]] #[{ accessFlags := 2, nameIndex := 5, descriptorIndex := 6, attributes := #[] }, { accessFlags := 9, nameIndex := 302, descriptorIndex := 869, attributes := #[] }, { accessFlags := 10, nameIndex := 345, descriptorIndex := 346, attributes := #[] }, { accessFlags := 9, nameIndex := 139, descriptorIndex := 342, attributes := #[] }, { accessFlags := 10, nameIndex := 341, descriptorIndex := 342, attributes := #[] }] 49 2 #[] #[{ accessFlags := 26, nameIndex := 715, descriptorIndex := 716, attributes := #[] }, { accessFlags := 26, nameIndex := 719, descriptorIndex := 716, attributes := #[] }, { accessFlags := 4120, nameIndex := 445, descriptorIndex := 117, attributes := #[] }])
  fields := #[{ name := "MIN_ARRAY_SORT_GRAN", type := .int, accessFlags := 26, slot := 0, constantValue := 0 }, { name := "INSERTIONSORT_THRESHOLD", type := .int, accessFlags := 26, slot := 1, constantValue := 0 }, { name := "$assertionsDisabled", type := .boolean, accessFlags := 4120, slot := 2, constantValue := 0 }]
  methods := #[k12m0, k12m1, k12m2, k12m3, k12m4]
  instanceTypes := #[]
  staticTypes := #[.int, .int, .boolean]
  resolved := Array.replicate 1029 none
  statics := none }

def pool13 : Array CpInfo := pool [(1, .class_ 2), (0, u "java/lang/Cloneable"), (0, .class_ 4), (0, u "java/lang/Object")] 2

/-- java/lang/Cloneable -/
def k13 : Class := { plain "java/lang/Cloneable" (some 0) with
  accessFlags := 1537
  interfaces := #[]
  cf := some (fileOf pool13 1 #[] #[] 1537 3 #[] #[])
  fields := #[]
  methods := #[]
  instanceTypes := #[]
  staticTypes := #[]
  resolved := Array.replicate 7 none
  statics := none }

def pool14 : Array CpInfo := pool [(3, .class_ 4), (0, u "java/lang/String"), (1, .class_ 8), (1, u "java/lang/Object"), (0, u "<init>"), (0, u "()V"), (0, .methodref 12 13), (0, .class_ 14), (0, .nameAndType 15 16), (0, u "java/lang/StringUTF16"), (0, u "newBytesLength"), (0, u "(I)I"), (3, .integer 1073741823), (23, .fieldref 12 45), (0, .nameAndType 46 47), (0, u "$assertionsDisabled"), (0, u "Z"), (0, .methodref 12 49), (0, .nameAndType 50 51), (0, u "length"), (0, u "([B)I"), (7, .fieldref 12 60), (0, .nameAndType 61 62), (0, u "HI_BYTE_SHIFT"), (0, u "I"), (0, .fieldref 12 64), (0, .nameAndType 65 62), (0, u "LO_BYTE_SHIFT"), (1, .methodref 12 68), (0, .nameAndType 69 70), (0, u "checkIndex"), (0, u "(I[B)V"), (0, .methodref 12 72), (0, .nameAndType 73 74), (0, u "getChar"), (0, u "([BI)C"), (24, u "(II[B)V"), (7, .methodref 12 108), (0, .nameAndType 109 110), (0, u "newBytesFor"), (0, u "(I)[B"), (0, .methodref 12 112), (0, .nameAndType 113 114), (0, u "putChar"), (0, u "([BII)V"), (0, .methodref 12 116), (0, .nameAndType 117 118), (0, u "compress"), (0, u "([CI[BII)I"), (0, .methodref 12 120), (0, .nameAndType 121 122), (0, u "toBytes"), (0, u "([CII)[B"), (17, u "inflate"), (0, u "([BI[BII)V"), (31, .methodref 12 174), (0, .nameAndType 175 99), (0, u "checkBoundsOffCount"), (85, u "coderFromArrayLen"), (0, u "([BI)B"), (18, u "(III)I"), (87, .class_ 371), (1, u "java/lang/StringUTF16$LinesSpliterator"), (20, u "charAt"), (21, .methodref 3 415), (0, .nameAndType 69 416), (0, u "(II)V"), (2, .methodref 3 420), (0, .nameAndType 175 281), (9, u "MAX_LENGTH"), (155, u "putCharSB"), (40, .class_ 628), (0, u "java/lang/StringUTF16$CodePointsSpliterator"), (0, .class_ 630), (0, u "java/lang/StringUTF16$CharsSpliterator")] 4

def k14m0 : Method := { name := "<init>", desc := "()V", sig := { parameters := [], returnType := none }, accessFlags := 0, code := none }
def k14c1 : Code := { maxStack := 1, maxLocals := 1, code := jdk_52_method_2_code, exceptionTable := #[], attributes := #[] }
def k14m1 : Method := { name := "newBytesFor", desc := "(I)[B", sig := { parameters := [.int], returnType := some (.array .byte) }, accessFlags := 9, code := some k14c1 }
def k14c2 : Code := { maxStack := 4, maxLocals := 1, code := jdk_52_method_3_code, exceptionTable := #[], attributes := #[] }
def k14m2 : Method := { name := "newBytesLength", desc := "(I)I", sig := { parameters := [.int], returnType := some .int }, accessFlags := 9, code := some k14c2 }
def k14c3 : Code := { maxStack := 4, maxLocals := 3, code := jdk_52_method_4_code, exceptionTable := #[], attributes := #[] }
def k14m3 : Method := { name := "putChar", desc := "([BII)V", sig := { parameters := [(.array .byte), .int, .int], returnType := none }, accessFlags := 8, code := some k14c3 }
def k14c4 : Code := { maxStack := 3, maxLocals := 2, code := jdk_52_method_5_code, exceptionTable := #[], attributes := #[] }
def k14m4 : Method := { name := "getChar", desc := "([BI)C", sig := { parameters := [(.array .byte), .int], returnType := some .char }, accessFlags := 8, code := some k14c4 }
def k14c5 : Code := { maxStack := 2, maxLocals := 1, code := jdk_52_method_6_code, exceptionTable := #[], attributes := #[] }
def k14m5 : Method := { name := "length", desc := "([B)I", sig := { parameters := [(.array .byte)], returnType := some .int }, accessFlags := 9, code := some k14c5 }
def k14c6 : Code := { maxStack := 4, maxLocals := 5, code := jdk_52_method_14_code, exceptionTable := #[], attributes := #[] }
def k14m6 : Method := { name := "toBytes", desc := "([CII)[B", sig := { parameters := [(.array .char), .int, .int], returnType := some (.array .byte) }, accessFlags := 9, code := some k14c6 }
def k14c7 : Code := { maxStack := 2, maxLocals := 2, code := jdk_52_method_15_code, exceptionTable := #[], attributes := #[] }
def k14m7 : Method := { name := "coderFromArrayLen", desc := "([BI)B", sig := { parameters := [(.array .byte), .int], returnType := some .byte }, accessFlags := 8, code := some k14c7 }
def k14c8 : Code := { maxStack := 5, maxLocals := 6, code := jdk_52_method_16_code, exceptionTable := #[], attributes := #[] }
def k14m8 : Method := { name := "compress", desc := "([CII)[B", sig := { parameters := [(.array .char), .int, .int], returnType := some (.array .byte) }, accessFlags := 9, code := some k14c8 }
def k14c9 : Code := { maxStack := 3, maxLocals := 7, code := jdk_52_method_21_code, exceptionTable := #[], attributes := #[] }
def k14m9 : Method := { name := "compress", desc := "([CI[BII)I", sig := { parameters := [(.array .char), .int, (.array .byte), .int, .int], returnType := some .int }, accessFlags := 9, code := some k14c9 }
def k14c10 : Code := { maxStack := 3, maxLocals := 3, code := jdk_52_method_71_code, exceptionTable := #[], attributes := #[] }
def k14m10 : Method := { name := "putCharSB", desc := "([BII)V", sig := { parameters := [(.array .byte), .int, .int], returnType := none }, accessFlags := 9, code := some k14c10 }
def k14c11 : Code := { maxStack := 2, maxLocals := 2, code := jdk_52_method_83_code, exceptionTable := #[], attributes := #[] }
def k14m11 : Method := { name := "charAt", desc := "([BI)C", sig := { parameters := [(.array .byte), .int], returnType := some .char }, accessFlags := 9, code := some k14c11 }
def k14c12 : Code := { maxStack := 4, maxLocals := 6, code := jdk_52_method_86_code, exceptionTable := #[], attributes := #[] }
def k14m12 : Method := { name := "inflate", desc := "([BI[BII)V", sig := { parameters := [(.array .byte), .int, (.array .byte), .int, .int], returnType := none }, accessFlags := 9, code := some k14c12 }
def k14c13 : Code := { maxStack := 2, maxLocals := 2, code := jdk_52_method_91_code, exceptionTable := #[], attributes := #[] }
def k14m13 : Method := { name := "checkIndex", desc := "(I[B)V", sig := { parameters := [.int, (.array .byte)], returnType := none }, accessFlags := 9, code := some k14c13 }
def k14c14 : Code := { maxStack := 3, maxLocals := 3, code := jdk_52_method_94_code, exceptionTable := #[], attributes := #[] }
def k14m14 : Method := { name := "checkBoundsOffCount", desc := "(II[B)V", sig := { parameters := [.int, .int, (.array .byte)], returnType := none }, accessFlags := 9, code := some k14c14 }
/-- java/lang/StringUTF16 -/
def k14 : Class := { plain "java/lang/StringUTF16" (some 0) with
  accessFlags := 48
  interfaces := #[]
  cf := some (fileOf pool14 12 #[.nestMembers #[627, 629, 369]] #[{ accessFlags := 0, nameIndex := 9, descriptorIndex := 10, attributes := #[] }, { accessFlags := 9, nameIndex := 109, descriptorIndex := 110, attributes := #[] }, { accessFlags := 9, nameIndex := 15, descriptorIndex := 16, attributes := #[] }, { accessFlags := 8, nameIndex := 113, descriptorIndex := 114, attributes := #[] }, { accessFlags := 8, nameIndex := 73, descriptorIndex := 74, attributes := #[] }, { accessFlags := 9, nameIndex := 50, descriptorIndex := 51, attributes := #[] }, { accessFlags := 9, nameIndex := 121, descriptorIndex := 122, attributes := #[] }, { accessFlags := 8, nameIndex := 261, descriptorIndex := 262, attributes := #[] }, { accessFlags := 9, nameIndex := 117, descriptorIndex := 122, attributes := #[] }, { accessFlags := 9, nameIndex := 117, descriptorIndex := 118, attributes := #[] }, { accessFlags := 9, nameIndex := 586, descriptorIndex := 114, attributes := #[] }, { accessFlags := 9, nameIndex := 392, descriptorIndex := 74, attributes := #[] }, { accessFlags := 9, nameIndex := 140, descriptorIndex := 141, attributes := #[] }, { accessFlags := 9, nameIndex := 69, descriptorIndex := 70, attributes := #[] }, { accessFlags := 9, nameIndex := 175, descriptorIndex := 99, attributes := #[] }] 48 6 #[] #[{ accessFlags := 26, nameIndex := 61, descriptorIndex := 62, attributes := #[] }, { accessFlags := 26, nameIndex := 65, descriptorIndex := 62, attributes := #[] }, { accessFlags := 24, nameIndex := 430, descriptorIndex := 62, attributes := #[] }, { accessFlags := 4120, nameIndex := 46, descriptorIndex := 47, attributes := #[] }])
  fields := #[{ name := "HI_BYTE_SHIFT", type := .int, accessFlags := 26, slot := 0, constantValue := 0 }, { name := "LO_BYTE_SHIFT", type := .int, accessFlags := 26, slot := 1, constantValue := 0 }, { name := "MAX_LENGTH", type := .int, accessFlags := 24, slot := 2, constantValue := 0 }, { name := "$assertionsDisabled", type := .boolean, accessFlags := 4120, slot := 3, constantValue := 0 }]
  methods := #[k14m0, k14m1, k14m2, k14m3, k14m4, k14m5, k14m6, k14m7, k14m8, k14m9, k14m10, k14m11, k14m12, k14m13, k14m14]
  instanceTypes := #[]
  staticTypes := #[.int, .int, .int, .boolean]
  resolved := Array.replicate 635 none
  statics := some 1 }

def pool15 : Array CpInfo := pool [(1, .class_ 2), (0, u "java/lang/String"), (1, .class_ 6), (1, u "java/lang/Object"), (0, u "<init>"), (0, u "()V"), (0, .methodref 1 10), (0, .nameAndType 11 12), (0, u "checkIndex"), (0, u "(II)V"), (1, .class_ 16), (1, u "java/lang/StringLatin1"), (0, u "inflate"), (2, .class_ 22), (1, u "java/lang/StringUTF16"), (3, .nameAndType 17 27), (0, u "([BI[BII)V"), (25, u "([BI)C"), (36, u "canEncode"), (14, u "(C)Z"), (15, u "$assertionsDisabled"), (0, u "Z"), (98, .class_ 223), (1, u "java/lang/StringLatin1$LinesSpliterator"), (16, .methodref 20 26), (11, u "charAt"), (137, .class_ 391), (0, u "java/lang/StringLatin1$CharsSpliterator")] 3

def k15m0 : Method := { name := "<init>", desc := "()V", sig := { parameters := [], returnType := none }, accessFlags := 0, code := none }
def k15c1 : Code := { maxStack := 2, maxLocals := 2, code := jdk_43_method_2_code, exceptionTable := #[], attributes := #[] }
def k15m1 : Method := { name := "charAt", desc := "([BI)C", sig := { parameters := [(.array .byte), .int], returnType := some .char }, accessFlags := 9, code := some k15c1 }
def k15c2 : Code := { maxStack := 2, maxLocals := 1, code := jdk_43_method_3_code, exceptionTable := #[], attributes := #[] }
def k15m2 : Method := { name := "canEncode", desc := "(C)Z", sig := { parameters := [.char], returnType := some .boolean }, accessFlags := 9, code := some k15c2 }
def k15c3 : Code := { maxStack := 5, maxLocals := 5, code := jdk_43_method_50_code, exceptionTable := #[], attributes := #[] }
def k15m3 : Method := { name := "inflate", desc := "([BI[BII)V", sig := { parameters := [(.array .byte), .int, (.array .byte), .int, .int], returnType := none }, accessFlags := 9, code := some k15c3 }
/-- java/lang/StringLatin1 -/
def k15 : Class := { plain "java/lang/StringLatin1" (some 0) with
  accessFlags := 48
  interfaces := #[]
  cf := some (fileOf pool15 14 #[.nestMembers #[390, 221]] #[{ accessFlags := 0, nameIndex := 7, descriptorIndex := 8, attributes := #[] }, { accessFlags := 9, nameIndex := 252, descriptorIndex := 53, attributes := #[] }, { accessFlags := 9, nameIndex := 90, descriptorIndex := 105, attributes := #[] }, { accessFlags := 9, nameIndex := 17, descriptorIndex := 27, attributes := #[] }] 48 4 #[] #[{ accessFlags := 4120, nameIndex := 121, descriptorIndex := 122, attributes := #[] }])
  fields := #[{ name := "$assertionsDisabled", type := .boolean, accessFlags := 4120, slot := 0, constantValue := 0 }]
  methods := #[k15m0, k15m1, k15m2, k15m3]
  instanceTypes := #[]
  staticTypes := #[.boolean]
  resolved := Array.replicate 395 none
  statics := none }

def pool16 : Array CpInfo := pool [(2, .class_ 4), (1, u "java/lang/Object"), (0, u "<init>"), (0, u "()V"), (17, .class_ 26), (1, u "jdk/internal/util/Preconditions"), (6, u "checkIndex"), (15, u "checkFromIndexSize"), (5, .class_ 56), (0, u "jdk/internal/util/Preconditions$4"), (57, .class_ 115), (0, u "jdk/internal/util/Preconditions$1"), (7, u "SIOOBE_FORMATTER"), (0, u "Ljava/util/function/BiFunction;"), (0, .class_ 126), (0, u "jdk/internal/util/Preconditions$2"), (3, u "AIOOBE_FORMATTER"), (0, .class_ 132), (0, u "jdk/internal/util/Preconditions$3"), (3, u "IOOBE_FORMATTER"), (41, u "(IILjava/util/function/BiFunction;)I"), (4, u "(IIILjava/util/function/BiFunction;)I")] 10

def k16m0 : Method := { name := "<init>", desc := "()V", sig := { parameters := [], returnType := none }, accessFlags := 1, code := none }
def k16c1 : Code := { maxStack := 3, maxLocals := 3, code := jdk_41_method_11_code, exceptionTable := #[], attributes := #[] }
def k16m1 : Method := { name := "checkIndex", desc := "(IILjava/util/function/BiFunction;)I", sig := { parameters := [.int, .int, (.object "java/util/function/BiFunction")], returnType := some .int }, accessFlags := 9, code := some k16c1 }
def k16c2 : Code := { maxStack := 4, maxLocals := 4, code := jdk_41_method_13_code, exceptionTable := #[], attributes := #[] }
def k16m2 : Method := { name := "checkFromIndexSize", desc := "(IIILjava/util/function/BiFunction;)I", sig := { parameters := [.int, .int, .int, (.object "java/util/function/BiFunction")], returnType := some .int }, accessFlags := 9, code := some k16c2 }
/-- jdk/internal/util/Preconditions -/
def k16 : Class := { plain "jdk/internal/util/Preconditions" (some 0) with
  accessFlags := 33
  interfaces := #[]
  cf := some (fileOf pool16 24 #[.nestMembers #[55, 131, 125, 114]] #[{ accessFlags := 1, nameIndex := 5, descriptorIndex := 6, attributes := #[] }, { accessFlags := 9, nameIndex := 33, descriptorIndex := 178, attributes := #[] }, { accessFlags := 9, nameIndex := 49, descriptorIndex := 183, attributes := #[] }] 33 2 #[] #[{ accessFlags := 25, nameIndex := 123, descriptorIndex := 124, attributes := #[] }, { accessFlags := 25, nameIndex := 130, descriptorIndex := 124, attributes := #[] }, { accessFlags := 25, nameIndex := 136, descriptorIndex := 124, attributes := #[] }])
  fields := #[{ name := "SIOOBE_FORMATTER", type := (.object "java/util/function/BiFunction"), accessFlags := 25, slot := 0, constantValue := 0 }, { name := "AIOOBE_FORMATTER", type := (.object "java/util/function/BiFunction"), accessFlags := 25, slot := 1, constantValue := 0 }, { name := "IOOBE_FORMATTER", type := (.object "java/util/function/BiFunction"), accessFlags := 25, slot := 2, constantValue := 0 }]
  methods := #[k16m0, k16m1, k16m2]
  instanceTypes := #[]
  staticTypes := #[(.object "java/util/function/BiFunction"), (.object "java/util/function/BiFunction"), (.object "java/util/function/BiFunction")]
  resolved := Array.replicate 194 none
  statics := some 2 }

def pool17 : Array CpInfo := pool [(9, u "<init>"), (6, .class_ 18), (1, u "java/lang/Object"), (0, u "()V"), (1, .class_ 23), (1, u "jdk/internal/util/ArraysSupport"), (0, u "LOG2_ARRAY_LONG_INDEX_SCALE"), (0, u "I"), (2, u "U"), (0, u "Ljdk/internal/misc/Unsafe;"), (8, u "BIG_ENDIAN"), (0, u "Z"), (8, u "LOG2_BYTE_BIT_SIZE"), (4, u "LOG2_ARRAY_INT_INDEX_SCALE"), (54, u "JLA"), (0, u "Ljdk/internal/access/JavaLangAccess;"), (11, u "LOG2_ARRAY_BOOLEAN_INDEX_SCALE"), (9, u "LOG2_ARRAY_BYTE_INDEX_SCALE"), (5, u "LOG2_ARRAY_CHAR_INDEX_SCALE"), (5, u "LOG2_ARRAY_SHORT_INDEX_SCALE"), (18, u "LOG2_ARRAY_FLOAT_INDEX_SCALE"), (24, u "LOG2_ARRAY_DOUBLE_INDEX_SCALE"), (6, .methodref 195 196), (0, .class_ 197), (0, .nameAndType 198 199), (0, u "java/lang/Math"), (0, u "max"), (0, u "(II)I"), (0, .integer 2147483639), (76, u "T_BOOLEAN"), (2, u "T_CHAR"), (1, u "T_FLOAT"), (1, u "T_DOUBLE"), (1, u "T_BYTE"), (1, u "T_SHORT"), (1, u "T_INT"), (1, u "T_LONG"), (1, u "SOFT_MAX_ARRAY_LENGTH"), (56, u "newLength"), (0, u "(III)I")] 25

def k17m0 : Method := { name := "<init>", desc := "()V", sig := { parameters := [], returnType := none }, accessFlags := 2, code := none }
def k17c1 : Code := { maxStack := 3, maxLocals := 4, code := jdk_48_method_27_code, exceptionTable := #[], attributes := #[] }
def k17m1 : Method := { name := "newLength", desc := "(III)I", sig := { parameters := [.int, .int, .int], returnType := some .int }, accessFlags := 9, code := some k17c1 }
/-- jdk/internal/util/ArraysSupport -/
def k17 : Class := { plain "jdk/internal/util/ArraysSupport" (some 0) with
  accessFlags := 33
  interfaces := #[]
  cf := some (fileOf pool17 21 #[] #[{ accessFlags := 2, nameIndex := 9, descriptorIndex := 19, attributes := #[] }, { accessFlags := 9, nameIndex := 351, descriptorIndex := 352, attributes := #[] }] 33 16 #[] #[{ accessFlags := 24, nameIndex := 28, descriptorIndex := 29, attributes := #[] }, { accessFlags := 26, nameIndex := 38, descriptorIndex := 39, attributes := #[] }, { accessFlags := 25, nameIndex := 121, descriptorIndex := 25, attributes := #[] }, { accessFlags := 25, nameIndex := 131, descriptorIndex := 25, attributes := #[] }, { accessFlags := 25, nameIndex := 137, descriptorIndex := 25, attributes := #[] }, { accessFlags := 25, nameIndex := 143, descriptorIndex := 25, attributes := #[] }, { accessFlags := 25, nameIndex := 53, descriptorIndex := 25, attributes := #[] }, { accessFlags := 25, nameIndex := 24, descriptorIndex := 25, attributes := #[] }, { accessFlags := 25, nameIndex := 162, descriptorIndex := 25, attributes := #[] }, { accessFlags := 25, nameIndex := 187, descriptorIndex := 25, attributes := #[] }, { accessFlags := 26, nameIndex := 48, descriptorIndex := 25, attributes := #[] }, { accessFlags := 25, nameIndex := 277, descriptorIndex := 25, attributes := #[] }, { accessFlags := 25, nameIndex := 280, descriptorIndex := 25, attributes := #[] }, { accessFlags := 25, nameIndex := 282, descriptorIndex := 25, attributes := #[] }, { accessFlags := 25, nameIndex := 284, descriptorIndex := 25, attributes := #[] }, { accessFlags := 25, nameIndex := 286, descriptorIndex := 25, attributes := #[] }, { accessFlags := 25, nameIndex := 288, descriptorIndex := 25, attributes := #[] }, { accessFlags := 25, nameIndex := 290, descriptorIndex := 25, attributes := #[] }, { accessFlags := 25, nameIndex := 292, descriptorIndex := 25, attributes := #[] }, { accessFlags := 26, nameIndex := 108, descriptorIndex := 109, attributes := #[] }, { accessFlags := 25, nameIndex := 294, descriptorIndex := 25, attributes := #[] }])
  fields := #[{ name := "U", type := (.object "jdk/internal/misc/Unsafe"), accessFlags := 24, slot := 0, constantValue := 0 }, { name := "BIG_ENDIAN", type := .boolean, accessFlags := 26, slot := 1, constantValue := 0 }, { name := "LOG2_ARRAY_BOOLEAN_INDEX_SCALE", type := .int, accessFlags := 25, slot := 2, constantValue := 0 }, { name := "LOG2_ARRAY_BYTE_INDEX_SCALE", type := .int, accessFlags := 25, slot := 3, constantValue := 0 }, { name := "LOG2_ARRAY_CHAR_INDEX_SCALE", type := .int, accessFlags := 25, slot := 4, constantValue := 0 }, { name := "LOG2_ARRAY_SHORT_INDEX_SCALE", type := .int, accessFlags := 25, slot := 5, constantValue := 0 }, { name := "LOG2_ARRAY_INT_INDEX_SCALE", type := .int, accessFlags := 25, slot := 6, constantValue := 0 }, { name := "LOG2_ARRAY_LONG_INDEX_SCALE", type := .int, accessFlags := 25, slot := 7, constantValue := 0 }, { name := "LOG2_ARRAY_FLOAT_INDEX_SCALE", type := .int, accessFlags := 25, slot := 8, constantValue := 0 }, { name := "LOG2_ARRAY_DOUBLE_INDEX_SCALE", type := .int, accessFlags := 25, slot := 9, constantValue := 0 }, { name := "LOG2_BYTE_BIT_SIZE", type := .int, accessFlags := 26, slot := 10, constantValue := 0 }, { name := "T_BOOLEAN", type := .int, accessFlags := 25, slot := 11, constantValue := 0 }, { name := "T_CHAR", type := .int, accessFlags := 25, slot := 12, constantValue := 0 }, { name := "T_FLOAT", type := .int, accessFlags := 25, slot := 13, constantValue := 0 }, { name := "T_DOUBLE", type := .int, accessFlags := 25, slot := 14, constantValue := 0 }, { name := "T_BYTE", type := .int, accessFlags := 25, slot := 15, constantValue := 0 }, { name := "T_SHORT", type := .int, accessFlags := 25, slot := 16, constantValue := 0 }, { name := "T_INT", type := .int, accessFlags := 25, slot := 17, constantValue := 0 }, { name := "T_LONG", type := .int, accessFlags := 25, slot := 18, constantValue := 0 }, { name := "JLA", type := (.object "jdk/internal/access/JavaLangAccess"), accessFlags := 26, slot := 19, constantValue := 0 }, { name := "SOFT_MAX_ARRAY_LENGTH", type := .int, accessFlags := 25, slot := 20, constantValue := 0 }]
  methods := #[k17m0, k17m1]
  instanceTypes := #[]
  staticTypes := #[(.object "jdk/internal/misc/Unsafe"), .boolean, .int, .int, .int, .int, .int, .int, .int, .int, .int, .int, .int, .int, .int, .int, .int, .int, .int, (.object "jdk/internal/access/JavaLangAccess"), .int]
  resolved := Array.replicate 378 none
  statics := none }

def pool18 : Array CpInfo := pool [(1, .class_ 2), (0, u "java/lang/Math"), (1, .class_ 6), (1, u "java/lang/Object"), (0, u "<init>"), (0, u "()V"), (89, .class_ 100), (1, u "java/lang/Math$RandomNumberGeneratorHolder"), (71, u "negativeZeroFloatBits"), (0, u "J"), (2, u "negativeZeroDoubleBits"), (21, u "max"), (2, u "min"), (43, u "$assertionsDisabled"), (0, u "Z"), (88, u "(II)I"), (2, u "twoToTheDoubleScaleDown"), (0, u "D"), (4, u "twoToTheDoubleScaleUp"), (9, u "E"), (3, u "PI"), (2, u "TAU"), (2, u "DEGREES_TO_RADIANS"), (0, u "RADIANS_TO_DEGREES")] 94

def k18m0 : Method := { name := "<init>", desc := "()V", sig := { parameters := [], returnType := none }, accessFlags := 2, code := none }
def k18c1 : Code := { maxStack := 2, maxLocals := 2, code := jdk_29_method_65_code, exceptionTable := #[], attributes := #[] }
def k18m1 : Method := { name := "max", desc := "(II)I", sig := { parameters := [.int, .int], returnType := some .int }, accessFlags := 9, code := some k18c1 }
def k18c2 : Code := { maxStack := 2, maxLocals := 2, code := jdk_29_method_69_code, exceptionTable := #[], attributes := #[] }
def k18m2 : Method := { name := "min", desc := "(II)I", sig := { parameters := [.int, .int], returnType := some .int }, accessFlags := 9, code := some k18c2 }
/-- java/lang/Math -/
def k18 : Class := { plain "java/lang/Math" (some 0) with
  accessFlags := 49
  interfaces := #[]
  cf := some (fileOf pool18 1 #[.nestMembers #[98]] #[{ accessFlags := 2, nameIndex := 7, descriptorIndex := 8, attributes := #[] }, { accessFlags := 9, nameIndex := 198, descriptorIndex := 335, attributes := #[] }, { accessFlags := 9, nameIndex := 201, descriptorIndex := 335, attributes := #[] }] 49 4 #[] #[{ accessFlags := 25, nameIndex := 354, descriptorIndex := 339, attributes := #[] }, { accessFlags := 25, nameIndex := 358, descriptorIndex := 339, attributes := #[] }, { accessFlags := 25, nameIndex := 361, descriptorIndex := 339, attributes := #[] }, { accessFlags := 26, nameIndex := 364, descriptorIndex := 339, attributes := #[] }, { accessFlags := 26, nameIndex := 365, descriptorIndex := 339, attributes := #[] }, { accessFlags := 26, nameIndex := 172, descriptorIndex := 173, attributes := #[] }, { accessFlags := 26, nameIndex := 176, descriptorIndex := 173, attributes := #[] }, { accessFlags := 8, nameIndex := 344, descriptorIndex := 339, attributes := #[] }, { accessFlags := 8, nameIndex := 338, descriptorIndex := 339, attributes := #[] }, { accessFlags := 4120, nameIndex := 245, descriptorIndex := 246, attributes := #[] }])
  fields := #[{ name := "E", type := .double, accessFlags := 25, slot := 0, constantValue := 0 }, { name := "PI", type := .double, accessFlags := 25, slot := 1, constantValue := 0 }, { name := "TAU", type := .double, accessFlags := 25, slot := 2, constantValue := 0 }, { name := "DEGREES_TO_RADIANS", type := .double, accessFlags := 26, slot := 3, constantValue := 0 }, { name := "RADIANS_TO_DEGREES", type := .double, accessFlags := 26, slot := 4, constantValue := 0 }, { name := "negativeZeroFloatBits", type := .long, accessFlags := 26, slot := 5, constantValue := 0 }, { name := "negativeZeroDoubleBits", type := .long, accessFlags := 26, slot := 6, constantValue := 0 }, { name := "twoToTheDoubleScaleUp", type := .double, accessFlags := 8, slot := 7, constantValue := 0 }, { name := "twoToTheDoubleScaleDown", type := .double, accessFlags := 8, slot := 8, constantValue := 0 }, { name := "$assertionsDisabled", type := .boolean, accessFlags := 4120, slot := 9, constantValue := 0 }]
  methods := #[k18m0, k18m1, k18m2]
  instanceTypes := #[]
  staticTypes := #[.double, .double, .double, .double, .double, .long, .long, .double, .double, .boolean]
  resolved := Array.replicate 460 none
  statics := none }

def pool19 : Array CpInfo := pool [(2, .class_ 4), (1, u "java/lang/Object"), (0, u "<init>"), (0, u "()V"), (1, .class_ 10), (1, u "java/lang/System"), (0, u "allowSecurityManager"), (0, u "I"), (16, u "cons"), (0, u "Ljava/io/Console;"), (77, .class_ 110), (1, u "java/lang/System$CallersHolder"), (43, u "initialErrStream"), (0, u "Ljava/io/PrintStream;"), (19, u "security"), (0, u "Ljava/lang/SecurityManager;"), (31, .class_ 209), (0, u "java/lang/System$1"), (7, u "props"), (0, u "Ljava/util/Properties;"), (2, u "lineSeparator"), (0, u "Ljava/lang/String;"), (96, .class_ 321), (1, u "java/lang/System$LoggerFinder"), (5, .class_ 328), (0, u "java/lang/System$Logger"), (67, u "err"), (2, u "out"), (91, u "notSupportedJnuEncoding"), (15, u "in"), (17, u "initialIn"), (0, u "Ljava/io/InputStream;"), (35, u "bootLayer"), (0, u "Ljava/lang/ModuleLayer;"), (99, .class_ 664), (0, u "java/lang/System$2"), (9, u "NEVER"), (2, u "MAYBE"), (49, u "arraycopy"), (0, u "(Ljava/lang/Object;ILjava/lang/Object;II)V"), (72, .class_ 802), (0, u "java/lang/System$Logger$Level")] 31

def k19m0 : Method := { name := "<init>", desc := "()V", sig := { parameters := [], returnType := none }, accessFlags := 2, code := none }
def k19m1 : Method := { name := "arraycopy", desc := "(Ljava/lang/Object;ILjava/lang/Object;II)V", sig := { parameters := [(.object "java/lang/Object"), .int, (.object "java/lang/Object"), .int, .int], returnType := none }, accessFlags := 265, code := none }
/-- java/lang/System -/
def k19 : Class := { plain "java/lang/System" (some 0) with
  accessFlags := 49
  interfaces := #[]
  cf := some (fileOf pool19 8 #[.nestMembers #[319, 327, 801, 108, 663, 208]] #[{ accessFlags := 2, nameIndex := 5, descriptorIndex := 6, attributes := #[] }, { accessFlags := 265, nameIndex := 727, descriptorIndex := 728, attributes := #[] }] 49 2 #[] #[{ accessFlags := 25, nameIndex := 507, descriptorIndex := 526, attributes := #[] }, { accessFlags := 25, nameIndex := 399, descriptorIndex := 155, attributes := #[] }, { accessFlags := 25, nameIndex := 396, descriptorIndex := 155, attributes := #[] }, { accessFlags := 10, nameIndex := 525, descriptorIndex := 526, attributes := #[] }, { accessFlags := 26, nameIndex := 674, descriptorIndex := 12, attributes := #[] }, { accessFlags := 26, nameIndex := 677, descriptorIndex := 12, attributes := #[] }, { accessFlags := 10, nameIndex := 11, descriptorIndex := 12, attributes := #[] }, { accessFlags := 74, nameIndex := 175, descriptorIndex := 176, attributes := #[] }, { accessFlags := 10, nameIndex := 491, descriptorIndex := 222, attributes := #[] }, { accessFlags := 74, nameIndex := 29, descriptorIndex := 30, attributes := #[] }, { accessFlags := 74, nameIndex := 154, descriptorIndex := 155, attributes := #[] }, { accessFlags := 10, nameIndex := 217, descriptorIndex := 218, attributes := #[] }, { accessFlags := 10, nameIndex := 221, descriptorIndex := 222, attributes := #[] }, { accessFlags := 8, nameIndex := 562, descriptorIndex := 563, attributes := #[] }])
  fields := #[{ name := "in", type := (.object "java/io/InputStream"), accessFlags := 25, slot := 0, constantValue := 0 }, { name := "out", type := (.object "java/io/PrintStream"), accessFlags := 25, slot := 1, constantValue := 0 }, { name := "err", type := (.object "java/io/PrintStream"), accessFlags := 25, slot := 2, constantValue := 0 }, { name := "initialIn", type := (.object "java/io/InputStream"), accessFlags := 10, slot := 3, constantValue := 0 }, { name := "NEVER", type := .int, accessFlags := 26, slot := 4, constantValue := 0 }, { name := "MAYBE", type := .int, accessFlags := 26, slot := 5, constantValue := 0 }, { name := "allowSecurityManager", type := .int, accessFlags := 10, slot := 6, constantValue := 0 }, { name := "security", type := (.object "java/lang/SecurityManager"), accessFlags := 74, slot := 7, constantValue := 0 }, { name := "notSupportedJnuEncoding", type := (.object "java/lang/String"), accessFlags := 10, slot := 8, constantValue := 0 }, { name := "cons", type := (.object "java/io/Console"), accessFlags := 74, slot := 9, constantValue := 0 }, { name := "initialErrStream", type := (.object "java/io/PrintStream"), accessFlags := 74, slot := 10, constantValue := 0 }, { name := "props", type := (.object "java/util/Properties"), accessFlags := 10, slot := 11, constantValue := 0 }, { name := "lineSeparator", type := (.object "java/lang/String"), accessFlags := 10, slot := 12, constantValue := 0 }, { name := "bootLayer", type := (.object "java/lang/ModuleLayer"), accessFlags := 8, slot := 13, constantValue := 0 }]
  methods := #[k19m0, k19m1]
  instanceTypes := #[]
  staticTypes := #[(.object "java/io/InputStream"), (.object "java/io/PrintStream"), (.object "java/io/PrintStream"), (.object "java/io/InputStream"), .int, .int, .int, (.object "java/lang/SecurityManager"), (.object "java/lang/String"), (.object "java/io/Console"), (.object "java/io/PrintStream"), (.object "java/util/Properties"), (.object "java/lang/String"), (.object "java/lang/ModuleLayer")]
  resolved := Array.replicate 834 none
  statics := none }

/-- the primitive byte -/
def k20 : Class := { plain "byte" none with kind := .primitive 'B', accessFlags := 0x411 }
/-- [B -/
def k21 : Class := { plain "[B" (some 0) with kind := .array 20 .byte, interfaces := #[13, 2], accessFlags := 1041 }

/-- the primitive char -/
def k22 : Class := { plain "char" none with kind := .primitive 'C', accessFlags := 0x411 }
/-- [C -/
def k23 : Class := { plain "[C" (some 0) with kind := .array 22 .char, interfaces := #[13, 2], accessFlags := 1041 }

/-- the primitive int -/
def k24 : Class := { plain "int" none with kind := .primitive 'I', accessFlags := 0x411 }
/-- [I -/
def k25 : Class := { plain "[I" (some 0) with kind := .array 24 .int, interfaces := #[13, 2], accessFlags := 1041 }

def heap : Heap := #[{ cls := 7, slots := #[.long 0, .int 1, .null, .int 0, .null, .int 0, .int 0], vm := .statics 7 },
  { cls := 14, slots := #[.int 0, .int 8, .int 0, .int 1], vm := .statics 14 },
  { cls := 16, slots := #[.null, .null, .null], vm := .statics 16 }]
def classes : Array Class := #[k0, k1, k2, k3, k4, k5, k6, k7, k8, k9, k10, k11, k12, k13, k14, k15, k16, k17, k18, k19, k20, k21, k22, k23, k24, k25]
def interned : List (Array UInt16 × Addr) := []
def slotsUsed : Nat := 14
def theMethod : MethodId := ⟨1, 4⟩
def args0 : Array Value := #[.int 5, .int 5, .int 5, .int 5]
def aboutOver (below : List Frame) : State where
  vm := { classes := classes, interned := interned.toArray }
  heap := heap
  slotsUsed := slotsUsed
  threads := #[{ frames := .invoking theMethod args0 :: below }]
def below0 : List Frame := [.native { method := ⟨0, 0⟩, args := #[] }]
def about1 : State := aboutOver below0
def p0 : Program := .bare "" "" ""
def e0 : Env := launch0.env 0 0 0
theorem w_frames : about1.frames = Frame.invoking theMethod args0 :: below0 := rfl
set_option maxRecDepth 65536 in
theorem w_args : argsFit about1.vm theMethod args0 = true := by decide +kernel
set_option maxRecDepth 65536 in
theorem w_heap : heapFits about1 = true := by decide +kernel
set_option maxRecDepth 65536 in
theorem w_runnable : about1.curStatus? = some .runnable := by decide +kernel
set_option maxRecDepth 65536 in
theorem w_alone : about1.alone = true := by decide +kernel
set_option maxRecDepth 65536 in
theorem w_named : about1.methodNamed? x = some theMethod := by decide +kernel
set_option maxRecDepth 65536 in
theorem w_hears : about1.hears theMethod below0 = true := by decide +kernel
set_option maxRecDepth 65536 in
theorem w_ripe : about1.ripe theMethod args0 below0 = true := by decide +kernel
theorem w_running : about1.status = .running := rfl
set_option maxRecDepth 65536 in
theorem w_room : about1.hasRoom e0.platform room_1 = true :=
  launch0.hasRoom_least _ room_1 (by decide +kernel) (by decide +kernel) (by decide +kernel) (by decide +kernel) (by decide +kernel) (by decide +kernel)
theorem allAtoms_all (ts : List Jvm.Cond) (a : Array Jvm.Value) (st : Jvm.State) : (allAtoms ts).before a st = ts.all (fun c => c.before a st) := by
  induction ts with
  | nil => rfl
  | cons c t ih =>
    show (Jvm.Cond.and c (allAtoms t)).before a st = _
    rw [Jvm.Cond.before_and, ih, List.all_cons]
def words1 : List Jvm.Cond := Jvm.Cond.code x code maxLocals ret :: tables_1
/-- a 'code' word, met by the world's own term for the bytes: nothing is compared byte by byte -/
theorem code_word {y : MethodName} {bytes : ByteArray} {mx : Nat} {rt : Option FieldType} {a : Array Value} {s : State} {m : MethodId} {meth : Method} {c : Code} (h1 : s.methodNamed? y = some m) (h2 : s.vm.method? m = some meth) (h3 : meth.code = some c) (h4 : c.code = bytes)
    (h5 : (c.maxLocals == mx && c.exceptionTable.isEmpty && decide (c.maxStack ≤ mostOperands) && decide (meth.sig.returnType = rt) && !meth.locks && decide (parseMethodDescriptor y.desc = some meth.sig)) = true) : (Jvm.Cond.code y bytes mx rt).before a s = true := by
  simp only [Bool.and_eq_true, beq_iff_eq, Bool.not_eq_true', decide_eq_true_eq] at h5
  obtain ⟨⟨⟨⟨⟨g1, g2⟩, g3⟩, g4⟩, g5⟩, g6⟩ := h5
  simp [Cond.before, Cond.holds, Cond.value, h1, h2, h3, h4, g1, g2, g3, g4, g5, g6]
def isCode : Jvm.Cond → Bool
  | .code _ _ _ _ => true
  | _ => false
theorem all_split {L : List Jvm.Cond} {P : Jvm.Cond → Bool} (h1 : L.all (fun c => isCode c || P c) = true) (h2 : ∀ c ∈ L.filter isCode, P c = true) : L.all P = true := by
  refine List.all_eq_true.mpr fun c hc => ?_
  have h := List.all_eq_true.mp h1 c hc
  rcases Bool.eq_false_or_eq_true (isCode c) with hi | hi
  · exact h2 c (List.mem_filter.mpr ⟨hc, hi⟩)
  · simpa [hi] using h
set_option maxRecDepth 65536 in
theorem w_c0 : (Jvm.Cond.code x code maxLocals ret).before args0 about1 = true := code_word (m := ⟨1, 4⟩) (meth := k1m4) (c := k1c4) (by decide +kernel) rfl rfl rfl (by decide +kernel)
set_option maxRecDepth 65536 in
theorem w_c1 : (Jvm.Cond.code ({ cls := "com/example/input_under_constraint/inputunderconstraint/MessageTemplateLiteralPinLaw", name := "pick", desc := "(I)C" } : Jvm.MethodName) method_2_code (2 : Nat) (Option.some Jvm.ClassFile.FieldType.char)).before args0 about1 = true := code_word (m := ⟨1, 1⟩) (meth := k1m1) (c := k1c1) (by decide +kernel) rfl rfl rfl (by decide +kernel)
set_option maxRecDepth 65536 in
theorem w_c2 : (Jvm.Cond.code ({ cls := "java/lang/String", name := "<init>", desc := "([C)V" } : Jvm.MethodName) jdk_42_method_3_code (2 : Nat) (Option.none : Option Jvm.ClassFile.FieldType)).before args0 about1 = true := code_word (m := ⟨7, 1⟩) (meth := k7m1) (c := k7c1) (by decide +kernel) rfl rfl rfl (by decide +kernel)
set_option maxRecDepth 65536 in
theorem w_c3 : (Jvm.Cond.code ({ cls := "java/lang/String", name := "<init>", desc := "([CIILjava/lang/Void;)V" } : Jvm.MethodName) jdk_42_method_149_code (6 : Nat) (Option.none : Option Jvm.ClassFile.FieldType)).before args0 about1 = true := code_word (m := ⟨7, 5⟩) (meth := k7m5) (c := k7c5) (by decide +kernel) rfl rfl rfl (by decide +kernel)
set_option maxRecDepth 65536 in
theorem w_c4 : (Jvm.Cond.code ({ cls := "java/lang/Object", name := "<init>", desc := "()V" } : Jvm.MethodName) object_method_1_code (1 : Nat) (Option.none : Option Jvm.ClassFile.FieldType)).before args0 about1 = true := code_word (m := ⟨0, 0⟩) (meth := k0m0) (c := k0c0) (by decide +kernel) rfl rfl rfl (by decide +kernel)
set_option maxRecDepth 65536 in
theorem w_c5 : (Jvm.Cond.code ({ cls := "com/example/input_under_constraint/inputunderconstraint/MessageTemplate", name := "literal", desc := "(Ljava/lang/String;)Ljava/lang/String;" } : Jvm.MethodName) prog_19_method_4_code (4 : Nat) (Option.some (Jvm.ClassFile.FieldType.object "java/lang/String"))).before args0 about1 = true := code_word (m := ⟨8, 0⟩) (meth := k8m0) (c := k8c0) (by decide +kernel) rfl rfl rfl (by decide +kernel)
set_option maxRecDepth 65536 in
theorem w_c6 : (Jvm.Cond.code ({ cls := "java/lang/String", name := "length", desc := "()I" } : Jvm.MethodName) jdk_42_method_54_code (1 : Nat) (Option.some Jvm.ClassFile.FieldType.int)).before args0 about1 = true := code_word (m := ⟨7, 3⟩) (meth := k7m3) (c := k7c3) (by decide +kernel) rfl rfl rfl (by decide +kernel)
set_option maxRecDepth 65536 in
theorem w_c7 : (Jvm.Cond.code ({ cls := "java/lang/String", name := "coder", desc := "()B" } : Jvm.MethodName) jdk_42_method_152_code (1 : Nat) (Option.some Jvm.ClassFile.FieldType.byte)).before args0 about1 = true := code_word (m := ⟨7, 7⟩) (meth := k7m7) (c := k7c7) (by decide +kernel) rfl rfl rfl (by decide +kernel)
set_option maxRecDepth 65536 in
theorem w_c8 : (Jvm.Cond.code ({ cls := "java/lang/StringBuilder", name := "<init>", desc := "(I)V" } : Jvm.MethodName) jdk_67_method_2_code (2 : Nat) (Option.none : Option Jvm.ClassFile.FieldType)).before args0 about1 = true := code_word (m := ⟨11, 1⟩) (meth := k11m1) (c := k11c1) (by decide +kernel) rfl rfl rfl (by decide +kernel)
set_option maxRecDepth 65536 in
theorem w_c9 : (Jvm.Cond.code ({ cls := "java/lang/AbstractStringBuilder", name := "<init>", desc := "(I)V" } : Jvm.MethodName) jdk_68_method_2_code (2 : Nat) (Option.none : Option Jvm.ClassFile.FieldType)).before args0 about1 = true := code_word (m := ⟨10, 1⟩) (meth := k10m1) (c := k10c1) (by decide +kernel) rfl rfl rfl (by decide +kernel)
set_option maxRecDepth 65536 in
theorem w_c10 : (Jvm.Cond.code ({ cls := "java/lang/StringBuilder", name := "toString", desc := "()Ljava/lang/String;" } : Jvm.MethodName) jdk_67_method_42_code (1 : Nat) (Option.some (Jvm.ClassFile.FieldType.object "java/lang/String"))).before args0 about1 = true := code_word (m := ⟨11, 3⟩) (meth := k11m3) (c := k11c3) (by decide +kernel) rfl rfl rfl (by decide +kernel)
set_option maxRecDepth 65536 in
theorem w_c11 : (Jvm.Cond.code ({ cls := "java/lang/String", name := "<init>", desc := "(Ljava/lang/StringBuilder;)V" } : Jvm.MethodName) jdk_42_method_53_code (2 : Nat) (Option.none : Option Jvm.ClassFile.FieldType)).before args0 about1 = true := code_word (m := ⟨7, 2⟩) (meth := k7m2) (c := k7c2) (by decide +kernel) rfl rfl rfl (by decide +kernel)
set_option maxRecDepth 65536 in
theorem w_c12 : (Jvm.Cond.code ({ cls := "java/lang/String", name := "<init>", desc := "(Ljava/lang/AbstractStringBuilder;Ljava/lang/Void;)V" } : Jvm.MethodName) jdk_42_method_150_code (5 : Nat) (Option.none : Option Jvm.ClassFile.FieldType)).before args0 about1 = true := code_word (m := ⟨7, 6⟩) (meth := k7m6) (c := k7c6) (by decide +kernel) rfl rfl rfl (by decide +kernel)
set_option maxRecDepth 65536 in
theorem w_c13 : (Jvm.Cond.code ({ cls := "java/lang/AbstractStringBuilder", name := "getValue", desc := "()[B" } : Jvm.MethodName) jdk_68_method_64_code (1 : Nat) (Option.some (Jvm.ClassFile.FieldType.array Jvm.ClassFile.FieldType.byte))).before args0 about1 = true := code_word (m := ⟨10, 7⟩) (meth := k10m7) (c := k10c7) (by decide +kernel) rfl rfl rfl (by decide +kernel)
set_option maxRecDepth 65536 in
theorem w_c14 : (Jvm.Cond.code ({ cls := "java/lang/StringBuilder", name := "length", desc := "()I" } : Jvm.MethodName) jdk_67_method_93_code (1 : Nat) (Option.some Jvm.ClassFile.FieldType.int)).before args0 about1 = true := code_word (m := ⟨11, 4⟩) (meth := k11m4) (c := k11c4) (by decide +kernel) rfl rfl rfl (by decide +kernel)
set_option maxRecDepth 65536 in
theorem w_c15 : (Jvm.Cond.code ({ cls := "java/lang/AbstractStringBuilder", name := "length", desc := "()I" } : Jvm.MethodName) jdk_68_method_6_code (1 : Nat) (Option.some Jvm.ClassFile.FieldType.int)).before args0 about1 = true := code_word (m := ⟨10, 2⟩) (meth := k10m2) (c := k10c2) (by decide +kernel) rfl rfl rfl (by decide +kernel)
set_option maxRecDepth 65536 in
theorem w_c16 : (Jvm.Cond.code ({ cls := "java/lang/AbstractStringBuilder", name := "isLatin1", desc := "()Z" } : Jvm.MethodName) jdk_68_method_68_code (1 : Nat) (Option.some Jvm.ClassFile.FieldType.boolean)).before args0 about1 = true := code_word (m := ⟨10, 8⟩) (meth := k10m8) (c := k10c8) (by decide +kernel) rfl rfl rfl (by decide +kernel)
set_option maxRecDepth 65536 in
theorem w_c17 : (Jvm.Cond.code ({ cls := "java/util/Arrays", name := "copyOfRange", desc := "([BII)[B" } : Jvm.MethodName) jdk_65_method_132_code (3 : Nat) (Option.some (Jvm.ClassFile.FieldType.array Jvm.ClassFile.FieldType.byte))).before args0 about1 = true := code_word (m := ⟨12, 3⟩) (meth := k12m3) (c := k12c3) (by decide +kernel) rfl rfl rfl (by decide +kernel)
set_option maxRecDepth 65536 in
theorem w_c18 : (Jvm.Cond.code ({ cls := "com/example/input_under_constraint/inputunderconstraint/MessageTemplateLiteralPinLaw", name := "same", desc := "(Ljava/lang/String;[CII)Z" } : Jvm.MethodName) method_4_code (4 : Nat) (Option.some Jvm.ClassFile.FieldType.boolean)).before args0 about1 = true := code_word (m := ⟨1, 3⟩) (meth := k1m3) (c := k1c3) (by decide +kernel) rfl rfl rfl (by decide +kernel)
set_option maxRecDepth 65536 in
theorem w_c19 : (Jvm.Cond.code ({ cls := "com/example/input_under_constraint/inputunderconstraint/MessageTemplateLiteralPinLaw", name := "esc", desc := "(C)Z" } : Jvm.MethodName) method_3_code (1 : Nat) (Option.some Jvm.ClassFile.FieldType.boolean)).before args0 about1 = true := code_word (m := ⟨1, 2⟩) (meth := k1m2) (c := k1c2) (by decide +kernel) rfl rfl rfl (by decide +kernel)
set_option maxRecDepth 65536 in
theorem w_c20 : (Jvm.Cond.code ({ cls := "java/lang/StringUTF16", name := "compress", desc := "([CII)[B" } : Jvm.MethodName) jdk_52_method_16_code (6 : Nat) (Option.some (Jvm.ClassFile.FieldType.array Jvm.ClassFile.FieldType.byte))).before args0 about1 = true := code_word (m := ⟨14, 8⟩) (meth := k14m8) (c := k14c8) (by decide +kernel) rfl rfl rfl (by decide +kernel)
set_option maxRecDepth 65536 in
theorem w_c21 : (Jvm.Cond.code ({ cls := "java/lang/StringUTF16", name := "compress", desc := "([CI[BII)I" } : Jvm.MethodName) jdk_52_method_21_code (7 : Nat) (Option.some Jvm.ClassFile.FieldType.int)).before args0 about1 = true := code_word (m := ⟨14, 9⟩) (meth := k14m9) (c := k14c9) (by decide +kernel) rfl rfl rfl (by decide +kernel)
set_option maxRecDepth 65536 in
theorem w_c22 : (Jvm.Cond.code ({ cls := "java/lang/StringUTF16", name := "coderFromArrayLen", desc := "([BI)B" } : Jvm.MethodName) jdk_52_method_15_code (2 : Nat) (Option.some Jvm.ClassFile.FieldType.byte)).before args0 about1 = true := code_word (m := ⟨14, 7⟩) (meth := k14m7) (c := k14c7) (by decide +kernel) rfl rfl rfl (by decide +kernel)
set_option maxRecDepth 65536 in
theorem w_c23 : (Jvm.Cond.code ({ cls := "java/lang/String", name := "charAt", desc := "(I)C" } : Jvm.MethodName) jdk_42_method_56_code (2 : Nat) (Option.some Jvm.ClassFile.FieldType.char)).before args0 about1 = true := code_word (m := ⟨7, 4⟩) (meth := k7m4) (c := k7c4) (by decide +kernel) rfl rfl rfl (by decide +kernel)
set_option maxRecDepth 65536 in
theorem w_c24 : (Jvm.Cond.code ({ cls := "java/lang/String", name := "isLatin1", desc := "()Z" } : Jvm.MethodName) jdk_42_method_154_code (1 : Nat) (Option.some Jvm.ClassFile.FieldType.boolean)).before args0 about1 = true := code_word (m := ⟨7, 8⟩) (meth := k7m8) (c := k7c8) (by decide +kernel) rfl rfl rfl (by decide +kernel)
set_option maxRecDepth 65536 in
theorem w_c25 : (Jvm.Cond.code ({ cls := "java/lang/StringLatin1", name := "charAt", desc := "([BI)C" } : Jvm.MethodName) jdk_43_method_2_code (2 : Nat) (Option.some Jvm.ClassFile.FieldType.char)).before args0 about1 = true := code_word (m := ⟨15, 1⟩) (meth := k15m1) (c := k15c1) (by decide +kernel) rfl rfl rfl (by decide +kernel)
set_option maxRecDepth 65536 in
theorem w_c26 : (Jvm.Cond.code ({ cls := "java/lang/String", name := "checkIndex", desc := "(II)V" } : Jvm.MethodName) jdk_42_method_155_code (2 : Nat) (Option.none : Option Jvm.ClassFile.FieldType)).before args0 about1 = true := code_word (m := ⟨7, 9⟩) (meth := k7m9) (c := k7c9) (by decide +kernel) rfl rfl rfl (by decide +kernel)
set_option maxRecDepth 65536 in
theorem w_c27 : (Jvm.Cond.code ({ cls := "jdk/internal/util/Preconditions", name := "checkIndex", desc := "(IILjava/util/function/BiFunction;)I" } : Jvm.MethodName) jdk_41_method_11_code (3 : Nat) (Option.some Jvm.ClassFile.FieldType.int)).before args0 about1 = true := code_word (m := ⟨16, 1⟩) (meth := k16m1) (c := k16c1) (by decide +kernel) rfl rfl rfl (by decide +kernel)
set_option maxRecDepth 65536 in
theorem w_c28 : (Jvm.Cond.code ({ cls := "com/example/input_under_constraint/inputunderconstraint/MessageTemplate", name := "isEscapable", desc := "(C)Z" } : Jvm.MethodName) prog_19_method_12_code (1 : Nat) (Option.some Jvm.ClassFile.FieldType.boolean)).before args0 about1 = true := code_word (m := ⟨8, 1⟩) (meth := k8m1) (c := k8c1) (by decide +kernel) rfl rfl rfl (by decide +kernel)
set_option maxRecDepth 65536 in
theorem w_c29 : (Jvm.Cond.code ({ cls := "java/lang/StringBuilder", name := "append", desc := "(C)Ljava/lang/StringBuilder;" } : Jvm.MethodName) jdk_67_method_14_code (2 : Nat) (Option.some (Jvm.ClassFile.FieldType.object "java/lang/StringBuilder"))).before args0 about1 = true := code_word (m := ⟨11, 2⟩) (meth := k11m2) (c := k11c2) (by decide +kernel) rfl rfl rfl (by decide +kernel)
set_option maxRecDepth 65536 in
theorem w_c30 : (Jvm.Cond.code ({ cls := "java/lang/AbstractStringBuilder", name := "append", desc := "(C)Ljava/lang/AbstractStringBuilder;" } : Jvm.MethodName) jdk_68_method_31_code (2 : Nat) (Option.some (Jvm.ClassFile.FieldType.object "java/lang/AbstractStringBuilder"))).before args0 about1 = true := code_word (m := ⟨10, 6⟩) (meth := k10m6) (c := k10c6) (by decide +kernel) rfl rfl rfl (by decide +kernel)
set_option maxRecDepth 65536 in
theorem w_c31 : (Jvm.Cond.code ({ cls := "java/lang/AbstractStringBuilder", name := "ensureCapacityInternal", desc := "(I)V" } : Jvm.MethodName) jdk_68_method_9_code (3 : Nat) (Option.none : Option Jvm.ClassFile.FieldType)).before args0 about1 = true := code_word (m := ⟨10, 3⟩) (meth := k10m3) (c := k10c3) (by decide +kernel) rfl rfl rfl (by decide +kernel)
set_option maxRecDepth 65536 in
theorem w_c32 : (Jvm.Cond.code ({ cls := "java/lang/StringLatin1", name := "canEncode", desc := "(C)Z" } : Jvm.MethodName) jdk_43_method_3_code (1 : Nat) (Option.some Jvm.ClassFile.FieldType.boolean)).before args0 about1 = true := code_word (m := ⟨15, 2⟩) (meth := k15m2) (c := k15c2) (by decide +kernel) rfl rfl rfl (by decide +kernel)
set_option maxRecDepth 65536 in
theorem w_c33 : (Jvm.Cond.code ({ cls := "java/lang/AbstractStringBuilder", name := "newCapacity", desc := "(I)I" } : Jvm.MethodName) jdk_68_method_10_code (6 : Nat) (Option.some Jvm.ClassFile.FieldType.int)).before args0 about1 = true := code_word (m := ⟨10, 4⟩) (meth := k10m4) (c := k10c4) (by decide +kernel) rfl rfl rfl (by decide +kernel)
set_option maxRecDepth 65536 in
theorem w_c34 : (Jvm.Cond.code ({ cls := "jdk/internal/util/ArraysSupport", name := "newLength", desc := "(III)I" } : Jvm.MethodName) jdk_48_method_27_code (4 : Nat) (Option.some Jvm.ClassFile.FieldType.int)).before args0 about1 = true := code_word (m := ⟨17, 1⟩) (meth := k17m1) (c := k17c1) (by decide +kernel) rfl rfl rfl (by decide +kernel)
set_option maxRecDepth 65536 in
theorem w_c35 : (Jvm.Cond.code ({ cls := "java/lang/Math", name := "max", desc := "(II)I" } : Jvm.MethodName) jdk_29_method_65_code (2 : Nat) (Option.some Jvm.ClassFile.FieldType.int)).before args0 about1 = true := code_word (m := ⟨18, 1⟩) (meth := k18m1) (c := k18c1) (by decide +kernel) rfl rfl rfl (by decide +kernel)
set_option maxRecDepth 65536 in
theorem w_c36 : (Jvm.Cond.code ({ cls := "java/util/Arrays", name := "copyOf", desc := "([BI)[B" } : Jvm.MethodName) jdk_65_method_121_code (3 : Nat) (Option.some (Jvm.ClassFile.FieldType.array Jvm.ClassFile.FieldType.byte))).before args0 about1 = true := code_word (m := ⟨12, 1⟩) (meth := k12m1) (c := k12c1) (by decide +kernel) rfl rfl rfl (by decide +kernel)
set_option maxRecDepth 65536 in
theorem w_c37 : (Jvm.Cond.code ({ cls := "java/lang/Math", name := "min", desc := "(II)I" } : Jvm.MethodName) jdk_29_method_69_code (2 : Nat) (Option.some Jvm.ClassFile.FieldType.int)).before args0 about1 = true := code_word (m := ⟨18, 2⟩) (meth := k18m2) (c := k18c2) (by decide +kernel) rfl rfl rfl (by decide +kernel)
set_option maxRecDepth 65536 in
theorem w_c38 : (Jvm.Cond.code ({ cls := "java/util/Arrays", name := "copyOfRangeByte", desc := "([BII)[B" } : Jvm.MethodName) jdk_65_method_133_code (5 : Nat) (Option.some (Jvm.ClassFile.FieldType.array Jvm.ClassFile.FieldType.byte))).before args0 about1 = true := code_word (m := ⟨12, 4⟩) (meth := k12m4) (c := k12c4) (by decide +kernel) rfl rfl rfl (by decide +kernel)
set_option maxRecDepth 65536 in
theorem w_c39 : (Jvm.Cond.code ({ cls := "java/util/Arrays", name := "checkLength", desc := "(II)V" } : Jvm.MethodName) jdk_65_method_131_code (2 : Nat) (Option.none : Option Jvm.ClassFile.FieldType)).before args0 about1 = true := code_word (m := ⟨12, 2⟩) (meth := k12m2) (c := k12c2) (by decide +kernel) rfl rfl rfl (by decide +kernel)
set_option maxRecDepth 65536 in
theorem w_c40 : (Jvm.Cond.code ({ cls := "java/lang/StringUTF16", name := "toBytes", desc := "([CII)[B" } : Jvm.MethodName) jdk_52_method_14_code (5 : Nat) (Option.some (Jvm.ClassFile.FieldType.array Jvm.ClassFile.FieldType.byte))).before args0 about1 = true := code_word (m := ⟨14, 6⟩) (meth := k14m6) (c := k14c6) (by decide +kernel) rfl rfl rfl (by decide +kernel)
set_option maxRecDepth 65536 in
theorem w_c41 : (Jvm.Cond.code ({ cls := "java/lang/StringUTF16", name := "newBytesFor", desc := "(I)[B" } : Jvm.MethodName) jdk_52_method_2_code (1 : Nat) (Option.some (Jvm.ClassFile.FieldType.array Jvm.ClassFile.FieldType.byte))).before args0 about1 = true := code_word (m := ⟨14, 1⟩) (meth := k14m1) (c := k14c1) (by decide +kernel) rfl rfl rfl (by decide +kernel)
set_option maxRecDepth 65536 in
theorem w_c42 : (Jvm.Cond.code ({ cls := "java/lang/StringUTF16", name := "newBytesLength", desc := "(I)I" } : Jvm.MethodName) jdk_52_method_3_code (1 : Nat) (Option.some Jvm.ClassFile.FieldType.int)).before args0 about1 = true := code_word (m := ⟨14, 2⟩) (meth := k14m2) (c := k14c2) (by decide +kernel) rfl rfl rfl (by decide +kernel)
set_option maxRecDepth 65536 in
theorem w_c43 : (Jvm.Cond.code ({ cls := "java/lang/StringUTF16", name := "putChar", desc := "([BII)V" } : Jvm.MethodName) jdk_52_method_4_code (3 : Nat) (Option.none : Option Jvm.ClassFile.FieldType)).before args0 about1 = true := code_word (m := ⟨14, 3⟩) (meth := k14m3) (c := k14c3) (by decide +kernel) rfl rfl rfl (by decide +kernel)
set_option maxRecDepth 65536 in
theorem w_c44 : (Jvm.Cond.code ({ cls := "java/lang/StringUTF16", name := "getChar", desc := "([BI)C" } : Jvm.MethodName) jdk_52_method_5_code (2 : Nat) (Option.some Jvm.ClassFile.FieldType.char)).before args0 about1 = true := code_word (m := ⟨14, 4⟩) (meth := k14m4) (c := k14c4) (by decide +kernel) rfl rfl rfl (by decide +kernel)
set_option maxRecDepth 65536 in
theorem w_c45 : (Jvm.Cond.code ({ cls := "java/lang/StringUTF16", name := "charAt", desc := "([BI)C" } : Jvm.MethodName) jdk_52_method_83_code (2 : Nat) (Option.some Jvm.ClassFile.FieldType.char)).before args0 about1 = true := code_word (m := ⟨14, 11⟩) (meth := k14m11) (c := k14c11) (by decide +kernel) rfl rfl rfl (by decide +kernel)
set_option maxRecDepth 65536 in
theorem w_c46 : (Jvm.Cond.code ({ cls := "java/lang/StringUTF16", name := "checkIndex", desc := "(I[B)V" } : Jvm.MethodName) jdk_52_method_91_code (2 : Nat) (Option.none : Option Jvm.ClassFile.FieldType)).before args0 about1 = true := code_word (m := ⟨14, 13⟩) (meth := k14m13) (c := k14c13) (by decide +kernel) rfl rfl rfl (by decide +kernel)
set_option maxRecDepth 65536 in
theorem w_c47 : (Jvm.Cond.code ({ cls := "java/lang/StringUTF16", name := "length", desc := "([B)I" } : Jvm.MethodName) jdk_52_method_6_code (1 : Nat) (Option.some Jvm.ClassFile.FieldType.int)).before args0 about1 = true := code_word (m := ⟨14, 5⟩) (meth := k14m5) (c := k14c5) (by decide +kernel) rfl rfl rfl (by decide +kernel)
set_option maxRecDepth 65536 in
theorem w_c48 : (Jvm.Cond.code ({ cls := "java/lang/AbstractStringBuilder", name := "inflate", desc := "()V" } : Jvm.MethodName) jdk_68_method_11_code (2 : Nat) (Option.none : Option Jvm.ClassFile.FieldType)).before args0 about1 = true := code_word (m := ⟨10, 5⟩) (meth := k10m5) (c := k10c5) (by decide +kernel) rfl rfl rfl (by decide +kernel)
set_option maxRecDepth 65536 in
theorem w_c49 : (Jvm.Cond.code ({ cls := "java/lang/StringLatin1", name := "inflate", desc := "([BI[BII)V" } : Jvm.MethodName) jdk_43_method_50_code (5 : Nat) (Option.none : Option Jvm.ClassFile.FieldType)).before args0 about1 = true := code_word (m := ⟨15, 3⟩) (meth := k15m3) (c := k15c3) (by decide +kernel) rfl rfl rfl (by decide +kernel)
set_option maxRecDepth 65536 in
theorem w_c50 : (Jvm.Cond.code ({ cls := "java/lang/StringUTF16", name := "inflate", desc := "([BI[BII)V" } : Jvm.MethodName) jdk_52_method_86_code (6 : Nat) (Option.none : Option Jvm.ClassFile.FieldType)).before args0 about1 = true := code_word (m := ⟨14, 12⟩) (meth := k14m12) (c := k14c12) (by decide +kernel) rfl rfl rfl (by decide +kernel)
set_option maxRecDepth 65536 in
theorem w_c51 : (Jvm.Cond.code ({ cls := "java/lang/StringUTF16", name := "checkBoundsOffCount", desc := "(II[B)V" } : Jvm.MethodName) jdk_52_method_94_code (3 : Nat) (Option.none : Option Jvm.ClassFile.FieldType)).before args0 about1 = true := code_word (m := ⟨14, 14⟩) (meth := k14m14) (c := k14c14) (by decide +kernel) rfl rfl rfl (by decide +kernel)
set_option maxRecDepth 65536 in
theorem w_c52 : (Jvm.Cond.code ({ cls := "java/lang/String", name := "checkBoundsOffCount", desc := "(III)I" } : Jvm.MethodName) jdk_42_method_157_code (3 : Nat) (Option.some Jvm.ClassFile.FieldType.int)).before args0 about1 = true := code_word (m := ⟨7, 10⟩) (meth := k7m10) (c := k7c10) (by decide +kernel) rfl rfl rfl (by decide +kernel)
set_option maxRecDepth 65536 in
theorem w_c53 : (Jvm.Cond.code ({ cls := "jdk/internal/util/Preconditions", name := "checkFromIndexSize", desc := "(IIILjava/util/function/BiFunction;)I" } : Jvm.MethodName) jdk_41_method_13_code (4 : Nat) (Option.some Jvm.ClassFile.FieldType.int)).before args0 about1 = true := code_word (m := ⟨16, 2⟩) (meth := k16m2) (c := k16c2) (by decide +kernel) rfl rfl rfl (by decide +kernel)
set_option maxRecDepth 65536 in
theorem w_c54 : (Jvm.Cond.code ({ cls := "java/lang/StringUTF16", name := "putCharSB", desc := "([BII)V" } : Jvm.MethodName) jdk_52_method_71_code (3 : Nat) (Option.none : Option Jvm.ClassFile.FieldType)).before args0 about1 = true := code_word (m := ⟨14, 10⟩) (meth := k14m10) (c := k14c10) (by decide +kernel) rfl rfl rfl (by decide +kernel)
def codes1 : List Jvm.Cond := [Jvm.Cond.code x code maxLocals ret, Jvm.Cond.code ({ cls := "com/example/input_under_constraint/inputunderconstraint/MessageTemplateLiteralPinLaw", name := "pick", desc := "(I)C" } : Jvm.MethodName) method_2_code (2 : Nat) (Option.some Jvm.ClassFile.FieldType.char), Jvm.Cond.code ({ cls := "java/lang/String", name := "<init>", desc := "([C)V" } : Jvm.MethodName) jdk_42_method_3_code (2 : Nat) (Option.none : Option Jvm.ClassFile.FieldType), Jvm.Cond.code ({ cls := "java/lang/String", name := "<init>", desc := "([CIILjava/lang/Void;)V" } : Jvm.MethodName) jdk_42_method_149_code (6 : Nat) (Option.none : Option Jvm.ClassFile.FieldType), Jvm.Cond.code ({ cls := "java/lang/Object", name := "<init>", desc := "()V" } : Jvm.MethodName) object_method_1_code (1 : Nat) (Option.none : Option Jvm.ClassFile.FieldType), Jvm.Cond.code ({ cls := "com/example/input_under_constraint/inputunderconstraint/MessageTemplate", name := "literal", desc := "(Ljava/lang/String;)Ljava/lang/String;" } : Jvm.MethodName) prog_19_method_4_code (4 : Nat) (Option.some (Jvm.ClassFile.FieldType.object "java/lang/String")), Jvm.Cond.code ({ cls := "java/lang/String", name := "length", desc := "()I" } : Jvm.MethodName) jdk_42_method_54_code (1 : Nat) (Option.some Jvm.ClassFile.FieldType.int), Jvm.Cond.code ({ cls := "java/lang/String", name := "coder", desc := "()B" } : Jvm.MethodName) jdk_42_method_152_code (1 : Nat) (Option.some Jvm.ClassFile.FieldType.byte), Jvm.Cond.code ({ cls := "java/lang/StringBuilder", name := "<init>", desc := "(I)V" } : Jvm.MethodName) jdk_67_method_2_code (2 : Nat) (Option.none : Option Jvm.ClassFile.FieldType), Jvm.Cond.code ({ cls := "java/lang/AbstractStringBuilder", name := "<init>", desc := "(I)V" } : Jvm.MethodName) jdk_68_method_2_code (2 : Nat) (Option.none : Option Jvm.ClassFile.FieldType), Jvm.Cond.code ({ cls := "java/lang/StringBuilder", name := "toString", desc := "()Ljava/lang/String;" } : Jvm.MethodName) jdk_67_method_42_code (1 : Nat) (Option.some (Jvm.ClassFile.FieldType.object "java/lang/String")), Jvm.Cond.code ({ cls := "java/lang/String", name := "<init>", desc := "(Ljava/lang/StringBuilder;)V" } : Jvm.MethodName) jdk_42_method_53_code (2 : Nat) (Option.none : Option Jvm.ClassFile.FieldType), Jvm.Cond.code ({ cls := "java/lang/String", name := "<init>", desc := "(Ljava/lang/AbstractStringBuilder;Ljava/lang/Void;)V" } : Jvm.MethodName) jdk_42_method_150_code (5 : Nat) (Option.none : Option Jvm.ClassFile.FieldType), Jvm.Cond.code ({ cls := "java/lang/AbstractStringBuilder", name := "getValue", desc := "()[B" } : Jvm.MethodName) jdk_68_method_64_code (1 : Nat) (Option.some (Jvm.ClassFile.FieldType.array Jvm.ClassFile.FieldType.byte)), Jvm.Cond.code ({ cls := "java/lang/StringBuilder", name := "length", desc := "()I" } : Jvm.MethodName) jdk_67_method_93_code (1 : Nat) (Option.some Jvm.ClassFile.FieldType.int), Jvm.Cond.code ({ cls := "java/lang/AbstractStringBuilder", name := "length", desc := "()I" } : Jvm.MethodName) jdk_68_method_6_code (1 : Nat) (Option.some Jvm.ClassFile.FieldType.int), Jvm.Cond.code ({ cls := "java/lang/AbstractStringBuilder", name := "isLatin1", desc := "()Z" } : Jvm.MethodName) jdk_68_method_68_code (1 : Nat) (Option.some Jvm.ClassFile.FieldType.boolean), Jvm.Cond.code ({ cls := "java/util/Arrays", name := "copyOfRange", desc := "([BII)[B" } : Jvm.MethodName) jdk_65_method_132_code (3 : Nat) (Option.some (Jvm.ClassFile.FieldType.array Jvm.ClassFile.FieldType.byte)), Jvm.Cond.code ({ cls := "com/example/input_under_constraint/inputunderconstraint/MessageTemplateLiteralPinLaw", name := "same", desc := "(Ljava/lang/String;[CII)Z" } : Jvm.MethodName) method_4_code (4 : Nat) (Option.some Jvm.ClassFile.FieldType.boolean), Jvm.Cond.code ({ cls := "com/example/input_under_constraint/inputunderconstraint/MessageTemplateLiteralPinLaw", name := "esc", desc := "(C)Z" } : Jvm.MethodName) method_3_code (1 : Nat) (Option.some Jvm.ClassFile.FieldType.boolean), Jvm.Cond.code ({ cls := "java/lang/StringUTF16", name := "compress", desc := "([CII)[B" } : Jvm.MethodName) jdk_52_method_16_code (6 : Nat) (Option.some (Jvm.ClassFile.FieldType.array Jvm.ClassFile.FieldType.byte)), Jvm.Cond.code ({ cls := "java/lang/StringUTF16", name := "compress", desc := "([CI[BII)I" } : Jvm.MethodName) jdk_52_method_21_code (7 : Nat) (Option.some Jvm.ClassFile.FieldType.int), Jvm.Cond.code ({ cls := "java/lang/StringUTF16", name := "coderFromArrayLen", desc := "([BI)B" } : Jvm.MethodName) jdk_52_method_15_code (2 : Nat) (Option.some Jvm.ClassFile.FieldType.byte), Jvm.Cond.code ({ cls := "java/lang/String", name := "charAt", desc := "(I)C" } : Jvm.MethodName) jdk_42_method_56_code (2 : Nat) (Option.some Jvm.ClassFile.FieldType.char), Jvm.Cond.code ({ cls := "java/lang/String", name := "isLatin1", desc := "()Z" } : Jvm.MethodName) jdk_42_method_154_code (1 : Nat) (Option.some Jvm.ClassFile.FieldType.boolean), Jvm.Cond.code ({ cls := "java/lang/StringLatin1", name := "charAt", desc := "([BI)C" } : Jvm.MethodName) jdk_43_method_2_code (2 : Nat) (Option.some Jvm.ClassFile.FieldType.char), Jvm.Cond.code ({ cls := "java/lang/String", name := "checkIndex", desc := "(II)V" } : Jvm.MethodName) jdk_42_method_155_code (2 : Nat) (Option.none : Option Jvm.ClassFile.FieldType), Jvm.Cond.code ({ cls := "jdk/internal/util/Preconditions", name := "checkIndex", desc := "(IILjava/util/function/BiFunction;)I" } : Jvm.MethodName) jdk_41_method_11_code (3 : Nat) (Option.some Jvm.ClassFile.FieldType.int), Jvm.Cond.code ({ cls := "com/example/input_under_constraint/inputunderconstraint/MessageTemplate", name := "isEscapable", desc := "(C)Z" } : Jvm.MethodName) prog_19_method_12_code (1 : Nat) (Option.some Jvm.ClassFile.FieldType.boolean), Jvm.Cond.code ({ cls := "java/lang/StringBuilder", name := "append", desc := "(C)Ljava/lang/StringBuilder;" } : Jvm.MethodName) jdk_67_method_14_code (2 : Nat) (Option.some (Jvm.ClassFile.FieldType.object "java/lang/StringBuilder")), Jvm.Cond.code ({ cls := "java/lang/AbstractStringBuilder", name := "append", desc := "(C)Ljava/lang/AbstractStringBuilder;" } : Jvm.MethodName) jdk_68_method_31_code (2 : Nat) (Option.some (Jvm.ClassFile.FieldType.object "java/lang/AbstractStringBuilder")), Jvm.Cond.code ({ cls := "java/lang/AbstractStringBuilder", name := "ensureCapacityInternal", desc := "(I)V" } : Jvm.MethodName) jdk_68_method_9_code (3 : Nat) (Option.none : Option Jvm.ClassFile.FieldType), Jvm.Cond.code ({ cls := "java/lang/StringLatin1", name := "canEncode", desc := "(C)Z" } : Jvm.MethodName) jdk_43_method_3_code (1 : Nat) (Option.some Jvm.ClassFile.FieldType.boolean), Jvm.Cond.code ({ cls := "java/lang/AbstractStringBuilder", name := "newCapacity", desc := "(I)I" } : Jvm.MethodName) jdk_68_method_10_code (6 : Nat) (Option.some Jvm.ClassFile.FieldType.int), Jvm.Cond.code ({ cls := "jdk/internal/util/ArraysSupport", name := "newLength", desc := "(III)I" } : Jvm.MethodName) jdk_48_method_27_code (4 : Nat) (Option.some Jvm.ClassFile.FieldType.int), Jvm.Cond.code ({ cls := "java/lang/Math", name := "max", desc := "(II)I" } : Jvm.MethodName) jdk_29_method_65_code (2 : Nat) (Option.some Jvm.ClassFile.FieldType.int), Jvm.Cond.code ({ cls := "java/util/Arrays", name := "copyOf", desc := "([BI)[B" } : Jvm.MethodName) jdk_65_method_121_code (3 : Nat) (Option.some (Jvm.ClassFile.FieldType.array Jvm.ClassFile.FieldType.byte)), Jvm.Cond.code ({ cls := "java/lang/Math", name := "min", desc := "(II)I" } : Jvm.MethodName) jdk_29_method_69_code (2 : Nat) (Option.some Jvm.ClassFile.FieldType.int), Jvm.Cond.code ({ cls := "java/util/Arrays", name := "copyOfRangeByte", desc := "([BII)[B" } : Jvm.MethodName) jdk_65_method_133_code (5 : Nat) (Option.some (Jvm.ClassFile.FieldType.array Jvm.ClassFile.FieldType.byte)), Jvm.Cond.code ({ cls := "java/util/Arrays", name := "checkLength", desc := "(II)V" } : Jvm.MethodName) jdk_65_method_131_code (2 : Nat) (Option.none : Option Jvm.ClassFile.FieldType), Jvm.Cond.code ({ cls := "java/lang/StringUTF16", name := "toBytes", desc := "([CII)[B" } : Jvm.MethodName) jdk_52_method_14_code (5 : Nat) (Option.some (Jvm.ClassFile.FieldType.array Jvm.ClassFile.FieldType.byte)), Jvm.Cond.code ({ cls := "java/lang/StringUTF16", name := "newBytesFor", desc := "(I)[B" } : Jvm.MethodName) jdk_52_method_2_code (1 : Nat) (Option.some (Jvm.ClassFile.FieldType.array Jvm.ClassFile.FieldType.byte)), Jvm.Cond.code ({ cls := "java/lang/StringUTF16", name := "newBytesLength", desc := "(I)I" } : Jvm.MethodName) jdk_52_method_3_code (1 : Nat) (Option.some Jvm.ClassFile.FieldType.int), Jvm.Cond.code ({ cls := "java/lang/StringUTF16", name := "putChar", desc := "([BII)V" } : Jvm.MethodName) jdk_52_method_4_code (3 : Nat) (Option.none : Option Jvm.ClassFile.FieldType), Jvm.Cond.code ({ cls := "java/lang/StringUTF16", name := "getChar", desc := "([BI)C" } : Jvm.MethodName) jdk_52_method_5_code (2 : Nat) (Option.some Jvm.ClassFile.FieldType.char), Jvm.Cond.code ({ cls := "java/lang/StringUTF16", name := "charAt", desc := "([BI)C" } : Jvm.MethodName) jdk_52_method_83_code (2 : Nat) (Option.some Jvm.ClassFile.FieldType.char), Jvm.Cond.code ({ cls := "java/lang/StringUTF16", name := "checkIndex", desc := "(I[B)V" } : Jvm.MethodName) jdk_52_method_91_code (2 : Nat) (Option.none : Option Jvm.ClassFile.FieldType), Jvm.Cond.code ({ cls := "java/lang/StringUTF16", name := "length", desc := "([B)I" } : Jvm.MethodName) jdk_52_method_6_code (1 : Nat) (Option.some Jvm.ClassFile.FieldType.int), Jvm.Cond.code ({ cls := "java/lang/AbstractStringBuilder", name := "inflate", desc := "()V" } : Jvm.MethodName) jdk_68_method_11_code (2 : Nat) (Option.none : Option Jvm.ClassFile.FieldType), Jvm.Cond.code ({ cls := "java/lang/StringLatin1", name := "inflate", desc := "([BI[BII)V" } : Jvm.MethodName) jdk_43_method_50_code (5 : Nat) (Option.none : Option Jvm.ClassFile.FieldType), Jvm.Cond.code ({ cls := "java/lang/StringUTF16", name := "inflate", desc := "([BI[BII)V" } : Jvm.MethodName) jdk_52_method_86_code (6 : Nat) (Option.none : Option Jvm.ClassFile.FieldType), Jvm.Cond.code ({ cls := "java/lang/StringUTF16", name := "checkBoundsOffCount", desc := "(II[B)V" } : Jvm.MethodName) jdk_52_method_94_code (3 : Nat) (Option.none : Option Jvm.ClassFile.FieldType), Jvm.Cond.code ({ cls := "java/lang/String", name := "checkBoundsOffCount", desc := "(III)I" } : Jvm.MethodName) jdk_42_method_157_code (3 : Nat) (Option.some Jvm.ClassFile.FieldType.int), Jvm.Cond.code ({ cls := "jdk/internal/util/Preconditions", name := "checkFromIndexSize", desc := "(IIILjava/util/function/BiFunction;)I" } : Jvm.MethodName) jdk_41_method_13_code (4 : Nat) (Option.some Jvm.ClassFile.FieldType.int), Jvm.Cond.code ({ cls := "java/lang/StringUTF16", name := "putCharSB", desc := "([BII)V" } : Jvm.MethodName) jdk_52_method_71_code (3 : Nat) (Option.none : Option Jvm.ClassFile.FieldType)]
set_option maxRecDepth 65536 in
theorem codes_eq : words1.filter isCode = codes1 := rfl
theorem w_codes : ∀ c ∈ words1.filter isCode, c.before args0 about1 = true := by
  rw [codes_eq]
  intro c hc
  simp only [codes1, List.mem_cons, List.not_mem_nil, or_false] at hc
  rcases hc with rfl | rfl | rfl | rfl | rfl | rfl | rfl | rfl | rfl | rfl | rfl | rfl | rfl | rfl | rfl | rfl | rfl | rfl | rfl | rfl | rfl | rfl | rfl | rfl | rfl | rfl | rfl | rfl | rfl | rfl | rfl | rfl | rfl | rfl | rfl | rfl | rfl | rfl | rfl | rfl | rfl | rfl | rfl | rfl | rfl | rfl | rfl | rfl | rfl | rfl | rfl | rfl | rfl | rfl | rfl
  · exact w_c0
  · exact w_c1
  · exact w_c2
  · exact w_c3
  · exact w_c4
  · exact w_c5
  · exact w_c6
  · exact w_c7
  · exact w_c8
  · exact w_c9
  · exact w_c10
  · exact w_c11
  · exact w_c12
  · exact w_c13
  · exact w_c14
  · exact w_c15
  · exact w_c16
  · exact w_c17
  · exact w_c18
  · exact w_c19
  · exact w_c20
  · exact w_c21
  · exact w_c22
  · exact w_c23
  · exact w_c24
  · exact w_c25
  · exact w_c26
  · exact w_c27
  · exact w_c28
  · exact w_c29
  · exact w_c30
  · exact w_c31
  · exact w_c32
  · exact w_c33
  · exact w_c34
  · exact w_c35
  · exact w_c36
  · exact w_c37
  · exact w_c38
  · exact w_c39
  · exact w_c40
  · exact w_c41
  · exact w_c42
  · exact w_c43
  · exact w_c44
  · exact w_c45
  · exact w_c46
  · exact w_c47
  · exact w_c48
  · exact w_c49
  · exact w_c50
  · exact w_c51
  · exact w_c52
  · exact w_c53
  · exact w_c54
set_option maxRecDepth 65536 in
theorem w_t1 : (words1.take 24).all (fun c => isCode c || c.before args0 about1) = true := by decide +kernel
set_option maxRecDepth 65536 in
theorem w_t2 : ((words1.drop 24).take 24).all (fun c => isCode c || c.before args0 about1) = true := by decide +kernel
set_option maxRecDepth 65536 in
theorem w_t3 : (((words1.drop 24).drop 24).take 24).all (fun c => isCode c || c.before args0 about1) = true := by decide +kernel
set_option maxRecDepth 65536 in
theorem w_t4 : ((((words1.drop 24).drop 24).drop 24).take 24).all (fun c => isCode c || c.before args0 about1) = true := by decide +kernel
set_option maxRecDepth 65536 in
theorem w_t5 : (((((words1.drop 24).drop 24).drop 24).drop 24).take 24).all (fun c => isCode c || c.before args0 about1) = true := by decide +kernel
set_option maxRecDepth 65536 in
theorem w_t6 : ((((((words1.drop 24).drop 24).drop 24).drop 24).drop 24).take 24).all (fun c => isCode c || c.before args0 about1) = true := by decide +kernel
set_option maxRecDepth 65536 in
theorem w_t7 : (((((((words1.drop 24).drop 24).drop 24).drop 24).drop 24).drop 24).take 24).all (fun c => isCode c || c.before args0 about1) = true := by decide +kernel
set_option maxRecDepth 65536 in
theorem w_t8 : ((((((((words1.drop 24).drop 24).drop 24).drop 24).drop 24).drop 24).drop 24).take 24).all (fun c => isCode c || c.before args0 about1) = true := by decide +kernel
set_option maxRecDepth 65536 in
theorem w_t9 : (((((((((words1.drop 24).drop 24).drop 24).drop 24).drop 24).drop 24).drop 24).drop 24).take 24).all (fun c => isCode c || c.before args0 about1) = true := by decide +kernel
set_option maxRecDepth 65536 in
theorem w_t10 : ((((((((((words1.drop 24).drop 24).drop 24).drop 24).drop 24).drop 24).drop 24).drop 24).drop 24).take 24).all (fun c => isCode c || c.before args0 about1) = true := by decide +kernel
set_option maxRecDepth 65536 in
theorem w_t11 : ((((((((((words1.drop 24).drop 24).drop 24).drop 24).drop 24).drop 24).drop 24).drop 24).drop 24).drop 24).all (fun c => isCode c || c.before args0 about1) = true := by decide +kernel
theorem w_tables : (allAtoms (Jvm.Cond.code x code maxLocals ret :: tables_1)).before args0 about1 = true := by
  rw [allAtoms_all]
  show words1.all (fun c => c.before args0 about1) = true
  refine all_split ?_ w_codes
  rw [← List.take_append_drop 24 words1, List.all_append, w_t1, ← List.take_append_drop 24 (words1.drop 24), List.all_append, w_t2, ← List.take_append_drop 24 ((words1.drop 24).drop 24), List.all_append, w_t3, ← List.take_append_drop 24 (((words1.drop 24).drop 24).drop 24), List.all_append, w_t4, ← List.take_append_drop 24 ((((words1.drop 24).drop 24).drop 24).drop 24), List.all_append, w_t5, ← List.take_append_drop 24 (((((words1.drop 24).drop 24).drop 24).drop 24).drop 24), List.all_append, w_t6, ← List.take_append_drop 24 ((((((words1.drop 24).drop 24).drop 24).drop 24).drop 24).drop 24), List.all_append, w_t7, ← List.take_append_drop 24 (((((((words1.drop 24).drop 24).drop 24).drop 24).drop 24).drop 24).drop 24), List.all_append, w_t8, ← List.take_append_drop 24 ((((((((words1.drop 24).drop 24).drop 24).drop 24).drop 24).drop 24).drop 24).drop 24), List.all_append, w_t9, ← List.take_append_drop 24 (((((((((words1.drop 24).drop 24).drop 24).drop 24).drop 24).drop 24).drop 24).drop 24).drop 24), List.all_append, w_t10, w_t11]
  rfl
set_option maxRecDepth 65536 in
theorem w_rest : rest_1_c.before args0 about1 = true := by decide +kernel
set_option maxRecDepth 65536 in
theorem w_case : (Jvm.Cond.and given_1 narrow_1).before args0 about1 = true := by decide +kernel
set_option maxRecDepth 65536 in
theorem w_consts : constsHeld consts_1 about1 := Jvm.Lit.constsHeldB_iff.mp (by decide +kernel)
theorem w_applies : (headSpec (Jvm.Cond.code x code maxLocals ret :: tables_1) room_1).applies x e0.platform about1 = true :=
  (Spec.applies_iff w_frames).mpr ⟨w_running, w_runnable, w_alone, w_named, w_hears, w_ripe, w_room, w_tables⟩
theorem atStart : AtStart classFile x code maxLocals ret World_1 tables_1 room_1 Calls_1 rest_1 Pre_1 launch0 p0 e0 about1 theMethod args0 below0 :=
  ⟨lists_1, trivial, launch0.admits_env _ _ _, launch0.least_env, fairChoices_fair.cas, fairChoices_fair.clock, w_frames, w_args, w_heap, w_applies, ⟨w_consts, trivial⟩, w_rest, w_case⟩
end start1
theorem witness_1 : WitnessClaimed_1 := ⟨start1.p0, start1.e0, start1.about1, start1.theMethod, start1.args0, start1.below0, start1.atStart⟩
end Jvm.Pilot.@@N@@
