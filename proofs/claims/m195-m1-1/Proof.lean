import JvmDerived
import JvmDerived.Pilot.@@N@@Statement
import JvmDerived.Pilot.@@N@@Code
set_option linter.unusedVariables false
set_option linter.unusedSimpArgs false
namespace Jvm.Pilot.@@N@@.Own
open Jvm Jvm.ClassFile Sem Op Lib Jvm.Free Jvm.Stand Jvm.LawKit Jvm.RoadKit Bundle
/-- the tables at which a walk's Stand is based: the start's own, or later ones (a String constant may have been interned) -/
def Cx (b : Bool) (s : State) (vm0 : Vm) (n : Nat) : Prop := match b with
  | true => ∃ k0, s.Since vm0 k0 ∧ k0 ≤ n
  | false => vm0 = s.vm
def En (b : Bool) (s : State) (o : Outcome) (t : State) (L : List Loc) (k n : Nat) : Prop := match b with
  | true => ReturnedEndW s o t L k n
  | false => FrameEnd s o t L k n
theorem Cx.start (b : Bool) (s : State) (n : Nat) : Cx b s s.vm n := by
  cases b
  · exact rfl
  · exact ⟨n, (State.WarmedH.refl s).since n, Nat.le_refl _⟩
theorem Cx.mono {b : Bool} {s : State} {vm0 : Vm} {n n' : Nat} (x : Cx b s vm0 n) (q : n ≤ n') : Cx b s vm0 n' := by
  cases b
  · exact x
  · obtain ⟨k, h1, h2⟩ := x; exact ⟨k, h1, Nat.le_trans h2 q⟩
/-- an instruction with its length and the next pc -/
abbrev Dec (b : ByteArray) (pc : Nat) (i : Instr) (n pc' : Nat) : Prop := decode b pc = .ok (i, n) ∧ pc + n = pc'
def ccP : ClassFile.Cond → Int32 → Int32 → Prop
  | .eq, x, y => x = y
  | .ne, x, y => ¬ x = y
  | .lt, x, y => x < y
  | .ge, x, y => ¬ x < y
  | .gt, x, y => y < x
  | .le, x, y => ¬ y < x
def ccN : ClassFile.Cond → Int32 → Int32 → Prop
  | .eq, x, y => ¬ x = y
  | .ne, x, y => x = y
  | .lt, x, y => ¬ x < y
  | .ge, x, y => x < y
  | .gt, x, y => ¬ y < x
  | .le, x, y => y < x
theorem cc_or (cd : ClassFile.Cond) (x y : Int32) : ccP cd x y ∨ ccN cd x y := by
  cases cd
  · exact Decidable.em (x = y)
  · exact (Decidable.em (x = y)).symm
  · exact Decidable.em (x < y)
  · exact (Decidable.em (x < y)).symm
  · exact Decidable.em (y < x)
  · exact (Decidable.em (y < x)).symm
theorem cc_y {cd : ClassFile.Cond} {x y : Int32} (h : ccP cd x y) : if_icmp.holds cd x y = true := by
  cases cd
  · exact (teq h).1
  · exact (feq h).2
  · exact (tlt h).1
  · exact (flt h).2.1
  · exact (tlt h).2.2.1
  · exact (flt h).2.2.2
theorem cc_n {cd : ClassFile.Cond} {x y : Int32} (h : ccN cd x y) : if_icmp.holds cd x y = false := by
  cases cd
  · exact (feq h).1
  · exact (teq h).2
  · exact (flt h).1
  · exact (tlt h).2.1
  · exact (flt h).2.2.1
  · exact (tlt h).2.2.2
/-- what a walk knows of its own method -/
abbrev Kx (p : Program) (c : Code) (meth : Method) (bytes : ByteArray) (mx : Nat) (ret : Option FieldType) (nm : String) : Prop :=
  p.tables.exec = Jvm.exec ∧ c.code = bytes ∧ c.maxLocals = mx ∧ meth.sig.returnType = ret ∧ meth.name = nm ∧ meth.locks = false
/-- of an address: no booked String constant and no such one's array -/
def Sl (Z : State) (EL : List (String × Nat)) (SL : List Addr) (vm : Vm) (h : Heap) : Prop := ∀ x ∈ SL, x < h.size ∧ Safe Z EL vm h x
def Sf (Z : State) (EL : List (String × Nat)) (SL : List Addr) (h : Heap) (a : Addr) : Prop := ∀ vm0 : Vm, Z.Warmed39 vm0 → Sl Z EL SL vm0 h → Safe Z EL vm0 h a
theorem safe0 {Z : State} {vm : Vm} {h : Heap} {a : Addr} : Safe Z [] vm h a := fun ⟨_, hp, _⟩ => nomatch hp
theorem Sf.nil {Z : State} {SL : List Addr} {h : Heap} {a : Addr} : Sf Z [] SL h a := fun _ _ _ => safe0
theorem Sf.mem {Z : State} {EL : List (String × Nat)} {SL : List Addr} {h : Heap} {a : Addr} (q : a ∈ SL) : Sf Z EL SL h a := fun _ _ k => (k a q).2
theorem Sf.exa {Z : State} {EL : List (String × Nat)} {SL : List Addr} {h : Heap} {a : Addr} {C : String} (E : Exa Z h a C) (h1 : C ≠ "java/lang/String") (h2 : C ≠ "[B") : Sf Z EL SL h a := fun _ hZ _ => Safe.exa hZ.alike E h1 h2
theorem Sf.arr {Z : State} {EL : List (String × Nat)} {SL : List Addr} {h : Heap} {a : Addr} {cl : Cell} {ty : FieldType} (A : Arr Z h a cl ty) (ht : ty ≠ .byte) : Sf Z EL SL h a := fun _ hZ _ => Safe.arr hZ.alike A ht
theorem Sf.arv {Z : State} {EL : List (String × Nat)} {SL : List Addr} {h : Heap} {a : Addr} {k : ClassId} {ty : FieldType} {z : Int32} {vs : List Value} {d : Value} (A : Arv Z h a k ty z vs d) (ht : ty ≠ .byte) : Sf Z EL SL h a := by
  obtain ⟨cl, A, -⟩ := A; exact Sf.arr A ht
theorem Sl.step {Z : State} {EL : List (String × Nat)} {SL : List Addr} {vm vm1 : Vm} {h h' : Heap} (A : CHr Z EL vm h vm1 h') (k : Sl Z EL SL vm h) : Sl Z EL SL vm1 h' := fun x q => ⟨Nat.lt_of_lt_of_le (k x q).1 A.2.1, A.safe (k x q).1 (k x q).2⟩
theorem Sl.nil {Z : State} {EL : List (String × Nat)} {vm : Vm} {h : Heap} : Sl Z EL [] vm h := fun _ q => nomatch q
theorem Sl.app {Z : State} {EL : List (String × Nat)} {SL SL' : List Addr} {vm : Vm} {h : Heap} (a : Sl Z EL SL vm h) (b : Sl Z EL SL' vm h) : Sl Z EL (SL ++ SL') vm h := fun x q => (List.mem_append.mp q).elim (a x) (b x)
theorem chr0 {Z : State} {vm vm1 : Vm} {h h' : Heap} (q : h.size ≤ h'.size) : CHr Z [] vm h vm1 h' := ⟨(fun _ hp => nomatch hp : CHv Z [] vm1 h'), q, fun _ B => by obtain ⟨_, hp, _⟩ := B; nomatch hp⟩
theorem chv0 {Z : State} {vm : Vm} {h : Heap} : CHv Z [] vm h := fun _ hp => nomatch hp

/-- **WHERE A WALK STANDS AND WHAT IT OWES**: from this frame, over this heap, the method comes to its end and Q holds there -/
def Go (b : Bool) (p : Program) (l : Launch) (e : Env) (R : Room) (s : State) (m : MethodId) (args : Array Value) (below : List Frame) (meth : Method) (c : Code) (Z : State) (EL : List (String × Nat)) (own : String)
    (Q : Option Value → Heap → List Loc → List Addr → Prop) (SL : List Addr) (g : JFrame) (h : Heap) (locs : List Loc) (cells slots : Nat) : Prop :=
  ∀ (T : State) (vm0 : Vm), Stand p l e R (s.setVm vm0) m args below meth c T locs cells slots → T.heap = h → Cx b s vm0 h.size → Z.Warmed39 vm0 → vm0.findClass own = some m.cls → CHr Z EL s.vm s.heap vm0 h → Sl Z EL SL vm0 h →
    ∃ (s₂ : State) (v : Option Value) (L : List Loc) (A : List Addr), Steps p.tables e below (T.setTop g) s₂ ∧ s₂.status = .running ∧ Ended s₂ below (.returned v) ∧ Q v s₂.heap L A ∧ CHr Z EL s.vm s.heap s₂.vm s₂.heap ∧ Sl Z EL A s₂.vm s₂.heap ∧ En b s (.returned v) s₂ L R.cells R.slots
/-- **A CONTRACT**: called with these arguments at this heap, the method comes back and Q holds -/
def Ctr (b : Bool) (l : Launch) (Z : State) (EL : List (String × Nat)) (y : MethodName) (bytes : ByteArray) (maxL : Nat) (ret : Option FieldType) (ws : List Jvm.Cond) (rm : Room) (as' : Array Value) (h : Heap) (SL : List Addr)
    (Q : Option Value → Heap → List Loc → List Addr → Prop) : Prop :=
  MetFree l y (head1 (Jvm.Cond.code y bytes maxL ret :: ws) rm) (fun a U => a = as' ∧ Z.Warmed39 U.vm ∧ U.heap = h ∧ CHv Z EL U.vm h ∧ Sl Z EL SL U.vm h) (fun _ _ _ _ _ => True)
    (fun _ U o U' => ∃ v L A, o = .returned v ∧ Q v U'.heap L A ∧ CHr Z EL U.vm U.heap U'.vm U'.heap ∧ Sl Z EL A U'.vm U'.heap ∧ En b U o U' L rm.cells rm.slots)

section W
variable {b : Bool} {p : Program} {l : Launch} {e : Env} {R : Room} {s : State} {m : MethodId} {args : Array Value} {below : List Frame} {meth : Method} {c : Code} {Z : State} {EL : List (String × Nat)} {own : String}
  {Q : Option Value → Heap → List Loc → List Addr → Prop} {SL : List Addr} {g g' : JFrame} {h : Heap} {locs : List Loc} {cells slots : Nat} {bytes : ByteArray} {mx : Nat} {ret : Option FieldType} {nm : String} {a0 : Array Value}

theorem Ctr.of {y : MethodName} {ws : List Jvm.Cond} {rm : Room} {as' : Array Value} {Ls : Array Slot} (hpl : plainName y.cls = true) (hef : ∀ m : MethodId, entryFrame m as' mx = mkF m 0 Ls [])
    (body : ∀ (p : Program) (e : Env) (s : State) (m : MethodId) (below : List Frame) (meth : Method) (c : Code), Kx p c meth bytes mx ret y.name → Go b p l e rm s m as' below meth c Z EL y.cls Q SL (mkF m 0 Ls []) h [] 0 0) :
    Ctr b l Z EL y bytes mx ret ws rm as' h SL Q := by
  refine MetFree.of_bodySF (plainFor_of_name hpl) hisR ?_
  intro p e s m args below meth c s₁ Bd hml hP hK
  obtain ⟨rfl, hZ, hh, hch, hsl⟩ := hP
  have e0 : s₁.heap = h := by rw [← hh, Bd.state]; rfl
  subst hh
  obtain ⟨s₂, v, L, A, h1, h2, h3, h4, h5, h6, h7⟩ := body p e s m below meth c ⟨Bd.exec, Bd.bytes, hml, Bd.returns, (name_of_methodNamed Bd.named Bd.method).1, Bd.notSynchronized⟩ s₁ s.vm (Stand.of_body Bd) e0 (Cx.start b s _) hZ (findClass_of_methodNamed Bd.named) (CHr.refl hch) hsl
  exact ⟨s₂, .returned v, castTop (hef m) h1, h2, h3, v, L, A, rfl, h4, h5, h6, h7⟩
theorem Ctr.widen {y : MethodName} {ws : List Jvm.Cond} {rm : Room} {as' : Array Value} (hC : Ctr false l Z EL y bytes mx ret ws rm as' h SL Q) : Ctr true l Z EL y bytes mx ret ws rm as' h SL Q := by
  intro p e ha hc hk s m args below hf happ hP hK
  obtain ⟨n, o, h1, h2, h3, v, L, A, h4, h5, h6, h7, h8⟩ := hC p e ha hc hk s m args below hf happ hP hK
  exact ⟨n, o, h1, h2, h3, v, L, A, h4, h5, h6, h7, wide h8⟩
theorem Ctr.mono {y : MethodName} {ws : List Jvm.Cond} {rm : Room} {as' : Array Value} {Q' : Option Value → Heap → List Loc → List Addr → Prop} (hC : Ctr b l Z EL y bytes mx ret ws rm as' h SL Q) (q : ∀ v h' L A, Q v h' L A → Q' v h' L A) : Ctr b l Z EL y bytes mx ret ws rm as' h SL Q' := by
  intro p e ha hc hk s m args below hf happ hP hK
  obtain ⟨n, o, h1, h2, h3, v, L, A, h4, h5, h6⟩ := hC p e ha hc hk s m args below hf happ hP hK
  exact ⟨n, o, h1, h2, h3, v, L, A, h4, q _ _ _ _ h5, h6⟩

/-- a step that moves the frame alone -/
theorem Go.step (st : ∀ (T : State) (vm0 : Vm), Stand p l e R (s.setVm vm0) m args below meth c T locs cells slots → T.heap = h → Z.Warmed39 vm0 → vm0.findClass own = some m.cls → ∀ t, Steps p.tables e below (T.setTop g') t → Steps p.tables e below (T.setTop g) t)
    (r : Go b p l e R s m args below meth c Z EL own Q SL g' h locs cells slots) : Go b p l e R s m args below meth c Z EL own Q SL g h locs cells slots := fun T vm0 X eT cx hZ ho ch sl => by
  obtain ⟨s₂, v, L, A, h1, hr⟩ := r T vm0 X eT cx hZ ho ch sl
  exact ⟨s₂, v, L, A, st T vm0 X eT hZ ho _ h1, hr⟩
/-- a step that may warm the tables -/
theorem Go.warm (st : ∀ (T : State) (vm0 : Vm), Stand p l e R (s.setVm vm0) m args below meth c T locs cells slots → T.heap = h → Z.Warmed39 vm0 → vm0.findClass own = some m.cls → ∃ T', Stand p l e R (s.setVm vm0) m args below meth c T' locs cells slots ∧ T'.heap = h ∧ ∀ t, Steps p.tables e below (T'.setTop g') t → Steps p.tables e below (T.setTop g) t)
    (r : Go b p l e R s m args below meth c Z EL own Q SL g' h locs cells slots) : Go b p l e R s m args below meth c Z EL own Q SL g h locs cells slots := fun T vm0 X eT cx hZ ho ch sl => by
  obtain ⟨T', X', e', st'⟩ := st T vm0 X eT hZ ho
  obtain ⟨s₂, v, L, A, h1, hr⟩ := r T' vm0 X' e' cx hZ ho ch sl
  exact ⟨s₂, v, L, A, st' _ h1, hr⟩
/-- a store in one place of an address that is no booked constant's -/
theorem Go.wrote {a : Addr} {sl0 : Nat} {v0 : Value} (hs : Sf Z EL SL h a) (st : ∀ (T : State) (vm0 : Vm), Stand p l e R (s.setVm vm0) m args below meth c T locs cells slots → T.heap = h → Z.Warmed39 vm0 → vm0.findClass own = some m.cls → ∃ T' h', Stand p l e R (s.setVm vm0) m args below meth c T' (locs ++ [⟨a, sl0⟩]) cells slots ∧ T'.heap = h' ∧ Wr h h' a sl0 v0 ∧ ∀ t, Steps p.tables e below (T'.setTop g') t → Steps p.tables e below (T.setTop g) t)
    (r : ∀ h', Wr h h' a sl0 v0 → Go b p l e R s m args below meth c Z EL own Q SL g' h' (locs ++ [⟨a, sl0⟩]) cells slots) : Go b p l e R s m args below meth c Z EL own Q SL g h locs cells slots := fun T vm0 X eT cx hZ ho ch sl => by
  obtain ⟨T', h', X', e', W, st'⟩ := st T vm0 X eT hZ ho
  have ch' := CHr.wr W (hs vm0 hZ sl) ch.1
  obtain ⟨s₂, v, L, A, h1, hr⟩ := r h' W T' vm0 X' e' (cx.mono ch'.2.1) hZ ho (ch.trans ch') (sl.step ch')
  exact ⟨s₂, v, L, A, st' _ h1, hr⟩
/-- the heap grows by one cell at its end -/
theorem Go.grew {F : Heap → Prop} {cells' slots' : Nat} (st : ∀ (T : State) (vm0 : Vm), Stand p l e R (s.setVm vm0) m args below meth c T locs cells slots → T.heap = h → Z.Warmed39 vm0 → vm0.findClass own = some m.cls → ∃ T' h', Stand p l e R (s.setVm vm0) m args below meth c T' locs cells' slots' ∧ T'.heap = h' ∧ Ext h h' ∧ h.size < h'.size ∧ F h' ∧ ∀ t, Steps p.tables e below (T'.setTop g') t → Steps p.tables e below (T.setTop g) t)
    (r : ∀ h', Ext h h' → F h' → Go b p l e R s m args below meth c Z EL own Q (h.size :: SL) g' h' locs cells' slots') : Go b p l e R s m args below meth c Z EL own Q SL g h locs cells slots := fun T vm0 X eT cx hZ ho ch sl => by
  obtain ⟨T', h', X', e', E, lt, f, st'⟩ := st T vm0 X eT hZ ho
  have ch' := CHr.ext E ch.1
  have sl' : Sl Z EL (h.size :: SL) vm0 h' := fun x q => by
    rcases List.mem_cons.mp q with rfl | q
    · exact ⟨lt, Safe.ext E ch.1 (Safe.new (Nat.le_refl _))⟩
    · exact sl.step ch' x q
  obtain ⟨s₂, v, L, A, h1, hr⟩ := r h' E f T' vm0 X' e' (cx.mono ch'.2.1) hZ ho (ch.trans ch') sl'
  exact ⟨s₂, v, L, A, st' _ h1, hr⟩
/-- the end -/
theorem Go.end {v : Option Value} {A : List Addr} (K : Kx p c meth bytes mx ret nm) (hE : b = true ∧ EW Z a0 EL ∨ EL = []) (hv : ret = none → v = none) (hcl : cells ≤ R.cells) (hsl : slots ≤ R.slots) (hA : ∀ x ∈ A, x ∈ SL) (hQ : Q v h locs A)
    (st : ∀ (T : State) (vm0 : Vm), Stand p l e R (s.setVm vm0) m args below meth c T locs cells slots → T.heap = h → Z.Warmed39 vm0 → ∀ fs, (∀ (f : JFrame) (acts : List Action), f.method = m → f.locked = none → f.entered = [] → (doReturn e (T.setTop f) acts v).1 = T.setFrames fs) → Steps p.tables e below (T.setTop g) (T.setFrames fs)) :
    Go b p l e R s m args below meth c Z EL own Q SL g h locs cells slots := fun T vm0 X eT cx hZ ho ch sl => by
  have hlk : meth.locks = false := K.2.2.2.2.2
  have hv' : meth.sig.returnType = none → v = none := fun q => hv (K.2.2.2.1.symm.trans q)
  have chE : CHr Z EL vm0 h T.vm h := by
    rcases hE with ⟨-, hE⟩ | rfl
    · exact CHv.at X hZ hE ch.1
    · exact chr0 (Nat.le_refl _)
  have slE : Sl Z EL A T.vm h := fun x q => sl.step chE x (hA x q)
  cases b
  · cases (show vm0 = s.vm from cx)
    obtain ⟨fs, hr, hrun, hend, hW, hsame⟩ := Stand.leave (s := s) X hv' hlk
    refine ⟨T.setFrames fs, v, locs, A, st T _ X eT hZ fs hr, hrun, hend, ?_, ?_, ?_, ⟨v, rfl⟩, hW, hsame.mono hcl hsl⟩
    · show Q v T.heap locs A; rw [eT]; exact hQ
    · show CHr Z EL s.vm s.heap T.vm T.heap; rw [eT]; exact ch.trans chE
    · show Sl Z EL A T.vm T.heap; rw [eT]; exact slE
  · obtain ⟨k0, hS, hk⟩ := cx
    obtain ⟨fs, hr, hrun, hend, q1, q2, q3, q4⟩ := X.leaveW hS (by rw [eT]; exact hk) hv' hlk
    refine ⟨T.setFrames fs, v, locs, A, st T _ X eT hZ fs hr, hrun, hend, ?_, ?_, ?_, q1, q2, q3, q4.mono hcl hsl⟩
    · show Q v T.heap locs A; rw [eT]; exact hQ
    · show CHr Z EL s.vm s.heap T.vm T.heap; rw [eT]; exact ch.trans chE
    · show Sl Z EL A T.vm T.heap; rw [eT]; exact slE
theorem Go.aloadN (K : Kx p c meth bytes mx ret nm) {pc pc' : Nat} {Ls : Array Slot} {S : List Value} {k : Fin 4} {v : Value} (d : Dec bytes pc (.aload_n k) 1 pc') (hl : Ls[k.val]? = some (.val v)) (hv : v.isRef = true) (r : Go b p l e R s m args below meth c Z EL own Q SL (mkF m (pc') Ls (v :: S)) h locs cells slots) : Go b p l e R s m args below meth c Z EL own Q SL (mkF m pc Ls (S)) h locs cells slots := by
  obtain ⟨d1, rfl⟩ := d
  exact Go.step (fun T vm0 X eT hZ ho t k => XS.aloadN X.here K.1 rfl (hb K.2.1 d1) hl hv k) r
theorem Go.aload (K : Kx p c meth bytes mx ret nm) {pc pc' : Nat} {Ls : Array Slot} {S : List Value} {k : Nat} {v : Value} (d : Dec bytes pc (.aload k) 2 pc') (hl : Ls[k]? = some (.val v)) (hv : v.isRef = true) (r : Go b p l e R s m args below meth c Z EL own Q SL (mkF m (pc') Ls (v :: S)) h locs cells slots) : Go b p l e R s m args below meth c Z EL own Q SL (mkF m pc Ls (S)) h locs cells slots := by
  obtain ⟨d1, rfl⟩ := d
  exact Go.step (fun T vm0 X eT hZ ho t k => XS.aload X.here K.1 rfl (hb K.2.1 d1) hl hv k) r
theorem Go.iloadN (K : Kx p c meth bytes mx ret nm) {pc pc' : Nat} {Ls : Array Slot} {S : List Value} {k : Fin 4} {v : Int32} (d : Dec bytes pc (.iload_n k) 1 pc') (hl : Ls[k.val]? = some (.val (.int v))) (r : Go b p l e R s m args below meth c Z EL own Q SL (mkF m (pc') Ls (.int v :: S)) h locs cells slots) : Go b p l e R s m args below meth c Z EL own Q SL (mkF m pc Ls (S)) h locs cells slots := by
  obtain ⟨d1, rfl⟩ := d
  exact Go.step (fun T vm0 X eT hZ ho t k => XS.iloadN X.here K.1 rfl (hb K.2.1 d1) hl k) r
theorem Go.iload (K : Kx p c meth bytes mx ret nm) {pc pc' : Nat} {Ls : Array Slot} {S : List Value} {k : Nat} {v : Int32} (d : Dec bytes pc (.iload k) 2 pc') (hl : Ls[k]? = some (.val (.int v))) (r : Go b p l e R s m args below meth c Z EL own Q SL (mkF m (pc') Ls (.int v :: S)) h locs cells slots) : Go b p l e R s m args below meth c Z EL own Q SL (mkF m pc Ls (S)) h locs cells slots := by
  obtain ⟨d1, rfl⟩ := d
  exact Go.step (fun T vm0 X eT hZ ho t k => XS.iload X.here K.1 rfl (hb K.2.1 d1) hl k) r
theorem Go.lloadN (K : Kx p c meth bytes mx ret nm) {pc pc' : Nat} {Ls : Array Slot} {S : List Value} {k : Fin 4} {v : Int64} (d : Dec bytes pc (.lload_n k) 1 pc') (hl : Ls[k.val]? = some (.val (.long v))) (r : Go b p l e R s m args below meth c Z EL own Q SL (mkF m (pc') Ls (.long v :: S)) h locs cells slots) : Go b p l e R s m args below meth c Z EL own Q SL (mkF m pc Ls (S)) h locs cells slots := by
  obtain ⟨d1, rfl⟩ := d
  exact Go.step (fun T vm0 X eT hZ ho t k => XS.lloadN X.here K.1 rfl (hb K.2.1 d1) hl k) r
theorem Go.lload (K : Kx p c meth bytes mx ret nm) {pc pc' : Nat} {Ls : Array Slot} {S : List Value} {k : Nat} {v : Int64} (d : Dec bytes pc (.lload k) 2 pc') (hl : Ls[k]? = some (.val (.long v))) (r : Go b p l e R s m args below meth c Z EL own Q SL (mkF m (pc') Ls (.long v :: S)) h locs cells slots) : Go b p l e R s m args below meth c Z EL own Q SL (mkF m pc Ls (S)) h locs cells slots := by
  obtain ⟨d1, rfl⟩ := d
  exact Go.step (fun T vm0 X eT hZ ho t k => XS.lload X.here K.1 rfl (hb K.2.1 d1) hl k) r
theorem Go.istoreN (K : Kx p c meth bytes mx ret nm) {pc pc' : Nat} {Ls : Array Slot} {S : List Value} {k : Fin 4} {x : Int32} (l' : Array Slot) (d : Dec bytes pc (.istore_n k) 1 pc') (hl : storeLocals Ls k.val (.int x) = some l') (r : Go b p l e R s m args below meth c Z EL own Q SL (mkF m (pc') l' (S)) h locs cells slots) : Go b p l e R s m args below meth c Z EL own Q SL (mkF m pc Ls (.int x :: S)) h locs cells slots := by
  obtain ⟨d1, rfl⟩ := d
  exact Go.step (fun T vm0 X eT hZ ho t k => XS.istoreN X.here K.1 rfl (hb K.2.1 d1) rfl hl k) r
theorem Go.istore (K : Kx p c meth bytes mx ret nm) {pc pc' : Nat} {Ls : Array Slot} {S : List Value} {k : Nat} {x : Int32} (l' : Array Slot) (d : Dec bytes pc (.istore k) 2 pc') (hl : storeLocals Ls k (.int x) = some l') (r : Go b p l e R s m args below meth c Z EL own Q SL (mkF m (pc') l' (S)) h locs cells slots) : Go b p l e R s m args below meth c Z EL own Q SL (mkF m pc Ls (.int x :: S)) h locs cells slots := by
  obtain ⟨d1, rfl⟩ := d
  exact Go.step (fun T vm0 X eT hZ ho t k => XS.istore X.here K.1 rfl (hb K.2.1 d1) rfl hl k) r
theorem Go.lstoreN (K : Kx p c meth bytes mx ret nm) {pc pc' : Nat} {Ls : Array Slot} {S : List Value} {k : Fin 4} {x : Int64} (l' : Array Slot) (d : Dec bytes pc (.lstore_n k) 1 pc') (hl : storeLocals Ls k.val (.long x) = some l') (r : Go b p l e R s m args below meth c Z EL own Q SL (mkF m (pc') l' (S)) h locs cells slots) : Go b p l e R s m args below meth c Z EL own Q SL (mkF m pc Ls (.long x :: S)) h locs cells slots := by
  obtain ⟨d1, rfl⟩ := d
  exact Go.step (fun T vm0 X eT hZ ho t k => XS.lstoreN X.here K.1 rfl (hb K.2.1 d1) rfl hl k) r
theorem Go.lstore (K : Kx p c meth bytes mx ret nm) {pc pc' : Nat} {Ls : Array Slot} {S : List Value} {k : Nat} {x : Int64} (l' : Array Slot) (d : Dec bytes pc (.lstore k) 2 pc') (hl : storeLocals Ls k (.long x) = some l') (r : Go b p l e R s m args below meth c Z EL own Q SL (mkF m (pc') l' (S)) h locs cells slots) : Go b p l e R s m args below meth c Z EL own Q SL (mkF m pc Ls (.long x :: S)) h locs cells slots := by
  obtain ⟨d1, rfl⟩ := d
  exact Go.step (fun T vm0 X eT hZ ho t k => XS.lstore X.here K.1 rfl (hb K.2.1 d1) rfl hl k) r
theorem Go.astoreN (K : Kx p c meth bytes mx ret nm) {pc pc' : Nat} {Ls : Array Slot} {S : List Value} {k : Fin 4} {x : Value} (l' : Array Slot) (d : Dec bytes pc (.astore_n k) 1 pc') (hv : x.isRef = true) (hl : storeLocals Ls k.val (x) = some l') (r : Go b p l e R s m args below meth c Z EL own Q SL (mkF m (pc') l' (S)) h locs cells slots) : Go b p l e R s m args below meth c Z EL own Q SL (mkF m pc Ls (x :: S)) h locs cells slots := by
  obtain ⟨d1, rfl⟩ := d
  exact Go.step (fun T vm0 X eT hZ ho t k => XS.astoreN X.here K.1 rfl (hb K.2.1 d1) rfl hv hl k) r
theorem Go.astore (K : Kx p c meth bytes mx ret nm) {pc pc' : Nat} {Ls : Array Slot} {S : List Value} {k : Nat} {x : Value} (l' : Array Slot) (d : Dec bytes pc (.astore k) 2 pc') (hv : x.isRef = true) (hl : storeLocals Ls k (x) = some l') (r : Go b p l e R s m args below meth c Z EL own Q SL (mkF m (pc') l' (S)) h locs cells slots) : Go b p l e R s m args below meth c Z EL own Q SL (mkF m pc Ls (x :: S)) h locs cells slots := by
  obtain ⟨d1, rfl⟩ := d
  exact Go.step (fun T vm0 X eT hZ ho t k => XS.astore X.here K.1 rfl (hb K.2.1 d1) rfl hv hl k) r
theorem Go.iconst (K : Kx p c meth bytes mx ret nm) {pc pc' : Nat} {Ls : Array Slot} {S : List Value} {i : Int} (d : Dec bytes pc (.iconst i) 1 pc') (z : Int32) (hz : Int32.ofInt i = z) (r : Go b p l e R s m args below meth c Z EL own Q SL (mkF m pc' Ls (.int z :: S)) h locs cells slots) : Go b p l e R s m args below meth c Z EL own Q SL (mkF m pc Ls S) h locs cells slots := by
  obtain ⟨d1, rfl⟩ := d; subst hz
  exact Go.step (fun T vm0 X eT hZ ho t k => XS.iconst X.here K.1 rfl (hb K.2.1 d1) k) r
theorem Go.bipush (K : Kx p c meth bytes mx ret nm) {pc pc' : Nat} {Ls : Array Slot} {S : List Value} {i : Int} (d : Dec bytes pc (.bipush i) 2 pc') (z : Int32) (hz : (Int8.ofInt i).toInt32 = z) (r : Go b p l e R s m args below meth c Z EL own Q SL (mkF m pc' Ls (.int z :: S)) h locs cells slots) : Go b p l e R s m args below meth c Z EL own Q SL (mkF m pc Ls S) h locs cells slots := by
  obtain ⟨d1, rfl⟩ := d; subst hz
  exact Go.step (fun T vm0 X eT hZ ho t k => XS.bipush X.here K.1 rfl (hb K.2.1 d1) k) r
theorem Go.sipush (K : Kx p c meth bytes mx ret nm) {pc pc' : Nat} {Ls : Array Slot} {S : List Value} {i : Int} (d : Dec bytes pc (.sipush i) 3 pc') (z : Int32) (hz : (Int16.ofInt i).toInt32 = z) (r : Go b p l e R s m args below meth c Z EL own Q SL (mkF m pc' Ls (.int z :: S)) h locs cells slots) : Go b p l e R s m args below meth c Z EL own Q SL (mkF m pc Ls S) h locs cells slots := by
  obtain ⟨d1, rfl⟩ := d; subst hz
  exact Go.step (fun T vm0 X eT hZ ho t k => XS.sipush X.here K.1 rfl (hb K.2.1 d1) k) r
theorem Go.lconst (K : Kx p c meth bytes mx ret nm) {pc pc' : Nat} {Ls : Array Slot} {S : List Value} {i : Fin 2} (d : Dec bytes pc (.lconst i) 1 pc') (z : Int64) (hz : Int64.ofNat i = z) (r : Go b p l e R s m args below meth c Z EL own Q SL (mkF m pc' Ls (.long z :: S)) h locs cells slots) : Go b p l e R s m args below meth c Z EL own Q SL (mkF m pc Ls S) h locs cells slots := by
  obtain ⟨d1, rfl⟩ := d; subst hz
  exact Go.step (fun T vm0 X eT hZ ho t k => XS.lconst X.here K.1 rfl (hb K.2.1 d1) k) r
theorem Go.aconstNull (K : Kx p c meth bytes mx ret nm) {pc pc' : Nat} {Ls : Array Slot} {S : List Value}  (d : Dec bytes pc (.aconst_null) 1 pc')  (r : Go b p l e R s m args below meth c Z EL own Q SL (mkF m (pc') Ls (.null :: S)) h locs cells slots) : Go b p l e R s m args below meth c Z EL own Q SL (mkF m pc Ls (S)) h locs cells slots := by
  obtain ⟨d1, rfl⟩ := d
  exact Go.step (fun T vm0 X eT hZ ho t k => XS.aconstNull X.here K.1 rfl (hb K.2.1 d1) k) r
theorem Go.iadd (K : Kx p c meth bytes mx ret nm) {pc pc' : Nat} {Ls : Array Slot} {S : List Value} {x y : Int32} (d : Dec bytes pc (.iadd) 1 pc')  (r : Go b p l e R s m args below meth c Z EL own Q SL (mkF m (pc') Ls (.int (x + y) :: S)) h locs cells slots) : Go b p l e R s m args below meth c Z EL own Q SL (mkF m pc Ls (.int y :: .int x :: S)) h locs cells slots := by
  obtain ⟨d1, rfl⟩ := d
  exact Go.step (fun T vm0 X eT hZ ho t k => XS.iadd X.here K.1 rfl (hb K.2.1 d1) rfl k) r
theorem Go.isub (K : Kx p c meth bytes mx ret nm) {pc pc' : Nat} {Ls : Array Slot} {S : List Value} {x y : Int32} (d : Dec bytes pc (.isub) 1 pc')  (r : Go b p l e R s m args below meth c Z EL own Q SL (mkF m (pc') Ls (.int (x - y) :: S)) h locs cells slots) : Go b p l e R s m args below meth c Z EL own Q SL (mkF m pc Ls (.int y :: .int x :: S)) h locs cells slots := by
  obtain ⟨d1, rfl⟩ := d
  exact Go.step (fun T vm0 X eT hZ ho t k => XS.isub X.here K.1 rfl (hb K.2.1 d1) rfl k) r
theorem Go.imul (K : Kx p c meth bytes mx ret nm) {pc pc' : Nat} {Ls : Array Slot} {S : List Value} {x y : Int32} (d : Dec bytes pc (.imul) 1 pc')  (r : Go b p l e R s m args below meth c Z EL own Q SL (mkF m (pc') Ls (.int (x * y) :: S)) h locs cells slots) : Go b p l e R s m args below meth c Z EL own Q SL (mkF m pc Ls (.int y :: .int x :: S)) h locs cells slots := by
  obtain ⟨d1, rfl⟩ := d
  exact Go.step (fun T vm0 X eT hZ ho t k => XS.imul X.here K.1 rfl (hb K.2.1 d1) rfl k) r
theorem Go.iand (K : Kx p c meth bytes mx ret nm) {pc pc' : Nat} {Ls : Array Slot} {S : List Value} {x y : Int32} (d : Dec bytes pc (.iand) 1 pc')  (r : Go b p l e R s m args below meth c Z EL own Q SL (mkF m (pc') Ls (.int (x &&& y) :: S)) h locs cells slots) : Go b p l e R s m args below meth c Z EL own Q SL (mkF m pc Ls (.int y :: .int x :: S)) h locs cells slots := by
  obtain ⟨d1, rfl⟩ := d
  exact Go.step (fun T vm0 X eT hZ ho t k => XS.iand X.here K.1 rfl (hb K.2.1 d1) rfl k) r
theorem Go.ior (K : Kx p c meth bytes mx ret nm) {pc pc' : Nat} {Ls : Array Slot} {S : List Value} {x y : Int32} (d : Dec bytes pc (.ior) 1 pc')  (r : Go b p l e R s m args below meth c Z EL own Q SL (mkF m (pc') Ls (.int (x ||| y) :: S)) h locs cells slots) : Go b p l e R s m args below meth c Z EL own Q SL (mkF m pc Ls (.int y :: .int x :: S)) h locs cells slots := by
  obtain ⟨d1, rfl⟩ := d
  exact Go.step (fun T vm0 X eT hZ ho t k => XS.ior X.here K.1 rfl (hb K.2.1 d1) rfl k) r
theorem Go.ixor (K : Kx p c meth bytes mx ret nm) {pc pc' : Nat} {Ls : Array Slot} {S : List Value} {x y : Int32} (d : Dec bytes pc (.ixor) 1 pc')  (r : Go b p l e R s m args below meth c Z EL own Q SL (mkF m (pc') Ls (.int (x ^^^ y) :: S)) h locs cells slots) : Go b p l e R s m args below meth c Z EL own Q SL (mkF m pc Ls (.int y :: .int x :: S)) h locs cells slots := by
  obtain ⟨d1, rfl⟩ := d
  exact Go.step (fun T vm0 X eT hZ ho t k => XS.ixor X.here K.1 rfl (hb K.2.1 d1) rfl k) r
theorem Go.ishl (K : Kx p c meth bytes mx ret nm) {pc pc' : Nat} {Ls : Array Slot} {S : List Value} {x y : Int32} (d : Dec bytes pc (.ishl) 1 pc')  (r : Go b p l e R s m args below meth c Z EL own Q SL (mkF m (pc') Ls (.int (x <<< (y &&& 31)) :: S)) h locs cells slots) : Go b p l e R s m args below meth c Z EL own Q SL (mkF m pc Ls (.int y :: .int x :: S)) h locs cells slots := by
  obtain ⟨d1, rfl⟩ := d
  exact Go.step (fun T vm0 X eT hZ ho t k => XS.ishl X.here K.1 rfl (hb K.2.1 d1) rfl k) r
theorem Go.ishr (K : Kx p c meth bytes mx ret nm) {pc pc' : Nat} {Ls : Array Slot} {S : List Value} {x y : Int32} (d : Dec bytes pc (.ishr) 1 pc')  (r : Go b p l e R s m args below meth c Z EL own Q SL (mkF m (pc') Ls (.int (x >>> (y &&& 31)) :: S)) h locs cells slots) : Go b p l e R s m args below meth c Z EL own Q SL (mkF m pc Ls (.int y :: .int x :: S)) h locs cells slots := by
  obtain ⟨d1, rfl⟩ := d
  exact Go.step (fun T vm0 X eT hZ ho t k => XS.ishr X.here K.1 rfl (hb K.2.1 d1) rfl k) r
theorem Go.iushr (K : Kx p c meth bytes mx ret nm) {pc pc' : Nat} {Ls : Array Slot} {S : List Value} {x y : Int32} (d : Dec bytes pc (.iushr) 1 pc')  (r : Go b p l e R s m args below meth c Z EL own Q SL (mkF m (pc') Ls (.int ((x.toUInt32 >>> (y &&& 31).toUInt32).toInt32) :: S)) h locs cells slots) : Go b p l e R s m args below meth c Z EL own Q SL (mkF m pc Ls (.int y :: .int x :: S)) h locs cells slots := by
  obtain ⟨d1, rfl⟩ := d
  exact Go.step (fun T vm0 X eT hZ ho t k => XS.iushr X.here K.1 rfl (hb K.2.1 d1) rfl k) r
theorem Go.ladd (K : Kx p c meth bytes mx ret nm) {pc pc' : Nat} {Ls : Array Slot} {S : List Value} {x y : Int64} (d : Dec bytes pc (.ladd) 1 pc')  (r : Go b p l e R s m args below meth c Z EL own Q SL (mkF m (pc') Ls (.long (x + y) :: S)) h locs cells slots) : Go b p l e R s m args below meth c Z EL own Q SL (mkF m pc Ls (.long y :: .long x :: S)) h locs cells slots := by
  obtain ⟨d1, rfl⟩ := d
  exact Go.step (fun T vm0 X eT hZ ho t k => XS.ladd X.here K.1 rfl (hb K.2.1 d1) rfl k) r
theorem Go.lsub (K : Kx p c meth bytes mx ret nm) {pc pc' : Nat} {Ls : Array Slot} {S : List Value} {x y : Int64} (d : Dec bytes pc (.lsub) 1 pc')  (r : Go b p l e R s m args below meth c Z EL own Q SL (mkF m (pc') Ls (.long (x - y) :: S)) h locs cells slots) : Go b p l e R s m args below meth c Z EL own Q SL (mkF m pc Ls (.long y :: .long x :: S)) h locs cells slots := by
  obtain ⟨d1, rfl⟩ := d
  exact Go.step (fun T vm0 X eT hZ ho t k => XS.lsub X.here K.1 rfl (hb K.2.1 d1) rfl k) r
theorem Go.lmul (K : Kx p c meth bytes mx ret nm) {pc pc' : Nat} {Ls : Array Slot} {S : List Value} {x y : Int64} (d : Dec bytes pc (.lmul) 1 pc')  (r : Go b p l e R s m args below meth c Z EL own Q SL (mkF m (pc') Ls (.long (x * y) :: S)) h locs cells slots) : Go b p l e R s m args below meth c Z EL own Q SL (mkF m pc Ls (.long y :: .long x :: S)) h locs cells slots := by
  obtain ⟨d1, rfl⟩ := d
  exact Go.step (fun T vm0 X eT hZ ho t k => XS.lmul X.here K.1 rfl (hb K.2.1 d1) rfl k) r
theorem Go.land (K : Kx p c meth bytes mx ret nm) {pc pc' : Nat} {Ls : Array Slot} {S : List Value} {x y : Int64} (d : Dec bytes pc (.land) 1 pc')  (r : Go b p l e R s m args below meth c Z EL own Q SL (mkF m (pc') Ls (.long (x &&& y) :: S)) h locs cells slots) : Go b p l e R s m args below meth c Z EL own Q SL (mkF m pc Ls (.long y :: .long x :: S)) h locs cells slots := by
  obtain ⟨d1, rfl⟩ := d
  exact Go.step (fun T vm0 X eT hZ ho t k => XS.land X.here K.1 rfl (hb K.2.1 d1) rfl k) r
theorem Go.lor (K : Kx p c meth bytes mx ret nm) {pc pc' : Nat} {Ls : Array Slot} {S : List Value} {x y : Int64} (d : Dec bytes pc (.lor) 1 pc')  (r : Go b p l e R s m args below meth c Z EL own Q SL (mkF m (pc') Ls (.long (x ||| y) :: S)) h locs cells slots) : Go b p l e R s m args below meth c Z EL own Q SL (mkF m pc Ls (.long y :: .long x :: S)) h locs cells slots := by
  obtain ⟨d1, rfl⟩ := d
  exact Go.step (fun T vm0 X eT hZ ho t k => XS.lor X.here K.1 rfl (hb K.2.1 d1) rfl k) r
theorem Go.lxor (K : Kx p c meth bytes mx ret nm) {pc pc' : Nat} {Ls : Array Slot} {S : List Value} {x y : Int64} (d : Dec bytes pc (.lxor) 1 pc')  (r : Go b p l e R s m args below meth c Z EL own Q SL (mkF m (pc') Ls (.long (x ^^^ y) :: S)) h locs cells slots) : Go b p l e R s m args below meth c Z EL own Q SL (mkF m pc Ls (.long y :: .long x :: S)) h locs cells slots := by
  obtain ⟨d1, rfl⟩ := d
  exact Go.step (fun T vm0 X eT hZ ho t k => XS.lxor X.here K.1 rfl (hb K.2.1 d1) rfl k) r
theorem Go.lshl (K : Kx p c meth bytes mx ret nm) {pc pc' : Nat} {Ls : Array Slot} {S : List Value} {x : Int64} {y : Int32} (d : Dec bytes pc (.lshl) 1 pc')  (r : Go b p l e R s m args below meth c Z EL own Q SL (mkF m (pc') Ls (.long (x <<< (y &&& 0x3f).toInt64) :: S)) h locs cells slots) : Go b p l e R s m args below meth c Z EL own Q SL (mkF m pc Ls (.int y :: .long x :: S)) h locs cells slots := by
  obtain ⟨d1, rfl⟩ := d
  exact Go.step (fun T vm0 X eT hZ ho t k => XS.lshl X.here K.1 rfl (hb K.2.1 d1) rfl k) r
theorem Go.lshr (K : Kx p c meth bytes mx ret nm) {pc pc' : Nat} {Ls : Array Slot} {S : List Value} {x : Int64} {y : Int32} (d : Dec bytes pc (.lshr) 1 pc')  (r : Go b p l e R s m args below meth c Z EL own Q SL (mkF m (pc') Ls (.long (x >>> (y &&& 0x3f).toInt64) :: S)) h locs cells slots) : Go b p l e R s m args below meth c Z EL own Q SL (mkF m pc Ls (.int y :: .long x :: S)) h locs cells slots := by
  obtain ⟨d1, rfl⟩ := d
  exact Go.step (fun T vm0 X eT hZ ho t k => XS.lshr X.here K.1 rfl (hb K.2.1 d1) rfl k) r
theorem Go.lushr (K : Kx p c meth bytes mx ret nm) {pc pc' : Nat} {Ls : Array Slot} {S : List Value} {x : Int64} {y : Int32} (d : Dec bytes pc (.lushr) 1 pc')  (r : Go b p l e R s m args below meth c Z EL own Q SL (mkF m (pc') Ls (.long ((x.toUInt64 >>> (y &&& 0x3f).toInt64.toUInt64).toInt64) :: S)) h locs cells slots) : Go b p l e R s m args below meth c Z EL own Q SL (mkF m pc Ls (.int y :: .long x :: S)) h locs cells slots := by
  obtain ⟨d1, rfl⟩ := d
  exact Go.step (fun T vm0 X eT hZ ho t k => XS.lushr X.here K.1 rfl (hb K.2.1 d1) rfl k) r
theorem Go.lcmp (K : Kx p c meth bytes mx ret nm) {pc pc' : Nat} {Ls : Array Slot} {S : List Value} {x y : Int64} (d : Dec bytes pc (.lcmp) 1 pc')  (r : Go b p l e R s m args below meth c Z EL own Q SL (mkF m (pc') Ls (.int (lcmpW x y) :: S)) h locs cells slots) : Go b p l e R s m args below meth c Z EL own Q SL (mkF m pc Ls (.long y :: .long x :: S)) h locs cells slots := by
  obtain ⟨d1, rfl⟩ := d
  exact Go.step (fun T vm0 X eT hZ ho t k => XS.lcmp X.here K.1 rfl (hb K.2.1 d1) rfl k) r
theorem Go.irem (K : Kx p c meth bytes mx ret nm) {pc pc' : Nat} {Ls : Array Slot} {S : List Value} {x y : Int32} (d : Dec bytes pc (.irem) 1 pc') (hy : y ≠ 0) (r : Go b p l e R s m args below meth c Z EL own Q SL (mkF m (pc') Ls (.int (x % y) :: S)) h locs cells slots) : Go b p l e R s m args below meth c Z EL own Q SL (mkF m pc Ls (.int y :: .int x :: S)) h locs cells slots := by
  obtain ⟨d1, rfl⟩ := d
  exact Go.step (fun T vm0 X eT hZ ho t k => iremM X K.1 rfl (hb K.2.1 d1) rfl hy k) r
theorem Go.idiv (K : Kx p c meth bytes mx ret nm) {pc pc' : Nat} {Ls : Array Slot} {S : List Value} {x y : Int32} (d : Dec bytes pc (.idiv) 1 pc') (hy : y ≠ 0) (r : Go b p l e R s m args below meth c Z EL own Q SL (mkF m (pc') Ls (.int (x / y) :: S)) h locs cells slots) : Go b p l e R s m args below meth c Z EL own Q SL (mkF m pc Ls (.int y :: .int x :: S)) h locs cells slots := by
  obtain ⟨d1, rfl⟩ := d
  exact Go.step (fun T vm0 X eT hZ ho t k => XS.idiv X.here K.1 rfl (hb K.2.1 d1) rfl hy k) r
theorem Go.ldiv (K : Kx p c meth bytes mx ret nm) {pc pc' : Nat} {Ls : Array Slot} {S : List Value} {x y : Int64} (d : Dec bytes pc (.ldiv) 1 pc') (hy : y ≠ 0) (r : Go b p l e R s m args below meth c Z EL own Q SL (mkF m (pc') Ls (.long (x / y) :: S)) h locs cells slots) : Go b p l e R s m args below meth c Z EL own Q SL (mkF m pc Ls (.long y :: .long x :: S)) h locs cells slots := by
  obtain ⟨d1, rfl⟩ := d
  exact Go.step (fun T vm0 X eT hZ ho t k => XS.ldiv X.here K.1 rfl (hb K.2.1 d1) rfl hy k) r
theorem Go.lrem (K : Kx p c meth bytes mx ret nm) {pc pc' : Nat} {Ls : Array Slot} {S : List Value} {x y : Int64} (d : Dec bytes pc (.lrem) 1 pc') (hy : y ≠ 0) (r : Go b p l e R s m args below meth c Z EL own Q SL (mkF m (pc') Ls (.long (x - (x / y) * y) :: S)) h locs cells slots) : Go b p l e R s m args below meth c Z EL own Q SL (mkF m pc Ls (.long y :: .long x :: S)) h locs cells slots := by
  obtain ⟨d1, rfl⟩ := d
  exact Go.step (fun T vm0 X eT hZ ho t k => XS.lrem X.here K.1 rfl (hb K.2.1 d1) rfl hy k) r
theorem Go.i2b (K : Kx p c meth bytes mx ret nm) {pc pc' : Nat} {Ls : Array Slot} {S : List Value} {x : Int32} (d : Dec bytes pc (.i2b) 1 pc')  (r : Go b p l e R s m args below meth c Z EL own Q SL (mkF m (pc') Ls (.int (x.toInt8.toInt32) :: S)) h locs cells slots) : Go b p l e R s m args below meth c Z EL own Q SL (mkF m pc Ls (.int x :: S)) h locs cells slots := by
  obtain ⟨d1, rfl⟩ := d
  exact Go.step (fun T vm0 X eT hZ ho t k => XS.i2b X.here K.1 rfl (hb K.2.1 d1) rfl k) r
theorem Go.i2c (K : Kx p c meth bytes mx ret nm) {pc pc' : Nat} {Ls : Array Slot} {S : List Value} {x : Int32} (d : Dec bytes pc (.i2c) 1 pc')  (r : Go b p l e R s m args below meth c Z EL own Q SL (mkF m (pc') Ls (.int (x.toUInt32.toUInt16.toUInt32.toInt32) :: S)) h locs cells slots) : Go b p l e R s m args below meth c Z EL own Q SL (mkF m pc Ls (.int x :: S)) h locs cells slots := by
  obtain ⟨d1, rfl⟩ := d
  exact Go.step (fun T vm0 X eT hZ ho t k => XS.i2c X.here K.1 rfl (hb K.2.1 d1) rfl k) r
theorem Go.i2s (K : Kx p c meth bytes mx ret nm) {pc pc' : Nat} {Ls : Array Slot} {S : List Value} {x : Int32} (d : Dec bytes pc (.i2s) 1 pc')  (r : Go b p l e R s m args below meth c Z EL own Q SL (mkF m (pc') Ls (.int (x.toInt16.toInt32) :: S)) h locs cells slots) : Go b p l e R s m args below meth c Z EL own Q SL (mkF m pc Ls (.int x :: S)) h locs cells slots := by
  obtain ⟨d1, rfl⟩ := d
  exact Go.step (fun T vm0 X eT hZ ho t k => XS.i2s X.here K.1 rfl (hb K.2.1 d1) rfl k) r
theorem Go.i2l (K : Kx p c meth bytes mx ret nm) {pc pc' : Nat} {Ls : Array Slot} {S : List Value} {x : Int32} (d : Dec bytes pc (.i2l) 1 pc')  (r : Go b p l e R s m args below meth c Z EL own Q SL (mkF m (pc') Ls (.long (x.toInt64) :: S)) h locs cells slots) : Go b p l e R s m args below meth c Z EL own Q SL (mkF m pc Ls (.int x :: S)) h locs cells slots := by
  obtain ⟨d1, rfl⟩ := d
  exact Go.step (fun T vm0 X eT hZ ho t k => XS.i2l X.here K.1 rfl (hb K.2.1 d1) rfl k) r
theorem Go.l2i (K : Kx p c meth bytes mx ret nm) {pc pc' : Nat} {Ls : Array Slot} {S : List Value} {x : Int64} (d : Dec bytes pc (.l2i) 1 pc')  (r : Go b p l e R s m args below meth c Z EL own Q SL (mkF m (pc') Ls (.int (x.toInt32) :: S)) h locs cells slots) : Go b p l e R s m args below meth c Z EL own Q SL (mkF m pc Ls (.long x :: S)) h locs cells slots := by
  obtain ⟨d1, rfl⟩ := d
  exact Go.step (fun T vm0 X eT hZ ho t k => XS.l2i X.here K.1 rfl (hb K.2.1 d1) rfl k) r
theorem Go.ineg (K : Kx p c meth bytes mx ret nm) {pc pc' : Nat} {Ls : Array Slot} {S : List Value} {x : Int32} (d : Dec bytes pc (.ineg) 1 pc')  (r : Go b p l e R s m args below meth c Z EL own Q SL (mkF m (pc') Ls (.int (-x) :: S)) h locs cells slots) : Go b p l e R s m args below meth c Z EL own Q SL (mkF m pc Ls (.int x :: S)) h locs cells slots := by
  obtain ⟨d1, rfl⟩ := d
  exact Go.step (fun T vm0 X eT hZ ho t k => XS.ineg X.here K.1 rfl (hb K.2.1 d1) rfl k) r
theorem Go.lneg (K : Kx p c meth bytes mx ret nm) {pc pc' : Nat} {Ls : Array Slot} {S : List Value} {x : Int64} (d : Dec bytes pc (.lneg) 1 pc')  (r : Go b p l e R s m args below meth c Z EL own Q SL (mkF m (pc') Ls (.long (-x) :: S)) h locs cells slots) : Go b p l e R s m args below meth c Z EL own Q SL (mkF m pc Ls (.long x :: S)) h locs cells slots := by
  obtain ⟨d1, rfl⟩ := d
  exact Go.step (fun T vm0 X eT hZ ho t k => XS.lneg X.here K.1 rfl (hb K.2.1 d1) rfl k) r
theorem Go.dup (K : Kx p c meth bytes mx ret nm) {pc pc' : Nat} {Ls : Array Slot} {S : List Value} {x : Value} (d : Dec bytes pc (.dup) 1 pc') (hc : x.category = 1) (r : Go b p l e R s m args below meth c Z EL own Q SL (mkF m (pc') Ls (x :: x :: S)) h locs cells slots) : Go b p l e R s m args below meth c Z EL own Q SL (mkF m pc Ls (x :: S)) h locs cells slots := by
  obtain ⟨d1, rfl⟩ := d
  exact Go.step (fun T vm0 X eT hZ ho t k => XS.dup X.here K.1 rfl (hb K.2.1 d1) rfl hc k) r
theorem Go.pop (K : Kx p c meth bytes mx ret nm) {pc pc' : Nat} {Ls : Array Slot} {S : List Value} {x : Value} (d : Dec bytes pc (.pop) 1 pc') (hc : x.category = 1) (r : Go b p l e R s m args below meth c Z EL own Q SL (mkF m (pc') Ls (S)) h locs cells slots) : Go b p l e R s m args below meth c Z EL own Q SL (mkF m pc Ls (x :: S)) h locs cells slots := by
  obtain ⟨d1, rfl⟩ := d
  exact Go.step (fun T vm0 X eT hZ ho t k => XS.pop X.here K.1 rfl (hb K.2.1 d1) rfl hc k) r
theorem Go.dupX1 (K : Kx p c meth bytes mx ret nm) {pc pc' : Nat} {Ls : Array Slot} {S : List Value} {x y : Value} (d : Dec bytes pc (.dup_x1) 1 pc') (hc : x.category = 1) (hc2 : y.category = 1) (r : Go b p l e R s m args below meth c Z EL own Q SL (mkF m (pc') Ls (x :: y :: x :: S)) h locs cells slots) : Go b p l e R s m args below meth c Z EL own Q SL (mkF m pc Ls (x :: y :: S)) h locs cells slots := by
  obtain ⟨d1, rfl⟩ := d
  exact Go.step (fun T vm0 X eT hZ ho t k => XS.dupX1 X.here K.1 rfl (hb K.2.1 d1) rfl hc hc2 k) r
theorem Go.iinc (K : Kx p c meth bytes mx ret nm) {pc pc' : Nat} {Ls : Array Slot} {S : List Value} {k : Nat} {i : Int} {x : Int32} (d : Dec bytes pc (.iinc k i) 3 pc') (z : Int32) (hz : Int32.ofInt i = z) (l' : Array Slot) (hl : Ls[k]? = some (.val (.int x))) (hl' : storeLocals Ls k (.int (x + z)) = some l') (r : Go b p l e R s m args below meth c Z EL own Q SL (mkF m pc' l' S) h locs cells slots) : Go b p l e R s m args below meth c Z EL own Q SL (mkF m pc Ls S) h locs cells slots := by
  obtain ⟨d1, rfl⟩ := d; subst hz
  exact Go.step (fun T vm0 X eT hZ ho t k => XS.iinc X.here K.1 rfl (hb K.2.1 d1) hl hl' k) r
theorem Go.goto (K : Kx p c meth bytes mx ret nm) {pc pc' pcT : Nat} {Ls : Array Slot} {S : List Value} (d : Dec bytes pc (.goto (((pcT : Nat) : Int) - ((pc : Nat) : Int))) 3 pc') (r : Go b p l e R s m args below meth c Z EL own Q SL (mkF m pcT Ls S) h locs cells slots) : Go b p l e R s m args below meth c Z EL own Q SL (mkF m pc Ls S) h locs cells slots := by
  obtain ⟨d1, rfl⟩ := d
  exact Go.step (fun T vm0 X eT hZ ho t k => XS.goto (pc0 := pc) (pc' := pcT) X.here K.1 rfl rfl (hb K.2.1 d1) (by omega) (by omega) k) r
theorem Go.ifc (K : Kx p c meth bytes mx ret nm) {pc pc' pcT : Nat} {Ls : Array Slot} {S : List Value} {cd : ClassFile.Cond} {x : Int32} (d : Dec bytes pc (.ifCond cd (((pcT : Nat) : Int) - ((pc : Nat) : Int))) 3 pc') (ry : ccP cd x 0 → Go b p l e R s m args below meth c Z EL own Q SL (mkF m pcT Ls S) h locs cells slots) (rn : ccN cd x 0 → Go b p l e R s m args below meth c Z EL own Q SL (mkF m pc' Ls S) h locs cells slots) : Go b p l e R s m args below meth c Z EL own Q SL (mkF m pc Ls (.int x :: S)) h locs cells slots := by
  obtain ⟨d1, rfl⟩ := d
  rcases cc_or cd x 0 with q | q
  · exact Go.step (fun T vm0 X eT hZ ho t k => XS.ifYes (pc0 := pc) (pc' := pcT) X.here K.1 rfl rfl (hb K.2.1 d1) rfl ((if0 _ _).trans (cc_y q)) (by omega) (by omega) k) (ry q)
  · exact Go.step (fun T vm0 X eT hZ ho t k => XS.ifNo X.here K.1 rfl (hb K.2.1 d1) rfl ((if0 _ _).trans (cc_n q)) k) (rn q)
theorem Go.icmp (K : Kx p c meth bytes mx ret nm) {pc pc' pcT : Nat} {Ls : Array Slot} {S : List Value} {cd : ClassFile.Cond} {x y : Int32} (d : Dec bytes pc (.if_icmp cd (((pcT : Nat) : Int) - ((pc : Nat) : Int))) 3 pc') (ry : ccP cd x y → Go b p l e R s m args below meth c Z EL own Q SL (mkF m pcT Ls S) h locs cells slots) (rn : ccN cd x y → Go b p l e R s m args below meth c Z EL own Q SL (mkF m pc' Ls S) h locs cells slots) : Go b p l e R s m args below meth c Z EL own Q SL (mkF m pc Ls (.int y :: .int x :: S)) h locs cells slots := by
  obtain ⟨d1, rfl⟩ := d
  rcases cc_or cd x y with q | q
  · exact Go.step (fun T vm0 X eT hZ ho t k => XS.icmpYes (pc0 := pc) (pc' := pcT) X.here K.1 rfl rfl (hb K.2.1 d1) rfl (cc_y q) (by omega) (by omega) k) (ry q)
  · exact Go.step (fun T vm0 X eT hZ ho t k => XS.icmpNo X.here K.1 rfl (hb K.2.1 d1) rfl (cc_n q) k) (rn q)
theorem Go.ifnullY (K : Kx p c meth bytes mx ret nm) {pc pc' pcT : Nat} {Ls : Array Slot} {S : List Value}  (d : Dec bytes pc (.ifnull (((pcT : Nat) : Int) - ((pc : Nat) : Int))) 3 pc') (r : Go b p l e R s m args below meth c Z EL own Q SL (mkF m pcT Ls S) h locs cells slots) : Go b p l e R s m args below meth c Z EL own Q SL (mkF m pc Ls (.null :: S)) h locs cells slots := by
  obtain ⟨d1, rfl⟩ := d
  exact Go.step (fun T vm0 X eT hZ ho t k => XS.ifnullYes (pc0 := pc) (pc' := pcT) X.here K.1 rfl rfl (hb K.2.1 d1) rfl (by omega) (by omega) k) r
theorem Go.ifnullN (K : Kx p c meth bytes mx ret nm) {pc pc' pcT : Nat} {Ls : Array Slot} {S : List Value} {a : Addr} (d : Dec bytes pc (.ifnull (((pcT : Nat) : Int) - ((pc : Nat) : Int))) 3 pc') (r : Go b p l e R s m args below meth c Z EL own Q SL (mkF m pc' Ls S) h locs cells slots) : Go b p l e R s m args below meth c Z EL own Q SL (mkF m pc Ls (.ref a :: S)) h locs cells slots := by
  obtain ⟨d1, rfl⟩ := d
  exact Go.step (fun T vm0 X eT hZ ho t k => XS.ifnullNo X.here K.1 rfl (hb K.2.1 d1) rfl k) r
theorem Go.ifnonnullY (K : Kx p c meth bytes mx ret nm) {pc pc' pcT : Nat} {Ls : Array Slot} {S : List Value} {a : Addr} (d : Dec bytes pc (.ifnonnull (((pcT : Nat) : Int) - ((pc : Nat) : Int))) 3 pc') (r : Go b p l e R s m args below meth c Z EL own Q SL (mkF m pcT Ls S) h locs cells slots) : Go b p l e R s m args below meth c Z EL own Q SL (mkF m pc Ls (.ref a :: S)) h locs cells slots := by
  obtain ⟨d1, rfl⟩ := d
  exact Go.step (fun T vm0 X eT hZ ho t k => XS.ifnonnullYes (pc0 := pc) (pc' := pcT) X.here K.1 rfl rfl (hb K.2.1 d1) rfl (by omega) (by omega) k) r
theorem Go.ifnonnullN (K : Kx p c meth bytes mx ret nm) {pc pc' pcT : Nat} {Ls : Array Slot} {S : List Value}  (d : Dec bytes pc (.ifnonnull (((pcT : Nat) : Int) - ((pc : Nat) : Int))) 3 pc') (r : Go b p l e R s m args below meth c Z EL own Q SL (mkF m pc' Ls S) h locs cells slots) : Go b p l e R s m args below meth c Z EL own Q SL (mkF m pc Ls (.null :: S)) h locs cells slots := by
  obtain ⟨d1, rfl⟩ := d
  exact Go.step (fun T vm0 X eT hZ ho t k => XS.ifnonnullNo X.here K.1 rfl (hb K.2.1 d1) rfl k) r
theorem Go.acmp (K : Kx p c meth bytes mx ret nm) {pc pc' pcT : Nat} {Ls : Array Slot} {S : List Value} {cd : ACond} {x y : Value} (h1 : x.isRef = true) (h2 : y.isRef = true) (d : Dec bytes pc (.if_acmp cd (((pcT : Nat) : Int) - ((pc : Nat) : Int))) 3 pc') (ry : (cd = .eq ∧ x = y ∨ cd = .ne ∧ x ≠ y) → Go b p l e R s m args below meth c Z EL own Q SL (mkF m pcT Ls S) h locs cells slots) (rn : (cd = .eq ∧ x ≠ y ∨ cd = .ne ∧ x = y) → Go b p l e R s m args below meth c Z EL own Q SL (mkF m pc' Ls S) h locs cells slots) : Go b p l e R s m args below meth c Z EL own Q SL (mkF m pc Ls (y :: x :: S)) h locs cells slots := by
  obtain ⟨d1, rfl⟩ := d
  by_cases q : x = y
  · cases cd
    · exact Go.step (fun T vm0 X eT hZ ho t k => Jvm.RoadKit.acmp (pc0 := pc) (pc' := pcT) (same := true) X K.1 rfl h1 h2 rfl (hb K.2.1 d1) rfl (decide_eq_true q) (by omega) (by show pcT = (((pc : Nat) : Int) + (((pcT : Nat) : Int) - ((pc : Nat) : Int))).toNat; omega) k) (ry (Or.inl ⟨rfl, q⟩))
    · exact Go.step (fun T vm0 X eT hZ ho t k => Jvm.RoadKit.acmp (pc0 := pc) (pc' := pc + 3) (same := true) X K.1 rfl h1 h2 rfl (hb K.2.1 d1) rfl (decide_eq_true q) (by omega) rfl k) (rn (Or.inr ⟨rfl, q⟩))
  · cases cd
    · exact Go.step (fun T vm0 X eT hZ ho t k => Jvm.RoadKit.acmp (pc0 := pc) (pc' := pc + 3) (same := false) X K.1 rfl h1 h2 rfl (hb K.2.1 d1) rfl (decide_eq_false q) (by omega) rfl k) (rn (Or.inl ⟨rfl, q⟩))
    · exact Go.step (fun T vm0 X eT hZ ho t k => Jvm.RoadKit.acmp (pc0 := pc) (pc' := pcT) (same := false) X K.1 rfl h1 h2 rfl (hb K.2.1 d1) rfl (decide_eq_false q) (by omega) (by show pcT = (((pc : Nat) : Int) + (((pcT : Nat) : Int) - ((pc : Nat) : Int))).toNat; omega) k) (ry (Or.inr ⟨rfl, q⟩))
theorem Go.ldcI (K : Kx p c meth bytes mx ret nm) {pc pc' : Nat} {Ls : Array Slot} {S : List Value} {index : Nat} {v : Int32} (w : (Jvm.Cond.constant own index v).before a0 Z = true) (d : Dec bytes pc (.ldc index) 2 pc') (r : Go b p l e R s m args below meth c Z EL own Q SL (mkF m pc' Ls (.int v :: S)) h locs cells slots) : Go b p l e R s m args below meth c Z EL own Q SL (mkF m pc Ls S) h locs cells slots := by
  obtain ⟨d1, rfl⟩ := d
  exact Go.step (fun T vm0 X eT hZ ho t k => X.ldcInt K.1 ho (mv (s := s.setVm vm0) hZ w) (g := mkF m pc Ls S) rfl (hb K.2.1 d1) t k) r
theorem Go.ldcL (K : Kx p c meth bytes mx ret nm) {pc pc' : Nat} {Ls : Array Slot} {S : List Value} {index : Nat} {v : Int64} (w : (Jvm.Cond.constantLong own index v).before a0 Z = true) (d : Dec bytes pc (.ldc2_w index) 3 pc') (r : Go b p l e R s m args below meth c Z EL own Q SL (mkF m pc' Ls (.long v :: S)) h locs cells slots) : Go b p l e R s m args below meth c Z EL own Q SL (mkF m pc Ls S) h locs cells slots := by
  obtain ⟨d1, rfl⟩ := d
  exact Go.step (fun T vm0 X eT hZ ho t k => X.ldc2Long K.1 ho (mv (s := s.setVm vm0) hZ w) (g := mkF m pc Ls S) rfl (hb K.2.1 d1) t k) r
theorem Go.getF (K : Kx p c meth bytes mx ret nm) {pc pc' : Nat} {Ls : Array Slot} {S : List Value} {index : Nat} {R0 O n d0 : String} {a : Addr} {v : Value} (w : (Jvm.Cond.fieldLink own index R0 n d0).before a0 Z = true) (via : Via Z R0 O n d0) (F : Fld Z h a O n d0 v) (d : Dec bytes pc (.getfield index) 3 pc')
    (r : Go b p l e R s m args below meth c Z EL own Q SL (mkF m pc' Ls (v :: S)) h locs cells slots) : Go b p l e R s m args below meth c Z EL own Q SL (mkF m pc Ls (.ref a :: S)) h locs cells slots := by
  obtain ⟨d1, rfl⟩ := d
  exact Go.warm (fun T vm0 X eT hZ ho => Jvm.RoadKit.getF X K.1 hZ ho (host := "") (Or.inl w) via eT F (g := mkF m pc Ls (.ref a :: S)) rfl rfl (hb K.2.1 d1)) r
theorem Go.getS (K : Kx p c meth bytes mx ret nm) {pc pc' : Nat} {Ls : Array Slot} {S : List Value} {index : Nat} {R0 O n d0 : String} {v : Value} (w : (Jvm.Cond.fieldLink own index R0 n d0).before a0 Z = true) (via : Via Z R0 O n d0) (F : Sta Z h O n d0 v) (d : Dec bytes pc (.getstatic index) 3 pc')
    (r : Go b p l e R s m args below meth c Z EL own Q SL (mkF m pc' Ls (v :: S)) h locs cells slots) : Go b p l e R s m args below meth c Z EL own Q SL (mkF m pc Ls S) h locs cells slots := by
  obtain ⟨d1, rfl⟩ := d
  exact Go.warm (fun T vm0 X eT hZ ho => Jvm.RoadKit.getS X K.1 hZ ho w via eT F (g := mkF m pc Ls S) (host := "") rfl (hb K.2.1 d1)) r
theorem Go.putF (K : Kx p c meth bytes mx ret nm) {pc pc' : Nat} {Ls : Array Slot} {S : List Value} {index kk : Nat} {R0 O n d0 C : String} {ty : FieldType} {a : Addr} {v old : Value} (w : (Jvm.Cond.fieldLink own index R0 n d0).before a0 Z = true) (via : Via Z R0 O n d0) (F : Fld Z h a O n d0 old) (E : Exa Z h a C)
    (L : (Jvm.Cond.lays C O n d0).before a0 Z = true ∨ ((Jvm.Cond.laysFinal C O n d0).before a0 Z = true ∧ own = O ∧ nm = "<init>")) (wi : (Jvm.Cond.instantiable C kk).before a0 Z = true) (hty : parseFieldDescriptor d0 = some ty) (hn : narrow ty v = v) (hf : fits ty v = true) (hs : Sf Z EL SL h a) (d : Dec bytes pc (.putfield index) 3 pc')
    (r : ∀ h', Wr h h' a (Jvm.RoadKit.slotOf Z O n d0) v → Go b p l e R s m args below meth c Z EL own Q SL (mkF m pc' Ls S) h' (locs ++ [⟨a, Jvm.RoadKit.slotOf Z O n d0⟩]) cells slots) : Go b p l e R s m args below meth c Z EL own Q SL (mkF m pc Ls (v :: .ref a :: S)) h locs cells slots := by
  obtain ⟨d1, rfl⟩ := d
  exact Go.wrote hs (fun T vm0 X eT hZ ho => Jvm.RoadKit.putF X K.1 hZ ho (host := "") (Or.inl w) via eT F E (L.imp id fun q => ⟨q.1, q.2.1, K.2.2.2.2.1.trans q.2.2⟩) wi hty hn hf (g := mkF m pc Ls (v :: .ref a :: S)) rfl rfl (hb K.2.1 d1)) r
theorem Go.newO (K : Kx p c meth bytes mx ret nm) {pc pc' : Nat} {Ls : Array Slot} {S : List Value} {index n : Nat} {C : String} (w : (Jvm.Cond.classLink own index C).before a0 Z = true) (wi : (Jvm.Cond.instantiable C n).before a0 Z = true) (wz : (Jvm.Cond.initialized C).before a0 Z = true) (d : Dec bytes pc (.new index) 3 pc') (hc : cells + 1 ≤ R.cells) (hl : slots + n ≤ R.slots)
    (r : ∀ h', Ext h h' → (Exa Z h' h.size C ∧ ∀ {O nm d : String} {ty : FieldType}, Laid Z a0 C O nm d → parseFieldDescriptor d = some ty → Fld Z h' h.size O nm d (defaultValue ty)) → Go b p l e R s m args below meth c Z EL own Q (h.size :: SL) (mkF m pc' Ls (.ref h.size :: S)) h' locs (cells + 1) (slots + n)) :
    Go b p l e R s m args below meth c Z EL own Q SL (mkF m pc Ls S) h locs cells slots := by
  obtain ⟨d1, rfl⟩ := d
  refine Go.grew (fun T vm0 X eT hZ ho => ?_) r
  obtain ⟨T', h', X', e', E, Ex, D, -, st⟩ := Jvm.RoadKit.newO X K.1 hZ ho w wi wz eT (g := mkF m pc Ls S) rfl (hb K.2.1 d1) hc hl
  exact ⟨T', h', X', e', E, Ex.lt, ⟨Ex, D⟩, st⟩
theorem Go.newP (K : Kx p c meth bytes mx ret nm) {pc pc' : Nat} {Ls : Array Slot} {S : List Value} {aty : ArrayType} {n : Int32} (w : (Jvm.Cond.arrayClass (newarray.typeOf aty)).before a0 Z = true) (d : Dec bytes pc (.newarray aty) 2 pc') (hn : ¬ n < 0) (cap : Nat) (hcap : n.toNatClampNeg ≤ cap) (hb8 : cap * 8 ≤ 536870912) (hc : cells + 1 ≤ R.cells) (hl : slots + cap ≤ R.slots)
    (r : ∀ h', Ext h h' → (∃ k, Arv Z h' h.size k (newarray.typeOf aty) n [] (defaultValue (newarray.typeOf aty))) → Go b p l e R s m args below meth c Z EL own Q (h.size :: SL) (mkF m pc' Ls (.ref h.size :: S)) h' locs (cells + 1) (slots + cap)) :
    Go b p l e R s m args below meth c Z EL own Q SL (mkF m pc Ls (.int n :: S)) h locs cells slots := by
  obtain ⟨d1, rfl⟩ := d
  refine Go.grew (fun T vm0 X eT hZ ho => ?_) r
  obtain ⟨T', h', cA, X', e', E, A, st⟩ := Jvm.RoadKit.newP X K.1 hZ w eT (g := mkF m pc Ls (.int n :: S)) rfl (hb K.2.1 d1) rfl hn hcap hb8 hc hl
  exact ⟨T', h', X', e', E, A.lt, ⟨cA, Arv.new A hn⟩, st⟩
theorem Go.castore (K : Kx p c meth bytes mx ret nm) {pc pc' : Nat} {Ls : Array Slot} {S : List Value} {a : Addr} {k : ClassId} {z j x : Int32} {vs : List Value} {dv : Value} (A : Arv Z h a k .char z vs dv) (i : Nat) (hj : j.toNatClampNeg = i) (hj0 : ¬ j < 0) (hi : i < vs.length) (hz : i < z.toNatClampNeg) (d : Dec bytes pc .castore 1 pc')
    (r : ∀ h', Wr h h' a i (.int (nar .char x)) → Arv Z h' a k .char z (vs.set i (.int (nar .char x))) dv → Go b p l e R s m args below meth c Z EL own Q SL (mkF m pc' Ls S) h' (locs ++ [⟨a, i⟩]) cells slots) :
    Go b p l e R s m args below meth c Z EL own Q SL (mkF m pc Ls (.int x :: .int j :: .ref a :: S)) h locs cells slots := by
  obtain ⟨d1, rfl⟩ := d
  subst hj
  obtain ⟨cl, A1, A2, A3, A4, A5, A6⟩ := A
  exact Go.wrote (Sf.arr A1 (by simp)) (fun T vm0 X eT hZ ho => Jvm.RoadKit.stC X K.1 hZ eT A1 (fun q => q.elim hj0 fun r => by rw [A3] at r; omega) (g := mkF m pc Ls (.int x :: .int j :: .ref a :: S)) rfl rfl (hb K.2.1 d1)) (fun h' W => r h' W (Arv.set A1 A2 A3 A4 A5 A6 (fits_nar_char x) W _ rfl hi))
theorem Go.bastore (K : Kx p c meth bytes mx ret nm) {pc pc' : Nat} {Ls : Array Slot} {S : List Value} {a : Addr} {k : ClassId} {z j x : Int32} {vs : List Value} {dv : Value} (A : Arv Z h a k .byte z vs dv) (i : Nat) (hj : j.toNatClampNeg = i) (hj0 : ¬ j < 0) (hi : i < vs.length) (hz : i < z.toNatClampNeg) (hs : Sf Z EL SL h a) (d : Dec bytes pc .bastore 1 pc')
    (r : ∀ h', Wr h h' a i (.int (nar .byte x)) → Arv Z h' a k .byte z (vs.set i (.int (nar .byte x))) dv → Go b p l e R s m args below meth c Z EL own Q SL (mkF m pc' Ls S) h' (locs ++ [⟨a, i⟩]) cells slots) :
    Go b p l e R s m args below meth c Z EL own Q SL (mkF m pc Ls (.int x :: .int j :: .ref a :: S)) h locs cells slots := by
  obtain ⟨d1, rfl⟩ := d
  subst hj
  obtain ⟨cl, A1, A2, A3, A4, A5, A6⟩ := A
  exact Go.wrote hs (fun T vm0 X eT hZ ho => Jvm.RoadKit.stB X K.1 hZ eT A1 (fun q => q.elim hj0 fun r => by rw [A3] at r; omega) (g := mkF m pc Ls (.int x :: .int j :: .ref a :: S)) rfl rfl (hb K.2.1 d1)) (fun h' W => r h' W (Arv.set A1 A2 A3 A4 A5 A6 (fits_nar_byte x) W _ rfl hi))
theorem Go.initO (K : Kx p c meth bytes mx ret nm) {pc pc' : Nat} {Ls : Array Slot} {S : List Value} {index : Nat} {a : Addr} (w1 : (Jvm.Cond.methodLink own index Lib.objectInit).before a0 Z = true) (w2 : (Jvm.Cond.instanceMethod Lib.objectInit).before a0 Z = true) (w3 : (Jvm.Cond.code Lib.objectInit ⟨#[0xb1]⟩ 1 none).before a0 Z = true) (d : Dec bytes pc (.invokespecial index) 3 pc')
    (hsz : Ls.size = mx) (hf : 1 ≤ R.frames) (hl : (S.map fun v => v.category).sum + 12 ≤ R.locals) (r : Go b p l e R s m args below meth c Z EL own Q SL (mkF m pc' Ls S) h locs cells slots) : Go b p l e R s m args below meth c Z EL own Q SL (mkF m pc Ls (.ref a :: S)) h locs cells slots := by
  obtain ⟨d1, rfl⟩ := d
  exact Go.warm (fun T vm0 X eT hZ ho => Jvm.RoadKit.initO X K.1 hZ ho w1 w2 w3 eT (g := mkF m pc Ls (.ref a :: S)) rfl (hsz.trans K.2.2.1.symm) rfl (hb K.2.1 d1) hf (W := (S.map fun v => v.category).sum) (by show 2 * 0 + _ ≤ _; omega) hl) r
/-- ldc of a String constant, its text unread -/
theorem Go.ldcS (K : Kx p c meth bytes mx ret nm) (hb1 : b = true) (hE : EW Z a0 EL) {pc pc' : Nat} {Ls : Array Slot} {S : List Value} {index : Nat} {text : String} (w : (Jvm.Cond.stringLink own index text).before a0 Z = true) (wS : ∀ a ∈ Bundle.stringAtoms, a.before a0 Z = true) (d : Dec bytes pc (.ldc index) 2 pc') {n : Nat} (hn : 4 * text.toList.length ≤ n) (hbig : n ≤ 536870912) (hc : cells + 2 ≤ R.cells) (hl : slots + (n + 4) ≤ R.slots)
    (r : ∀ (a : Addr) (h' : Heap), Ext h h' → Go b p l e R s m args below meth c Z EL own Q SL (mkF m pc' Ls (.ref a :: S)) h' locs (cells + 2) (slots + (n + 4))) : Go b p l e R s m args below meth c Z EL own Q SL (mkF m pc Ls S) h locs cells slots := fun T vm0 X eT cx hZ ho ch sl => by
  obtain ⟨d1, rfl⟩ := d
  subst hb1
  obtain ⟨k0, hS, hk⟩ := cx
  obtain ⟨a, T', h', k1, X', e', E, hS', hk', hZ', ho', ch', -, st⟩ := ldcOH X K.1 hZ ho w wS eT hS hk hE ch.1 (g := mkF m pc Ls S) rfl (hb K.2.1 d1) hn hbig hc hl
  obtain ⟨s₂, v, L, A, h1, hr⟩ := r a h' E T' T'.vm X' e' ⟨k1, hS', hk'⟩ hZ' ho' (ch.trans ch') (sl.step ch')
  exact ⟨s₂, v, L, A, st _ h1, hr⟩
/-- ldc of a String constant of EL, read -/
theorem Go.ldcR (K : Kx p c meth bytes mx ret nm) (hb1 : b = true) (hE : EW Z a0 EL) {pc pc' : Nat} {Ls : Array Slot} {S : List Value} {index : Nat} {text : String} (hmem : (own, index) ∈ EL) (w : (Jvm.Cond.stringLink own index text).before a0 Z = true) (wS : ∀ a ∈ Bundle.stringAtoms, a.before a0 Z = true)
    {vs : List Value} {z : Int32} (ht : (∀ c ∈ text.toList, c.toNat < 256) ∧ text.toList.map (fun c => Value.int (Jvm.Lit.byteI c.toNat.toUInt16)) = vs) (hz : ¬ z < 0) (hlz : z.toNatClampNeg = vs.length)
    (d : Dec bytes pc (.ldc index) 2 pc') {n : Nat} (hn : 4 * text.toList.length ≤ n) (hbig : n ≤ 536870912) (hc : cells + 2 ≤ R.cells) (hl : slots + (n + 4) ≤ R.slots)
    (r : ∀ (a : Addr) (h' : Heap) (bb : Addr) (k : ClassId), Ext h h' → Exa Z h' a "java/lang/String" → Fld Z h' a "java/lang/String" "coder" "B" (.int 0) → Fld Z h' a "java/lang/String" "value" "[B" (.ref bb) → Arv Z h' bb k .byte z vs (.int 0) → (∀ x ∈ SL, x ≠ a ∧ x ≠ bb) → Go b p l e R s m args below meth c Z EL own Q SL (mkF m pc' Ls (.ref a :: S)) h' locs (cells + 2) (slots + (n + 4))) : Go b p l e R s m args below meth c Z EL own Q SL (mkF m pc Ls S) h locs cells slots := fun T vm0 X eT cx hZ ho ch sl => by
  obtain ⟨d1, rfl⟩ := d
  subst hb1
  obtain ⟨k0, hS, hk⟩ := cx
  obtain ⟨a, T', h', k1, bb, k, X', e', E, hS', hk', hZ', ho', x1, x2, x3, x4, -, -, ch', -, sf, st⟩ := ldcCH X K.1 hZ ho w wS eT hS hk hE hmem ch.1 ht hz hlz (g := mkF m pc Ls S) rfl (hb K.2.1 d1) hn hbig hc hl
  have sl' := sl.step ch'
  obtain ⟨s₂, v, L, A, h1, hr⟩ := r a h' bb k E x1 x2 x3 x4 (fun x q => sf x (sl' x q).2) T' T'.vm X' e' ⟨k1, hS', hk'⟩ hZ' ho' (ch.trans ch') sl'
  exact ⟨s₂, v, L, A, st _ h1, hr⟩
theorem Go.retV {v : Value} {t : FieldType} {A : List Addr} {i : Instr} (K : Kx p c meth bytes mx (some t) nm) (hE : b = true ∧ EW Z a0 EL ∨ EL = []) {pc pc' : Nat} {Ls : Array Slot} {S : List Value} (d : Dec bytes pc i 1 pc') (hn : narrow t v = v)
    (hi : (i = .ireturn ∧ (t = .int ∨ t = .boolean ∨ t = .byte ∨ t = .char ∨ t = .short) ∧ ∃ z, v = .int z) ∨ (i = .lreturn ∧ t = .long ∧ ∃ z, v = .long z) ∨ (i = .dreturn ∧ t = .double ∧ ∃ z, v = .double z) ∨ (i = .freturn ∧ t = .float ∧ ∃ z, v = .float z) ∨ (i = .areturn ∧ t.isReference = true ∧ v.isRef = true))
    (hcl : cells ≤ R.cells) (hsl : slots ≤ R.slots) (hA : ∀ x ∈ A, x ∈ SL) (hQ : Q (some v) h locs A) : Go b p l e R s m args below meth c Z EL own Q SL (mkF m pc Ls (v :: S)) h locs cells slots :=
  Go.end (v := some v) (A := A) K hE (fun q => by cases q) hcl hsl hA hQ (fun T vm0 X eT hZ fs hr => retOut X K.1 K.2.2.2.1 hn hi (hb K.2.1 d.1) hr)
theorem Go.iret {v : Int32} {A : List Addr} (K : Kx p c meth bytes mx (some .int) nm) (hE : b = true ∧ EW Z a0 EL ∨ EL = []) {pc pc' : Nat} {Ls : Array Slot} {S : List Value} (d : Dec bytes pc .ireturn 1 pc') (hcl : cells ≤ R.cells) (hsl : slots ≤ R.slots) (hA : ∀ x ∈ A, x ∈ SL) (hQ : Q (some (.int v)) h locs A) : Go b p l e R s m args below meth c Z EL own Q SL (mkF m pc Ls (.int v :: S)) h locs cells slots :=
  Go.retV K hE d rfl (Or.inl ⟨rfl, Or.inl rfl, v, rfl⟩) hcl hsl hA hQ
theorem Go.lret {v : Int64} {A : List Addr} (K : Kx p c meth bytes mx (some .long) nm) (hE : b = true ∧ EW Z a0 EL ∨ EL = []) {pc pc' : Nat} {Ls : Array Slot} {S : List Value} (d : Dec bytes pc .lreturn 1 pc') (hcl : cells ≤ R.cells) (hsl : slots ≤ R.slots) (hA : ∀ x ∈ A, x ∈ SL) (hQ : Q (some (.long v)) h locs A) : Go b p l e R s m args below meth c Z EL own Q SL (mkF m pc Ls (.long v :: S)) h locs cells slots :=
  Go.retV K hE d rfl (Or.inr (Or.inl ⟨rfl, rfl, v, rfl⟩)) hcl hsl hA hQ
theorem Go.aret {v : Value} {t : FieldType} {A : List Addr} (K : Kx p c meth bytes mx (some t) nm) (hE : b = true ∧ EW Z a0 EL ∨ EL = []) {pc pc' : Nat} {Ls : Array Slot} {S : List Value} (d : Dec bytes pc .areturn 1 pc') (ht : t.isReference = true) (hv : v.isRef = true) (hcl : cells ≤ R.cells) (hsl : slots ≤ R.slots) (hA : ∀ x ∈ A, x ∈ SL) (hQ : Q (some v) h locs A) : Go b p l e R s m args below meth c Z EL own Q SL (mkF m pc Ls (v :: S)) h locs cells slots :=
  Go.retV K hE d (by cases v <;> first | (simp [Value.isRef] at hv; done) | (cases t <;> rfl)) (Or.inr (Or.inr (Or.inr (Or.inr ⟨rfl, ht, hv⟩)))) hcl hsl hA hQ
/-- a boolean, byte, char or short: narrowed -/
theorem Go.nret {v : Int32} {t : FieldType} {A : List Addr} (K : Kx p c meth bytes mx (some t) nm) (hE : b = true ∧ EW Z a0 EL ∨ EL = []) {pc pc' : Nat} {Ls : Array Slot} {S : List Value} (d : Dec bytes pc .ireturn 1 pc') (ht : t = .boolean ∨ t = .byte ∨ t = .char ∨ t = .short) (hcl : cells ≤ R.cells) (hsl : slots ≤ R.slots) (hA : ∀ x ∈ A, x ∈ SL) (hQ : Q (some (.int (nar t v))) h locs A) : Go b p l e R s m args below meth c Z EL own Q SL (mkF m pc Ls (.int v :: S)) h locs cells slots :=
  Go.end (v := some (.int (nar t v))) (A := A) K hE (fun q => by cases q) hcl hsl hA hQ (fun T vm0 X eT hZ fs hr => retN X K.1 K.2.2.2.1 ht (hb K.2.1 d.1) hr)
theorem Go.vret {A : List Addr} (K : Kx p c meth bytes mx none nm) (hE : b = true ∧ EW Z a0 EL ∨ EL = []) {pc pc' : Nat} {Ls : Array Slot} {S : List Value} (d : Dec bytes pc .return_ 1 pc') (hcl : cells ≤ R.cells) (hsl : slots ≤ R.slots) (hA : ∀ x ∈ A, x ∈ SL) (hS : S = []) (hQ : Q none h locs A) : Go b p l e R s m args below meth c Z EL own Q SL (mkF m pc Ls S) h locs cells slots := by
  subst hS
  exact Go.end (v := none) (A := A) K hE (fun q => rfl) hcl hsl hA hQ (fun T vm0 X eT hZ fs hr => X.returnOut K.1 K.2.2.2.1 (hb K.2.1 d.1) hr)

/-! calls -/
/-- the invoking instruction has brought the machine to the callee y with these arguments -/
def Inv (p : Program) (l : Launch) (e : Env) (R : Room) (s : State) (m : MethodId) (args : Array Value) (below : List Frame) (meth : Method) (c : Code) (Z : State) (own : String) (y : MethodName) (as' : Array Value) (g g' : JFrame) (h : Heap) (locs : List Loc) (cells slots : Nat) : Prop :=
  ∀ (T : State) (vm0 : Vm), Stand p l e R (s.setVm vm0) m args below meth c T locs cells slots → T.heap = h → Z.Warmed39 vm0 → vm0.findClass own = some m.cls →
    ∃ (mk : MethodId) (vm1 : Vm), Stand p l e R (s.setVm vm0) m args below meth c (T.setVm vm1) locs cells slots ∧ (T.setVm vm1).methodNamed? y = some mk ∧ Steps p.tables e below (T.setTop g) (doInvoke e ((T.setVm vm1).setTop g') [] mk as').1
theorem Inv.static (hx : p.tables.exec = Jvm.exec) {index : Nat} {y : MethodName} {bytesY : ByteArray} {maxL : Nat} {retY : Option FieldType} (w1 : (Jvm.Cond.methodLink own index y).before a0 Z = true) (w2 : (Jvm.Cond.static y).before a0 Z = true) (w3 : (Jvm.Cond.initialized y.cls).before a0 Z = true) (w4 : (Jvm.Cond.code y bytesY maxL retY).before a0 Z = true)
    (hy : y.cls ≠ "java/lang/invoke/MethodHandle" ∧ y.cls ≠ "java/lang/invoke/VarHandle") {argsL S : List Value} {pc : Nat} {Ls : Array Slot} (hlen : ∀ sig, parseMethodDescriptor y.desc = some sig → argsL.length = sig.parameters.length) (hd : decode c.code pc = .ok (.invokestatic index, 3)) :
    Inv p l e R s m args below meth c Z own y argsL.toArray (mkF m pc Ls (argsL.reverse ++ S)) (mkF m pc Ls S) h locs cells slots := fun T vm0 X eT hZ ho => by
  have hcode : (Jvm.Cond.code y bytesY maxL retY).before args (s.setVm vm0) = true := mv (s := s.setVm vm0) hZ w4
  obtain ⟨mk, hnamed⟩ := Cond.code_named hcode
  obtain ⟨methM, cM, hmethM, -, -, -, -, -, -, hsig⟩ := Cond.code_spec hnamed hcode
  obtain ⟨kP, hkP, -⟩ := className_of_methodNamed hnamed
  obtain ⟨vm₁, X₁, hstep₁⟩ := X.invokestatic hx ho (mvT (s := s.setVm vm0) hZ w1) hnamed hmethM (Cond.static_spec hnamed hmethM (mvT (s := s.setVm vm0) (args := args) hZ w2)) hkP (Cond.initialized_spec (findClass_of_methodNamed hnamed) hkP (mvT (s := s.setVm vm0) (args := args) hZ w3)) hy (g := mkF m pc Ls (argsL.reverse ++ S)) rfl (argsL := argsL) (rest := S) (hlen _ hsig) rfl hd
  exact ⟨mk, vm₁, X₁, X₁.named hnamed, hstep₁ _ fun acts => by rw [doInvoke_state]; exact Steps.refl _⟩
theorem Inv.special (hx : p.tables.exec = Jvm.exec) {index : Nat} {y : MethodName} (hy1 : y.name = "<init>") {bytesY : ByteArray} {maxL : Nat} (w1 : (Jvm.Cond.methodLink own index y).before a0 Z = true) (w2 : (Jvm.Cond.instanceMethod y).before a0 Z = true) (w4 : (Jvm.Cond.code y bytesY maxL none).before a0 Z = true)
    (hy : y.cls ≠ "java/lang/invoke/MethodHandle" ∧ y.cls ≠ "java/lang/invoke/VarHandle") {a : Addr} {argsL S : List Value} {pc : Nat} {Ls : Array Slot} (hlen : ∀ sig, parseMethodDescriptor y.desc = some sig → argsL.length = sig.parameters.length) (hd : decode c.code pc = .ok (.invokespecial index, 3)) :
    Inv p l e R s m args below meth c Z own y (.ref a :: argsL).toArray (mkF m pc Ls (argsL.reverse ++ .ref a :: S)) (mkF m pc Ls S) h locs cells slots := fun T vm0 X eT hZ ho => by
  have hpl : e.platform.magicAccessors = ({} : Platform).magicAccessors := by rw [X.admits.platform]
  obtain ⟨mk, methM, cM, kP, vm₁, hnamed, hmethM, -, -, -, -, hkP, -, hW₁, hstep₁⟩ :=
    Steps.initColdArgs (e := e) X.here hx X.warmed hpl ho hy1 hy (mvT (s := s.setVm vm0) (args := args) hZ w1) (mvT (s := s.setVm vm0) (args := args) hZ w2) (mv (s := s.setVm vm0) (args := args) hZ w4) (f := mkF m pc Ls (argsL.reverse ++ .ref a :: S)) rfl hlen rfl hd
  have X₁ := X.noted hW₁
  exact ⟨mk, vm₁, X₁, X₁.named hnamed, hstep₁ _ fun acts => by rw [doInvoke_state]; exact Steps.refl _⟩
theorem Inv.virtual (hx : p.tables.exec = Jvm.exec) {index : Nat} {C : String} {y z : MethodName} (w1 : (Jvm.Cond.methodLink own index y).before a0 Z = true) (w2 : (Jvm.Cond.declares y).before a0 Z = true) (nf : ∀ vm0 : Vm, Z.Warmed39 vm0 → NotFace (s.setVm vm0) y) (w3 : (Jvm.Cond.selects C y z).before a0 Z = true) (w4 : (Jvm.Cond.instanceMethod z).before a0 Z = true)
    (hy : y.cls ≠ "java/lang/invoke/MethodHandle" ∧ y.cls ≠ "java/lang/invoke/VarHandle") {a : Addr} (E : Exa Z h a C) {argsL S : List Value} {pc : Nat} {Ls : Array Slot} (hlen : ∀ sig, parseMethodDescriptor y.desc = some sig → argsL.length = sig.parameters.length) (hd : decode c.code pc = .ok (.invokevirtual index, 3)) :
    Inv p l e R s m args below meth c Z own z (.ref a :: argsL).toArray (mkF m pc Ls (argsL.reverse ++ .ref a :: S)) (mkF m pc Ls S) h locs cells slots := fun T vm0 X eT hZ ho => by
  obtain ⟨cB, kB, hcB, -, hrecv⟩ := isOf (s := s.setVm vm0) (T := T) hZ eT E
  obtain ⟨cellB, hcellT, hclsB, hstatB⟩ := hrecv
  obtain ⟨r0, r, hn, hrm, hstR, hsigR⟩ := Cond.declares_spec (mvT (s := s.setVm vm0) (args := args) hZ w2)
  obtain ⟨mk, methM, hnamed, hmethM, -, habM⟩ := Cond.instanceMethod_spec (mvT (s := s.setVm vm0) (args := args) hZ w4)
  obtain ⟨c2, r2, m2, q1, q2, q3, q4, kP, hkP, hkPi⟩ := Cond.selects_spec (mvT (s := s.setVm vm0) (args := args) hZ w3)
  cases hcB.symm.trans q1
  cases (State.methodFound?_of_named hn hy).symm.trans q2
  cases hnamed.symm.trans q3
  have hselP : selectMethod e.platform (s.setVm vm0).vm cellB.cls r0 = .method mk := by rw [Launch.admits_selectMethod X.admits, hclsB]; exact q4
  obtain ⟨kr, hkr, hni⟩ := nf vm0 hZ r0 hn
  obtain ⟨vm₁, X₁, hstep₁⟩ := X.invokevirtual hx ho (mvT (s := s.setVm vm0) (args := args) hZ w1) hn hrm hstR hkr hni hy (a := a) (cell := cellB) hcellT
    (fun z h => by rw [h] at hstatB; cases hstatB) hselP hmethM habM hkP hkPi (g := mkF m pc Ls (argsL.reverse ++ .ref a :: S)) rfl (argsL := argsL) (rest := S) (hlen _ hsigR) rfl hd
  exact ⟨mk, vm₁, X₁, X₁.named hnamed, hstep₁ _ fun acts => by rw [doInvoke_state]; exact Steps.refl _⟩
theorem Inv.nf {y : MethodName} {C : String} (w3 : (Jvm.Cond.selects C y y).before a0 Z = true) : ∀ vm0 : Vm, Z.Warmed39 vm0 → NotFace (s.setVm vm0) y := fun vm0 hZ => notFace_of_selects (args := #[]) (mvT (s := s.setVm vm0) hZ w3)
/-- a call by a contract -/
theorem Go.call {y : MethodName} {bytesY : ByteArray} {maxL : Nat} {retY : Option FieldType} {rm : Room} {as' : Array Value} {SLc : List Addr} {Qc : Option Value → Heap → List Loc → List Addr → Prop} {pc len : Nat} {Ls : Array Slot} {S : List Value} {ig : Instr}
    (K : Kx p c meth bytes mx ret nm) (hE : b = true ∧ EW Z a0 EL ∨ EL = []) (I : Inv p l e R s m args below meth c Z own y as' g (mkF m pc Ls S) h locs cells slots) (hC : Ctr b l Z EL y bytesY maxL retY [] rm as' h SLc Qc) (hSL : ∀ x ∈ SLc, x ∈ SL) (wc : (Jvm.Cond.code y bytesY maxL retY).before a0 Z = true) (wz : (Jvm.Cond.initialized y.cls).before a0 Z = true)
    (hd : decode bytes pc = .ok (ig, len)) (hsz : Ls.size = mx) (hf : rm.frames + 1 ≤ R.frames) (hl : (S.map fun v => v.category).sum + (maxL + 11) + rm.locals ≤ R.locals) (hcl : cells + rm.cells ≤ R.cells) (hsl : slots + rm.slots ≤ R.slots)
    (r : ∀ (v : Option Value) (h' : Heap) (L : List Loc) (A : List Addr), Qc v h' L A → Go b p l e R s m args below meth c Z EL own Q (SL ++ A) (mkF m (pc + len) Ls (v.toList ++ S)) h' (locs ++ L) (cells + rm.cells) (slots + rm.slots)) :
    Go b p l e R s m args below meth c Z EL own Q SL g h locs cells slots := fun T vm0 X eT cx hZ ho ch sl => by
  obtain ⟨mk, vm1, X1, hn, st⟩ := I T vm0 X eT hZ ho
  have hat : ∀ {T : State} {locs : List Loc} {cells slots : Nat}, Stand p l e R (s.setVm vm0) m args below meth c T locs cells slots → CHr Z EL vm0 h T.vm h := fun Y => by
    rcases hE with ⟨-, hE⟩ | rfl
    · exact CHv.at Y hZ hE ch.1
    · exact chr0 (Nat.le_refl _)
  have hslc : Sl Z EL SLc vm0 h := fun x q => sl x (hSL x q)
  cases b
  · have hEL : EL = [] := by
      rcases hE with ⟨q, -⟩ | q
      · cases q
      · exact q
    subst hEL
    have hB : Back l R p e below (s.setVm vm0) args y len (S.map fun v => v.category).sum (fun A a => a = as' ∧ A.U.heap = h ∧ A.cells + rm.cells ≤ R.cells ∧ A.slots + rm.slots ≤ R.slots)
        (fun A _ v B => h.size ≤ B.U.heap.size ∧ ∃ L AA, Qc v B.U.heap L AA ∧ Sl Z [] AA vm0 B.U.heap ∧ B.locs = A.locs ++ L ∧ B.cells = A.cells + rm.cells ∧ B.slots = A.slots + rm.slots) :=
      Back.of_free (bytes := bytesY) (maxL := maxL) (ret := retY) (E := fun _ first o t L k n => k = rm.cells ∧ n = rm.slots ∧ first.heap.size ≤ t.heap.size ∧ ∃ v AA, o = .returned v ∧ Qc v t.heap L AA ∧ Sl Z [] AA t.vm t.heap) hC hf hl
        (fun m meth c A a Y hp => have hU : Z.Warmed39 A.U.vm := wtrans (s := s.setVm vm0) hZ Y.warmed
          ⟨by show (Jvm.Cond.and _ .tt).before a A.U = true; rw [Cond.before_and, mv hU wc]; rfl, mv hU wc, mv hU wz, hp.2.2.1, hp.2.2.2⟩)
        (fun m meth c A a g mk Y hp => ⟨hp.1, wtrans (s := s.setVm vm0) hZ Y.warmed, hp.2.1, chv0, fun x q => ⟨(hslc x q).1, safe0⟩⟩) (fun _ _ _ _ _ _ _ _ _ => trivial)
        (fun _ _ _ _ ⟨v, L, AA, h1, h2, h3, h4, h5⟩ => ⟨L, _, _, h5, rfl, rfl, h3.2.1, v, AA, h1, h2, h4⟩)
        (fun m meth c A a g mk v t L k n Y hp _ _ ⟨e1, e2, e3, v', AA, e4, e5, e6⟩ => by
          cases e4; subst e1 e2
          exact ⟨by rw [← hp.2.1]; exact e3, L, AA, e5, fun x q => ⟨(e6 x q).1, safe0⟩, rfl, rfl, rfl⟩)
    obtain ⟨v, ⟨T', L', k', n'⟩, X', ⟨hgr, L, AA, hq, hs, e1, e2, e3⟩, st2⟩ := hB m meth c ⟨T.setVm vm1, locs, cells, slots⟩ (mkF m pc Ls S) ig mk as' X1 rfl (hsz.trans K.2.2.1.symm) (hb K.2.1 hd) (by show 2 * 0 + (S.map fun v => v.category).sum ≤ _; omega) hn ⟨rfl, eT, hcl, hsl⟩
    dsimp only [Pt.U, Pt.locs, Pt.cells, Pt.slots] at X' hgr hq hs e1 e2 e3 st2
    subst e1 e2 e3
    obtain ⟨s₂, v2, L2, A2, h1, hr⟩ := r v T'.heap L AA hq T' vm0 X' rfl (cx.mono hgr) hZ ho (ch.trans (chr0 hgr)) ((sl.step (chr0 hgr)).app hs)
    exact ⟨s₂, v2, L2, A2, st.trans (st2.trans h1), hr⟩
  · have hB : BackS l R p e below (s.setVm vm0) args y len (S.map fun v => v.category).sum (fun A a => a = as' ∧ A.U.heap = h ∧ A.cells + rm.cells ≤ R.cells ∧ A.slots + rm.slots ≤ R.slots)
        (fun A _ v B => CHr Z EL vm0 h B.U.vm B.U.heap ∧ ∃ L AA, Qc v B.U.heap L AA ∧ Sl Z EL AA B.U.vm B.U.heap ∧ B.locs = A.locs ++ L ∧ B.cells = A.cells + rm.cells ∧ B.slots = A.slots + rm.slots) :=
      BackS.of_freeW (bytes := bytesY) (maxL := maxL) (ret := retY) (E := fun _ first o t L k n => k = rm.cells ∧ n = rm.slots ∧ CHr Z EL first.vm first.heap t.vm t.heap ∧ ∃ v AA, o = .returned v ∧ Qc v t.heap L AA ∧ Sl Z EL AA t.vm t.heap) hC hf hl
        (fun m meth c A a Y hp => have hU : Z.Warmed39 A.U.vm := wtrans (s := s.setVm vm0) hZ Y.warmed
          ⟨by show (Jvm.Cond.and _ .tt).before a A.U = true; rw [Cond.before_and, mv hU wc]; rfl, mv hU wc, mv hU wz, hp.2.2.1, hp.2.2.2⟩)
        (fun m' meth' c' A a g mk Y hp => by
          have q : CHr Z EL vm0 h A.U.vm h := by
            rcases hE with ⟨-, hE⟩ | rfl
            · exact CHv.at Y hZ hE ch.1
            · exact chr0 (Nat.le_refl _)
          exact ⟨hp.1, wtrans (s := s.setVm vm0) hZ Y.warmed, hp.2.1, q.1, hslc.step q⟩) (fun _ _ _ _ _ _ _ _ _ => trivial)
        (fun _ _ _ _ ⟨v, L, AA, h1, h2, h3, h4, h5⟩ => ⟨L, _, _, h5, rfl, rfl, h3, v, AA, h1, h2, h4⟩)
        (fun m' meth' c' A a g mk v t L k n Y hp _ _ ⟨e1, e2, e3, v', AA, e4, e5, e6⟩ => by
          cases e4; subst e1 e2
          have q : CHr Z EL vm0 h A.U.vm h := by
            rcases hE with ⟨-, hE⟩ | rfl
            · exact CHv.at Y hZ hE ch.1
            · exact chr0 (Nat.le_refl _)
          refine ⟨q.trans ?_, L, AA, e5, e6, rfl, rfl, rfl⟩
          rw [← hp.2.1]; exact e3)
    obtain ⟨v, ⟨T', L', k', n'⟩, X', hS', hgr, ⟨ch', L, AA, hq, hs, e1, e2, e3⟩, st2⟩ := hB m meth c ⟨T.setVm vm1, locs, cells, slots⟩ (mkF m pc Ls S) ig mk as' X1 rfl (hsz.trans K.2.2.1.symm) (hb K.2.1 hd) (by show 2 * 0 + (S.map fun v => v.category).sum ≤ _; omega) hn ⟨rfl, eT, hcl, hsl⟩
    dsimp only [Pt.U, Pt.locs, Pt.cells, Pt.slots] at X' hS' hgr ch' hq hs e1 e2 e3 st2
    subst e1 e2 e3
    obtain ⟨k0, hS, hk⟩ := cx
    have hgr' : k0 ≤ T'.heap.size := Nat.le_trans hk ch'.2.1
    obtain ⟨s₂, v2, L2, A2, h1, hr⟩ := r v T'.heap L AA hq T' T'.vm X' rfl ⟨_, hS.trans hS' hgr', Nat.le_refl _⟩ (State.Warmed39.trans (t := s.setVm vm0) hZ hS'.1) (by rw [hS'.1.alike.findClass]; exact ho) (ch.trans ch') ((sl.step ch').app hs)
    exact ⟨s₂, v2, L2, A2, st.trans (st2.trans h1), hr⟩
/-- a call that a law in Back's form pays (it interns nothing; it writes at ws alone) -/
theorem Go.callB {y : MethodName} {kc ks : Nat} {as' : Array Value} {Qc : Option Value → Heap → List Loc → Prop} {pc len W : Nat} {Ls : Array Slot} {S : List Value} {ig : Instr}
    (K : Kx p c meth bytes mx ret nm) (I : Inv p l e R s m args below meth c Z own y as' g (mkF m pc Ls S) h locs cells slots)
    (hB : ∀ s' : State, Z.Warmed39 s'.vm → Back l R p e below s' args y len W (fun A a => a = as' ∧ A.U.heap = h ∧ A.cells + kc ≤ R.cells ∧ A.slots + ks ≤ R.slots) (fun A _ v B => ∃ L, Qc v B.U.heap L ∧ B.locs = A.locs ++ L ∧ B.cells = A.cells + kc ∧ B.slots = A.slots + ks))
    (hd : decode bytes pc = .ok (ig, len)) (hsz : Ls.size = mx) (hW : (S.map fun v => v.category).sum ≤ W) (hcl : cells + kc ≤ R.cells) (hsl : slots + ks ≤ R.slots) {ws : List Addr} (hK : ∀ v h' L, Qc v h' L → Keep h h' ws) (hws : ∀ x ∈ ws, Sf Z EL SL h x)
    (r : ∀ (v : Option Value) (h' : Heap) (L : List Loc), Qc v h' L → Go b p l e R s m args below meth c Z EL own Q SL (mkF m (pc + len) Ls (v.toList ++ S)) h' (locs ++ L) (cells + kc) (slots + ks)) :
    Go b p l e R s m args below meth c Z EL own Q SL g h locs cells slots := fun T vm0 X eT cx hZ ho ch sl => by
  obtain ⟨mk, vm1, X1, hn, st⟩ := I T vm0 X eT hZ ho
  obtain ⟨v, ⟨T', L', k', n'⟩, X', ⟨L, hq, e1, e2, e3⟩, st2⟩ := hB (s.setVm vm0) hZ m meth c ⟨T.setVm vm1, locs, cells, slots⟩ (mkF m pc Ls S) ig mk as' X1 rfl (hsz.trans K.2.2.1.symm) (hb K.2.1 hd) (by show 2 * 0 + (S.map fun v => v.category).sum ≤ _; omega) hn ⟨rfl, eT, hcl, hsl⟩
  dsimp only [Pt.U, Pt.locs, Pt.cells, Pt.slots] at X' hq e1 e2 e3 st2
  subst e1 e2 e3
  have ch' := CHr.keep (hK _ _ _ hq) (fun x q => hws x q vm0 hZ sl) ch.1
  obtain ⟨s₂, v2, L2, A2, h1, hr⟩ := r v T'.heap L hq T' vm0 X' rfl (cx.mono ch'.2.1) hZ ho (ch.trans ch') (sl.step ch')
  exact ⟨s₂, v2, L2, A2, st.trans (st2.trans h1), hr⟩
end W
end Jvm.Pilot.@@N@@.Own
/- laws to paste: Road.backV (cut by pick.py; bodies as the Statement names them) -/
namespace Jvm.Pilot.@@N@@
namespace StrChars
open Jvm Sem ClassFile Op Lib Jvm.Stand Jvm.Free.XT Jvm.Free.ALB Jvm.Free.JM Jvm.Free
open Jvm.Lib.Cold (StaticIs)
/-- a char array whose places are chars -/
def Ch (a : Addr) (A : Cell) (U : State) : Prop := Arr .char a A U ∧ Typed .char A
theorem Ch.mv {a : Addr} {A : Cell} {U U' : State} (h : Ch a A U) (hal : U.vm.Alike U'.vm) (hh : U'.heap = U.heap) : Ch a A U' := ⟨h.1.mv hal hh, h.2⟩
theorem Ch.keep {a : Addr} {A : Cell} {U U' : State} (h : Ch a A U) (hal : U.vm.Alike U'.vm) (hk : U'.heap[a]? = some A) : Ch a A U' := ⟨h.1.keep hal hk, h.2⟩
/-- what place i of a char[]'s cell holds -/
def cv (A : Cell) (i : Nat) : Int32 := match A.slots[i]? with | some (.int x) => x | _ => 0
theorem Ch.get {a : Addr} {A : Cell} {U : State} (h : Ch a A U) {i : Nat} (hi : i < A.slots.size) : A.slots[i]? = some (.int (cv A i)) := by
  have e := Array.getElem?_eq_getElem hi
  have f := h.2 i _ e
  unfold cv; rw [e]
  generalize A.slots[i] = v at f
  cases v <;> simp [fits] at f ⊢
/-- the byte that i2b leaves of a char -/
def lo8 (x : Int32) : Int32 := x.toInt8.toInt32
theorem fits_lo8 (y : Int32) : fits .byte (.int (lo8 y)) = true := by
  have h1 := y.toInt8.le_toInt
  have h2 := y.toInt8.toInt_lt
  simp only [lo8, fits, Bool.and_eq_true, decide_eq_true_eq, Int32.le_iff_toInt_le, Int8.toInt_toInt32, show (-128 : Int32).toInt = -128 from by decide, show (127 : Int32).toInt = 127 from by decide]
  omega
/-- A' is A but that each place j of lo .. hi - 1 holds f j -/
def Laid (A A' : Cell) (lo hi : Nat) (f : Nat → Value) : Prop := A'.cls = A.cls ∧ A'.vm = A.vm ∧ A'.slots.size = A.slots.size ∧ ∀ i, A'.slots[i]? = if lo ≤ i ∧ i < hi then some (f i) else A.slots[i]?
theorem Laid.zero (A : Cell) (lo : Nat) (f : Nat → Value) : Laid A A lo (lo + 0) f := ⟨rfl, rfl, rfl, fun i => by rw [if_neg (by omega)]⟩
theorem Laid.step {A Ak : Cell} {lo k : Nat} {f : Nat → Value} {v : Value} (h : Laid A Ak lo k f) (hlo : lo ≤ k) (hk : k < Ak.slots.size) (hv : v = f k) : Laid A (Ak.setSlot k v) lo (k + 1) f := by
  refine ⟨h.1, h.2.1, by simpa [Cell.setSlot] using h.2.2.1, fun i => ?_⟩
  by_cases e : k = i
  · subst e; rw [Cell.slots_setSlot_self v hk, if_pos (by omega), hv]
  · rw [Cell.slots_setSlot_ne v e, h.2.2.2 i]
    by_cases q : lo ≤ i ∧ i < k
    · rw [if_pos q, if_pos (by omega)]
    · rw [if_neg q, if_neg (by omega)]
def U16 : String := "java/lang/StringUTF16"
namespace Cmp5
def yN : MethodName := ⟨"java/lang/StringUTF16", "compress", "([CI[BII)I"⟩
abbrev yB : ByteArray := jdk_52_method_21_code
theorem d0 : decode yB 0 = .ok (.iconst 0, 1) := by decide +kernel
theorem d1 : decode yB 1 = .ok (.istore 5, 2) := by decide +kernel
theorem d3 : decode yB 3 = .ok (.iload 5, 2) := by decide +kernel
theorem d5 : decode yB 5 = .ok (.iload 4, 2) := by decide +kernel
theorem d7 : decode yB 7 = .ok (.if_icmp (.ge) 37, 3) := by decide +kernel
theorem d10 : decode yB 10 = .ok (.aload_n 0, 1) := by decide +kernel
theorem d11 : decode yB 11 = .ok (.iload_n 1, 1) := by decide +kernel
theorem d12 : decode yB 12 = .ok (.caload, 1) := by decide +kernel
theorem d13 : decode yB 13 = .ok (.istore 6, 2) := by decide +kernel
theorem d15 : decode yB 15 = .ok (.iload 6, 2) := by decide +kernel
theorem d17 : decode yB 17 = .ok (.sipush 255, 3) := by decide +kernel
theorem d20 : decode yB 20 = .ok (.if_icmp (.le) 6, 3) := by decide +kernel
theorem d26 : decode yB 26 = .ok (.aload_n 2, 1) := by decide +kernel
theorem d27 : decode yB 27 = .ok (.iload_n 3, 1) := by decide +kernel
theorem d28 : decode yB 28 = .ok (.iload 6, 2) := by decide +kernel
theorem d30 : decode yB 30 = .ok (.i2b, 1) := by decide +kernel
theorem d31 : decode yB 31 = .ok (.bastore, 1) := by decide +kernel
theorem d32 : decode yB 32 = .ok (.iinc 1 1, 3) := by decide +kernel
theorem d35 : decode yB 35 = .ok (.iinc 3 1, 3) := by decide +kernel
theorem d38 : decode yB 38 = .ok (.iinc 5 1, 3) := by decide +kernel
theorem d41 : decode yB 41 = .ok (.goto (-38), 3) := by decide +kernel
theorem d44 : decode yB 44 = .ok (.iload 4, 2) := by decide +kernel
theorem d46 : decode yB 46 = .ok (.ireturn, 1) := by decide +kernel
def site : List Cond := []
def tab : Cond := tabOf yN yB 7 (some .int) site
def P (b : Addr) (A : Cell) (d : Addr) (B : Cell) (o q len : Nat) (args : Array Value) (s : State) : Prop := args = #[.ref b, .int (Int32.ofNat o), .ref d, .int (Int32.ofNat q), .int (Int32.ofNat len)] ∧ Ch b A s ∧ Arr .byte d B s ∧ b ≠ d ∧ o + len ≤ A.slots.size ∧ q + len ≤ B.slots.size ∧ ∀ i, i < len → ¬ 255 < cv A (o + i)
def E (b : Addr) (A : Cell) (d : Addr) (B : Cell) (o q len : Nat) (r : Option Value) (s u : State) : Prop := r = some (.int (Int32.ofNat len)) ∧ ∃ B', Put d B' s u ∧ Laid B B' q (q + len) (fun j => Value.int (lo8 (cv A (o + (j - q)))))
/-- no char of the range above 255: len; the places written hold each char's low byte -/
theorem law (l : Launch) (b : Addr) (A : Cell) (d : Addr) (B : Cell) (o q len : Nat) : Law l yN 5 5 0 0 yB 7 (some .int) site (P b A d B o q len) (E b A d B o q len) (copyLocs d q len) 0 0 := by
  refine Law.of_walk (plainFor_of_name (by decide +kernel)) (by decide +kernel) (by decide +kernel) (by decide) (fun _ _ h => by rw [h.1]; rfl) (fun _ U U' hal hh h => ⟨h.1, h.2.1.mv hal hh, h.2.2.1.mv hal hh, h.2.2.2⟩) (fun r U U' V V' h1 hal h2 h => ⟨h.1, h.2.elim fun B' q => ⟨B', q.1.mv h1 h2, q.2⟩⟩) ?_
  intro p e s m args below meth c s₁ X0 hexec hbytes hml hret hlk hnm hown hh0 W hP
  obtain ⟨rfl, hA, hB, hne, l1, l2, hp⟩ := hP
  have c1 : Steps p.tables e below (s₁.setTop (entryFrame m #[.ref b, .int (Int32.ofNat o), .ref d, .int (Int32.ofNat q), .int (Int32.ofNat len)] 7)) (s₁.setTop (mkF m 0 #[.val (.ref b), .val (.int (Int32.ofNat o)), .val (.ref d), .val (.int (Int32.ofNat q)), .val (.int (Int32.ofNat len)), .unset, .unset] [])) := entry rfl
  have hA0 := hA.1.mv X0.warmed.alike hh0
  have hB0 := hB.mv X0.warmed.alike hh0
  have a31 := hA.1.2.2.2
  have c2 : Steps p.tables e below (s₁.setTop (entryFrame m #[.ref b, .int (Int32.ofNat o), .ref d, .int (Int32.ofNat q), .int (Int32.ofNat len)] 7)) (s₁.setTop (mkF m 3 #[.val (.ref b), .val (.int (Int32.ofNat o)), .val (.ref d), .val (.int (Int32.ofNat q)), .val (.int (Int32.ofNat len)), .val (.int 0), .unset] [])) := c1.trans (by
    refine iconstV X0.here hexec rfl 0 (hb hbytes d0) (by decide) ?_
    refine XS.istore X0.here hexec rfl (hb hbytes d1) rfl rfl ?_
    exact Steps.refl _)
  have loop : ∀ (r i : Nat), i + r = len → ∀ (z : Slot), (z = .unset ∨ ∃ w, z = .val w ∧ w.category = 1) → ∀ (Tl : State) (Bk : Cell), Stand p l e { frames := 0, locals := 0, cells := 0, slots := 0 } s m #[.ref b, .int (Int32.ofNat o), .ref d, .int (Int32.ofNat q), .int (Int32.ofNat len)] below meth c Tl ([] ++ copyLocs d q i) 0 0 → Put d Bk s₁ Tl → Laid B Bk q (q + i) (fun j => Value.int (lo8 (cv A (o + (j - q))))) →
      Steps p.tables e below (s₁.setTop (entryFrame m #[.ref b, .int (Int32.ofNat o), .ref d, .int (Int32.ofNat q), .int (Int32.ofNat len)] 7)) (Tl.setTop (mkF m 3 #[.val (.ref b), .val (.int (Int32.ofNat (o + i))), .val (.ref d), .val (.int (Int32.ofNat (q + i))), .val (.int (Int32.ofNat len)), .val (.int (Int32.ofNat i)), z] [])) → ∃ (T' : State) (B' : Cell) (z' : Slot), Stand p l e { frames := 0, locals := 0, cells := 0, slots := 0 } s m #[.ref b, .int (Int32.ofNat o), .ref d, .int (Int32.ofNat q), .int (Int32.ofNat len)] below meth c T' ([] ++ copyLocs d q len) 0 0 ∧ Put d B' s₁ T' ∧ Laid B B' q (q + len) (fun j => Value.int (lo8 (cv A (o + (j - q))))) ∧
      Steps p.tables e below (s₁.setTop (entryFrame m #[.ref b, .int (Int32.ofNat o), .ref d, .int (Int32.ofNat q), .int (Int32.ofNat len)] 7)) (T'.setTop (mkF m 3 #[.val (.ref b), .val (.int (Int32.ofNat (o + len))), .val (.ref d), .val (.int (Int32.ofNat (q + len))), .val (.int (Int32.ofNat len)), .val (.int (Int32.ofNat len)), z'] [])) := by
    intro r
    induction r with
    | zero =>
      intro i hi z hz Tl Bk Xl pl fl cl
      have hil : i = len := by omega
      rw [hil] at Xl fl cl
      exact ⟨Tl, Bk, z, Xl, pl, fl, cl⟩
    | succ r ih =>
      intro i hi z hz Tl Bk Xl pl fl cl
      have all := X0.warmed.alike.symm.trans Xl.warmed.alike
      have hAl := hA0.keep all (pl.other hne hA0.1)
      have hBk := hB0.like all pl.1 fl.1 fl.2.1 fl.2.2.1
      have hlt : q + i < Bk.slots.size := by rw [fl.2.2.1]; omega
      have c3 : Steps p.tables e below (s₁.setTop (entryFrame m #[.ref b, .int (Int32.ofNat o), .ref d, .int (Int32.ofNat q), .int (Int32.ofNat len)] 7)) (Tl.setTop (mkF m 12 #[.val (.ref b), .val (.int (Int32.ofNat (o + i))), .val (.ref d), .val (.int (Int32.ofNat (q + i))), .val (.int (Int32.ofNat len)), .val (.int (Int32.ofNat i)), z] [.int (Int32.ofNat (o + i)), .ref b])) := cl.trans (by
        refine XS.iload Xl.here hexec rfl (hb hbytes d3) rfl ?_
        refine XS.iload Xl.here hexec rfl (hb hbytes d5) rfl ?_
        refine XS.icmpNo Xl.here hexec rfl (hb hbytes d7) rfl (ii_ge_f (lt32 (by omega) (by omega))) ?_
        refine XS.aloadN Xl.here hexec rfl (hb hbytes d10) rfl rfl ?_
        refine XS.iloadN Xl.here hexec rfl (hb hbytes d11) rfl ?_
        exact Steps.refl _)
      have c4 : Steps p.tables e below (s₁.setTop (entryFrame m #[.ref b, .int (Int32.ofNat o), .ref d, .int (Int32.ofNat q), .int (Int32.ofNat len)] 7)) (Tl.setTop (mkF m 13 #[.val (.ref b), .val (.int (Int32.ofNat (o + i))), .val (.ref d), .val (.int (Int32.ofNat (q + i))), .val (.int (Int32.ofNat len)), .val (.int (Int32.ofNat i)), z] [.int (cv A (o + i))])) := c3.trans (by
        refine Xl.aget hexec hAl rfl (hA.get (i := o + i) (by omega)) rfl rfl (hb hbytes d12) ?_
        exact Steps.refl _)
      have c5 : Steps p.tables e below (s₁.setTop (entryFrame m #[.ref b, .int (Int32.ofNat o), .ref d, .int (Int32.ofNat q), .int (Int32.ofNat len)] 7)) (Tl.setTop (mkF m 15 #[.val (.ref b), .val (.int (Int32.ofNat (o + i))), .val (.ref d), .val (.int (Int32.ofNat (q + i))), .val (.int (Int32.ofNat len)), .val (.int (Int32.ofNat i)), .val (.int (cv A (o + i)))] [])) := c4.trans (by
        refine XS.istoreS Xl.here hexec rfl (hb hbytes d13) rfl rfl hz ?_
        exact Steps.refl _)
      have c6 : Steps p.tables e below (s₁.setTop (entryFrame m #[.ref b, .int (Int32.ofNat o), .ref d, .int (Int32.ofNat q), .int (Int32.ofNat len)] 7)) (Tl.setTop (mkF m 31 #[.val (.ref b), .val (.int (Int32.ofNat (o + i))), .val (.ref d), .val (.int (Int32.ofNat (q + i))), .val (.int (Int32.ofNat len)), .val (.int (Int32.ofNat i)), .val (.int (cv A (o + i)))] [.int (lo8 (cv A (o + i))), .int (Int32.ofNat (q + i)), .ref d])) := c5.trans (by
        refine XS.iload Xl.here hexec rfl (hb hbytes d15) rfl ?_
        refine sipushV Xl.here hexec rfl 255 (hb hbytes d17) (by decide) ?_
        refine XS.icmpYes Xl.here hexec rfl (pc0 := 20) rfl (hb hbytes d20) rfl (ii_le_t (hp i (by omega))) (by decide) rfl ?_
        refine XS.aloadN Xl.here hexec rfl (hb hbytes d26) rfl rfl ?_
        refine XS.iloadN Xl.here hexec rfl (hb hbytes d27) rfl ?_
        refine XS.iload Xl.here hexec rfl (hb hbytes d28) rfl ?_
        refine i2b Xl.here hexec rfl (hb hbytes d30) rfl ?_
        exact Steps.refl _)
      obtain ⟨T7, X7, p7, st7⟩ := Xl.aput hexec hBk rfl hlt rfl (fits_lo8 (cv A (o + i))) (g := (mkF m 31 #[.val (.ref b), .val (.int (Int32.ofNat (o + i))), .val (.ref d), .val (.int (Int32.ofNat (q + i))), .val (.int (Int32.ofNat len)), .val (.int (Int32.ofNat i)), .val (.int (cv A (o + i)))] [.int (lo8 (cv A (o + i))), .int (Int32.ofNat (q + i)), .ref d])) rfl (rest := []) rfl (hb hbytes d31)
      have c8 : Steps p.tables e below (s₁.setTop (entryFrame m #[.ref b, .int (Int32.ofNat o), .ref d, .int (Int32.ofNat q), .int (Int32.ofNat len)] 7)) (T7.setTop (mkF m 32 #[.val (.ref b), .val (.int (Int32.ofNat (o + i))), .val (.ref d), .val (.int (Int32.ofNat (q + i))), .val (.int (Int32.ofNat len)), .val (.int (Int32.ofNat i)), .val (.int (cv A (o + i)))] [])) := c6.trans (st7 _ (Steps.refl _))
      have c9 : Steps p.tables e below (s₁.setTop (entryFrame m #[.ref b, .int (Int32.ofNat o), .ref d, .int (Int32.ofNat q), .int (Int32.ofNat len)] 7)) (T7.setTop (mkF m 3 #[.val (.ref b), .val (.int (Int32.ofNat (o + i) + 1)), .val (.ref d), .val (.int (Int32.ofNat (q + i) + 1)), .val (.int (Int32.ofNat len)), .val (.int (Int32.ofNat i + 1)), .val (.int (cv A (o + i)))] [])) := c8.trans (by
        refine iincV X7.here hexec rfl 1 (hb hbytes d32) (by decide) rfl rfl ?_
        refine iincV X7.here hexec rfl 1 (hb hbytes d35) (by decide) rfl rfl ?_
        refine iincV X7.here hexec rfl 1 (hb hbytes d38) (by decide) rfl rfl ?_
        refine XS.goto X7.here hexec rfl (pc0 := 41) rfl (hb hbytes d41) (by decide) rfl ?_
        exact Steps.refl _)
      have c10 : Steps p.tables e below (s₁.setTop (entryFrame m #[.ref b, .int (Int32.ofNat o), .ref d, .int (Int32.ofNat q), .int (Int32.ofNat len)] 7)) (T7.setTop (mkF m 3 #[.val (.ref b), .val (.int (Int32.ofNat (o + (i + 1)))), .val (.ref d), .val (.int (Int32.ofNat (q + (i + 1)))), .val (.int (Int32.ofNat len)), .val (.int (Int32.ofNat (i + 1))), .val (.int (cv A (o + i)))] [])) := by
        have := c9
        rw [succ32, succ32, succ32] at this
        exact this
      exact ih (i + 1) (by omega) _ (Or.inr ⟨_, rfl, rfl⟩) T7 _ (by rw [copyLocs_step, ← List.append_assoc]; exact X7) (pl.trans p7) (fl.step (by omega) hlt (by simp)) c10
  obtain ⟨T9, B9, z9, X9, p9, f9, g9⟩ := loop len 0 (by omega) .unset (Or.inl rfl) s₁ B (by simpa [copyLocs] using X0) ⟨hB0.1, fun _ _ => rfl, rfl⟩ (Laid.zero _ _ _) c2
  have c11 : Steps p.tables e below (s₁.setTop (entryFrame m #[.ref b, .int (Int32.ofNat o), .ref d, .int (Int32.ofNat q), .int (Int32.ofNat len)] 7)) (T9.setTop (mkF m 46 #[.val (.ref b), .val (.int (Int32.ofNat (o + len))), .val (.ref d), .val (.int (Int32.ofNat (q + len))), .val (.int (Int32.ofNat len)), .val (.int (Int32.ofNat len)), z9] [.int (Int32.ofNat len)])) := g9.trans (by
    refine XS.iload X9.here hexec rfl (hb hbytes d3) rfl ?_
    refine XS.iload X9.here hexec rfl (hb hbytes d5) rfl ?_
    refine XS.icmpYes X9.here hexec rfl (pc0 := 7) rfl (hb hbytes d7) rfl (ii_ge_t (nlt32 (by omega) (Nat.le_refl _))) (by decide) rfl ?_
    refine XS.iload X9.here hexec rfl (hb hbytes d44) rfl ?_
    exact Steps.refl _)
  exact ⟨T9, some (.int (Int32.ofNat len)), _, _, _, X9, by simp, rfl, rfl, (fun h => by cases h), ⟨rfl, B9, p9.from hh0, f9⟩, fun fs hl => c11.trans (X9.ireturnOut hexec hret rfl (Or.inl rfl) (hb hbytes d46) hl)⟩
end Cmp5
namespace Cmp3
def yN : MethodName := ⟨"java/lang/StringUTF16", "compress", "([CII)[B"⟩
abbrev yB : ByteArray := jdk_52_method_16_code
theorem d0 : decode yB 0 = .ok (.iload_n 2, 1) := by decide +kernel
theorem d1 : decode yB 1 = .ok (.newarray .byte, 2) := by decide +kernel
theorem d3 : decode yB 3 = .ok (.astore_n 3, 1) := by decide +kernel
theorem d4 : decode yB 4 = .ok (.aload_n 0, 1) := by decide +kernel
theorem d5 : decode yB 5 = .ok (.iload_n 1, 1) := by decide +kernel
theorem d6 : decode yB 6 = .ok (.aload_n 3, 1) := by decide +kernel
theorem d7 : decode yB 7 = .ok (.iconst 0, 1) := by decide +kernel
theorem d8 : decode yB 8 = .ok (.iload_n 2, 1) := by decide +kernel
theorem d9 : decode yB 9 = .ok (.invokestatic 115, 3) := by decide +kernel
theorem d12 : decode yB 12 = .ok (.istore 4, 2) := by decide +kernel
theorem d14 : decode yB 14 = .ok (.iload 4, 2) := by decide +kernel
theorem d16 : decode yB 16 = .ok (.iload_n 2, 1) := by decide +kernel
theorem d17 : decode yB 17 = .ok (.if_icmp (.eq) 40, 3) := by decide +kernel
theorem d57 : decode yB 57 = .ok (.aload_n 3, 1) := by decide +kernel
theorem d58 : decode yB 58 = .ok (.areturn, 1) := by decide +kernel
def site : List Cond := [.arrayClass .byte, Cmp5.tab] ++ staticW U16 115 Cmp5.yN
def tab : Cond := tabOf yN yB 6 (some (.array .byte)) site
def P (b : Addr) (A : Cell) (o len : Nat) (args : Array Value) (s : State) : Prop := args = #[.ref b, .int (Int32.ofNat o), .int (Int32.ofNat len)] ∧ Ch b A s ∧ o + len ≤ A.slots.size ∧ len ≤ 536870912 ∧ ∀ i, i < len → ¬ 255 < cv A (o + i)
def E (b : Addr) (A : Cell) (o len : Nat) (r : Option Value) (s u : State) : Prop := NewArr .byte "[B" len (fun j => .int (lo8 (cv A (o + j)))) r s u ∧ u.heap.size = s.heap.size + 1
/-- no char of the range above 255: a new byte[] of their low bytes -/
theorem law (l : Launch) (b : Addr) (A : Cell) (o len : Nat) : Law l yN 3 3 1 18 yB 6 (some (.array .byte)) site (P b A o len) (E b A o len) [] 1 len := by
  refine Law.of_walk (plainFor_of_name (by decide +kernel)) (by decide +kernel) (by decide +kernel) (by decide) (fun _ _ h => by rw [h.1]; rfl) (fun _ U U' hal hh h => ⟨h.1, h.2.1.mv hal hh, h.2.2⟩) (fun r U U' V V' h1 hal h2 h => ⟨NewArr.mv r U U' V V' h1 hal h2 h.1, by rw [h1, h2]; exact h.2⟩) ?_
  intro p e s m args below meth c s₁ X0 hexec hbytes hml hret hlk hnm hown hh0 W hP
  obtain ⟨rfl, hA, l1, l2, hp⟩ := hP
  have a31 := hA.1.2.2.2
  have c1 : Steps p.tables e below (s₁.setTop (entryFrame m #[.ref b, .int (Int32.ofNat o), .int (Int32.ofNat len)] 6)) (s₁.setTop (mkF m 0 #[.val (.ref b), .val (.int (Int32.ofNat o)), .val (.int (Int32.ofNat len)), .unset, .unset, .unset] [])) := entry rfl
  have c2 : Steps p.tables e below (s₁.setTop (entryFrame m #[.ref b, .int (Int32.ofNat o), .int (Int32.ofNat len)] 6)) (s₁.setTop (mkF m 1 #[.val (.ref b), .val (.int (Int32.ofNat o)), .val (.int (Int32.ofNat len)), .unset, .unset, .unset] [.int (Int32.ofNat len)])) := c1.trans (by
    refine XS.iloadN X0.here hexec rfl (hb hbytes d0) rfl ?_
    exact Steps.refl _)
  obtain ⟨T3, B3, X3, ba3, bs3, bv3, bh3, bf3, st3⟩ := X0.anew hexec (atype := .byte) (wk W (.arrayClass .byte)) rfl (by show len * 1 ≤ _; omega) (by omega) (g := (mkF m 1 #[.val (.ref b), .val (.int (Int32.ofNat o)), .val (.int (Int32.ofNat len)), .unset, .unset, .unset] [.int (Int32.ofNat len)])) rfl (hb hbytes d1) (rest := []) rfl (Nat.le_refl _) (by show 0 + len ≤ len; omega)
  rw [hh0] at ba3 st3
  have kp3 : XT.Kept s T3 := (XT.Kept.of_eq hh0).push bh3
  have hA3 := hA.keep X3.warmed.alike (kp3 _ _ hA.1.1)
  have hne : b ≠ s.heap.size := hA.1.ne
  have c4 : Steps p.tables e below (s₁.setTop (entryFrame m #[.ref b, .int (Int32.ofNat o), .int (Int32.ofNat len)] 6)) (T3.setTop (mkF m 3 #[.val (.ref b), .val (.int (Int32.ofNat o)), .val (.int (Int32.ofNat len)), .unset, .unset, .unset] [.ref s.heap.size])) := c2.trans (st3 _ (Steps.refl _))
  have c5 : Steps p.tables e below (s₁.setTop (entryFrame m #[.ref b, .int (Int32.ofNat o), .int (Int32.ofNat len)] 6)) (T3.setTop (mkF m 9 #[.val (.ref b), .val (.int (Int32.ofNat o)), .val (.int (Int32.ofNat len)), .val (.ref s.heap.size), .unset, .unset] [.int (Int32.ofNat len), .int 0, .ref s.heap.size, .int (Int32.ofNat o), .ref b])) := c4.trans (by
    refine XS.astoreN X3.here hexec rfl (hb hbytes d3) rfl rfl rfl ?_
    refine XS.aloadN X3.here hexec rfl (hb hbytes d4) rfl rfl ?_
    refine XS.iloadN X3.here hexec rfl (hb hbytes d5) rfl ?_
    refine XS.aloadN X3.here hexec rfl (hb hbytes d6) rfl rfl ?_
    refine iconstV X3.here hexec rfl 0 (hb hbytes d7) (by decide) ?_
    refine XS.iloadN X3.here hexec rfl (hb hbytes d8) rfl ?_
    exact Steps.refl _)
  obtain ⟨v6, T6, X6, E6, g6⟩ := X3.callS hexec (Cmp5.law l b A s.heap.size B3 o 0 len) hown (wks W (staticW U16 115 Cmp5.yN)) (wk W Cmp5.tab) (W := 0) (Nat.le_of_ble_eq_true rfl) (Nat.le_of_ble_eq_true rfl) (Nat.le_refl _) (by show 0 + len + 0 ≤ len; omega) (g := (mkF m 9 #[.val (.ref b), .val (.int (Int32.ofNat o)), .val (.int (Int32.ofNat len)), .val (.ref s.heap.size), .unset, .unset] [.int (Int32.ofNat len), .int (Int32.ofNat 0), .ref s.heap.size, .int (Int32.ofNat o), .ref b])) rfl (by rw [hml]; rfl) c5 (argsL := [.ref b, .int (Int32.ofNat o), .ref s.heap.size, .int (Int32.ofNat 0), .int (Int32.ofNat len)]) (rest := []) rfl rfl (by show 2 * 0 + 0 ≤ _; decide) (hb hbytes d9) (⟨rfl, hA3, ba3, hne, l1, by rw [bs3]; simp, hp⟩)
  obtain ⟨rfl, B6, p6, f6⟩ := E6
  have c7 : Steps p.tables e below (s₁.setTop (entryFrame m #[.ref b, .int (Int32.ofNat o), .int (Int32.ofNat len)] 6)) (T6.setTop (mkF m 12 #[.val (.ref b), .val (.int (Int32.ofNat o)), .val (.int (Int32.ofNat len)), .val (.ref s.heap.size), .unset, .unset] [.int (Int32.ofNat len)])) := g6
  have c8 : Steps p.tables e below (s₁.setTop (entryFrame m #[.ref b, .int (Int32.ofNat o), .int (Int32.ofNat len)] 6)) (T6.setTop (mkF m 58 #[.val (.ref b), .val (.int (Int32.ofNat o)), .val (.int (Int32.ofNat len)), .val (.ref s.heap.size), .val (.int (Int32.ofNat len)), .unset] [.ref s.heap.size])) := c7.trans (by
    refine XS.istore X6.here hexec rfl (hb hbytes d12) rfl rfl ?_
    refine XS.iload X6.here hexec rfl (hb hbytes d14) rfl ?_
    refine XS.iloadN X6.here hexec rfl (hb hbytes d16) rfl ?_
    refine XS.icmpYes X6.here hexec rfl (pc0 := 17) rfl (hb hbytes d17) rfl (ii_eq_t rfl) (by decide) rfl ?_
    refine XS.aloadN X6.here hexec rfl (hb hbytes d57) rfl rfl ?_
    exact Steps.refl _)
  have X8 := X6.wide (L' := []) (cells' := 1) (slots' := len) (fun x hx hlt => by
    simp only [List.nil_append, copyLocs, List.mem_map, List.mem_range] at hx
    obtain ⟨i, -, rfl⟩ := hx
    exact absurd hlt (Nat.lt_irrefl _)) (Nat.le_refl _) (by omega)
  exact ⟨T6, some (.ref s.heap.size), _, _, _, X8, rfl, rfl, rfl, (fun h => by cases h), ⟨⟨rfl, B6, ba3.like (X3.warmed.alike.symm.trans X6.warmed.alike) p6.1 f6.1 f6.2.1 f6.2.2.1, f6.2.1.trans bv3, by rw [X6.warmed.alike.findClass, f6.1]; exact bf3, by rw [f6.2.2.1, bs3]; simp, fun j hj => by rw [f6.2.2.2 j, if_pos (by omega)]; rfl, kp3.put p6 (Nat.le_refl _)⟩, by rw [p6.2.2, bh3, hh0]; simp⟩, fun fs hl => c8.trans (X8.areturnOut hexec rfl hret rfl (hb hbytes d58) hl)⟩
end Cmp3
namespace CodL
def yN : MethodName := ⟨"java/lang/StringUTF16", "coderFromArrayLen", "([BI)B"⟩
abbrev yB : ByteArray := jdk_52_method_15_code
theorem d0 : decode yB 0 = .ok (.iload_n 1, 1) := by decide +kernel
theorem d1 : decode yB 1 = .ok (.aload_n 0, 1) := by decide +kernel
theorem d2 : decode yB 2 = .ok (.arraylength, 1) := by decide +kernel
theorem d3 : decode yB 3 = .ok (.isub, 1) := by decide +kernel
theorem d4 : decode yB 4 = .ok (.bipush 31, 2) := by decide +kernel
theorem d6 : decode yB 6 = .ok (.iushr, 1) := by decide +kernel
theorem d7 : decode yB 7 = .ok (.i2b, 1) := by decide +kernel
theorem d8 : decode yB 8 = .ok (.ireturn, 1) := by decide +kernel
def site : List Cond := []
def tab : Cond := tabOf yN yB 2 (some .byte) site
def P (d : Addr) (B : Cell) (args : Array Value) (s : State) : Prop := args = #[.ref d, .int (Int32.ofNat B.slots.size)] ∧ Arr .byte d B s
def E (r : Option Value) (s u : State) : Prop := XT.PureE (some (.int 0)) r s u
/-- an array as long as the number of chars: LATIN1 -/
theorem law (l : Launch) (d : Addr) (B : Cell) : Law l yN 2 2 0 0 yB 2 (some .byte) site (P d B) E [] 0 0 := by
  refine Law.of_walk (plainFor_of_name (by decide +kernel)) (by decide +kernel) (by decide +kernel) (by decide) (fun _ _ h => by rw [h.1]; rfl) (fun _ U U' hal hh h => ⟨h.1, h.2.mv hal hh⟩) (fun r U U' V V' h1 hal h2 h => XT.PureE.mv r U U' V V' h1 hal h2 h) ?_
  intro p e s m args below meth c s₁ X0 hexec hbytes hml hret hlk hnm hown hh0 W hP
  obtain ⟨rfl, hB⟩ := hP
  have hB0 := hB.mv X0.warmed.alike hh0
  have c1 : Steps p.tables e below (s₁.setTop (entryFrame m #[.ref d, .int (Int32.ofNat B.slots.size)] 2)) (s₁.setTop (mkF m 0 #[.val (.ref d), .val (.int (Int32.ofNat B.slots.size))] [])) := entry rfl
  have c2 : Steps p.tables e below (s₁.setTop (entryFrame m #[.ref d, .int (Int32.ofNat B.slots.size)] 2)) (s₁.setTop (mkF m 2 #[.val (.ref d), .val (.int (Int32.ofNat B.slots.size))] [.ref d, .int (Int32.ofNat B.slots.size)])) := c1.trans (by
    refine XS.iloadN X0.here hexec rfl (hb hbytes d0) rfl ?_
    refine XS.aloadN X0.here hexec rfl (hb hbytes d1) rfl rfl ?_
    exact Steps.refl _)
  have c3 : Steps p.tables e below (s₁.setTop (entryFrame m #[.ref d, .int (Int32.ofNat B.slots.size)] 2)) (s₁.setTop (mkF m 8 #[.val (.ref d), .val (.int (Int32.ofNat B.slots.size))] [.int (lo8 (ushr (Int32.ofNat B.slots.size - Int32.ofNat B.slots.size) 31))])) := c2.trans (by
    refine X0.alen hexec hB0 rfl rfl (hb hbytes d2) ?_
    refine XS.isub X0.here hexec rfl (hb hbytes d3) rfl ?_
    refine bipushV X0.here hexec rfl 31 (hb hbytes d4) (by decide) ?_
    refine iushr X0.here hexec rfl (hb hbytes d6) rfl ?_
    refine i2b X0.here hexec rfl (hb hbytes d7) rfl ?_
    exact Steps.refl _)
  have e0 : lo8 (ushr (Int32.ofNat B.slots.size - Int32.ofNat B.slots.size) 31) = 0 := by rw [Int32.sub_self]; decide
  rw [e0] at c3
  exact ⟨s₁, some (.int 0), _, _, _, X0, rfl, rfl, rfl, (fun h => by cases h), ⟨rfl, hh0⟩, fun fs hl => c3.trans (X0.ireturnOut hexec hret rfl (Or.inr (Or.inr (Or.inl rfl))) (hb hbytes d8) hl)⟩
end CodL
/-- the String at a is Latin-1 over a new byte[] (the heap's one new cell): the low bytes of the len chars of A from o on; every cell but a is kept -/
def Got (a : Addr) (D : Cell) (fV fC : Field) (A : Cell) (o len : Nat) (r : Option Value) (s u : State) : Prop := r = none ∧ ∃ D' V : Cell, Blank "java/lang/String" a D' u ∧ Same D D' [fV.slot, fC.slot] ∧ D'.slots[fV.slot]? = some (.ref s.heap.size) ∧ D'.slots[fC.slot]? = some (.int 0) ∧ Arr .byte s.heap.size V u ∧ V.vm = .none ∧ u.vm.findClass "[B" = some V.cls ∧ V.slots.size = len ∧ (∀ j, j < len → V.slots[j]? = some (.int (lo8 (cv A (o + j))))) ∧ (∀ (y : Addr) (c : Cell), y ≠ a → s.heap[y]? = some c → u.heap[y]? = some c) ∧ u.heap.size = s.heap.size + 1
theorem Got.mv {a : Addr} {D A : Cell} {fV fC : Field} {o len : Nat} : ∀ r (U U' V V' : State), U'.heap = U.heap → V.vm.Alike V'.vm → V'.heap = V.heap → Got a D fV fC A o len r U V → Got a D fV fC A o len r U' V' :=
  fun r U U' V V' h1 hal h2 ⟨e0, D', X, a1, a2, a3, a4, a5, a6, a7, a8, a9, a10, a11⟩ => ⟨e0, D', X, a1.mv hal h2, a2, by rw [h1]; exact a3, a4, by rw [h1]; exact a5.mv hal h2, a6, by rw [hal.findClass]; exact a7, a8, a9, by rw [h1, h2]; exact a10, by rw [h1, h2]; exact a11⟩
namespace New4
def yN : MethodName := ⟨"java/lang/String", "<init>", "([CIILjava/lang/Void;)V"⟩
abbrev yB : ByteArray := jdk_42_method_149_code
theorem d0 : decode yB 0 = .ok (.aload_n 0, 1) := by decide +kernel
theorem d1 : decode yB 1 = .ok (.invokespecial 1, 3) := by decide +kernel
theorem d4 : decode yB 4 = .ok (.iload_n 3, 1) := by decide +kernel
theorem d5 : decode yB 5 = .ok (.ifCond (.ne) 22, 3) := by decide +kernel
theorem d27 : decode yB 27 = .ok (.getstatic 38, 3) := by decide +kernel
theorem d30 : decode yB 30 = .ok (.ifCond (.eq) 28, 3) := by decide +kernel
theorem d33 : decode yB 33 = .ok (.aload_n 1, 1) := by decide +kernel
theorem d34 : decode yB 34 = .ok (.iload_n 2, 1) := by decide +kernel
theorem d35 : decode yB 35 = .ok (.iload_n 3, 1) := by decide +kernel
theorem d36 : decode yB 36 = .ok (.invokestatic 177, 3) := by decide +kernel
theorem d39 : decode yB 39 = .ok (.astore 5, 2) := by decide +kernel
theorem d41 : decode yB 41 = .ok (.aload_n 0, 1) := by decide +kernel
theorem d42 : decode yB 42 = .ok (.aload 5, 2) := by decide +kernel
theorem d44 : decode yB 44 = .ok (.iload_n 3, 1) := by decide +kernel
theorem d45 : decode yB 45 = .ok (.invokestatic 47, 3) := by decide +kernel
theorem d48 : decode yB 48 = .ok (.putfield 15, 3) := by decide +kernel
theorem d51 : decode yB 51 = .ok (.aload_n 0, 1) := by decide +kernel
theorem d52 : decode yB 52 = .ok (.aload 5, 2) := by decide +kernel
theorem d54 : decode yB 54 = .ok (.putfield 9, 3) := by decide +kernel
theorem d57 : decode yB 57 = .ok (.return_, 1) := by decide +kernel
def site : List Cond := [.fieldLink "java/lang/String" 38 "java/lang/String" "COMPACT_STRINGS" "Z", Cmp3.tab, CodL.tab, .laysFinal "java/lang/String" "java/lang/String" "value" "[B", .fieldLink "java/lang/String" 9 "java/lang/String" "value" "[B", .laysFinal "java/lang/String" "java/lang/String" "coder" "B", .fieldLink "java/lang/String" 15 "java/lang/String" "coder" "B"] ++ objW "java/lang/String" 1 ++ staticW "java/lang/String" 177 Cmp3.yN ++ staticW "java/lang/String" 47 CodL.yN
def tab : Cond := tabOf yN yB 6 none site
def P (a : Addr) (D : Cell) (fV fC : Field) (b : Addr) (A : Cell) (z : Int32) (o len : Nat) (args : Array Value) (s : State) : Prop := args = #[.ref a, .ref b, .int (Int32.ofNat o), .int (Int32.ofNat len), .null] ∧ Blank "java/lang/String" a D s ∧ Found "java/lang/String" "value" "[B" fV s ∧ Found "java/lang/String" "coder" "B" fC s ∧ Ch b A s ∧ StaticIs s "java/lang/String" "COMPACT_STRINGS" "Z" (.int z) ∧ ¬ z = 0 ∧ 0 < len ∧ o + len ≤ A.slots.size ∧ len ≤ 536870912 ∧ ∀ i, i < len → ¬ 255 < cv A (o + i)
def E (a : Addr) (D : Cell) (fV fC : Field) (A : Cell) (o len : Nat) (r : Option Value) (s u : State) : Prop := Got a D fV fC A o len r s u
/-- len > 0, no char of the range above 255: a Latin-1 String of their low bytes -/
theorem law (l : Launch) (a : Addr) (D : Cell) (fV fC : Field) (b : Addr) (A : Cell) (z : Int32) (o len : Nat) : Law l yN 5 4 2 35 yB 6 none site (P a D fV fC b A z o len) (E a D fV fC A o len) [⟨a, fC.slot⟩, ⟨a, fV.slot⟩] 1 len := by
  refine Law.of_walk (plainFor_of_name (by decide +kernel)) (by decide +kernel) (by decide +kernel) (by decide) (fun _ _ h => by rw [h.1]; rfl) (fun _ U U' hal hh h => ⟨h.1, h.2.1.mv hal hh, h.2.2.1.al hal, h.2.2.2.1.al hal, h.2.2.2.2.1.mv hal hh, h.2.2.2.2.2.1.there hal hh, h.2.2.2.2.2.2⟩) (fun r U U' V V' h1 hal h2 h => Got.mv r U U' V V' h1 hal h2 h) ?_
  intro p e s m args below meth c s₁ X0 hexec hbytes hml hret hlk hnm hown hh0 W hP
  obtain ⟨rfl, hB, f1, f2, hA, s1, hz, l0, l1, l2, hp⟩ := hP
  have a31 := hA.1.2.2.2
  have c1 : Steps p.tables e below (s₁.setTop (entryFrame m #[.ref a, .ref b, .int (Int32.ofNat o), .int (Int32.ofNat len), .null] 6)) (s₁.setTop (mkF m 0 #[.val (.ref a), .val (.ref b), .val (.int (Int32.ofNat o)), .val (.int (Int32.ofNat len)), .val .null, .unset] [])) := entry rfl
  have c2 : Steps p.tables e below (s₁.setTop (entryFrame m #[.ref a, .ref b, .int (Int32.ofNat o), .int (Int32.ofNat len), .null] 6)) (s₁.setTop (mkF m 1 #[.val (.ref a), .val (.ref b), .val (.int (Int32.ofNat o)), .val (.int (Int32.ofNat len)), .val .null, .unset] [.ref a])) := c1.trans (by
    refine XS.aloadN X0.here hexec rfl (hb hbytes d0) rfl rfl ?_
    exact Steps.refl _)
  obtain ⟨T3, X3, q3, st3⟩ := X0.oinit hexec hown (wks W (objW "java/lang/String" 1)) (g := (mkF m 1 #[.val (.ref a), .val (.ref b), .val (.int (Int32.ofNat o)), .val (.int (Int32.ofNat len)), .val .null, .unset] [.ref a])) rfl (by rw [hml]; rfl) (rest := []) rfl (hb hbytes d1) (W := 0) (by show 2 * 0 + 0 ≤ _; decide) (Nat.le_of_ble_eq_true rfl) (Nat.le_of_ble_eq_true rfl)
  have hh3 := q3.trans hh0
  have c4 : Steps p.tables e below (s₁.setTop (entryFrame m #[.ref a, .ref b, .int (Int32.ofNat o), .int (Int32.ofNat len), .null] 6)) (T3.setTop (mkF m 27 #[.val (.ref a), .val (.ref b), .val (.int (Int32.ofNat o)), .val (.int (Int32.ofNat len)), .val .null, .unset] [])) := (c2.trans (st3 _ (Steps.refl _))).trans (by
    refine XS.iloadN X3.here hexec rfl (hb hbytes d4) rfl ?_
    refine XS.ifYes X3.here hexec rfl (pc0 := 5) rfl (hb hbytes d5) rfl (i0_ne_t (nz32 (by omega) l0)) (by decide) rfl ?_
    exact Steps.refl _)
  obtain ⟨T5, X5, q5, st5⟩ := X3.sget hexec hown (wk W (.fieldLink "java/lang/String" 38 "java/lang/String" "COMPACT_STRINGS" "Z")) s1 (fun _ _ h => by rw [hh3]; exact h) (g := (mkF m 27 #[.val (.ref a), .val (.ref b), .val (.int (Int32.ofNat o)), .val (.int (Int32.ofNat len)), .val .null, .unset] [])) rfl (hb hbytes d27)
  have hh5 := q5.trans hh3
  have c6 : Steps p.tables e below (s₁.setTop (entryFrame m #[.ref a, .ref b, .int (Int32.ofNat o), .int (Int32.ofNat len), .null] 6)) (T5.setTop (mkF m 30 #[.val (.ref a), .val (.ref b), .val (.int (Int32.ofNat o)), .val (.int (Int32.ofNat len)), .val .null, .unset] [.int z])) := c4.trans (st5 _ (Steps.refl _))
  have c7 : Steps p.tables e below (s₁.setTop (entryFrame m #[.ref a, .ref b, .int (Int32.ofNat o), .int (Int32.ofNat len), .null] 6)) (T5.setTop (mkF m 36 #[.val (.ref a), .val (.ref b), .val (.int (Int32.ofNat o)), .val (.int (Int32.ofNat len)), .val .null, .unset] [.int (Int32.ofNat len), .int (Int32.ofNat o), .ref b])) := c6.trans (by
    refine XS.ifNo X5.here hexec rfl (hb hbytes d30) rfl (i0_eq_f hz) ?_
    refine XS.aloadN X5.here hexec rfl (hb hbytes d33) rfl rfl ?_
    refine XS.iloadN X5.here hexec rfl (hb hbytes d34) rfl ?_
    refine XS.iloadN X5.here hexec rfl (hb hbytes d35) rfl ?_
    exact Steps.refl _)
  obtain ⟨v8, T8, X8, E8, g8⟩ := X5.callS hexec (Cmp3.law l b A o len) hown (wks W (staticW "java/lang/String" 177 Cmp3.yN)) (wk W Cmp3.tab) (W := 0) (Nat.le_of_ble_eq_true rfl) (Nat.le_of_ble_eq_true rfl) (Nat.le_refl _) (by show 0 + len ≤ len; omega) (g := (mkF m 36 #[.val (.ref a), .val (.ref b), .val (.int (Int32.ofNat o)), .val (.int (Int32.ofNat len)), .val .null, .unset] [.int (Int32.ofNat len), .int (Int32.ofNat o), .ref b])) rfl (by rw [hml]; rfl) c7 (argsL := [.ref b, .int (Int32.ofNat o), .int (Int32.ofNat len)]) (rest := []) rfl rfl (by show 2 * 0 + 0 ≤ _; decide) (hb hbytes d36) (⟨rfl, hA.mv X5.warmed.alike hh5, l1, l2, hp⟩)
  obtain ⟨e8, z8⟩ := E8
  obtain ⟨rfl, N, n1, n2, n3, n4, n5, n6⟩ := NewArr.mv _ T5 s _ _ hh5.symm (Vm.Alike.refl _) rfl e8
  rw [hh5] at z8
  have hB1 := hB.keep X8.warmed.alike (n6 _ _ hB.1)
  have hne : s.heap.size ≠ a := (Nat.ne_of_lt (Array.getElem?_eq_some_iff.mp hB.1).1).symm
  have c9 : Steps p.tables e below (s₁.setTop (entryFrame m #[.ref a, .ref b, .int (Int32.ofNat o), .int (Int32.ofNat len), .null] 6)) (T8.setTop (mkF m 39 #[.val (.ref a), .val (.ref b), .val (.int (Int32.ofNat o)), .val (.int (Int32.ofNat len)), .val .null, .unset] [.ref s.heap.size])) := g8
  have c10 : Steps p.tables e below (s₁.setTop (entryFrame m #[.ref a, .ref b, .int (Int32.ofNat o), .int (Int32.ofNat len), .null] 6)) (T8.setTop (mkF m 45 #[.val (.ref a), .val (.ref b), .val (.int (Int32.ofNat o)), .val (.int (Int32.ofNat len)), .val .null, .val (.ref s.heap.size)] [.int (Int32.ofNat N.slots.size), .ref s.heap.size, .ref a])) := by
    have hc : Steps p.tables e below (s₁.setTop (entryFrame m #[.ref a, .ref b, .int (Int32.ofNat o), .int (Int32.ofNat len), .null] 6)) (T8.setTop (mkF m 45 #[.val (.ref a), .val (.ref b), .val (.int (Int32.ofNat o)), .val (.int (Int32.ofNat len)), .val .null, .val (.ref s.heap.size)] [.int (Int32.ofNat len), .ref s.heap.size, .ref a])) := c9.trans (by
      refine XS.astore X8.here hexec rfl (hb hbytes d39) rfl rfl rfl ?_
      refine XS.aloadN X8.here hexec rfl (hb hbytes d41) rfl rfl ?_
      refine XS.aload X8.here hexec rfl (hb hbytes d42) rfl rfl ?_
      refine XS.iloadN X8.here hexec rfl (hb hbytes d44) rfl ?_
      exact Steps.refl _)
    rw [n4]; exact hc
  obtain ⟨v11, T11, X11, E11, g11⟩ := X8.callS hexec (CodL.law l s.heap.size N) hown (wks W (staticW "java/lang/String" 47 CodL.yN)) (wk W CodL.tab) (W := 1) (Nat.le_of_ble_eq_true rfl) (Nat.le_of_ble_eq_true rfl) (Nat.le_refl _) (by show 0 + len + 0 ≤ len; omega) (g := (mkF m 45 #[.val (.ref a), .val (.ref b), .val (.int (Int32.ofNat o)), .val (.int (Int32.ofNat len)), .val .null, .val (.ref s.heap.size)] [.int (Int32.ofNat N.slots.size), .ref s.heap.size, .ref a])) rfl (by rw [hml]; rfl) c10 (argsL := [.ref s.heap.size, .int (Int32.ofNat N.slots.size)]) (rest := [.ref a]) rfl rfl (by show 2 * 0 + (1 + 0) ≤ _; decide) (hb hbytes d45) (⟨rfl, n1⟩)
  obtain ⟨rfl, q11⟩ := E11
  have hB11 := hB1.mv (X8.warmed.alike.symm.trans X11.warmed.alike) q11
  have c12 : Steps p.tables e below (s₁.setTop (entryFrame m #[.ref a, .ref b, .int (Int32.ofNat o), .int (Int32.ofNat len), .null] 6)) (T11.setTop (mkF m 48 #[.val (.ref a), .val (.ref b), .val (.int (Int32.ofNat o)), .val (.int (Int32.ofNat len)), .val .null, .val (.ref s.heap.size)] [.int 0, .ref a])) := g11
  obtain ⟨T13, X13, p13, bl13, sl13, st13⟩ := X11.finit hexec hown (wk W (.fieldLink "java/lang/String" 15 "java/lang/String" "coder" "B")) (Or.inr ⟨_, (wk W (.laysFinal "java/lang/String" "java/lang/String" "coder" "B"))⟩) (Or.inl ⟨rfl, hnm⟩) f2 (Or.inl rfl) hB11 (t := .byte) (by decide +kernel) rfl (g := (mkF m 48 #[.val (.ref a), .val (.ref b), .val (.int (Int32.ofNat o)), .val (.int (Int32.ofNat len)), .val .null, .val (.ref s.heap.size)] [.int 0, .ref a])) rfl (rest := []) rfl (hb hbytes d48)
  have c14 : Steps p.tables e below (s₁.setTop (entryFrame m #[.ref a, .ref b, .int (Int32.ofNat o), .int (Int32.ofNat len), .null] 6)) (T13.setTop (mkF m 54 #[.val (.ref a), .val (.ref b), .val (.int (Int32.ofNat o)), .val (.int (Int32.ofNat len)), .val .null, .val (.ref s.heap.size)] [.ref s.heap.size, .ref a])) := (c12.trans (st13 _ (Steps.refl _))).trans (by
    refine XS.aloadN X13.here hexec rfl (hb hbytes d51) rfl rfl ?_
    refine XS.aload X13.here hexec rfl (hb hbytes d52) rfl rfl ?_
    exact Steps.refl _)
  obtain ⟨T15, X15, p15, bl15, sl15, st15⟩ := X13.finit hexec hown (wk W (.fieldLink "java/lang/String" 9 "java/lang/String" "value" "[B")) (Or.inr ⟨_, (wk W (.laysFinal "java/lang/String" "java/lang/String" "value" "[B"))⟩) (Or.inl ⟨rfl, hnm⟩) f1 (Or.inl rfl) bl13 (t := (.array .byte)) (by decide +kernel) rfl (g := (mkF m 54 #[.val (.ref a), .val (.ref b), .val (.int (Int32.ofNat o)), .val (.int (Int32.ofNat len)), .val .null, .val (.ref s.heap.size)] [.ref s.heap.size, .ref a])) rfl (rest := []) rfl (hb hbytes d54)
  have c16 : Steps p.tables e below (s₁.setTop (entryFrame m #[.ref a, .ref b, .int (Int32.ofNat o), .int (Int32.ofNat len), .null] 6)) (T15.setTop (mkF m 57 #[.val (.ref a), .val (.ref b), .val (.int (Int32.ofNat o)), .val (.int (Int32.ofNat len)), .val .null, .val (.ref s.heap.size)] [])) := c14.trans (st15 _ (Steps.refl _))
  have ap := apart (Or.inr ⟨_, (wk W (.laysFinal "java/lang/String" "java/lang/String" "value" "[B"))⟩) (Or.inr ⟨_, (wk W (.laysFinal "java/lang/String" "java/lang/String" "coder" "B"))⟩) f1 f2 (t₁ := .array .byte) (t₂ := .byte) (by decide +kernel) (by decide +kernel) (by decide)
  have al := X8.warmed.alike.symm.trans X15.warmed.alike
  have n7 : T11.heap[s.heap.size]? = some N := by rw [q11]; exact n1.1
  exact ⟨T15, none, _, _, _, X15, by simp, rfl, by omega, (fun _ => rfl), ⟨rfl, _, N, bl15, ((Same.refl D _).set _ (by simp)).set _ (by simp), sl15, (Cell.slots_setSlot_ne _ ap).trans sl13, n1.keep al (p15.other hne (p13.other hne n7)), n2, by rw [al.findClass]; exact n3, n4, n5, fun y c h1 h2 => p15.other h1 (p13.other h1 (by rw [q11]; exact n6 y c h2)), by rw [p15.2.2, p13.2.2, q11]; exact z8⟩, fun fs hl => c16.trans (X15.returnOut hexec hret (hb hbytes d57) hl)⟩
end New4
namespace New1
def yN : MethodName := ⟨"java/lang/String", "<init>", "([C)V"⟩
abbrev yB : ByteArray := jdk_42_method_3_code
theorem d0 : decode yB 0 = .ok (.aload_n 0, 1) := by decide +kernel
theorem d1 : decode yB 1 = .ok (.aload_n 1, 1) := by decide +kernel
theorem d2 : decode yB 2 = .ok (.iconst 0, 1) := by decide +kernel
theorem d3 : decode yB 3 = .ok (.aload_n 1, 1) := by decide +kernel
theorem d4 : decode yB 4 = .ok (.arraylength, 1) := by decide +kernel
theorem d5 : decode yB 5 = .ok (.aconst_null, 1) := by decide +kernel
theorem d6 : decode yB 6 = .ok (.invokespecial 27, 3) := by decide +kernel
theorem d9 : decode yB 9 = .ok (.return_, 1) := by decide +kernel
def site : List Cond := [New4.tab] ++ initW "java/lang/String" 27 New4.yN
def tab : Cond := tabOf yN yB 2 none site
def P (a : Addr) (D : Cell) (fV fC : Field) (b : Addr) (A : Cell) (z : Int32) (args : Array Value) (s : State) : Prop := args = #[.ref a, .ref b] ∧ Blank "java/lang/String" a D s ∧ Found "java/lang/String" "value" "[B" fV s ∧ Found "java/lang/String" "coder" "B" fC s ∧ Ch b A s ∧ StaticIs s "java/lang/String" "COMPACT_STRINGS" "Z" (.int z) ∧ ¬ z = 0 ∧ 0 < A.slots.size ∧ A.slots.size ≤ 536870912 ∧ ∀ i, i < A.slots.size → ¬ 255 < cv A i
def E (a : Addr) (D : Cell) (fV fC : Field) (A : Cell) (r : Option Value) (s u : State) : Prop := Got a D fV fC A 0 A.slots.size r s u
/-- new String(chars), not empty, no char above 255: a Latin-1 String of their low bytes -/
theorem law (l : Launch) (a : Addr) (D : Cell) (fV fC : Field) (b : Addr) (A : Cell) (z : Int32) : Law l yN 2 1 3 52 yB 2 none site (P a D fV fC b A z) (E a D fV fC A) [⟨a, fC.slot⟩, ⟨a, fV.slot⟩] 1 A.slots.size := by
  refine Law.of_walk (plainFor_of_name (by decide +kernel)) (by decide +kernel) (by decide +kernel) (by decide) (fun _ _ h => by rw [h.1]; rfl) (fun _ U U' hal hh h => ⟨h.1, h.2.1.mv hal hh, h.2.2.1.al hal, h.2.2.2.1.al hal, h.2.2.2.2.1.mv hal hh, h.2.2.2.2.2.1.there hal hh, h.2.2.2.2.2.2⟩) (fun r U U' V V' h1 hal h2 h => Got.mv r U U' V V' h1 hal h2 h) ?_
  intro p e s m args below meth c s₁ X0 hexec hbytes hml hret hlk hnm hown hh0 W hP
  obtain ⟨rfl, hB, f1, f2, hA, s1, hz, l0, l2, hp⟩ := hP
  have c1 : Steps p.tables e below (s₁.setTop (entryFrame m #[.ref a, .ref b] 2)) (s₁.setTop (mkF m 0 #[.val (.ref a), .val (.ref b)] [])) := entry rfl
  have c2 : Steps p.tables e below (s₁.setTop (entryFrame m #[.ref a, .ref b] 2)) (s₁.setTop (mkF m 6 #[.val (.ref a), .val (.ref b)] [.null, .int (Int32.ofNat A.slots.size), .int 0, .ref b, .ref a])) := c1.trans (by
    refine XS.aloadN X0.here hexec rfl (hb hbytes d0) rfl rfl ?_
    refine XS.aloadN X0.here hexec rfl (hb hbytes d1) rfl rfl ?_
    refine iconstV X0.here hexec rfl 0 (hb hbytes d2) (by decide) ?_
    refine XS.aloadN X0.here hexec rfl (hb hbytes d3) rfl rfl ?_
    refine X0.alen hexec (hA.1.mv X0.warmed.alike hh0) rfl rfl (hb hbytes d4) ?_
    refine XS.aconstNull X0.here hexec rfl (hb hbytes d5) ?_
    exact Steps.refl _)
  obtain ⟨v3, T3, X3, E3, g3⟩ := X0.callN hexec (New4.law l a D fV fC b A z 0 A.slots.size) rfl hown (wks W (initW "java/lang/String" 27 New4.yN)) (W New4.tab (by simp only [site, List.mem_cons, List.mem_append, true_or, or_true])) (W := 0) (Nat.le_of_ble_eq_true rfl) (Nat.le_of_ble_eq_true rfl) (Nat.le_refl _) (by show 0 + A.slots.size ≤ A.slots.size; omega) (g := (mkF m 6 #[.val (.ref a), .val (.ref b)] [.null, .int (Int32.ofNat A.slots.size), .int (Int32.ofNat 0), .ref b, .ref a])) rfl (by rw [hml]; rfl) c2 (argsL := [.ref b, .int (Int32.ofNat 0), .int (Int32.ofNat A.slots.size), .null]) (rest := []) rfl rfl (by show 2 * 0 + 0 ≤ _; decide) (hb hbytes d6) (⟨rfl, hB.mv X0.warmed.alike hh0, f1.al X0.warmed.alike, f2.al X0.warmed.alike, hA.mv X0.warmed.alike hh0, s1.there X0.warmed.alike hh0, hz, l0, by omega, l2, fun i hi => by rw [Nat.zero_add]; exact hp i hi⟩)
  have e0 := Got.mv _ s₁ s _ _ hh0.symm (Vm.Alike.refl _) rfl E3
  obtain rfl := e0.1
  have c4 : Steps p.tables e below (s₁.setTop (entryFrame m #[.ref a, .ref b] 2)) (T3.setTop (mkF m 9 #[.val (.ref a), .val (.ref b)] [])) := g3
  exact ⟨T3, none, _, _, _, X3, by simp, rfl, by omega, (fun _ => rfl), e0, fun fs hl => c4.trans (X3.returnOut hexec hret (hb hbytes d9) hl)⟩
theorem pays {l : Launch} {R : Room} {p : Program} {e : Env} {below : List Frame} {s : State} {sargs : Array Value} {len W : Nat} (a : Addr) (D : Cell) (fV fC : Field) (b : Addr) (A : Cell) (z : Int32) (htab : tab.before sargs s = true) (hfr : 4 ≤ R.frames) (hlo : W + 65 ≤ R.locals) :
    Back l R p e below s sargs yN len W (fun A₁ a₁ => A₁.cells + 1 ≤ R.cells ∧ A₁.slots + A.slots.size ≤ R.slots ∧ P a D fV fC b A z a₁ A₁.U) (fun A₁ _ v₁ B₁ => E a D fV fC A v₁ A₁.U B₁.U ∧ B₁.locs = A₁.locs ++ [⟨a, fC.slot⟩, ⟨a, fV.slot⟩] ∧ B₁.cells = A₁.cells + 1 ∧ B₁.slots = A₁.slots + A.slots.size) :=
  (law l a D fV fC b A z).pays htab hfr (by omega)
end New1
end StrChars
namespace StrChars.Road
open Jvm Sem ClassFile Op Lib Jvm.Stand Jvm.Free Jvm.Free.XT
open Jvm.Lib.Cold (StaticIs)
abbrev ST : String := "java/lang/String"
/-- every table word that New1's law asks, flat -/
abbrev words : List Jvm.Cond := [.code New1.yN New1.yB 2 none, .initialized ST, .methodLink ST 27 New4.yN, .instanceMethod New4.yN,
  .code New4.yN New4.yB 6 none, .fieldLink ST 38 ST "COMPACT_STRINGS" "Z", .laysFinal ST ST "value" "[B", .fieldLink ST 9 ST "value" "[B", .laysFinal ST ST "coder" "B", .fieldLink ST 15 ST "coder" "B",
  .methodLink ST 1 Lib.objectInit, .instanceMethod Lib.objectInit, .code Lib.objectInit ⟨#[0xb1]⟩ 1 none, .methodLink ST 177 Cmp3.yN, .static Cmp3.yN, .methodLink ST 47 CodL.yN, .static CodL.yN,
  .code Cmp3.yN Cmp3.yB 6 (some (.array .byte)), .initialized U16, .arrayClass .byte, .methodLink U16 115 Cmp5.yN, .static Cmp5.yN, .code Cmp5.yN Cmp5.yB 7 (some .int), .code CodL.yN CodL.yB 2 (some .byte)]
theorem tab_of {a : Array Value} {s : State} (h : ∀ w ∈ words, w.before a s = true) : New1.tab.before a s = true := by
  have h5 : Cmp5.tab.before a s = true := unparts (wk h (.code Cmp5.yN Cmp5.yB 7 (some .int))) (wks h (.initialized Cmp5.yN.cls :: Cmp5.site))
  have hc : CodL.tab.before a s = true := unparts (wk h (.code CodL.yN CodL.yB 2 (some .byte))) (wks h (.initialized CodL.yN.cls :: CodL.site))
  have q5 : ∀ w ∈ Cmp5.tab :: words, w.before a s = true := fun w hw => (List.mem_cons.mp hw).elim (fun e => e ▸ h5) (h w)
  have h3 : Cmp3.tab.before a s = true := unparts (wk q5 (.code Cmp3.yN Cmp3.yB 6 (some (.array .byte)))) (wks q5 (.initialized Cmp3.yN.cls :: Cmp3.site))
  have q3 : ∀ w ∈ Cmp3.tab :: CodL.tab :: words, w.before a s = true := fun w hw => (List.mem_cons.mp hw).elim (fun e => e ▸ h3) fun hw => (List.mem_cons.mp hw).elim (fun e => e ▸ hc) (h w)
  have h4 : New4.tab.before a s = true := unparts (wk q3 (.code New4.yN New4.yB 6 none)) (wks q3 (.initialized New4.yN.cls :: New4.site))
  have q4 : ∀ w ∈ New4.tab :: words, w.before a s = true := fun w hw => (List.mem_cons.mp hw).elim (fun e => e ▸ h4) (h w)
  exact unparts (wk q4 (.code New1.yN New1.yB 2 none)) (wks q4 (.initialized New1.yN.cls :: New1.site))
/-- the words ride from the start Z to the walk's own state -/
theorem moved {Z s : State} {a0 args : Array Value} (hZ : Z.Warmed39 s.vm) (hw : ∀ d ∈ words, d.before a0 Z = true) : ∀ d ∈ words, d.before args s = true := fun d hd => by
  have q := hw d hd
  have t : ∀ d ∈ words, d = .arrayClass .byte ∨ (d.onTables && d.keepsFace) = true := by decide +kernel
  rcases t d hd with rfl | t
  · exact RoadKit.mvA hZ q
  · exact RoadKit.mv hZ q t
/-- WHAT COMES BACK, over the tables of the start Z: h the heap at the call, h' behind it -/
def Q (Z : State) (x : Addr) (A : Cell) (h : Heap) (v : Option Value) (h' : Heap) (L : List Loc) : Prop := v = none ∧ (∀ y ∈ L, y.base = x) ∧ RoadKit.Keep h h' [x] ∧ h'.size = h.size + 1 ∧ RoadKit.Exa Z h' x ST ∧ RoadKit.Fld Z h' x ST "value" "[B" (.ref h.size) ∧ RoadKit.Fld Z h' x ST "coder" "B" (.int 0) ∧
  (∃ V : Cell, RoadKit.Arr Z h' h.size V .byte ∧ V.vm = .none ∧ Z.vm.findClass "[B" = some V.cls ∧ V.slots.size = A.slots.size ∧ ∀ j, j < A.slots.size → V.slots[j]? = some (.int (lo8 (cv A j)))) ∧
  ∀ (O n d : String) (w : Value), RoadKit.Fld Z h x O n d w → RoadKit.slotOf Z O n d ≠ RoadKit.slotOf Z ST "value" "[B" → RoadKit.slotOf Z O n d ≠ RoadKit.slotOf Z ST "coder" "B" → RoadKit.Fld Z h' x O n d w
/-- **new String(chars) AT A CALL, IN THE ROAD'S FORM**: for specialBack behind newO: x the fresh String, b the char[] with the cell A -/
theorem back {p : Program} {l : Launch} {e : Env} {R : Room} {s : State} {args : Array Value} {below : List Frame} {len W : Nat} {Z : State} {a0 : Array Value} {h : Heap} (hZ : Z.Warmed39 s.vm) (hw : ∀ d ∈ words, d.before a0 Z = true) {kI : Nat} (wi : (Jvm.Cond.instantiable ST kI).before a0 Z = true)
    {x b : Addr} {A : Cell} {z : Int32} {v0 c0 : Value} (E : RoadKit.Exa Z h x ST) (V : RoadKit.Fld Z h x ST "value" "[B" v0) (C : RoadKit.Fld Z h x ST "coder" "B" c0) (K : RoadKit.Arr Z h b A .char) (hty : Typed .char A) (S : RoadKit.Sta Z h ST "COMPACT_STRINGS" "Z" (.int z)) (hz : ¬ z = 0)
    (l0 : 0 < A.slots.size) (l2 : A.slots.size ≤ 536870912) (hp : ∀ i, i < A.slots.size → ¬ 255 < cv A i) (hfr : 4 ≤ R.frames) (hlo : W + 65 ≤ R.locals) :
    Back l R p e below s args New1.yN len W (fun P a => a = #[.ref x, .ref b] ∧ P.U.heap = h ∧ P.cells + 1 ≤ R.cells ∧ P.slots + A.slots.size ≤ R.slots)
      (fun P _ v B => ∃ L, Q Z x A h v B.U.heap L ∧ B.locs = P.locs ++ L ∧ B.cells = P.cells + 1 ∧ B.slots = P.slots + A.slots.size) := by
  intro m meth c P g ig mk a X hg hsize hdg hW hn hp'
  obtain ⟨rfl, rfl, r1, r2⟩ := hp'
  have al : Z.vm.Alike P.U.vm := hZ.alike.trans X.warmed.alike
  obtain ⟨D, cfV, kV, iV, fV, hD, gV, stV, knV, obV, asV, slV⟩ := id V
  obtain ⟨D', cfC, kC, iC, fC, hD', gC, stC, -, -, asC, slC⟩ := id C
  cases hD.symm.trans hD'
  obtain ⟨D2, kD, e1, e2, e3, e4, e5⟩ := id E
  cases hD.symm.trans e1
  obtain ⟨c2, k2, i1, i2, i3, -⟩ := Cond.instantiable_spec wi
  cases e2.symm.trans i1
  cases e3.symm.trans i2
  obtain ⟨kU, u1, u2⟩ := al.2.2 _ _ e3
  have hB : Blank ST x D P.U := ⟨hD, ⟨knV, fun q hq => by rw [hq] at obV; cases obV⟩, by rw [al.findClass]; exact e2, kU, u1, by rw [u2]; exact i3, by rw [u2]; exact e5 i3⟩
  have F1 : Found ST "value" "[B" fV P.U := ⟨SBG.found_only al ⟨cfV, kV, iV, gV⟩, stV⟩
  have F2 : Found ST "coder" "B" fC P.U := ⟨SBG.found_only al ⟨cfC, kC, iC, gC⟩, stC⟩
  have hA : Ch b A P.U := ⟨⟨K.1, State.isArrayOf_alike al K.2.1, K.2.2, by omega⟩, hty⟩
  have hS : StaticIs P.U ST "COMPACT_STRINGS" "Z" (.int z) := by
    obtain ⟨cfS, iS, kS, fS, st, cS, t1, t2, t3, t4, t5, t6, t7⟩ := S
    exact StaticIs.there (s := { Z with heap := P.U.heap }) ⟨cfS, iS, kS, fS, st, cS, t1, t2, t3, t4, t5, (fun q => by rw [q] at t6; cases t6), t7⟩ al rfl
  obtain ⟨v, B, X', ⟨⟨hv, E', V', q1, q2, q3, q4, q5, q6, q7, q8, q9, q10, q11⟩, hl, hc, hs⟩, st⟩ := New1.pays x D fV fC b A z (tab_of (moved hZ hw)) hfr hlo m meth c P g ig mk _ X hg hsize hdg hW hn ⟨r1, r2, rfl, hB, F1, F2, hA, hS, hz, l0, l2, hp⟩
  have al' : Z.vm.Alike B.U.vm := hZ.alike.trans X'.warmed.alike
  have hsz : E'.slots.size = D.slots.size := by
    obtain ⟨-, -, -, kB, w1, w2, w3⟩ := q1
    obtain ⟨kB', y1, y2⟩ := al'.2.2 _ _ e3
    rw [q2.2.1] at w1
    cases w1.symm.trans y1
    rw [w3, e5 i3, y2]
  refine ⟨v, B, X', ⟨_, ⟨hv, ?_, ⟨by omega, fun y cy hy hn' => q10 y cy (by simpa using hn') hy, fun y cy hy => ?_⟩, q11, ⟨E', _, q1.1, by rw [q2.2.1]; exact e2, by rw [q2.2.1]; exact e3, by rw [q2.1]; exact obV, fun _ => by rw [hsz]; exact e5 i3⟩,
    ⟨E', cfV, kV, iV, fV, q1.1, gV, stV, by rw [q2.1]; exact knV, by rw [q2.1]; exact obV, by rw [q2.2.1]; exact asV, q3⟩, ⟨E', cfC, kC, iC, fC, q1.1, gC, stC, by rw [q2.1]; exact knV, by rw [q2.1]; exact obV, by rw [q2.2.1]; exact asC, q4⟩,
    ⟨V', ⟨q5.1, State.isArrayOf_alike al'.symm q5.2.1, q5.2.2.1⟩, q6, by rw [← al'.findClass]; exact q7, q8, fun j hj => by have := q9 j hj; rwa [Nat.zero_add] at this⟩, fun O n d w F n1 n2 => ?_⟩, hl, hc, hs⟩, st⟩
  · intro y hy
    simp only [List.mem_cons, List.not_mem_nil, or_false] at hy
    rcases hy with rfl | rfl <;> rfl
  · by_cases q : y = x
    · subst q
      cases hD.symm.trans hy
      exact ⟨E', q1.1, q2.2.1, q2.1, hsz⟩
    · exact ⟨cy, q10 y cy q hy, rfl, rfl, rfl⟩
  · obtain ⟨D3, cf, k, i, f, g1, g2, g3, g4, g5, g6, g7⟩ := F
    cases hD.symm.trans g1
    simp only [RoadKit.slotOf, g2, gV, gC, Option.map_some, Option.getD_some] at n1 n2
    exact ⟨E', cf, k, i, f, q1.1, g2, g3, by rw [q2.1]; exact g4, by rw [q2.1]; exact g5, by rw [q2.2.1]; exact g6, by rw [q2.2.2 f.slot (by simp [n1, n2])]; exact g7⟩
end StrChars.Road
namespace StrChars.Road
open Jvm Sem ClassFile Op Lib Jvm.Stand Jvm.Free Jvm.Free.XT
/-- WHAT COMES BACK, the byte[] as a list of values -/
def QA (Z : State) (x : Addr) (zn : Int32) (cs : List Int32) (h : Heap) (v : Option Value) (h' : Heap) (L : List Loc) : Prop := v = none ∧ (∀ y ∈ L, y.base = x) ∧ RoadKit.Keep h h' [x] ∧ h'.size = h.size + 1 ∧ RoadKit.Exa Z h' x ST ∧ RoadKit.Fld Z h' x ST "value" "[B" (.ref h.size) ∧ RoadKit.Fld Z h' x ST "coder" "B" (.int 0) ∧
  (∃ kb, Z.vm.findClass "[B" = some kb ∧ RoadKit.Arv Z h' h.size kb .byte zn (cs.map fun c => .int (lo8 c)) (.int 0)) ∧
  ∀ (O n d : String) (w : Value), RoadKit.Fld Z h x O n d w → RoadKit.slotOf Z O n d ≠ RoadKit.slotOf Z ST "value" "[B" → RoadKit.slotOf Z O n d ≠ RoadKit.slotOf Z ST "coder" "B" → RoadKit.Fld Z h' x O n d w
/-- **new String(chars) AT A CALL, THE ARRAYS AS LISTS**: the char[] at b holds cs, not empty, no char above 255 -/
theorem backArv {p : Program} {l : Launch} {e : Env} {R : Room} {s : State} {args : Array Value} {below : List Frame} {len W : Nat} {Z : State} {a0 : Array Value} {h : Heap} (hZ : Z.Warmed39 s.vm) (hw : ∀ d ∈ words, d.before a0 Z = true) {kI : Nat} (wi : (Jvm.Cond.instantiable ST kI).before a0 Z = true)
    {x b : Addr} {k : ClassId} {zn z : Int32} {cs : List Int32} {dv v0 c0 : Value} (E : RoadKit.Exa Z h x ST) (V : RoadKit.Fld Z h x ST "value" "[B" v0) (C : RoadKit.Fld Z h x ST "coder" "B" c0) (K : RoadKit.Arv Z h b k .char zn (cs.map Value.int) dv) (S : RoadKit.Sta Z h ST "COMPACT_STRINGS" "Z" (.int z)) (hz : ¬ z = 0)
    (hlen : zn.toNatClampNeg = cs.length) (h0 : 0 < cs.length) (hbig : cs.length ≤ 536870912) (hall : ∀ c ∈ cs, ¬ 255 < c) (hfr : 4 ≤ R.frames) (hlo : W + 65 ≤ R.locals) :
    Back l R p e below s args New1.yN len W (fun P a => a = #[.ref x, .ref b] ∧ P.U.heap = h ∧ P.cells + 1 ≤ R.cells ∧ P.slots + cs.length ≤ R.slots)
      (fun P _ v B => ∃ L, QA Z x zn cs h v B.U.heap L ∧ B.locs = P.locs ++ L ∧ B.cells = P.cells + 1 ∧ B.slots = P.slots + cs.length) := by
  obtain ⟨A, K1, K2, K3, K4, K5, K6⟩ := K
  have e : A.slots.size = cs.length := K3.trans hlen
  have hat : ∀ (i : Nat) (hi : i < cs.length), A.slots[i]? = some (.int cs[i]) := fun i hi => by rw [K5 i (by omega)]; simp [List.getD_eq_getElem?_getD, hi]
  have hcv : ∀ (i : Nat) (hi : i < cs.length), cv A i = cs[i] := fun i hi => by unfold cv; rw [hat i hi]
  have hty : Typed .char A := fun i v hv => by
    have hi : i < A.slots.size := (Array.getElem?_eq_some_iff.mp hv).1
    have q := K5 i hi
    rw [hv] at q
    rw [Option.some.inj q]
    exact K6 i hi
  refine Back.mono (back hZ hw wi E V C K1 hty S hz (by omega) (by omega) (fun i hi => by rw [hcv i (by omega)]; exact hall _ (List.getElem_mem _)) hfr hlo) (fun P a hp => ⟨hp.1, hp.2.1, hp.2.2.1, by rw [e]; exact hp.2.2.2⟩) (fun P a v B hp hq => ?_)
  obtain ⟨L, ⟨q1, q2, q3, q4, q5, q6, q7, ⟨V', v1, v2, v3, v4, v5⟩, q9⟩, hl, hc, hs⟩ := hq
  refine ⟨L, ⟨q1, q2, q3, q4, q5, q6, q7, ⟨V'.cls, v3, V', v1, rfl, by rw [v4, e, hlen], K4, fun i hi => ?_, fun i hi => ?_⟩, q9⟩, hl, hc, by rw [hs, e]⟩
  · have hi' : i < cs.length := by omega
    rw [v5 i (by omega), hcv i hi']; simp [List.getD_eq_getElem?_getD, hi']
  · have hi' : i < cs.length := by omega
    simp only [List.getD_eq_getElem?_getD, List.getElem?_map, List.getElem?_eq_getElem hi', Option.map_some, Option.getD_some]
    exact fits_lo8 _
end StrChars.Road
namespace StrChars.Road
open Jvm Sem ClassFile Op Lib Jvm.Stand Jvm.Free Jvm.Free.XT
/-- WHAT COMES BACK, in the writer's own shape -/
def QV (Z : State) (x : Addr) (N : Int32) (bs : List Int32) (h : Heap) (n0 : Nat) (v : Option Value) (h' : Heap) (L : List Loc) : Prop := v = none ∧ RoadKit.Fr n0 L ∧ RoadKit.Keep h h' [x] ∧ RoadKit.Exa Z h' x ST ∧ RoadKit.Fld Z h' x ST "coder" "B" (.int 0) ∧
  ∃ (t : Addr) (kb : ClassId), n0 ≤ t ∧ h.size ≤ t ∧ ¬ t = x ∧ RoadKit.Fld Z h' x ST "value" "[B" (.ref t) ∧ RoadKit.Arv Z h' t kb .byte N (bs.map Value.int) (.int 0)
/-- **new String(chars) AT A CALL, FOR THE WRITER**: a char[] of n known ints, each 0 to 255 -/
theorem backV {p : Program} {l : Launch} {e : Env} {R : Room} {s : State} {args : Array Value} {below : List Frame} {len W : Nat} {Z : State} {a0 : Array Value} {h : Heap} (hZ : Z.Warmed39 s.vm) (hw : ∀ d ∈ words, d.before a0 Z = true) {kI : Nat} (wi : (Jvm.Cond.instantiable ST kI).before a0 Z = true)
    {x b : Addr} {kC : ClassId} {cs bs : List Int32} {d v0 c0 : Value} {z N : Int32} {n n0 : Nat} (hx0 : n0 ≤ x) (hh0 : n0 ≤ h.size) (E : RoadKit.Exa Z h x ST) (V : RoadKit.Fld Z h x ST "value" "[B" v0) (C : RoadKit.Fld Z h x ST "coder" "B" c0) (K : RoadKit.Arv Z h b kC .char N (cs.map Value.int) d) (S : RoadKit.Sta Z h ST "COMPACT_STRINGS" "Z" (.int z)) (hz : ¬ z = 0)
    (hn : cs.length = n) (hN : N = Int32.ofNat n) (l0 : 0 < n) (l2 : n ≤ 4000) (hp : ∀ c ∈ cs, ¬ c < 0 ∧ ¬ (255 : Int32) < c) (hb : bs = cs.map (fun c => c.toInt8.toInt32)) (hfr : 4 ≤ R.frames) (hlo : W + 65 ≤ R.locals) :
    Back l R p e below s args (⟨"java/lang/String", "<init>", "([C)V"⟩ : MethodName) len W (fun P a => a = #[.ref x, .ref b] ∧ P.U.heap = h ∧ P.cells + 1 ≤ R.cells ∧ P.slots + n ≤ R.slots)
      (fun P _ v B => ∃ L, QV Z x N bs h n0 v B.U.heap L ∧ B.locs = P.locs ++ L ∧ B.cells = P.cells + 1 ∧ B.slots = P.slots + n) := by
  subst hn hN hb
  refine Back.mono (backArv hZ hw wi E V C K S hz (n32 (by omega)) l0 (by omega) (fun c hc => (hp c hc).2) hfr hlo) (fun P a hp => hp) (fun P a v B hp hq => ?_)
  obtain ⟨L, ⟨q1, q2, q3, q4, q5, q6, q7, ⟨kb, v1, v2⟩, q9⟩, hl, hc, hs⟩ := hq
  exact ⟨L, ⟨q1, fun y hy => by rw [q2 y hy]; exact hx0, q3, q5, q7, h.size, kb, hh0, Nat.le_refl _, Nat.ne_of_gt E.lt, q6, by rw [List.map_map]; exact v2⟩, hl, hc, hs⟩
end StrChars.Road
end Jvm.Pilot.@@N@@

namespace Jvm.Pilot.@@N@@.Own
open Jvm Jvm.ClassFile Sem Op Lib Jvm.Free Jvm.Stand Jvm.LawKit Jvm.RoadKit Bundle
section S
variable {b : Bool} {p : Program} {l : Launch} {e : Env} {R : Room} {s : State} {m : MethodId} {args : Array Value} {below : List Frame} {meth : Method} {c : Code} {Z : State} {EL : List (String × Nat)} {own : String}
  {Q : Option Value → Heap → List Loc → List Addr → Prop} {SL : List Addr} {h : Heap} {locs : List Loc} {cells slots : Nat} {bytes : ByteArray} {mx : Nat} {ret : Option FieldType} {nm : String} {a0 : Array Value}
theorem Old.le {n0 : Nat} (X : Old Z n0 h) : n0 ≤ h.size := X.1 ▸ X.2.1
theorem Old.base {n0 : Nat} (X : Old Z n0 h) : n0 = Z.heap.size := X.1.symm
theorem strD : parseMethodDescriptor "([C)V" = some ⟨[.array .char], none⟩ := by decide +kernel
/-- new String(char[]) behind 'new', 'dup', 'aload': 1 to 4,000 chars, each 0 to 255 -/
theorem Go.strInit (K : Kx p c meth bytes mx ret nm) {pc pc' index : Nat} {Ls : Array Slot} {S : List Value} (w1 : (Jvm.Cond.methodLink own index ⟨"java/lang/String", "<init>", "([C)V"⟩).before a0 Z = true) (w2 : (Jvm.Cond.instanceMethod ⟨"java/lang/String", "<init>", "([C)V"⟩).before a0 Z = true)
    (hws : ∀ d ∈ StrChars.Road.words, d.before a0 Z = true) {kI : Nat} (wi : (Jvm.Cond.instantiable "java/lang/String" kI).before a0 Z = true) {x bA : Addr} {kC : ClassId} {cs : List Int32} {dv v0 c0 : Value} {z N : Int32} {n n0 : Nat} (X : Old Z n0 h) (hx0 : n0 ≤ x)
    (E : Exa Z h x "java/lang/String") (V : Fld Z h x "java/lang/String" "value" "[B" v0) (C : Fld Z h x "java/lang/String" "coder" "B" c0) (A : Arv Z h bA kC .char N (cs.map Value.int) dv) (St : Sta Z Z.heap "java/lang/String" "COMPACT_STRINGS" "Z" (.int z)) (hz : ¬ z = 0)
    (hn : cs.length = n) (hN : N = Int32.ofNat n) (l0 : 0 < n) (l2 : n ≤ 4000) (hp : ∀ c ∈ cs, ¬ c < 0 ∧ ¬ (255 : Int32) < c) (hs : x ∈ SL) (d : Dec bytes pc (.invokespecial index) 3 pc') (hsz : Ls.size = mx) (hf : 4 ≤ R.frames) (hl : (S.map fun v => v.category).sum + 65 ≤ R.locals) (hcl : cells + 1 ≤ R.cells) (hsl : slots + n ≤ R.slots)
    (r : ∀ (h' : Heap) (L : List Loc) (t : Addr) (kb : ClassId), Fr n0 L → Keep h h' [x] → Old Z n0 h' → Exa Z h' x "java/lang/String" → Fld Z h' x "java/lang/String" "coder" "B" (.int 0) → n0 ≤ t → h.size ≤ t → Fld Z h' x "java/lang/String" "value" "[B" (.ref t) → Arv Z h' t kb .byte N ((cs.map (fun c => c.toInt8.toInt32)).map Value.int) (.int 0) →
      Go b p l e R s m args below meth c Z EL own Q SL (mkF m pc' Ls S) h' (locs ++ L) (cells + 1) (slots + n)) :
    Go b p l e R s m args below meth c Z EL own Q SL (mkF m pc Ls (.ref bA :: .ref x :: S)) h locs cells slots := by
  obtain ⟨d1, rfl⟩ := d
  refine Go.callB (as' := #[.ref x, .ref bA]) (y := ⟨"java/lang/String", "<init>", "([C)V"⟩) (kc := 1) (ks := n) (W := (S.map fun v => v.category).sum) (Qc := fun v h' L => StrChars.Road.QV Z x N (cs.map (fun c => c.toInt8.toInt32)) h n0 v h' L) (ws := [x]) K
    (Inv.special (argsL := [.ref bA]) (bytesY := StrChars.New1.yB) (maxL := 2) K.1 rfl w1 w2 (hws _ (List.mem_cons_self ..)) (by decide) (lenOf strD rfl) (hb K.2.1 d1))
    (fun s' hZ => StrChars.Road.backV hZ hws wi hx0 (Old.le X) E V C A (St.ext X.2) hz hn hN l0 l2 hp rfl hf hl) d1 hsz (Nat.le_refl _) hcl hsl (fun v h' L q => q.2.2.1) (fun y q => by cases List.mem_singleton.mp q; exact Sf.mem hs) ?_
  rintro v h' L ⟨rfl, q2, q3, q4, q5, t, kb, q6, q7, q8, q9, q10⟩
  exact r h' L t kb q2 q3 (X.keep q3 fun y q => by cases List.mem_singleton.mp q; exact hx0) q4 q5 q6 q7 q9 q10
end S
end Jvm.Pilot.@@N@@.Own
namespace Jvm.Pilot.@@N@@.Own
open Jvm Jvm.ClassFile Sem Op Lib Jvm.Free Jvm.Stand Jvm.LawKit Jvm.RoadKit Bundle
theorem pad_rep' (n : Nat) {dv : Value} : ∀ i, (List.replicate n dv).getD i dv = ([] : List Value).getD i dv := fun i => by
  have q := pad_rep [] dv n i
  simpa using q
theorem Fr.s {k : Nat} {L : List Loc} {a : Addr} {i : Nat} (N : Fr k L) (q : k ≤ a) : Fr k (L ++ [⟨a, i⟩]) := N.app fun y hy => by cases List.mem_singleton.mp hy; exact q
theorem nar_c8 (t : Int32) : nar .char ((Int32.toUInt32 (t &&& 255)).toUInt16.toUInt32.toInt32) = t &&& 255 := by simp only [nar, i2c_mask]
theorem c8 (t : Int32) : (Int32.toUInt32 (t &&& 255)).toUInt16.toUInt32.toInt32 = t &&& 255 := i2c_mask t
theorem and255 (x : Int32) : ¬ (x &&& 255) < 0 ∧ ¬ (255 : Int32) < (x &&& 255) := by
  have h := c_and x 255 (by decide)
  have e : (255 : Int32).toInt = 255 := by decide
  have e0 : (0 : Int32).toInt = 0 := by decide
  rw [Int32.lt_iff_toInt_lt, Int32.lt_iff_toInt_lt]
  omega
theorem Keep.nil_trans {h0 h h' : Heap} (K : Keep h0 h []) (K' : Keep h h' []) : Keep h0 h' [] := K.trans K' fun _ q => nomatch q
theorem Keep.of_ext {h h' : Heap} (E : Ext h h') : Keep h h' [] := (Keep.refl h []).ext E
section S2
variable {b : Bool} {p : Program} {l : Launch} {e : Env} {R : Room} {s : State} {m : MethodId} {args : Array Value} {below : List Frame} {meth : Method} {c : Code} {Z : State} {EL : List (String × Nat)} {own : String}
  {Q : Option Value → Heap → List Loc → List Addr → Prop} {SL : List Addr} {h : Heap} {locs : List Loc} {cells slots : Nat} {bytes : ByteArray} {mx : Nat} {ret : Option FieldType} {nm : String} {a0 : Array Value}
theorem Go.alen (K : Kx p c meth bytes mx ret nm) {pc pc' : Nat} {Ls : Array Slot} {S : List Value} {a : Addr} {k : ClassId} {ty : FieldType} {z : Int32} {vs : List Value} {dv : Value} (A : Arv Z h a k ty z vs dv) (d : Dec bytes pc .arraylength 1 pc') (r : Go b p l e R s m args below meth c Z EL own Q SL (mkF m pc' Ls (.int z :: S)) h locs cells slots) :
    Go b p l e R s m args below meth c Z EL own Q SL (mkF m pc Ls (.ref a :: S)) h locs cells slots := by
  obtain ⟨d1, rfl⟩ := d
  obtain ⟨cl, A1, A2, A3, A4, A5, A6⟩ := A
  have hz := len_of A3 A4
  refine Go.step (fun T vm0 X eT hZ ho t k => X.arraylength K.1 (by rw [eT]; exact A1.1) (State.isArrayOf_alike hZ.alike A1.2.1) (g := mkF m pc Ls (.ref a :: S)) rfl rfl (hb K.2.1 d1) t ?_) r
  rw [hz]; exact k
end S2
end Jvm.Pilot.@@N@@.Own
namespace Jvm.Pilot.@@N@@
open Jvm Jvm.ClassFile Sem Op Lib Jvm.Free Jvm.Stand Jvm.LawKit Jvm.RoadKit Bundle Jvm.Pilot.@@N@@.Jvm.D Jvm.Pilot.@@N@@.Own
theorem pn_1 : plainName "java/lang/StringLatin1" = true := by first | (simp [plainName, overriddenIn]; done) | decide +kernel
theorem pn_2 : plainName "java/lang/String" = true := by first | (simp [plainName, overriddenIn]; done) | decide +kernel
theorem pn_3 : plainName "com/example/baklog/baklog/JobRequestOfPinLaw" = true := by first | (simp [plainName, overriddenIn]; done) | decide +kernel
theorem pn_4 : plainName "com/example/baklog/baklog/JobRequest" = true := by first | (simp [plainName, overriddenIn]; done) | decide +kernel
theorem pd_1 : parseMethodDescriptor "(C)Z" = some ⟨[.char], some (.boolean)⟩ := by decide +kernel
theorem pd_2 : parseMethodDescriptor "(C)[B" = some ⟨[.char], some (.array (.byte))⟩ := by decide +kernel
theorem pd_3 : parseMethodDescriptor "([BB)V" = some ⟨[.array (.byte), .byte], none⟩ := by decide +kernel
theorem pd_4 : parseMethodDescriptor "([CIILjava/lang/Void;)V" = some ⟨[.array (.char), .int, .int, .object "java/lang/Void"], none⟩ := by decide +kernel
theorem pd_5 : parseMethodDescriptor "(C)Ljava/lang/String;" = some ⟨[.char], some (.object "java/lang/String")⟩ := by decide +kernel
theorem pd_6 : parseMethodDescriptor "([C)V" = some ⟨[.array (.char)], none⟩ := by decide +kernel
theorem pd_7 : parseMethodDescriptor "(Ljava/lang/String;Ljava/lang/String;ILjava/time/Duration;Lcom/example/baklog/baklog/Priority;Ljava/time/Instant;)V" = some ⟨[.object "java/lang/String", .object "java/lang/String", .int, .object "java/time/Duration", .object "com/example/baklog/baklog/Priority", .object "java/time/Instant"], none⟩ := by decide +kernel
theorem pd_8 : parseMethodDescriptor "(II)Ljava/lang/String;" = some ⟨[.int, .int], some (.object "java/lang/String")⟩ := by decide +kernel
theorem pd_9 : parseMethodDescriptor "(Ljava/lang/String;Ljava/lang/String;)Lcom/example/baklog/baklog/JobRequest;" = some ⟨[.object "java/lang/String", .object "java/lang/String"], some (.object "com/example/baklog/baklog/JobRequest")⟩ := by decide +kernel
theorem pd_10 : parseMethodDescriptor "()Ljava/lang/String;" = some ⟨[], some (.object "java/lang/String")⟩ := by decide +kernel
theorem pd_11 : parseMethodDescriptor "()I" = some ⟨[], some (.int)⟩ := by decide +kernel
theorem pd_12 : parseMethodDescriptor "()Lcom/example/baklog/baklog/Priority;" = some ⟨[], some (.object "com/example/baklog/baklog/Priority")⟩ := by decide +kernel
theorem pd_13 : parseMethodDescriptor "()Ljava/time/Duration;" = some ⟨[], some (.object "java/time/Duration")⟩ := by decide +kernel
theorem can_0 : Dec jdk_43_method_3_code 0 (.iload_n 0) 1 1 := ⟨by decide +kernel, rfl⟩
theorem can_1 : Dec jdk_43_method_3_code 1 (.sipush 255) 3 4 := ⟨by decide +kernel, rfl⟩
theorem can_4 : Dec jdk_43_method_3_code 4 (.if_icmp .gt (((11 : Nat) : Int) - ((4 : Nat) : Int))) 3 7 := ⟨by decide +kernel, rfl⟩
theorem can_7 : Dec jdk_43_method_3_code 7 (.iconst 1) 1 8 := ⟨by decide +kernel, rfl⟩
theorem can_8 : Dec jdk_43_method_3_code 8 (.goto (((12 : Nat) : Int) - ((8 : Nat) : Int))) 3 11 := ⟨by decide +kernel, rfl⟩
theorem can_12 : Dec jdk_43_method_3_code 12 (.ireturn) 1 13 := ⟨by decide +kernel, rfl⟩
theorem tob_0 : Dec jdk_43_method_46_code 0 (.iconst 1) 1 1 := ⟨by decide +kernel, rfl⟩
theorem tob_1 : Dec jdk_43_method_46_code 1 (.newarray .byte) 2 3 := ⟨by decide +kernel, rfl⟩
theorem tob_3 : Dec jdk_43_method_46_code 3 (.dup) 1 4 := ⟨by decide +kernel, rfl⟩
theorem tob_4 : Dec jdk_43_method_46_code 4 (.iconst 0) 1 5 := ⟨by decide +kernel, rfl⟩
theorem tob_5 : Dec jdk_43_method_46_code 5 (.iload_n 0) 1 6 := ⟨by decide +kernel, rfl⟩
theorem tob_6 : Dec jdk_43_method_46_code 6 (.i2b) 1 7 := ⟨by decide +kernel, rfl⟩
theorem tob_7 : Dec jdk_43_method_46_code 7 (.bastore) 1 8 := ⟨by decide +kernel, rfl⟩
theorem tob_8 : Dec jdk_43_method_46_code 8 (.areturn) 1 9 := ⟨by decide +kernel, rfl⟩
theorem ibb_0 : Dec jdk_42_method_151_code 0 (.aload_n 0) 1 1 := ⟨by decide +kernel, rfl⟩
theorem ibb_1 : Dec jdk_42_method_151_code 1 (.invokespecial 1) 3 4 := ⟨by decide +kernel, rfl⟩
theorem ibb_4 : Dec jdk_42_method_151_code 4 (.aload_n 0) 1 5 := ⟨by decide +kernel, rfl⟩
theorem ibb_5 : Dec jdk_42_method_151_code 5 (.aload_n 1) 1 6 := ⟨by decide +kernel, rfl⟩
theorem ibb_6 : Dec jdk_42_method_151_code 6 (.putfield 9) 3 9 := ⟨by decide +kernel, rfl⟩
theorem ibb_9 : Dec jdk_42_method_151_code 9 (.aload_n 0) 1 10 := ⟨by decide +kernel, rfl⟩
theorem ibb_10 : Dec jdk_42_method_151_code 10 (.iload_n 2) 1 11 := ⟨by decide +kernel, rfl⟩
theorem ibb_11 : Dec jdk_42_method_151_code 11 (.putfield 15) 3 14 := ⟨by decide +kernel, rfl⟩
theorem ibb_14 : Dec jdk_42_method_151_code 14 (.return_) 1 15 := ⟨by decide +kernel, rfl⟩
theorem vof_0 : Dec jdk_42_method_139_code 0 (.getstatic 38) 3 3 := ⟨by decide +kernel, rfl⟩
theorem vof_3 : Dec jdk_42_method_139_code 3 (.ifCond .eq (((26 : Nat) : Int) - ((3 : Nat) : Int))) 3 6 := ⟨by decide +kernel, rfl⟩
theorem vof_6 : Dec jdk_42_method_139_code 6 (.iload_n 0) 1 7 := ⟨by decide +kernel, rfl⟩
theorem vof_7 : Dec jdk_42_method_139_code 7 (.invokestatic 1015) 3 10 := ⟨by decide +kernel, rfl⟩
theorem vof_10 : Dec jdk_42_method_139_code 10 (.ifCond .eq (((26 : Nat) : Int) - ((10 : Nat) : Int))) 3 13 := ⟨by decide +kernel, rfl⟩
theorem vof_13 : Dec jdk_42_method_139_code 13 (.new 10) 3 16 := ⟨by decide +kernel, rfl⟩
theorem vof_16 : Dec jdk_42_method_139_code 16 (.dup) 1 17 := ⟨by decide +kernel, rfl⟩
theorem vof_17 : Dec jdk_42_method_139_code 17 (.iload_n 0) 1 18 := ⟨by decide +kernel, rfl⟩
theorem vof_18 : Dec jdk_42_method_139_code 18 (.invokestatic 1018) 3 21 := ⟨by decide +kernel, rfl⟩
theorem vof_21 : Dec jdk_42_method_139_code 21 (.iconst 0) 1 22 := ⟨by decide +kernel, rfl⟩
theorem vof_22 : Dec jdk_42_method_139_code 22 (.invokespecial 209) 3 25 := ⟨by decide +kernel, rfl⟩
theorem vof_25 : Dec jdk_42_method_139_code 25 (.areturn) 1 26 := ⟨by decide +kernel, rfl⟩
theorem ne4_0 : Dec jdk_42_method_149_code 0 (.aload_n 0) 1 1 := ⟨by decide +kernel, rfl⟩
theorem ne4_1 : Dec jdk_42_method_149_code 1 (.invokespecial 1) 3 4 := ⟨by decide +kernel, rfl⟩
theorem ne4_4 : Dec jdk_42_method_149_code 4 (.iload_n 3) 1 5 := ⟨by decide +kernel, rfl⟩
theorem ne4_5 : Dec jdk_42_method_149_code 5 (.ifCond .ne (((27 : Nat) : Int) - ((5 : Nat) : Int))) 3 8 := ⟨by decide +kernel, rfl⟩
theorem ne4_8 : Dec jdk_42_method_149_code 8 (.aload_n 0) 1 9 := ⟨by decide +kernel, rfl⟩
theorem ne4_9 : Dec jdk_42_method_149_code 9 (.ldc 7) 2 11 := ⟨by decide +kernel, rfl⟩
theorem ne4_11 : Dec jdk_42_method_149_code 11 (.getfield 9) 3 14 := ⟨by decide +kernel, rfl⟩
theorem ne4_14 : Dec jdk_42_method_149_code 14 (.putfield 9) 3 17 := ⟨by decide +kernel, rfl⟩
theorem ne4_17 : Dec jdk_42_method_149_code 17 (.aload_n 0) 1 18 := ⟨by decide +kernel, rfl⟩
theorem ne4_18 : Dec jdk_42_method_149_code 18 (.ldc 7) 2 20 := ⟨by decide +kernel, rfl⟩
theorem ne4_20 : Dec jdk_42_method_149_code 20 (.getfield 15) 3 23 := ⟨by decide +kernel, rfl⟩
theorem ne4_23 : Dec jdk_42_method_149_code 23 (.putfield 15) 3 26 := ⟨by decide +kernel, rfl⟩
theorem ne4_26 : Dec jdk_42_method_149_code 26 (.return_) 1 27 := ⟨by decide +kernel, rfl⟩
theorem ne1_0 : Dec jdk_42_method_3_code 0 (.aload_n 0) 1 1 := ⟨by decide +kernel, rfl⟩
theorem ne1_1 : Dec jdk_42_method_3_code 1 (.aload_n 1) 1 2 := ⟨by decide +kernel, rfl⟩
theorem ne1_2 : Dec jdk_42_method_3_code 2 (.iconst 0) 1 3 := ⟨by decide +kernel, rfl⟩
theorem ne1_3 : Dec jdk_42_method_3_code 3 (.aload_n 1) 1 4 := ⟨by decide +kernel, rfl⟩
theorem ne1_4 : Dec jdk_42_method_3_code 4 (.arraylength) 1 5 := ⟨by decide +kernel, rfl⟩
theorem ne1_5 : Dec jdk_42_method_3_code 5 (.aconst_null) 1 6 := ⟨by decide +kernel, rfl⟩
theorem ne1_6 : Dec jdk_42_method_3_code 6 (.invokespecial 27) 3 9 := ⟨by decide +kernel, rfl⟩
theorem ne1_9 : Dec jdk_42_method_3_code 9 (.return_) 1 10 := ⟨by decide +kernel, rfl⟩
theorem dr_0 : Dec method_2_code 0 (.iload_n 0) 1 1 := ⟨by decide +kernel, rfl⟩
theorem dr_1 : Dec method_2_code 1 (.iconst 4) 1 2 := ⟨by decide +kernel, rfl⟩
theorem dr_2 : Dec method_2_code 2 (.iand) 1 3 := ⟨by decide +kernel, rfl⟩
theorem dr_3 : Dec method_2_code 3 (.ifCond .eq (((8 : Nat) : Int) - ((3 : Nat) : Int))) 3 6 := ⟨by decide +kernel, rfl⟩
theorem dr_6 : Dec method_2_code 6 (.aconst_null) 1 7 := ⟨by decide +kernel, rfl⟩
theorem dr_7 : Dec method_2_code 7 (.areturn) 1 8 := ⟨by decide +kernel, rfl⟩
theorem dr_8 : Dec method_2_code 8 (.iload_n 0) 1 9 := ⟨by decide +kernel, rfl⟩
theorem dr_9 : Dec method_2_code 9 (.iconst 3) 1 10 := ⟨by decide +kernel, rfl⟩
theorem dr_10 : Dec method_2_code 10 (.iand) 1 11 := ⟨by decide +kernel, rfl⟩
theorem dr_11 : Dec method_2_code 11 (.istore_n 2) 1 12 := ⟨by decide +kernel, rfl⟩
theorem dr_12 : Dec method_2_code 12 (.iload_n 1) 1 13 := ⟨by decide +kernel, rfl⟩
theorem dr_13 : Dec method_2_code 13 (.sipush 255) 3 16 := ⟨by decide +kernel, rfl⟩
theorem dr_16 : Dec method_2_code 16 (.iand) 1 17 := ⟨by decide +kernel, rfl⟩
theorem dr_17 : Dec method_2_code 17 (.i2c) 1 18 := ⟨by decide +kernel, rfl⟩
theorem dr_18 : Dec method_2_code 18 (.istore_n 3) 1 19 := ⟨by decide +kernel, rfl⟩
theorem dr_19 : Dec method_2_code 19 (.iload_n 1) 1 20 := ⟨by decide +kernel, rfl⟩
theorem dr_20 : Dec method_2_code 20 (.bipush 8) 2 22 := ⟨by decide +kernel, rfl⟩
theorem dr_22 : Dec method_2_code 22 (.iushr) 1 23 := ⟨by decide +kernel, rfl⟩
theorem dr_23 : Dec method_2_code 23 (.sipush 255) 3 26 := ⟨by decide +kernel, rfl⟩
theorem dr_26 : Dec method_2_code 26 (.iand) 1 27 := ⟨by decide +kernel, rfl⟩
theorem dr_27 : Dec method_2_code 27 (.i2c) 1 28 := ⟨by decide +kernel, rfl⟩
theorem dr_28 : Dec method_2_code 28 (.istore 4) 2 30 := ⟨by decide +kernel, rfl⟩
theorem dr_30 : Dec method_2_code 30 (.iload_n 1) 1 31 := ⟨by decide +kernel, rfl⟩
theorem dr_31 : Dec method_2_code 31 (.bipush 16) 2 33 := ⟨by decide +kernel, rfl⟩
theorem dr_33 : Dec method_2_code 33 (.iushr) 1 34 := ⟨by decide +kernel, rfl⟩
theorem dr_34 : Dec method_2_code 34 (.sipush 255) 3 37 := ⟨by decide +kernel, rfl⟩
theorem dr_37 : Dec method_2_code 37 (.iand) 1 38 := ⟨by decide +kernel, rfl⟩
theorem dr_38 : Dec method_2_code 38 (.i2c) 1 39 := ⟨by decide +kernel, rfl⟩
theorem dr_39 : Dec method_2_code 39 (.istore 5) 2 41 := ⟨by decide +kernel, rfl⟩
theorem dr_41 : Dec method_2_code 41 (.iload_n 2) 1 42 := ⟨by decide +kernel, rfl⟩
theorem dr_42 : Dec method_2_code 42 (.ifCond .ne (((56 : Nat) : Int) - ((42 : Nat) : Int))) 3 45 := ⟨by decide +kernel, rfl⟩
theorem dr_45 : Dec method_2_code 45 (.new 7) 3 48 := ⟨by decide +kernel, rfl⟩
theorem dr_48 : Dec method_2_code 48 (.dup) 1 49 := ⟨by decide +kernel, rfl⟩
theorem dr_49 : Dec method_2_code 49 (.iconst 0) 1 50 := ⟨by decide +kernel, rfl⟩
theorem dr_50 : Dec method_2_code 50 (.newarray .char) 2 52 := ⟨by decide +kernel, rfl⟩
theorem dr_52 : Dec method_2_code 52 (.invokespecial 9) 3 55 := ⟨by decide +kernel, rfl⟩
theorem dr_55 : Dec method_2_code 55 (.areturn) 1 56 := ⟨by decide +kernel, rfl⟩
theorem dr_56 : Dec method_2_code 56 (.iload_n 2) 1 57 := ⟨by decide +kernel, rfl⟩
theorem dr_57 : Dec method_2_code 57 (.iconst 1) 1 58 := ⟨by decide +kernel, rfl⟩
theorem dr_58 : Dec method_2_code 58 (.if_icmp .ne (((66 : Nat) : Int) - ((58 : Nat) : Int))) 3 61 := ⟨by decide +kernel, rfl⟩
theorem dr_61 : Dec method_2_code 61 (.iload_n 3) 1 62 := ⟨by decide +kernel, rfl⟩
theorem dr_62 : Dec method_2_code 62 (.invokestatic 12) 3 65 := ⟨by decide +kernel, rfl⟩
theorem dr_65 : Dec method_2_code 65 (.areturn) 1 66 := ⟨by decide +kernel, rfl⟩
theorem dr_66 : Dec method_2_code 66 (.iload_n 2) 1 67 := ⟨by decide +kernel, rfl⟩
theorem dr_67 : Dec method_2_code 67 (.iconst 2) 1 68 := ⟨by decide +kernel, rfl⟩
theorem dr_68 : Dec method_2_code 68 (.if_icmp .ne (((97 : Nat) : Int) - ((68 : Nat) : Int))) 3 71 := ⟨by decide +kernel, rfl⟩
theorem dr_71 : Dec method_2_code 71 (.iconst 2) 1 72 := ⟨by decide +kernel, rfl⟩
theorem dr_72 : Dec method_2_code 72 (.newarray .char) 2 74 := ⟨by decide +kernel, rfl⟩
theorem dr_74 : Dec method_2_code 74 (.astore 6) 2 76 := ⟨by decide +kernel, rfl⟩
theorem dr_76 : Dec method_2_code 76 (.aload 6) 2 78 := ⟨by decide +kernel, rfl⟩
theorem dr_78 : Dec method_2_code 78 (.iconst 0) 1 79 := ⟨by decide +kernel, rfl⟩
theorem dr_79 : Dec method_2_code 79 (.iload_n 3) 1 80 := ⟨by decide +kernel, rfl⟩
theorem dr_80 : Dec method_2_code 80 (.castore) 1 81 := ⟨by decide +kernel, rfl⟩
theorem dr_81 : Dec method_2_code 81 (.aload 6) 2 83 := ⟨by decide +kernel, rfl⟩
theorem dr_83 : Dec method_2_code 83 (.iconst 1) 1 84 := ⟨by decide +kernel, rfl⟩
theorem dr_84 : Dec method_2_code 84 (.iload 4) 2 86 := ⟨by decide +kernel, rfl⟩
theorem dr_86 : Dec method_2_code 86 (.castore) 1 87 := ⟨by decide +kernel, rfl⟩
theorem dr_87 : Dec method_2_code 87 (.new 7) 3 90 := ⟨by decide +kernel, rfl⟩
theorem dr_90 : Dec method_2_code 90 (.dup) 1 91 := ⟨by decide +kernel, rfl⟩
theorem dr_91 : Dec method_2_code 91 (.aload 6) 2 93 := ⟨by decide +kernel, rfl⟩
theorem dr_93 : Dec method_2_code 93 (.invokespecial 9) 3 96 := ⟨by decide +kernel, rfl⟩
theorem dr_96 : Dec method_2_code 96 (.areturn) 1 97 := ⟨by decide +kernel, rfl⟩
theorem dr_97 : Dec method_2_code 97 (.iconst 3) 1 98 := ⟨by decide +kernel, rfl⟩
theorem dr_98 : Dec method_2_code 98 (.newarray .char) 2 100 := ⟨by decide +kernel, rfl⟩
theorem dr_100 : Dec method_2_code 100 (.astore 6) 2 102 := ⟨by decide +kernel, rfl⟩
theorem dr_102 : Dec method_2_code 102 (.aload 6) 2 104 := ⟨by decide +kernel, rfl⟩
theorem dr_104 : Dec method_2_code 104 (.iconst 0) 1 105 := ⟨by decide +kernel, rfl⟩
theorem dr_105 : Dec method_2_code 105 (.iload_n 3) 1 106 := ⟨by decide +kernel, rfl⟩
theorem dr_106 : Dec method_2_code 106 (.castore) 1 107 := ⟨by decide +kernel, rfl⟩
theorem dr_107 : Dec method_2_code 107 (.aload 6) 2 109 := ⟨by decide +kernel, rfl⟩
theorem dr_109 : Dec method_2_code 109 (.iconst 1) 1 110 := ⟨by decide +kernel, rfl⟩
theorem dr_110 : Dec method_2_code 110 (.iload 4) 2 112 := ⟨by decide +kernel, rfl⟩
theorem dr_112 : Dec method_2_code 112 (.castore) 1 113 := ⟨by decide +kernel, rfl⟩
theorem dr_113 : Dec method_2_code 113 (.aload 6) 2 115 := ⟨by decide +kernel, rfl⟩
theorem dr_115 : Dec method_2_code 115 (.iconst 2) 1 116 := ⟨by decide +kernel, rfl⟩
theorem dr_116 : Dec method_2_code 116 (.iload 5) 2 118 := ⟨by decide +kernel, rfl⟩
theorem dr_118 : Dec method_2_code 118 (.castore) 1 119 := ⟨by decide +kernel, rfl⟩
theorem dr_119 : Dec method_2_code 119 (.new 7) 3 122 := ⟨by decide +kernel, rfl⟩
theorem dr_122 : Dec method_2_code 122 (.dup) 1 123 := ⟨by decide +kernel, rfl⟩
theorem dr_123 : Dec method_2_code 123 (.aload 6) 2 125 := ⟨by decide +kernel, rfl⟩
theorem dr_125 : Dec method_2_code 125 (.invokespecial 9) 3 128 := ⟨by decide +kernel, rfl⟩
theorem dr_128 : Dec method_2_code 128 (.areturn) 1 129 := ⟨by decide +kernel, rfl⟩
theorem ji_0 : Dec prog_7_method_1_code 0 (.aload_n 0) 1 1 := ⟨by decide +kernel, rfl⟩
theorem ji_1 : Dec prog_7_method_1_code 1 (.invokespecial 1) 3 4 := ⟨by decide +kernel, rfl⟩
theorem ji_4 : Dec prog_7_method_1_code 4 (.aload_n 0) 1 5 := ⟨by decide +kernel, rfl⟩
theorem ji_5 : Dec prog_7_method_1_code 5 (.aload_n 1) 1 6 := ⟨by decide +kernel, rfl⟩
theorem ji_6 : Dec prog_7_method_1_code 6 (.putfield 7) 3 9 := ⟨by decide +kernel, rfl⟩
theorem ji_9 : Dec prog_7_method_1_code 9 (.aload_n 0) 1 10 := ⟨by decide +kernel, rfl⟩
theorem ji_10 : Dec prog_7_method_1_code 10 (.aload_n 2) 1 11 := ⟨by decide +kernel, rfl⟩
theorem ji_11 : Dec prog_7_method_1_code 11 (.putfield 13) 3 14 := ⟨by decide +kernel, rfl⟩
theorem ji_14 : Dec prog_7_method_1_code 14 (.aload_n 0) 1 15 := ⟨by decide +kernel, rfl⟩
theorem ji_15 : Dec prog_7_method_1_code 15 (.iload_n 3) 1 16 := ⟨by decide +kernel, rfl⟩
theorem ji_16 : Dec prog_7_method_1_code 16 (.putfield 16) 3 19 := ⟨by decide +kernel, rfl⟩
theorem ji_19 : Dec prog_7_method_1_code 19 (.aload_n 0) 1 20 := ⟨by decide +kernel, rfl⟩
theorem ji_20 : Dec prog_7_method_1_code 20 (.aload 4) 2 22 := ⟨by decide +kernel, rfl⟩
theorem ji_22 : Dec prog_7_method_1_code 22 (.putfield 20) 3 25 := ⟨by decide +kernel, rfl⟩
theorem ji_25 : Dec prog_7_method_1_code 25 (.aload_n 0) 1 26 := ⟨by decide +kernel, rfl⟩
theorem ji_26 : Dec prog_7_method_1_code 26 (.aload 5) 2 28 := ⟨by decide +kernel, rfl⟩
theorem ji_28 : Dec prog_7_method_1_code 28 (.putfield 24) 3 31 := ⟨by decide +kernel, rfl⟩
theorem ji_31 : Dec prog_7_method_1_code 31 (.aload_n 0) 1 32 := ⟨by decide +kernel, rfl⟩
theorem ji_32 : Dec prog_7_method_1_code 32 (.aload 6) 2 34 := ⟨by decide +kernel, rfl⟩
theorem ji_34 : Dec prog_7_method_1_code 34 (.putfield 28) 3 37 := ⟨by decide +kernel, rfl⟩
theorem ji_37 : Dec prog_7_method_1_code 37 (.return_) 1 38 := ⟨by decide +kernel, rfl⟩
theorem jo_0 : Dec prog_7_method_2_code 0 (.new 8) 3 3 := ⟨by decide +kernel, rfl⟩
theorem jo_3 : Dec prog_7_method_2_code 3 (.dup) 1 4 := ⟨by decide +kernel, rfl⟩
theorem jo_4 : Dec prog_7_method_2_code 4 (.aload_n 0) 1 5 := ⟨by decide +kernel, rfl⟩
theorem jo_5 : Dec prog_7_method_2_code 5 (.aload_n 1) 1 6 := ⟨by decide +kernel, rfl⟩
theorem jo_6 : Dec prog_7_method_2_code 6 (.iconst 3) 1 7 := ⟨by decide +kernel, rfl⟩
theorem jo_7 : Dec prog_7_method_2_code 7 (.getstatic 32) 3 10 := ⟨by decide +kernel, rfl⟩
theorem jo_10 : Dec prog_7_method_2_code 10 (.getstatic 35) 3 13 := ⟨by decide +kernel, rfl⟩
theorem jo_13 : Dec prog_7_method_2_code 13 (.aconst_null) 1 14 := ⟨by decide +kernel, rfl⟩
theorem jo_14 : Dec prog_7_method_2_code 14 (.invokespecial 38) 3 17 := ⟨by decide +kernel, rfl⟩
theorem jo_17 : Dec prog_7_method_2_code 17 (.areturn) 1 18 := ⟨by decide +kernel, rfl⟩
theorem ac0_0 : Dec prog_7_method_7_code 0 (.aload_n 0) 1 1 := ⟨by decide +kernel, rfl⟩
theorem ac0_1 : Dec prog_7_method_7_code 1 (.getfield 7) 3 4 := ⟨by decide +kernel, rfl⟩
theorem ac0_4 : Dec prog_7_method_7_code 4 (.areturn) 1 5 := ⟨by decide +kernel, rfl⟩
theorem ac1_0 : Dec prog_7_method_8_code 0 (.aload_n 0) 1 1 := ⟨by decide +kernel, rfl⟩
theorem ac1_1 : Dec prog_7_method_8_code 1 (.getfield 13) 3 4 := ⟨by decide +kernel, rfl⟩
theorem ac1_4 : Dec prog_7_method_8_code 4 (.areturn) 1 5 := ⟨by decide +kernel, rfl⟩
theorem ac2_0 : Dec prog_7_method_9_code 0 (.aload_n 0) 1 1 := ⟨by decide +kernel, rfl⟩
theorem ac2_1 : Dec prog_7_method_9_code 1 (.getfield 16) 3 4 := ⟨by decide +kernel, rfl⟩
theorem ac2_4 : Dec prog_7_method_9_code 4 (.ireturn) 1 5 := ⟨by decide +kernel, rfl⟩
theorem ac3_0 : Dec prog_7_method_10_code 0 (.aload_n 0) 1 1 := ⟨by decide +kernel, rfl⟩
theorem ac3_1 : Dec prog_7_method_10_code 1 (.getfield 20) 3 4 := ⟨by decide +kernel, rfl⟩
theorem ac3_4 : Dec prog_7_method_10_code 4 (.areturn) 1 5 := ⟨by decide +kernel, rfl⟩
theorem ac4_0 : Dec prog_7_method_11_code 0 (.aload_n 0) 1 1 := ⟨by decide +kernel, rfl⟩
theorem ac4_1 : Dec prog_7_method_11_code 1 (.getfield 24) 3 4 := ⟨by decide +kernel, rfl⟩
theorem ac4_4 : Dec prog_7_method_11_code 4 (.areturn) 1 5 := ⟨by decide +kernel, rfl⟩
theorem e0_0 : Dec code 0 (.iload_n 0) 1 1 := ⟨at_0, rfl⟩
theorem e0_1 : Dec code 1 (.iload_n 1) 1 2 := ⟨at_1, rfl⟩
theorem e0_5 : Dec code 5 (.astore 4) 2 7 := ⟨at_5, rfl⟩
theorem e0_7 : Dec code 7 (.iload_n 2) 1 8 := ⟨at_7, rfl⟩
theorem e0_8 : Dec code 8 (.iload_n 3) 1 9 := ⟨at_8, rfl⟩
theorem e0_12 : Dec code 12 (.astore 5) 2 14 := ⟨at_12, rfl⟩
theorem e0_14 : Dec code 14 (.aload 4) 2 16 := ⟨at_14, rfl⟩
theorem e0_16 : Dec code 16 (.aload 5) 2 18 := ⟨at_16, rfl⟩
theorem e0_21 : Dec code 21 (.astore 6) 2 23 := ⟨at_21, rfl⟩
theorem e0_23 : Dec code 23 (.aload 6) 2 25 := ⟨at_23, rfl⟩
theorem e0_25 : Dec code 25 (.ifnonnull (((30 : Nat) : Int) - ((25 : Nat) : Int))) 3 28 := ⟨at_25, rfl⟩
theorem e0_30 : Dec code 30 (.aload 6) 2 32 := ⟨at_30, rfl⟩
theorem e0_35 : Dec code 35 (.aload 4) 2 37 := ⟨at_35, rfl⟩
theorem e0_37 : Dec code 37 (.if_acmp .ne (((82 : Nat) : Int) - ((37 : Nat) : Int))) 3 40 := ⟨at_37, rfl⟩
theorem e0_40 : Dec code 40 (.aload 6) 2 42 := ⟨at_40, rfl⟩
theorem e0_45 : Dec code 45 (.aload 5) 2 47 := ⟨at_45, rfl⟩
theorem e0_47 : Dec code 47 (.if_acmp .ne (((82 : Nat) : Int) - ((47 : Nat) : Int))) 3 50 := ⟨at_47, rfl⟩
theorem e0_50 : Dec code 50 (.aload 6) 2 52 := ⟨at_50, rfl⟩
theorem e0_55 : Dec code 55 (.iconst 3) 1 56 := ⟨at_55, rfl⟩
theorem e0_56 : Dec code 56 (.if_icmp .ne (((82 : Nat) : Int) - ((56 : Nat) : Int))) 3 59 := ⟨at_56, rfl⟩
theorem e0_59 : Dec code 59 (.aload 6) 2 61 := ⟨at_59, rfl⟩
theorem e0_64 : Dec code 64 (.getstatic 43) 3 67 := ⟨at_64, rfl⟩
theorem e0_67 : Dec code 67 (.if_acmp .ne (((82 : Nat) : Int) - ((67 : Nat) : Int))) 3 70 := ⟨at_67, rfl⟩
theorem e0_70 : Dec code 70 (.aload 6) 2 72 := ⟨at_70, rfl⟩
theorem e0_75 : Dec code 75 (.ifnull (((82 : Nat) : Int) - ((75 : Nat) : Int))) 3 78 := ⟨at_75, rfl⟩
theorem e0_78 : Dec code 78 (.iconst 1) 1 79 := ⟨at_78, rfl⟩
theorem e0_79 : Dec code 79 (.goto (((83 : Nat) : Int) - ((79 : Nat) : Int))) 3 82 := ⟨at_79, rfl⟩
theorem e0_83 : Dec code 83 (.ireturn) 1 84 := ⟨at_83, rfl⟩
abbrev EL1 : List (String × Nat) := [("java/lang/String", 7)]
theorem el1 {Z : State} {a0 : Array Value} (hw : ∀ d ∈ tables_1, d.before a0 Z = true) : EW Z a0 EL1 := EW.cons (hw _ (List.mem_of_getElem? (i := 18) rfl)) (by decide) EW.nil
theorem ef_1 (m : MethodId) (cc : Int32) : entryFrame m #[.int cc] 1 = mkF m 0 #[.val (.int cc)] [] := by first | (simp [entryFrame, mkF, argsToLocals, Value.category]; done) | rfl
set_option maxRecDepth 65536 in
set_option maxHeartbeats 40000000 in
theorem kCan (l : Launch) (Z : State) (a0 : Array Value) (hw : ∀ d ∈ tables_1, d.before a0 Z = true) (h : Heap) (cc : Int32) (hc : ¬ (255 : Int32) < cc) :
    Ctr true l Z EL1 (⟨"java/lang/StringLatin1", "canEncode", "(C)Z"⟩ : MethodName) jdk_43_method_3_code 1 (some (.boolean)) [] ({ frames := 0, cells := 0, slots := 0, locals := 0 } : Room) #[.int cc] h [] (fun v h' L A => v = some (.int 1) ∧ h' = h ∧ L = [] ∧ A = []) := by
  have hEW : EW Z a0 EL1 := el1 hw
  have hE : true = true ∧ EW Z a0 EL1 ∨ EL1 = [] := Or.inl ⟨rfl, hEW⟩
  refine Ctr.of (y := (⟨"java/lang/StringLatin1", "canEncode", "(C)Z"⟩ : MethodName)) pn_1 (ef_1 · cc) fun p e s m below meth c K => ?_
  refine Go.iloadN K can_0 rfl ?_
  refine Go.sipush K can_1 (255) (by first | rfl | decide) ?_
  refine Go.icmp K can_4 (fun (c4 : (255 : Int32) < cc) => ?_) (fun (c4 : ¬ (255 : Int32) < cc) => ?_)
  · exact absurd c4 hc
  · refine Go.iconst K can_7 (1) (by first | rfl | decide) ?_
    refine Go.goto K can_8 ?_
    exact Go.nret K hE can_12 (Or.inl rfl) (Nat.zero_le _) (Nat.zero_le _) (A := []) nofun ⟨rfl, rfl, rfl, rfl⟩
theorem ef_2 (m : MethodId) (cc : Int32) : entryFrame m #[.int cc] 1 = mkF m 0 #[.val (.int cc)] [] := by first | (simp [entryFrame, mkF, argsToLocals, Value.category]; done) | rfl
set_option maxRecDepth 65536 in
set_option maxHeartbeats 40000000 in
theorem kToB (l : Launch) (Z : State) (a0 : Array Value) (hw : ∀ d ∈ tables_1, d.before a0 Z = true) (h : Heap) (n0 : Nat) (X : Old Z n0 h) (cc : Int32) :
    Ctr true l Z EL1 (⟨"java/lang/StringLatin1", "toBytes", "(C)[B"⟩ : MethodName) jdk_43_method_46_code 1 (some (.array (.byte))) [] ({ frames := 0, cells := 1, slots := 1, locals := 0 } : Room) #[.int cc] h [] (fun v h' L A => ∃ (t : Addr) (kb : ClassId), v = some (.ref t) ∧ A = [t] ∧ n0 ≤ t ∧ Fr n0 L ∧ h.size ≤ t ∧ Old Z n0 h' ∧ Keep h h' [] ∧ Arv Z h' t kb .byte 1 [.int (nar .byte (cc.toInt8.toInt32))] (.int 0)) := by
  have hEW : EW Z a0 EL1 := el1 hw
  have hE : true = true ∧ EW Z a0 EL1 ∨ EL1 = [] := Or.inl ⟨rfl, hEW⟩
  refine Ctr.of (y := (⟨"java/lang/StringLatin1", "toBytes", "(C)[B"⟩ : MethodName)) pn_1 (ef_2 · cc) fun p e s m below meth c K => ?_
  refine Go.iconst K tob_0 (1) (by first | rfl | decide) ?_
  refine Go.newP K (hw _ (List.mem_of_getElem? (i := 19) rfl)) tob_1 (by decide) 1 (by decide) (by decide) (by decide) (by decide) (fun h1 E1 ⟨k1, A1⟩ => ?_)
  have A1' : Arv Z h1 h.size k1 .byte 1 (List.replicate 1 (.int 0)) (.int 0) := A1.pad (pad_rep' 1)
  have O2 := X.ext E1
  obtain ⟨x1, g1⟩ : ∃ z, z = h.size := ⟨_, rfl⟩
  rw [← g1] at A1' ⊢
  have qa1 : n0 ≤ x1 := by rw [g1]; exact Old.le X
  refine Go.dup K tob_3 rfl ?_
  refine Go.iconst K tob_4 (0) (by first | rfl | decide) ?_
  refine Go.iloadN K tob_5 rfl ?_
  refine Go.i2b K tob_6 ?_
  refine Go.bastore K A1' 0 (by decide) (by decide) (by simp) (by decide) (Sf.mem (by simp)) tob_7 (fun h3 W3 A3 => ?_)
  have O4 := O2.wr W3 qa1
  have KK : Keep h h3 [] := (Keep.of_ext E1).wr W3 (Or.inr (by rw [g1]; exact Nat.le_refl _))
  exact Go.aret K hE tob_8 rfl rfl (by decide) (by decide) (A := [x1]) (by simp) ⟨x1, _, rfl, rfl, qa1, (Fr.s (Fr.nil n0) qa1), by rw [g1]; exact Nat.le_refl _, O4, KK, A3⟩
theorem ef_3 (m : MethodId) (x t : Addr) : entryFrame m #[.ref x, .ref t, .int 0] 3 = mkF m 0 #[.val (.ref x), .val (.ref t), .val (.int 0)] [] := by first | (simp [entryFrame, mkF, argsToLocals, Value.category]; done) | rfl
set_option maxRecDepth 65536 in
set_option maxHeartbeats 40000000 in
theorem kBB (l : Launch) (Z : State) (a0 : Array Value) (hw : ∀ d ∈ tables_1, d.before a0 Z = true) (h : Heap) (n0 : Nat) (x t : Addr) (v0 c0 : Value) (hx : n0 ≤ x) (E : Exa Z h x "java/lang/String") (V : Fld Z h x "java/lang/String" "value" "[B" v0) (Cd : Fld Z h x "java/lang/String" "coder" "B" c0) :
    Ctr true l Z EL1 (⟨"java/lang/String", "<init>", "([BB)V"⟩ : MethodName) jdk_42_method_151_code 3 none [] ({ frames := 1, cells := 0, slots := 0, locals := 16 } : Room) #[.ref x, .ref t, .int 0] h [x] (fun v h' L A => v = none ∧ A = [] ∧ Fr n0 L ∧ Keep h h' [x] ∧ Exa Z h' x "java/lang/String" ∧ Fld Z h' x "java/lang/String" "value" "[B" (.ref t) ∧ Fld Z h' x "java/lang/String" "coder" "B" (.int 0)) := by
  have hEW : EW Z a0 EL1 := el1 hw
  have hE : true = true ∧ EW Z a0 EL1 ∨ EL1 = [] := Or.inl ⟨rfl, hEW⟩
  refine Ctr.of (y := (⟨"java/lang/String", "<init>", "([BB)V"⟩ : MethodName)) pn_2 (ef_3 · x t) fun p e s m below meth c K => ?_
  refine Go.aloadN K ibb_0 rfl rfl ?_
  refine Go.initO K (hw _ (List.mem_of_getElem? (i := 15) rfl)) (hw _ (List.mem_of_getElem? (i := 16) rfl)) (hw _ (List.mem_of_getElem? (i := 17) rfl)) ibb_1 rfl (by decide) (Nat.le_of_ble_eq_true rfl) ?_
  refine Go.aloadN K ibb_4 rfl rfl ?_
  refine Go.aloadN K ibb_5 rfl rfl ?_
  refine Go.putF K (hw _ (List.mem_of_getElem? (i := 24) rfl)) Via.refl V E (Or.inr ⟨(hw _ (List.mem_of_getElem? (i := 20) rfl)), rfl, rfl⟩) (hw _ (List.mem_of_getElem? (i := 5) rfl)) (ty := .array (.byte)) (by decide) rfl rfl (Sf.mem (by simp)) ibb_6 (fun h1 W1 => ?_)
  have F2_0 := V.same W1
  have F2_1 := Cd.other W1 (Or.inr (slot_ne (Or.inr (hw _ (List.mem_of_getElem? (i := 21) rfl))) (Or.inr (hw _ (List.mem_of_getElem? (i := 20) rfl))) (by decide) (t := .byte) (t' := .array (.byte)) (by decide) (by decide)))
  have X2_2 := E.wr W1
  refine Go.aloadN K ibb_9 rfl rfl ?_
  refine Go.iloadN K ibb_10 rfl ?_
  refine Go.putF K (hw _ (List.mem_of_getElem? (i := 25) rfl)) Via.refl F2_1 X2_2 (Or.inr ⟨(hw _ (List.mem_of_getElem? (i := 21) rfl)), rfl, rfl⟩) (hw _ (List.mem_of_getElem? (i := 5) rfl)) (ty := .byte) (by decide) rfl rfl (Sf.mem (by simp)) ibb_11 (fun h3 W3 => ?_)
  have F4_0 := F2_0.other W3 (Or.inr (slot_ne (Or.inr (hw _ (List.mem_of_getElem? (i := 20) rfl))) (Or.inr (hw _ (List.mem_of_getElem? (i := 21) rfl))) (by decide) (t := .array (.byte)) (t' := .byte) (by decide) (by decide)))
  have F4_1 := F2_1.same W3
  have X4_2 := X2_2.wr W3
  exact Go.vret K hE ibb_14 (Nat.zero_le _) (Nat.zero_le _) (A := []) nofun rfl ⟨rfl, rfl, (Fr.s (Fr.s (Fr.nil n0) hx) hx), ((Keep.of_wr W1).wr W3 (Or.inl (List.mem_cons_self ..))), X4_2, F4_0, F4_1⟩
theorem ef_4 (m : MethodId) (cc : Int32) : entryFrame m #[.int cc] 1 = mkF m 0 #[.val (.int cc)] [] := by first | (simp [entryFrame, mkF, argsToLocals, Value.category]; done) | rfl
set_option maxRecDepth 65536 in
set_option maxHeartbeats 40000000 in
theorem kVal (l : Launch) (Z : State) (a0 : Array Value) (hw : ∀ d ∈ tables_1, d.before a0 Z = true) (h : Heap) (n0 : Nat) (X : Old Z n0 h) (z : Int32) (St : Sta Z Z.heap "java/lang/String" "COMPACT_STRINGS" "Z" (.int z)) (hz : ¬ z = 0) (cc : Int32) (hc : ¬ (255 : Int32) < cc) :
    Ctr true l Z EL1 (⟨"java/lang/String", "valueOf", "(C)Ljava/lang/String;"⟩ : MethodName) jdk_42_method_139_code 1 (some (.object "java/lang/String")) [] ({ frames := 2, cells := 2, slots := 5, locals := 48 } : Room) #[.int cc] h [] (fun v h' L A => ∃ (x t : Addr) (kb : ClassId), v = some (.ref x) ∧ A = [x] ∧ n0 ≤ x ∧ n0 ≤ t ∧ h.size ≤ x ∧ h.size ≤ t ∧ Fr n0 L ∧ Old Z n0 h' ∧ Keep h h' [] ∧ Exa Z h' x "java/lang/String" ∧ Fld Z h' x "java/lang/String" "coder" "B" (.int 0) ∧ Fld Z h' x "java/lang/String" "value" "[B" (.ref t) ∧ Arv Z h' t kb .byte 1 [.int (nar .byte (cc.toInt8.toInt32))] (.int 0)) := by
  have hEW : EW Z a0 EL1 := el1 hw
  have hE : true = true ∧ EW Z a0 EL1 ∨ EL1 = [] := Or.inl ⟨rfl, hEW⟩
  refine Ctr.of (y := (⟨"java/lang/String", "valueOf", "(C)Ljava/lang/String;"⟩ : MethodName)) pn_2 (ef_4 · cc) fun p e s m below meth c K => ?_
  refine Go.getS K (hw _ (List.mem_of_getElem? (i := 26) rfl)) Via.refl (St.ext X.2) vof_0 ?_
  refine Go.ifc K vof_3 (fun (c3 : z = (0 : Int32)) => ?_) (fun (c3 : ¬ z = (0 : Int32)) => ?_)
  · exact absurd c3 hz
  · refine Go.iloadN K vof_6 rfl ?_
    refine Go.call K hE (Inv.static (argsL := [.int cc]) (S := []) K.1 (hw _ (List.mem_of_getElem? (i := 94) rfl)) (hw _ (List.mem_of_getElem? (i := 95) rfl)) (hw _ (List.mem_of_getElem? (i := 96) rfl)) (hw _ (List.mem_of_getElem? (i := 97) rfl)) (by decide) (lenOf pd_1 rfl) (hb K.2.1 vof_7.1)) (kCan l Z a0 hw _ cc hc) nofun (hw _ (List.mem_of_getElem? (i := 97) rfl)) (hw _ (List.mem_of_getElem? (i := 96) rfl)) vof_7.1 rfl (by decide) (Nat.le_of_ble_eq_true rfl) (by decide) (by decide) ?_
    rintro _ hq _ _ ⟨rfl, eh, rfl, rfl⟩
    subst hq
    show Go true p l e _ s m _ below meth c Z EL1 _ _ _ (mkF m 10 _ [.int 1]) _ _ _ _
    refine Go.ifc K vof_10 (fun (c10 : (1 : Int32) = (0 : Int32)) => ?_) (fun (c10 : ¬ (1 : Int32) = (0 : Int32)) => ?_)
    · exact absurd c10 (by decide)
    · refine Go.newO K (hw _ (List.mem_of_getElem? (i := 98) rfl)) (hw _ (List.mem_of_getElem? (i := 5) rfl)) (hw _ (List.mem_of_getElem? (i := 6) rfl)) vof_13 (by decide) (by decide) (fun h1 E1 ⟨X1, D1⟩ => ?_)
      have F1_0 : Fld Z h1 h.size "java/lang/String" "value" "[B" (.null) := D1 (Or.inr (hw _ (List.mem_of_getElem? (i := 20) rfl))) (ty := .array (.byte)) (by decide)
      have F1_1 : Fld Z h1 h.size "java/lang/String" "coder" "B" (.int 0) := D1 (Or.inr (hw _ (List.mem_of_getElem? (i := 21) rfl))) (ty := .byte) (by decide)
      have O2 := X.ext E1
      obtain ⟨x1, g1⟩ : ∃ z, z = h.size := ⟨_, rfl⟩
      rw [← g1] at X1 F1_0 F1_1 ⊢
      have qa1 : n0 ≤ x1 := by rw [g1]; exact Old.le X
      refine Go.dup K vof_16 rfl ?_
      refine Go.iloadN K vof_17 rfl ?_
      refine Go.call K hE (Inv.static (argsL := [.int cc]) (S := [.ref x1, .ref x1]) K.1 (hw _ (List.mem_of_getElem? (i := 99) rfl)) (hw _ (List.mem_of_getElem? (i := 100) rfl)) (hw _ (List.mem_of_getElem? (i := 96) rfl)) (hw _ (List.mem_of_getElem? (i := 101) rfl)) (by decide) (lenOf pd_2 rfl) (hb K.2.1 vof_18.1)) (kToB l Z a0 hw _ n0 O2 cc) nofun (hw _ (List.mem_of_getElem? (i := 101) rfl)) (hw _ (List.mem_of_getElem? (i := 96) rfl)) vof_18.1 rfl (by decide) (Nat.le_of_ble_eq_true rfl) (by decide) (by decide) ?_
      rintro _ h3 L3 _ ⟨t, kb, rfl, rfl, qt, N3, gt, O3, K3, At⟩
      show Go true p l e _ s m _ below meth c Z EL1 _ _ _ (mkF m 21 _ [.ref t, .ref x1, .ref x1]) _ _ _ _
      have ltx : x1 < t := Nat.lt_of_lt_of_le X1.lt gt
      have F4_0 := F1_0.keep K3 nin0
      have F4_1 := F1_1.keep K3 nin0
      have X4_2 := X1.keep K3
      have O4 := O2.keep K3 (fun y q => by simp only [List.mem_cons, List.not_mem_nil, or_false] at q)
      refine Go.iconst K vof_21 (0) (by first | rfl | decide) ?_
      refine Go.call K hE (Inv.special (argsL := [.ref t, .int 0]) (S := [.ref x1]) K.1 rfl (hw _ (List.mem_of_getElem? (i := 102) rfl)) (hw _ (List.mem_of_getElem? (i := 103) rfl)) (hw _ (List.mem_of_getElem? (i := 104) rfl)) (by decide) (lenOf pd_3 rfl) (hb K.2.1 vof_22.1)) (kBB l Z a0 hw _ n0 x1 t _ _ qa1 X4_2 F4_0 F4_1) (by simp) (hw _ (List.mem_of_getElem? (i := 104) rfl)) (hw _ (List.mem_of_getElem? (i := 6) rfl)) vof_22.1 rfl (by decide) (Nat.le_of_ble_eq_true rfl) (by decide) (by decide) ?_
      rintro _ h5 L5 _ ⟨rfl, rfl, N5, K5, XX, VV, CC⟩
      show Go true p l e _ s m _ below meth c Z EL1 _ _ _ (mkF m 25 _ [.ref x1]) _ _ _ _
      have X6_0 := X4_2.keep K5
      have A6_1 := At.keep K5 (fun q => by simp only [List.mem_cons, List.not_mem_nil, or_false] at q; exact absurd q (Nat.ne_of_gt ltx))
      have O6 := O3.keep K5 (fun y q => by simp only [List.mem_cons, List.not_mem_nil, or_false] at q; subst q; exact qa1)
      exact Go.aret K hE vof_25 rfl rfl (by decide) (by decide) (A := [x1]) (by simp) ⟨x1, t, kb, rfl, rfl, qa1, qt, by rw [g1]; exact Nat.le_refl _, Nat.le_trans (by rw [g1]; exact Nat.le_refl _) (Nat.le_of_lt ltx), (((Fr.nil n0).app N3).app N5), O6, ((Keep.of_ext E1).trans K3 (fun _ q => nomatch q)).trans K5 (fun y q => by cases List.mem_singleton.mp q; exact Or.inr (by rw [g1]; exact Nat.le_refl _)), XX, CC, VV, A6_1⟩
theorem ef_5 (m : MethodId) (x bA : Addr) : entryFrame m #[.ref x, .ref bA, .int 0, .int 0, .null] 6 = mkF m 0 #[.val (.ref x), .val (.ref bA), .val (.int 0), .val (.int 0), .val (.null), .unset] [] := by first | (simp [entryFrame, mkF, argsToLocals, Value.category]; done) | rfl
set_option maxRecDepth 65536 in
set_option maxHeartbeats 40000000 in
theorem kE4 (l : Launch) (Z : State) (a0 : Array Value) (hw : ∀ d ∈ tables_1, d.before a0 Z = true) (h : Heap) (n0 : Nat) (X : Old Z n0 h) (x bA : Addr) (v0 c0 : Value) (hx : n0 ≤ x) (E : Exa Z h x "java/lang/String") (V : Fld Z h x "java/lang/String" "value" "[B" v0) (Cd : Fld Z h x "java/lang/String" "coder" "B" c0) :
    Ctr true l Z EL1 (⟨"java/lang/String", "<init>", "([CIILjava/lang/Void;)V"⟩ : MethodName) jdk_42_method_149_code 6 none [] ({ frames := 1, cells := 4, slots := 8, locals := 16 } : Room) #[.ref x, .ref bA, .int 0, .int 0, .null] h [x] (fun v h' L A => ∃ (bb : Addr) (kb : ClassId), v = none ∧ A = [] ∧ Fr n0 L ∧ Old Z n0 h' ∧ Keep h h' [x] ∧ Exa Z h' x "java/lang/String" ∧ Fld Z h' x "java/lang/String" "value" "[B" (.ref bb) ∧ Fld Z h' x "java/lang/String" "coder" "B" (.int 0) ∧ Arv Z h' bb kb .byte 0 [] (.int 0) ∧ bb ≠ x) := by
  have hEW : EW Z a0 EL1 := el1 hw
  have hE : true = true ∧ EW Z a0 EL1 ∨ EL1 = [] := Or.inl ⟨rfl, hEW⟩
  have hsa : ∀ d ∈ Bundle.stringAtoms, d.before a0 Z = true := fun d hd => hw d ((by decide +kernel : ∀ d ∈ Bundle.stringAtoms, d ∈ tables_1) d hd)
  refine Ctr.of (y := (⟨"java/lang/String", "<init>", "([CIILjava/lang/Void;)V"⟩ : MethodName)) pn_2 (ef_5 · x bA) fun p e s m below meth c K => ?_
  refine Go.aloadN K ne4_0 rfl rfl ?_
  refine Go.initO K (hw _ (List.mem_of_getElem? (i := 15) rfl)) (hw _ (List.mem_of_getElem? (i := 16) rfl)) (hw _ (List.mem_of_getElem? (i := 17) rfl)) ne4_1 rfl (by decide) (Nat.le_of_ble_eq_true rfl) ?_
  refine Go.iloadN K ne4_4 rfl ?_
  refine Go.ifc K ne4_5 (fun (c5 : ¬ (0 : Int32) = (0 : Int32)) => ?_) (fun (c5 : (0 : Int32) = (0 : Int32)) => ?_)
  · exact absurd rfl c5
  · refine Go.aloadN K ne4_8 rfl rfl ?_
    refine Go.ldcR K rfl hEW (by decide) (hw _ (List.mem_of_getElem? (i := 18) rfl)) hsa (vs := []) (z := 0) ⟨by decide, by decide⟩ (by decide) (by decide) ne4_9 (n := 0) (by decide) (by decide) (by decide) (by decide) (fun a1 h1 b1 k1 E1 X1 C1 V1 A1 ne1 => ?_)
    have nx1 := ne1 x (by simp)
    have F2_0 := V.ext E1
    have F2_1 := Cd.ext E1
    have X2_2 := E.ext E1
    have O2 := X.ext E1
    refine Go.getF K (hw _ (List.mem_of_getElem? (i := 24) rfl)) Via.refl V1 ne4_11 ?_
    refine Go.putF K (hw _ (List.mem_of_getElem? (i := 24) rfl)) Via.refl F2_0 X2_2 (Or.inr ⟨(hw _ (List.mem_of_getElem? (i := 20) rfl)), rfl, rfl⟩) (hw _ (List.mem_of_getElem? (i := 5) rfl)) (ty := .array (.byte)) (by decide) rfl rfl (Sf.mem (by simp)) ne4_14 (fun h3 W3 => ?_)
    have F4_0 := F2_0.same W3
    have F4_1 := F2_1.other W3 (Or.inr (slot_ne (Or.inr (hw _ (List.mem_of_getElem? (i := 21) rfl))) (Or.inr (hw _ (List.mem_of_getElem? (i := 20) rfl))) (by decide) (t := .byte) (t' := .array (.byte)) (by decide) (by decide)))
    have F4_2 := C1.other W3 (Or.inl (Ne.symm nx1.1))
    have F4_3 := V1.other W3 (Or.inl (Ne.symm nx1.1))
    have X4_4 := X2_2.wr W3
    have X4_5 := X1.wr W3
    have A4_6 := A1.other W3 (Ne.symm nx1.2)
    have O4 := O2.wr W3 hx
    refine Go.aloadN K ne4_17 rfl rfl ?_
    refine Go.ldcR K rfl hEW (by decide) (hw _ (List.mem_of_getElem? (i := 18) rfl)) hsa (vs := []) (z := 0) ⟨by decide, by decide⟩ (by decide) (by decide) ne4_18 (n := 0) (by decide) (by decide) (by decide) (by decide) (fun a5 h5 b5 k5 E5 X5 C5 V5 A5 ne5 => ?_)
    have nx5 := ne5 x (by simp)
    have F6_0 := F4_0.ext E5
    have F6_1 := F4_1.ext E5
    have F6_2 := F4_2.ext E5
    have F6_3 := F4_3.ext E5
    have X6_4 := X4_4.ext E5
    have X6_5 := X4_5.ext E5
    have A6_6 := A4_6.ext E5
    have O6 := O4.ext E5
    refine Go.getF K (hw _ (List.mem_of_getElem? (i := 25) rfl)) Via.refl C5 ne4_20 ?_
    refine Go.putF K (hw _ (List.mem_of_getElem? (i := 25) rfl)) Via.refl F6_1 X6_4 (Or.inr ⟨(hw _ (List.mem_of_getElem? (i := 21) rfl)), rfl, rfl⟩) (hw _ (List.mem_of_getElem? (i := 5) rfl)) (ty := .byte) (by decide) rfl rfl (Sf.mem (by simp)) ne4_23 (fun h7 W7 => ?_)
    have F8_0 := F6_0.other W7 (Or.inr (slot_ne (Or.inr (hw _ (List.mem_of_getElem? (i := 20) rfl))) (Or.inr (hw _ (List.mem_of_getElem? (i := 21) rfl))) (by decide) (t := .array (.byte)) (t' := .byte) (by decide) (by decide)))
    have F8_1 := F6_1.same W7
    have F8_2 := F6_2.other W7 (Or.inl (Ne.symm nx1.1))
    have F8_3 := F6_3.other W7 (Or.inl (Ne.symm nx1.1))
    have F8_4 := C5.other W7 (Or.inl (Ne.symm nx5.1))
    have F8_5 := V5.other W7 (Or.inl (Ne.symm nx5.1))
    have X8_6 := X6_4.wr W7
    have X8_7 := X6_5.wr W7
    have X8_8 := X5.wr W7
    have A8_9 := A6_6.other W7 (Ne.symm nx1.2)
    have A8_10 := A5.other W7 (Ne.symm nx5.2)
    have O8 := O6.wr W7 hx
    exact Go.vret K hE ne4_26 (by decide) (by decide) (A := []) nofun rfl ⟨b1, k1, rfl, rfl, (Fr.s (Fr.s (Fr.nil n0) hx) hx), O8, (((((Keep.refl h [x]).ext E1).wr W3 (Or.inl (List.mem_cons_self ..))).ext E5).wr W7 (Or.inl (List.mem_cons_self ..))), X8_6, F8_0, F8_1, A8_9, (Ne.symm nx1.2)⟩
theorem ef_6 (m : MethodId) (x bA : Addr) : entryFrame m #[.ref x, .ref bA] 2 = mkF m 0 #[.val (.ref x), .val (.ref bA)] [] := by first | (simp [entryFrame, mkF, argsToLocals, Value.category]; done) | rfl
set_option maxRecDepth 65536 in
set_option maxHeartbeats 40000000 in
theorem kE1 (l : Launch) (Z : State) (a0 : Array Value) (hw : ∀ d ∈ tables_1, d.before a0 Z = true) (h : Heap) (n0 : Nat) (X : Old Z n0 h) (x bA : Addr) (v0 c0 : Value) (hx : n0 ≤ x) (E : Exa Z h x "java/lang/String") (V : Fld Z h x "java/lang/String" "value" "[B" v0) (Cd : Fld Z h x "java/lang/String" "coder" "B" c0) (kC : ClassId) (vs : List Value) (dv : Value) (Ab : Arv Z h bA kC .char 0 vs dv) :
    Ctr true l Z EL1 (⟨"java/lang/String", "<init>", "([C)V"⟩ : MethodName) jdk_42_method_3_code 2 none [] ({ frames := 2, cells := 4, slots := 8, locals := 40 } : Room) #[.ref x, .ref bA] h [x] (fun v h' L A => ∃ (bb : Addr) (kb : ClassId), v = none ∧ A = [] ∧ Fr n0 L ∧ Old Z n0 h' ∧ Keep h h' [x] ∧ Exa Z h' x "java/lang/String" ∧ Fld Z h' x "java/lang/String" "value" "[B" (.ref bb) ∧ Fld Z h' x "java/lang/String" "coder" "B" (.int 0) ∧ Arv Z h' bb kb .byte 0 [] (.int 0) ∧ bb ≠ x) := by
  have hEW : EW Z a0 EL1 := el1 hw
  have hE : true = true ∧ EW Z a0 EL1 ∨ EL1 = [] := Or.inl ⟨rfl, hEW⟩
  refine Ctr.of (y := (⟨"java/lang/String", "<init>", "([C)V"⟩ : MethodName)) pn_2 (ef_6 · x bA) fun p e s m below meth c K => ?_
  refine Go.aloadN K ne1_0 rfl rfl ?_
  refine Go.aloadN K ne1_1 rfl rfl ?_
  refine Go.iconst K ne1_2 (0) (by first | rfl | decide) ?_
  refine Go.aloadN K ne1_3 rfl rfl ?_
  refine Go.alen K Ab ne1_4 ?_
  refine Go.aconstNull K ne1_5 ?_
  refine Go.call K hE (Inv.special (argsL := [.ref bA, .int 0, .int 0, .null]) (S := []) K.1 rfl (hw _ (List.mem_of_getElem? (i := 11) rfl)) (hw _ (List.mem_of_getElem? (i := 12) rfl)) (hw _ (List.mem_of_getElem? (i := 14) rfl)) (by decide) (lenOf pd_4 rfl) (hb K.2.1 ne1_6.1)) (kE4 l Z a0 hw _ n0 X x bA _ _ hx E V Cd) (by simp) (hw _ (List.mem_of_getElem? (i := 14) rfl)) (hw _ (List.mem_of_getElem? (i := 6) rfl)) ne1_6.1 rfl (by decide) (Nat.le_of_ble_eq_true rfl) (by decide) (by decide) ?_
  rintro _ h2 L2 _ ⟨bb, kb, rfl, rfl, q1, q2, q3, q4, q5, q6, q7, q8⟩
  show Go true p l e _ s m _ below meth c Z EL1 _ _ _ (mkF m 9 _ []) _ _ _ _
  exact Go.vret K hE ne1_9 (by decide) (by decide) (A := []) nofun rfl ⟨bb, kb, rfl, rfl, by simpa using q1, q2, q3, q4, q5, q6, q7, q8⟩
theorem nar_c8c (t : Int32) : nar .char ((Int32.toUInt32 (t &&& 255)).toUInt16.toUInt32.toInt32) = t &&& 255 := nar_c8 t
theorem ef_7 (m : MethodId) (sh ch : Int32) : entryFrame m #[.int sh, .int ch] 7 = mkF m 0 #[.val (.int sh), .val (.int ch), .unset, .unset, .unset, .unset, .unset] [] := by first | (simp [entryFrame, mkF, argsToLocals, Value.category]; done) | rfl
set_option maxRecDepth 65536 in
set_option maxHeartbeats 40000000 in
theorem kDraw (l : Launch) (Z : State) (a0 : Array Value) (hw : ∀ d ∈ tables_1, d.before a0 Z = true) (h : Heap) (n0 : Nat) (X : Old Z n0 h) (z : Int32) (St : Sta Z Z.heap "java/lang/String" "COMPACT_STRINGS" "Z" (.int z)) (hz : ¬ z = 0) (sh ch : Int32) :
    Ctr true l Z EL1 (⟨"com/example/baklog/baklog/JobRequestOfPinLaw", "draw", "(II)Ljava/lang/String;"⟩ : MethodName) method_2_code 7 (some (.object "java/lang/String")) [] ({ frames := 5, cells := 8, slots := 32, locals := 100 } : Room) #[.int sh, .int ch] h [] (fun v h' L A => ∃ te, v = some te ∧ (te = .null ∨ ∃ a, te = .ref a) ∧ Fr n0 L ∧ Old Z n0 h' ∧ A = []) := by
  have hEW : EW Z a0 EL1 := el1 hw
  have hE : true = true ∧ EW Z a0 EL1 ∨ EL1 = [] := Or.inl ⟨rfl, hEW⟩
  have hws : ∀ d ∈ StrChars.Road.words, d.before a0 Z = true := fun d hd => hw d ((by decide +kernel : ∀ d ∈ StrChars.Road.words, d ∈ tables_1) d hd)
  refine Ctr.of (y := (⟨"com/example/baklog/baklog/JobRequestOfPinLaw", "draw", "(II)Ljava/lang/String;"⟩ : MethodName)) pn_3 (ef_7 · sh ch) fun p e s m below meth c K => ?_
  refine Go.iloadN K dr_0 rfl ?_
  refine Go.iconst K dr_1 (4) (by first | rfl | decide) ?_
  refine Go.iand K dr_2 ?_
  refine Go.ifc K dr_3 (fun (c3 : ((sh &&& (4 : Int32))) = (0 : Int32)) => ?_) (fun (c3 : ¬ ((sh &&& (4 : Int32))) = (0 : Int32)) => ?_)
  · refine Go.iloadN K dr_8 rfl ?_
    refine Go.iconst K dr_9 (3) (by first | rfl | decide) ?_
    refine Go.iand K dr_10 ?_
    refine Go.istoreN K #[.val (.int sh), .val (.int ch), .val (.int (sh &&& (3 : Int32))), .unset, .unset, .unset, .unset] dr_11 rfl ?_
    refine Go.iloadN K dr_12 rfl ?_
    refine Go.sipush K dr_13 (255) (by first | rfl | decide) ?_
    refine Go.iand K dr_16 ?_
    refine Go.i2c K dr_17 ?_
    refine Go.istoreN K #[.val (.int sh), .val (.int ch), .val (.int (sh &&& (3 : Int32))), .val (.int (Int32.toUInt32 ((ch &&& (255 : Int32)))).toUInt16.toUInt32.toInt32), .unset, .unset, .unset] dr_18 rfl ?_
    refine Go.iloadN K dr_19 rfl ?_
    refine Go.bipush K dr_20 (8) (by first | rfl | decide) ?_
    refine Go.iushr K dr_22 ?_
    refine Go.sipush K dr_23 (255) (by first | rfl | decide) ?_
    refine Go.iand K dr_26 ?_
    refine Go.i2c K dr_27 ?_
    refine Go.istore K #[.val (.int sh), .val (.int ch), .val (.int (sh &&& (3 : Int32))), .val (.int (Int32.toUInt32 ((ch &&& (255 : Int32)))).toUInt16.toUInt32.toInt32), .val (.int (Int32.toUInt32 (((((Int32.toUInt32 ch >>> ((8 : Int32) &&& 31).toUInt32).toInt32)) &&& (255 : Int32)))).toUInt16.toUInt32.toInt32), .unset, .unset] dr_28 rfl ?_
    refine Go.iloadN K dr_30 rfl ?_
    refine Go.bipush K dr_31 (16) (by first | rfl | decide) ?_
    refine Go.iushr K dr_33 ?_
    refine Go.sipush K dr_34 (255) (by first | rfl | decide) ?_
    refine Go.iand K dr_37 ?_
    refine Go.i2c K dr_38 ?_
    refine Go.istore K #[.val (.int sh), .val (.int ch), .val (.int (sh &&& (3 : Int32))), .val (.int (Int32.toUInt32 ((ch &&& (255 : Int32)))).toUInt16.toUInt32.toInt32), .val (.int (Int32.toUInt32 (((((Int32.toUInt32 ch >>> ((8 : Int32) &&& 31).toUInt32).toInt32)) &&& (255 : Int32)))).toUInt16.toUInt32.toInt32), .val (.int (Int32.toUInt32 (((((Int32.toUInt32 ch >>> ((16 : Int32) &&& 31).toUInt32).toInt32)) &&& (255 : Int32)))).toUInt16.toUInt32.toInt32), .unset] dr_39 rfl ?_
    refine Go.iloadN K dr_41 rfl ?_
    refine Go.ifc K dr_42 (fun (c42 : ¬ ((sh &&& (3 : Int32))) = (0 : Int32)) => ?_) (fun (c42 : ((sh &&& (3 : Int32))) = (0 : Int32)) => ?_)
    · refine Go.iloadN K dr_56 rfl ?_
      refine Go.iconst K dr_57 (1) (by first | rfl | decide) ?_
      refine Go.icmp K dr_58 (fun (c58 : ¬ ((sh &&& (3 : Int32))) = (1 : Int32)) => ?_) (fun (c58 : ((sh &&& (3 : Int32))) = (1 : Int32)) => ?_)
      · refine Go.iloadN K dr_66 rfl ?_
        refine Go.iconst K dr_67 (2) (by first | rfl | decide) ?_
        refine Go.icmp K dr_68 (fun (c68 : ¬ ((sh &&& (3 : Int32))) = (2 : Int32)) => ?_) (fun (c68 : ((sh &&& (3 : Int32))) = (2 : Int32)) => ?_)
        · refine Go.iconst K dr_97 (3) (by first | rfl | decide) ?_
          refine Go.newP K (hw _ (List.mem_of_getElem? (i := 7) rfl)) dr_98 (by decide) 3 (by decide) (by decide) (by decide) (by decide) (fun h1 E1 ⟨k1, A1⟩ => ?_)
          have A1' : Arv Z h1 h.size k1 .char 3 (List.replicate 3 (.int 0)) (.int 0) := A1.pad (pad_rep' 3)
          have O2 := X.ext E1
          obtain ⟨x1, g1⟩ : ∃ z, z = h.size := ⟨_, rfl⟩
          rw [← g1] at A1' ⊢
          have qa1 : n0 ≤ x1 := by rw [g1]; exact Old.le X
          refine Go.astore K #[.val (.int sh), .val (.int ch), .val (.int (sh &&& (3 : Int32))), .val (.int (Int32.toUInt32 ((ch &&& (255 : Int32)))).toUInt16.toUInt32.toInt32), .val (.int (Int32.toUInt32 (((((Int32.toUInt32 ch >>> ((8 : Int32) &&& 31).toUInt32).toInt32)) &&& (255 : Int32)))).toUInt16.toUInt32.toInt32), .val (.int (Int32.toUInt32 (((((Int32.toUInt32 ch >>> ((16 : Int32) &&& 31).toUInt32).toInt32)) &&& (255 : Int32)))).toUInt16.toUInt32.toInt32), .val (.ref x1)] dr_100 rfl rfl ?_
          refine Go.aload K dr_102 rfl rfl ?_
          refine Go.iconst K dr_104 (0) (by first | rfl | decide) ?_
          refine Go.iloadN K dr_105 rfl ?_
          refine Go.castore K A1' 0 (by decide) (by decide) (by simp) (by decide) dr_106 (fun h3 W3 A3 => ?_)
          have O4 := O2.wr W3 qa1
          refine Go.aload K dr_107 rfl rfl ?_
          refine Go.iconst K dr_109 (1) (by first | rfl | decide) ?_
          refine Go.iload K dr_110 rfl ?_
          refine Go.castore K A3 1 (by decide) (by decide) (by simp) (by decide) dr_112 (fun h5 W5 A5 => ?_)
          have O6 := O4.wr W5 qa1
          refine Go.aload K dr_113 rfl rfl ?_
          refine Go.iconst K dr_115 (2) (by first | rfl | decide) ?_
          refine Go.iload K dr_116 rfl ?_
          refine Go.castore K A5 2 (by decide) (by decide) (by simp) (by decide) dr_118 (fun h7 W7 A7 => ?_)
          have O8 := O6.wr W7 qa1
          refine Go.newO K (hw _ (List.mem_of_getElem? (i := 4) rfl)) (hw _ (List.mem_of_getElem? (i := 5) rfl)) (hw _ (List.mem_of_getElem? (i := 6) rfl)) dr_119 (by decide) (by decide) (fun h9 E9 ⟨X9, D9⟩ => ?_)
          have F9_0 : Fld Z h9 h7.size "java/lang/String" "value" "[B" (.null) := D9 (Or.inr (hw _ (List.mem_of_getElem? (i := 20) rfl))) (ty := .array (.byte)) (by decide)
          have F9_1 : Fld Z h9 h7.size "java/lang/String" "coder" "B" (.int 0) := D9 (Or.inr (hw _ (List.mem_of_getElem? (i := 21) rfl))) (ty := .byte) (by decide)
          have A10_0 := A7.ext E9
          have O10 := O8.ext E9
          obtain ⟨x9, g9⟩ : ∃ z, z = h7.size := ⟨_, rfl⟩
          rw [← g9] at X9 F9_0 F9_1 ⊢
          have l9_x1 : x1 < x9 := by rw [g9]; exact A7.lt
          have qa9 : n0 ≤ x9 := by rw [g9]; exact Old.le O8
          refine Go.dup K dr_122 rfl ?_
          refine Go.aload K dr_123 rfl rfl ?_
          refine Go.strInit K (hw _ (List.mem_of_getElem? (i := 8) rfl)) (hw _ (List.mem_of_getElem? (i := 9) rfl)) hws (kI := 4) (hw _ (List.mem_of_getElem? (i := 5) rfl)) (cs := [(nar .char _), (nar .char _), (nar .char _)]) (n := 3) O10 qa9 X9 F9_0 F9_1 A10_0 St hz rfl rfl (by decide) (by decide) (by intro c hc; simp only [List.mem_cons, List.not_mem_nil, or_false] at hc; rcases hc with rfl | rfl | rfl <;> (rw [nar_c8c]; exact and255 _)) (by simp) dr_125 rfl (by decide) (Nat.le_of_ble_eq_true rfl) (by decide) (by decide) (fun h11 L11 t11 kb11 N11 K11 O11 x5 y5 z5 u5 v5 w5 => ?_)
          exact Go.aret K hE dr_128 rfl rfl (by decide) (by decide) (A := []) nofun ⟨_, rfl, Or.inr ⟨_, rfl⟩, by simpa using ((Fr.s (Fr.s (Fr.s (Fr.nil n0) qa1) qa1) qa1).app N11), O11, rfl⟩
        · refine Go.iconst K dr_71 (2) (by first | rfl | decide) ?_
          refine Go.newP K (hw _ (List.mem_of_getElem? (i := 7) rfl)) dr_72 (by decide) 2 (by decide) (by decide) (by decide) (by decide) (fun h12 E12 ⟨k12, A12⟩ => ?_)
          have A12' : Arv Z h12 h.size k12 .char 2 (List.replicate 2 (.int 0)) (.int 0) := A12.pad (pad_rep' 2)
          have O13 := X.ext E12
          obtain ⟨x12, g12⟩ : ∃ z, z = h.size := ⟨_, rfl⟩
          rw [← g12] at A12' ⊢
          have qa12 : n0 ≤ x12 := by rw [g12]; exact Old.le X
          refine Go.astore K #[.val (.int sh), .val (.int ch), .val (.int (sh &&& (3 : Int32))), .val (.int (Int32.toUInt32 ((ch &&& (255 : Int32)))).toUInt16.toUInt32.toInt32), .val (.int (Int32.toUInt32 (((((Int32.toUInt32 ch >>> ((8 : Int32) &&& 31).toUInt32).toInt32)) &&& (255 : Int32)))).toUInt16.toUInt32.toInt32), .val (.int (Int32.toUInt32 (((((Int32.toUInt32 ch >>> ((16 : Int32) &&& 31).toUInt32).toInt32)) &&& (255 : Int32)))).toUInt16.toUInt32.toInt32), .val (.ref x12)] dr_74 rfl rfl ?_
          refine Go.aload K dr_76 rfl rfl ?_
          refine Go.iconst K dr_78 (0) (by first | rfl | decide) ?_
          refine Go.iloadN K dr_79 rfl ?_
          refine Go.castore K A12' 0 (by decide) (by decide) (by simp) (by decide) dr_80 (fun h14 W14 A14 => ?_)
          have O15 := O13.wr W14 qa12
          refine Go.aload K dr_81 rfl rfl ?_
          refine Go.iconst K dr_83 (1) (by first | rfl | decide) ?_
          refine Go.iload K dr_84 rfl ?_
          refine Go.castore K A14 1 (by decide) (by decide) (by simp) (by decide) dr_86 (fun h16 W16 A16 => ?_)
          have O17 := O15.wr W16 qa12
          refine Go.newO K (hw _ (List.mem_of_getElem? (i := 4) rfl)) (hw _ (List.mem_of_getElem? (i := 5) rfl)) (hw _ (List.mem_of_getElem? (i := 6) rfl)) dr_87 (by decide) (by decide) (fun h18 E18 ⟨X18, D18⟩ => ?_)
          have F18_0 : Fld Z h18 h16.size "java/lang/String" "value" "[B" (.null) := D18 (Or.inr (hw _ (List.mem_of_getElem? (i := 20) rfl))) (ty := .array (.byte)) (by decide)
          have F18_1 : Fld Z h18 h16.size "java/lang/String" "coder" "B" (.int 0) := D18 (Or.inr (hw _ (List.mem_of_getElem? (i := 21) rfl))) (ty := .byte) (by decide)
          have A19_0 := A16.ext E18
          have O19 := O17.ext E18
          obtain ⟨x18, g18⟩ : ∃ z, z = h16.size := ⟨_, rfl⟩
          rw [← g18] at X18 F18_0 F18_1 ⊢
          have l18_x12 : x12 < x18 := by rw [g18]; exact A16.lt
          have qa18 : n0 ≤ x18 := by rw [g18]; exact Old.le O17
          refine Go.dup K dr_90 rfl ?_
          refine Go.aload K dr_91 rfl rfl ?_
          refine Go.strInit K (hw _ (List.mem_of_getElem? (i := 8) rfl)) (hw _ (List.mem_of_getElem? (i := 9) rfl)) hws (kI := 4) (hw _ (List.mem_of_getElem? (i := 5) rfl)) (cs := [(nar .char _), (nar .char _)]) (n := 2) O19 qa18 X18 F18_0 F18_1 A19_0 St hz rfl rfl (by decide) (by decide) (by intro c hc; simp only [List.mem_cons, List.not_mem_nil, or_false] at hc; rcases hc with rfl | rfl <;> (rw [nar_c8c]; exact and255 _)) (by simp) dr_93 rfl (by decide) (Nat.le_of_ble_eq_true rfl) (by decide) (by decide) (fun h20 L20 t20 kb20 N20 K20 O20 x5 y5 z5 u5 v5 w5 => ?_)
          exact Go.aret K hE dr_96 rfl rfl (by decide) (by decide) (A := []) nofun ⟨_, rfl, Or.inr ⟨_, rfl⟩, by simpa using ((Fr.s (Fr.s (Fr.nil n0) qa12) qa12).app N20), O20, rfl⟩
      · refine Go.iloadN K dr_61 rfl ?_
        refine Go.call K hE (Inv.static (argsL := [.int (Int32.toUInt32 ((ch &&& (255 : Int32)))).toUInt16.toUInt32.toInt32]) (S := []) K.1 (hw _ (List.mem_of_getElem? (i := 91) rfl)) (hw _ (List.mem_of_getElem? (i := 92) rfl)) (hw _ (List.mem_of_getElem? (i := 6) rfl)) (hw _ (List.mem_of_getElem? (i := 93) rfl)) (by decide) (lenOf pd_5 rfl) (hb K.2.1 dr_62.1)) (kVal l Z a0 hw _ n0 X z St hz _ (by rw [c8]; exact (and255 _).2)) nofun (hw _ (List.mem_of_getElem? (i := 93) rfl)) (hw _ (List.mem_of_getElem? (i := 6) rfl)) dr_62.1 rfl (by decide) (Nat.le_of_ble_eq_true rfl) (by decide) (by decide) ?_
        rintro _ h21 L21 _ ⟨x21, t21, kb21, rfl, rfl, -, -, -, -, N21, O21, -⟩
        show Go true p l e _ s m _ below meth c Z EL1 _ _ _ (mkF m 65 _ [.ref x21]) _ _ _ _
        exact Go.aret K hE dr_65 rfl rfl (by decide) (by decide) (A := []) nofun ⟨_, rfl, Or.inr ⟨_, rfl⟩, by simpa using ((Fr.nil n0).app N21), O21, rfl⟩
    · refine Go.newO K (hw _ (List.mem_of_getElem? (i := 4) rfl)) (hw _ (List.mem_of_getElem? (i := 5) rfl)) (hw _ (List.mem_of_getElem? (i := 6) rfl)) dr_45 (by decide) (by decide) (fun h22 E22 ⟨X22, D22⟩ => ?_)
      have F22_0 : Fld Z h22 h.size "java/lang/String" "value" "[B" (.null) := D22 (Or.inr (hw _ (List.mem_of_getElem? (i := 20) rfl))) (ty := .array (.byte)) (by decide)
      have F22_1 : Fld Z h22 h.size "java/lang/String" "coder" "B" (.int 0) := D22 (Or.inr (hw _ (List.mem_of_getElem? (i := 21) rfl))) (ty := .byte) (by decide)
      have O23 := X.ext E22
      obtain ⟨x22, g22⟩ : ∃ z, z = h.size := ⟨_, rfl⟩
      rw [← g22] at X22 F22_0 F22_1 ⊢
      have qa22 : n0 ≤ x22 := by rw [g22]; exact Old.le X
      refine Go.dup K dr_48 rfl ?_
      refine Go.iconst K dr_49 (0) (by first | rfl | decide) ?_
      refine Go.newP K (hw _ (List.mem_of_getElem? (i := 7) rfl)) dr_50 (by decide) 0 (by decide) (by decide) (by decide) (by decide) (fun h24 E24 ⟨k24, A24⟩ => ?_)
      have A24' : Arv Z h24 h22.size k24 .char 0 (List.replicate 0 (.int 0)) (.int 0) := A24.pad (pad_rep' 0)
      have F25_0 := F22_0.ext E24
      have F25_1 := F22_1.ext E24
      have X25_2 := X22.ext E24
      have O25 := O23.ext E24
      obtain ⟨x24, g24⟩ : ∃ z, z = h22.size := ⟨_, rfl⟩
      rw [← g24] at A24' ⊢
      have l24_x22 : x22 < x24 := by rw [g24]; exact X22.lt
      have qa24 : n0 ≤ x24 := by rw [g24]; exact Old.le O23
      refine Go.call K hE (Inv.special (argsL := [.ref x24]) (S := [.ref x22]) K.1 rfl (hw _ (List.mem_of_getElem? (i := 8) rfl)) (hw _ (List.mem_of_getElem? (i := 9) rfl)) (hw _ (List.mem_of_getElem? (i := 10) rfl)) (by decide) (lenOf pd_6 rfl) (hb K.2.1 dr_52.1)) (kE1 l Z a0 hw _ n0 O25 x22 x24 _ _ qa22 X25_2 F25_0 F25_1 _ _ _ A24') (by simp) (hw _ (List.mem_of_getElem? (i := 10) rfl)) (hw _ (List.mem_of_getElem? (i := 6) rfl)) dr_52.1 rfl (by decide) (Nat.le_of_ble_eq_true rfl) (by decide) (by decide) ?_
      rintro _ h26 L26 _ ⟨bb, kb, rfl, rfl, N26, O26, K26, q4, q5, q6, q7, q8⟩
      show Go true p l e _ s m _ below meth c Z EL1 _ _ _ (mkF m 55 _ [.ref x22]) _ _ _ _
      exact Go.aret K hE dr_55 rfl rfl (by decide) (by decide) (A := []) nofun ⟨_, rfl, Or.inr ⟨_, rfl⟩, by simpa using ((Fr.nil n0).app N26), O26, rfl⟩
  · refine Go.aconstNull K dr_6 ?_
    exact Go.aret K hE dr_7 rfl rfl (by decide) (by decide) (A := []) nofun ⟨_, rfl, Or.inl rfl, by simpa using (Fr.nil n0), X, rfl⟩
theorem narR {v : Value} {C : String} (hv : v.isRef = true) : narrow (.object C) v = v := by cases v <;> first | rfl | (simp [Value.isRef] at hv)
theorem fitR {v : Value} {C : String} (hv : v.isRef = true) : fits (.object C) v = true := by cases v <;> first | rfl | (simp [Value.isRef] at hv)
theorem efI (m : MethodId) (o : Addr) (hv pv : Value) (hhv : hv.isRef = true) (hpv : pv.isRef = true) (bk pr : Addr) : entryFrame m #[.ref o, hv, pv, .int 3, .ref bk, .ref pr, .null] 7 = mkF m 0 #[.val (.ref o), .val hv, .val pv, .val (.int 3), .val (.ref bk), .val (.ref pr), .val (.null)] [] := by
  rcases ref_cases hhv with rfl | ⟨a, rfl⟩ <;> rcases ref_cases hpv with rfl | ⟨b, rfl⟩ <;> first | (simp [entryFrame, mkF, argsToLocals, Value.category]; done) | rfl
theorem efO (m : MethodId) (hv pv : Value) (hhv : hv.isRef = true) (hpv : pv.isRef = true) : entryFrame m #[hv, pv] 2 = mkF m 0 #[.val hv, .val pv] [] := by
  rcases ref_cases hhv with rfl | ⟨a, rfl⟩ <;> rcases ref_cases hpv with rfl | ⟨b, rfl⟩ <;> first | (simp [entryFrame, mkF, argsToLocals, Value.category]; done) | rfl

set_option maxRecDepth 65536 in
set_option maxHeartbeats 40000000 in
theorem kJI (l : Launch) (Z : State) (a0 : Array Value) (hw : ∀ d ∈ tables_1, d.before a0 Z = true) (h : Heap) (n0 : Nat) (o : Addr) (ho : n0 ≤ o) (hv pv : Value) (hhv : hv.isRef = true) (hpv : pv.isRef = true) (bk pr : Addr) (E : Exa Z h o "com/example/baklog/baklog/JobRequest") (F0 : Fld Z h o "com/example/baklog/baklog/JobRequest" "handler" "Ljava/lang/String;" (.null)) (F1 : Fld Z h o "com/example/baklog/baklog/JobRequest" "payload" "Ljava/lang/String;" (.null)) (F2 : Fld Z h o "com/example/baklog/baklog/JobRequest" "maxAttempts" "I" (.int 0)) (F3 : Fld Z h o "com/example/baklog/baklog/JobRequest" "backoff" "Ljava/time/Duration;" (.null)) (F4 : Fld Z h o "com/example/baklog/baklog/JobRequest" "priority" "Lcom/example/baklog/baklog/Priority;" (.null)) (F5 : Fld Z h o "com/example/baklog/baklog/JobRequest" "runAt" "Ljava/time/Instant;" (.null)) :
    Ctr true l Z EL1 (⟨"com/example/baklog/baklog/JobRequest", "<init>", "(Ljava/lang/String;Ljava/lang/String;ILjava/time/Duration;Lcom/example/baklog/baklog/Priority;Ljava/time/Instant;)V"⟩ : MethodName) prog_7_method_1_code 7 none [] ({ frames := 1, cells := 0, slots := 0, locals := 16 } : Room) #[.ref o, hv, pv, .int 3, .ref bk, .ref pr, .null] h [] (fun v h' L A => v = none ∧ A = [] ∧ Fr n0 L ∧ Keep h h' [o] ∧ Exa Z h' o "com/example/baklog/baklog/JobRequest" ∧ Fld Z h' o "com/example/baklog/baklog/JobRequest" "handler" "Ljava/lang/String;" (hv) ∧ Fld Z h' o "com/example/baklog/baklog/JobRequest" "payload" "Ljava/lang/String;" (pv) ∧ Fld Z h' o "com/example/baklog/baklog/JobRequest" "maxAttempts" "I" (.int 3) ∧ Fld Z h' o "com/example/baklog/baklog/JobRequest" "backoff" "Ljava/time/Duration;" (.ref bk) ∧ Fld Z h' o "com/example/baklog/baklog/JobRequest" "priority" "Lcom/example/baklog/baklog/Priority;" (.ref pr)) := by
  have hEW : EW Z a0 EL1 := el1 hw
  have hE : true = true ∧ EW Z a0 EL1 ∨ EL1 = [] := Or.inl ⟨rfl, hEW⟩
  refine Ctr.of (y := (⟨"com/example/baklog/baklog/JobRequest", "<init>", "(Ljava/lang/String;Ljava/lang/String;ILjava/time/Duration;Lcom/example/baklog/baklog/Priority;Ljava/time/Instant;)V"⟩ : MethodName)) pn_4 (efI · o hv pv hhv hpv bk pr) fun p e s m below meth c K => ?_
  refine Go.aloadN K ji_0 rfl rfl ?_
  refine Go.initO K (hw _ (List.mem_of_getElem? (i := 52) rfl)) (hw _ (List.mem_of_getElem? (i := 16) rfl)) (hw _ (List.mem_of_getElem? (i := 17) rfl)) ji_1 rfl (by decide) (Nat.le_of_ble_eq_true rfl) ?_
  refine Go.aloadN K ji_4 rfl rfl ?_
  refine Go.aloadN K ji_5 rfl hhv ?_
  refine Go.putF K (hw _ (List.mem_of_getElem? (i := 53) rfl)) Via.refl F0 E (Or.inr ⟨(hw _ (List.mem_of_getElem? (i := 54) rfl)), rfl, rfl⟩) (hw _ (List.mem_of_getElem? (i := 42) rfl)) (ty := .object "java/lang/String") (by decide) (narR hhv) (fitR hhv) (Sf.exa E (by decide) (by decide)) ji_6 (fun h1 W1 => ?_)
  have F2_0 := F0.same W1
  have F2_1 := F1.other W1 (Or.inr (slot_ne (Or.inr (hw _ (List.mem_of_getElem? (i := 56) rfl))) (Or.inr (hw _ (List.mem_of_getElem? (i := 54) rfl))) (by decide) (t := .object "java/lang/String") (t' := .object "java/lang/String") (by decide) (by decide)))
  have F2_2 := F2.other W1 (Or.inr (slot_ne (Or.inr (hw _ (List.mem_of_getElem? (i := 58) rfl))) (Or.inr (hw _ (List.mem_of_getElem? (i := 54) rfl))) (by decide) (t := .int) (t' := .object "java/lang/String") (by decide) (by decide)))
  have F2_3 := F3.other W1 (Or.inr (slot_ne (Or.inr (hw _ (List.mem_of_getElem? (i := 60) rfl))) (Or.inr (hw _ (List.mem_of_getElem? (i := 54) rfl))) (by decide) (t := .object "java/time/Duration") (t' := .object "java/lang/String") (by decide) (by decide)))
  have F2_4 := F4.other W1 (Or.inr (slot_ne (Or.inr (hw _ (List.mem_of_getElem? (i := 62) rfl))) (Or.inr (hw _ (List.mem_of_getElem? (i := 54) rfl))) (by decide) (t := .object "com/example/baklog/baklog/Priority") (t' := .object "java/lang/String") (by decide) (by decide)))
  have F2_5 := F5.other W1 (Or.inr (slot_ne (Or.inr (hw _ (List.mem_of_getElem? (i := 64) rfl))) (Or.inr (hw _ (List.mem_of_getElem? (i := 54) rfl))) (by decide) (t := .object "java/time/Instant") (t' := .object "java/lang/String") (by decide) (by decide)))
  have X2_6 := E.wr W1
  refine Go.aloadN K ji_9 rfl rfl ?_
  refine Go.aloadN K ji_10 rfl hpv ?_
  refine Go.putF K (hw _ (List.mem_of_getElem? (i := 55) rfl)) Via.refl F2_1 X2_6 (Or.inr ⟨(hw _ (List.mem_of_getElem? (i := 56) rfl)), rfl, rfl⟩) (hw _ (List.mem_of_getElem? (i := 42) rfl)) (ty := .object "java/lang/String") (by decide) (narR hpv) (fitR hpv) (Sf.exa X2_6 (by decide) (by decide)) ji_11 (fun h3 W3 => ?_)
  have F4_0 := F2_0.other W3 (Or.inr (slot_ne (Or.inr (hw _ (List.mem_of_getElem? (i := 54) rfl))) (Or.inr (hw _ (List.mem_of_getElem? (i := 56) rfl))) (by decide) (t := .object "java/lang/String") (t' := .object "java/lang/String") (by decide) (by decide)))
  have F4_1 := F2_1.same W3
  have F4_2 := F2_2.other W3 (Or.inr (slot_ne (Or.inr (hw _ (List.mem_of_getElem? (i := 58) rfl))) (Or.inr (hw _ (List.mem_of_getElem? (i := 56) rfl))) (by decide) (t := .int) (t' := .object "java/lang/String") (by decide) (by decide)))
  have F4_3 := F2_3.other W3 (Or.inr (slot_ne (Or.inr (hw _ (List.mem_of_getElem? (i := 60) rfl))) (Or.inr (hw _ (List.mem_of_getElem? (i := 56) rfl))) (by decide) (t := .object "java/time/Duration") (t' := .object "java/lang/String") (by decide) (by decide)))
  have F4_4 := F2_4.other W3 (Or.inr (slot_ne (Or.inr (hw _ (List.mem_of_getElem? (i := 62) rfl))) (Or.inr (hw _ (List.mem_of_getElem? (i := 56) rfl))) (by decide) (t := .object "com/example/baklog/baklog/Priority") (t' := .object "java/lang/String") (by decide) (by decide)))
  have F4_5 := F2_5.other W3 (Or.inr (slot_ne (Or.inr (hw _ (List.mem_of_getElem? (i := 64) rfl))) (Or.inr (hw _ (List.mem_of_getElem? (i := 56) rfl))) (by decide) (t := .object "java/time/Instant") (t' := .object "java/lang/String") (by decide) (by decide)))
  have X4_6 := X2_6.wr W3
  refine Go.aloadN K ji_14 rfl rfl ?_
  refine Go.iloadN K ji_15 rfl ?_
  refine Go.putF K (hw _ (List.mem_of_getElem? (i := 57) rfl)) Via.refl F4_2 X4_6 (Or.inr ⟨(hw _ (List.mem_of_getElem? (i := 58) rfl)), rfl, rfl⟩) (hw _ (List.mem_of_getElem? (i := 42) rfl)) (ty := .int) (by decide) rfl rfl (Sf.exa X4_6 (by decide) (by decide)) ji_16 (fun h5 W5 => ?_)
  have F6_0 := F4_0.other W5 (Or.inr (slot_ne (Or.inr (hw _ (List.mem_of_getElem? (i := 54) rfl))) (Or.inr (hw _ (List.mem_of_getElem? (i := 58) rfl))) (by decide) (t := .object "java/lang/String") (t' := .int) (by decide) (by decide)))
  have F6_1 := F4_1.other W5 (Or.inr (slot_ne (Or.inr (hw _ (List.mem_of_getElem? (i := 56) rfl))) (Or.inr (hw _ (List.mem_of_getElem? (i := 58) rfl))) (by decide) (t := .object "java/lang/String") (t' := .int) (by decide) (by decide)))
  have F6_2 := F4_2.same W5
  have F6_3 := F4_3.other W5 (Or.inr (slot_ne (Or.inr (hw _ (List.mem_of_getElem? (i := 60) rfl))) (Or.inr (hw _ (List.mem_of_getElem? (i := 58) rfl))) (by decide) (t := .object "java/time/Duration") (t' := .int) (by decide) (by decide)))
  have F6_4 := F4_4.other W5 (Or.inr (slot_ne (Or.inr (hw _ (List.mem_of_getElem? (i := 62) rfl))) (Or.inr (hw _ (List.mem_of_getElem? (i := 58) rfl))) (by decide) (t := .object "com/example/baklog/baklog/Priority") (t' := .int) (by decide) (by decide)))
  have F6_5 := F4_5.other W5 (Or.inr (slot_ne (Or.inr (hw _ (List.mem_of_getElem? (i := 64) rfl))) (Or.inr (hw _ (List.mem_of_getElem? (i := 58) rfl))) (by decide) (t := .object "java/time/Instant") (t' := .int) (by decide) (by decide)))
  have X6_6 := X4_6.wr W5
  refine Go.aloadN K ji_19 rfl rfl ?_
  refine Go.aload K ji_20 rfl rfl ?_
  refine Go.putF K (hw _ (List.mem_of_getElem? (i := 59) rfl)) Via.refl F6_3 X6_6 (Or.inr ⟨(hw _ (List.mem_of_getElem? (i := 60) rfl)), rfl, rfl⟩) (hw _ (List.mem_of_getElem? (i := 42) rfl)) (ty := .object "java/time/Duration") (by decide) rfl rfl (Sf.exa X6_6 (by decide) (by decide)) ji_22 (fun h7 W7 => ?_)
  have F8_0 := F6_0.other W7 (Or.inr (slot_ne (Or.inr (hw _ (List.mem_of_getElem? (i := 54) rfl))) (Or.inr (hw _ (List.mem_of_getElem? (i := 60) rfl))) (by decide) (t := .object "java/lang/String") (t' := .object "java/time/Duration") (by decide) (by decide)))
  have F8_1 := F6_1.other W7 (Or.inr (slot_ne (Or.inr (hw _ (List.mem_of_getElem? (i := 56) rfl))) (Or.inr (hw _ (List.mem_of_getElem? (i := 60) rfl))) (by decide) (t := .object "java/lang/String") (t' := .object "java/time/Duration") (by decide) (by decide)))
  have F8_2 := F6_2.other W7 (Or.inr (slot_ne (Or.inr (hw _ (List.mem_of_getElem? (i := 58) rfl))) (Or.inr (hw _ (List.mem_of_getElem? (i := 60) rfl))) (by decide) (t := .int) (t' := .object "java/time/Duration") (by decide) (by decide)))
  have F8_3 := F6_3.same W7
  have F8_4 := F6_4.other W7 (Or.inr (slot_ne (Or.inr (hw _ (List.mem_of_getElem? (i := 62) rfl))) (Or.inr (hw _ (List.mem_of_getElem? (i := 60) rfl))) (by decide) (t := .object "com/example/baklog/baklog/Priority") (t' := .object "java/time/Duration") (by decide) (by decide)))
  have F8_5 := F6_5.other W7 (Or.inr (slot_ne (Or.inr (hw _ (List.mem_of_getElem? (i := 64) rfl))) (Or.inr (hw _ (List.mem_of_getElem? (i := 60) rfl))) (by decide) (t := .object "java/time/Instant") (t' := .object "java/time/Duration") (by decide) (by decide)))
  have X8_6 := X6_6.wr W7
  refine Go.aloadN K ji_25 rfl rfl ?_
  refine Go.aload K ji_26 rfl rfl ?_
  refine Go.putF K (hw _ (List.mem_of_getElem? (i := 61) rfl)) Via.refl F8_4 X8_6 (Or.inr ⟨(hw _ (List.mem_of_getElem? (i := 62) rfl)), rfl, rfl⟩) (hw _ (List.mem_of_getElem? (i := 42) rfl)) (ty := .object "com/example/baklog/baklog/Priority") (by decide) rfl rfl (Sf.exa X8_6 (by decide) (by decide)) ji_28 (fun h9 W9 => ?_)
  have F10_0 := F8_0.other W9 (Or.inr (slot_ne (Or.inr (hw _ (List.mem_of_getElem? (i := 54) rfl))) (Or.inr (hw _ (List.mem_of_getElem? (i := 62) rfl))) (by decide) (t := .object "java/lang/String") (t' := .object "com/example/baklog/baklog/Priority") (by decide) (by decide)))
  have F10_1 := F8_1.other W9 (Or.inr (slot_ne (Or.inr (hw _ (List.mem_of_getElem? (i := 56) rfl))) (Or.inr (hw _ (List.mem_of_getElem? (i := 62) rfl))) (by decide) (t := .object "java/lang/String") (t' := .object "com/example/baklog/baklog/Priority") (by decide) (by decide)))
  have F10_2 := F8_2.other W9 (Or.inr (slot_ne (Or.inr (hw _ (List.mem_of_getElem? (i := 58) rfl))) (Or.inr (hw _ (List.mem_of_getElem? (i := 62) rfl))) (by decide) (t := .int) (t' := .object "com/example/baklog/baklog/Priority") (by decide) (by decide)))
  have F10_3 := F8_3.other W9 (Or.inr (slot_ne (Or.inr (hw _ (List.mem_of_getElem? (i := 60) rfl))) (Or.inr (hw _ (List.mem_of_getElem? (i := 62) rfl))) (by decide) (t := .object "java/time/Duration") (t' := .object "com/example/baklog/baklog/Priority") (by decide) (by decide)))
  have F10_4 := F8_4.same W9
  have F10_5 := F8_5.other W9 (Or.inr (slot_ne (Or.inr (hw _ (List.mem_of_getElem? (i := 64) rfl))) (Or.inr (hw _ (List.mem_of_getElem? (i := 62) rfl))) (by decide) (t := .object "java/time/Instant") (t' := .object "com/example/baklog/baklog/Priority") (by decide) (by decide)))
  have X10_6 := X8_6.wr W9
  refine Go.aloadN K ji_31 rfl rfl ?_
  refine Go.aload K ji_32 rfl rfl ?_
  refine Go.putF K (hw _ (List.mem_of_getElem? (i := 63) rfl)) Via.refl F10_5 X10_6 (Or.inr ⟨(hw _ (List.mem_of_getElem? (i := 64) rfl)), rfl, rfl⟩) (hw _ (List.mem_of_getElem? (i := 42) rfl)) (ty := .object "java/time/Instant") (by decide) rfl rfl (Sf.exa X10_6 (by decide) (by decide)) ji_34 (fun h11 W11 => ?_)
  have F12_0 := F10_0.other W11 (Or.inr (slot_ne (Or.inr (hw _ (List.mem_of_getElem? (i := 54) rfl))) (Or.inr (hw _ (List.mem_of_getElem? (i := 64) rfl))) (by decide) (t := .object "java/lang/String") (t' := .object "java/time/Instant") (by decide) (by decide)))
  have F12_1 := F10_1.other W11 (Or.inr (slot_ne (Or.inr (hw _ (List.mem_of_getElem? (i := 56) rfl))) (Or.inr (hw _ (List.mem_of_getElem? (i := 64) rfl))) (by decide) (t := .object "java/lang/String") (t' := .object "java/time/Instant") (by decide) (by decide)))
  have F12_2 := F10_2.other W11 (Or.inr (slot_ne (Or.inr (hw _ (List.mem_of_getElem? (i := 58) rfl))) (Or.inr (hw _ (List.mem_of_getElem? (i := 64) rfl))) (by decide) (t := .int) (t' := .object "java/time/Instant") (by decide) (by decide)))
  have F12_3 := F10_3.other W11 (Or.inr (slot_ne (Or.inr (hw _ (List.mem_of_getElem? (i := 60) rfl))) (Or.inr (hw _ (List.mem_of_getElem? (i := 64) rfl))) (by decide) (t := .object "java/time/Duration") (t' := .object "java/time/Instant") (by decide) (by decide)))
  have F12_4 := F10_4.other W11 (Or.inr (slot_ne (Or.inr (hw _ (List.mem_of_getElem? (i := 62) rfl))) (Or.inr (hw _ (List.mem_of_getElem? (i := 64) rfl))) (by decide) (t := .object "com/example/baklog/baklog/Priority") (t' := .object "java/time/Instant") (by decide) (by decide)))
  have F12_5 := F10_5.same W11
  have X12_6 := X10_6.wr W11
  exact Go.vret K hE ji_37 (Nat.zero_le _) (Nat.zero_le _) (A := []) nofun rfl ⟨rfl, rfl, (Fr.s (Fr.s (Fr.s (Fr.s (Fr.s (Fr.s (Fr.nil n0) ho) ho) ho) ho) ho) ho), (((((((Keep.refl h [o]).wr W1 (Or.inl (List.mem_cons_self ..))).wr W3 (Or.inl (List.mem_cons_self ..))).wr W5 (Or.inl (List.mem_cons_self ..))).wr W7 (Or.inl (List.mem_cons_self ..))).wr W9 (Or.inl (List.mem_cons_self ..))).wr W11 (Or.inl (List.mem_cons_self ..))), X12_6, F12_0, F12_1, F12_2, F12_3, F12_4⟩

set_option maxRecDepth 65536 in
set_option maxHeartbeats 40000000 in
theorem kJO (l : Launch) (Z : State) (a0 : Array Value) (hw : ∀ d ∈ tables_1, d.before a0 Z = true) (h : Heap) (n0 : Nat) (X : Old Z n0 h) (hv pv : Value) (hhv : hv.isRef = true) (hpv : pv.isRef = true) (bk pr : Addr) (S1 : Sta Z Z.heap "com/example/baklog/baklog/JobRequest" "DEFAULT_BACKOFF" "Ljava/time/Duration;" (.ref bk)) (S2 : Sta Z Z.heap "com/example/baklog/baklog/JobRequest" "DEFAULT_PRIORITY" "Lcom/example/baklog/baklog/Priority;" (.ref pr)) :
    Ctr true l Z EL1 (⟨"com/example/baklog/baklog/JobRequest", "of", "(Ljava/lang/String;Ljava/lang/String;)Lcom/example/baklog/baklog/JobRequest;"⟩ : MethodName) prog_7_method_2_code 2 (some (.object "com/example/baklog/baklog/JobRequest")) [] ({ frames := 2, cells := 1, slots := 6, locals := 60 } : Room) #[hv, pv] h [] (fun v h' L A => ∃ o, v = some (.ref o) ∧ A = [] ∧ Fr n0 L ∧ Old Z n0 h' ∧ Exa Z h' o "com/example/baklog/baklog/JobRequest" ∧ Fld Z h' o "com/example/baklog/baklog/JobRequest" "handler" "Ljava/lang/String;" (hv) ∧ Fld Z h' o "com/example/baklog/baklog/JobRequest" "payload" "Ljava/lang/String;" (pv) ∧ Fld Z h' o "com/example/baklog/baklog/JobRequest" "maxAttempts" "I" (.int 3) ∧ Fld Z h' o "com/example/baklog/baklog/JobRequest" "backoff" "Ljava/time/Duration;" (.ref bk) ∧ Fld Z h' o "com/example/baklog/baklog/JobRequest" "priority" "Lcom/example/baklog/baklog/Priority;" (.ref pr)) := by
  have hEW : EW Z a0 EL1 := el1 hw
  have hE : true = true ∧ EW Z a0 EL1 ∨ EL1 = [] := Or.inl ⟨rfl, hEW⟩
  refine Ctr.of (y := (⟨"com/example/baklog/baklog/JobRequest", "of", "(Ljava/lang/String;Ljava/lang/String;)Lcom/example/baklog/baklog/JobRequest;"⟩ : MethodName)) pn_4 (efO · hv pv hhv hpv) fun p e s m below meth c K => ?_
  refine Go.newO K (hw _ (List.mem_of_getElem? (i := 41) rfl)) (hw _ (List.mem_of_getElem? (i := 42) rfl)) (hw _ (List.mem_of_getElem? (i := 39) rfl)) jo_0 (by decide) (by decide) (fun h1 E1 ⟨X1, D1⟩ => ?_)
  have F1_0 : Fld Z h1 h.size "com/example/baklog/baklog/JobRequest" "handler" "Ljava/lang/String;" (.null) := D1 (Or.inr (hw _ (List.mem_of_getElem? (i := 54) rfl))) (ty := .object "java/lang/String") (by decide)
  have F1_1 : Fld Z h1 h.size "com/example/baklog/baklog/JobRequest" "payload" "Ljava/lang/String;" (.null) := D1 (Or.inr (hw _ (List.mem_of_getElem? (i := 56) rfl))) (ty := .object "java/lang/String") (by decide)
  have F1_2 : Fld Z h1 h.size "com/example/baklog/baklog/JobRequest" "maxAttempts" "I" (.int 0) := D1 (Or.inr (hw _ (List.mem_of_getElem? (i := 58) rfl))) (ty := .int) (by decide)
  have F1_3 : Fld Z h1 h.size "com/example/baklog/baklog/JobRequest" "backoff" "Ljava/time/Duration;" (.null) := D1 (Or.inr (hw _ (List.mem_of_getElem? (i := 60) rfl))) (ty := .object "java/time/Duration") (by decide)
  have F1_4 : Fld Z h1 h.size "com/example/baklog/baklog/JobRequest" "priority" "Lcom/example/baklog/baklog/Priority;" (.null) := D1 (Or.inr (hw _ (List.mem_of_getElem? (i := 62) rfl))) (ty := .object "com/example/baklog/baklog/Priority") (by decide)
  have F1_5 : Fld Z h1 h.size "com/example/baklog/baklog/JobRequest" "runAt" "Ljava/time/Instant;" (.null) := D1 (Or.inr (hw _ (List.mem_of_getElem? (i := 64) rfl))) (ty := .object "java/time/Instant") (by decide)
  have O2 := X.ext E1
  obtain ⟨x1, g1⟩ : ∃ z, z = h.size := ⟨_, rfl⟩
  rw [← g1] at X1 F1_0 F1_1 F1_2 F1_3 F1_4 F1_5 ⊢
  have qa1 : n0 ≤ x1 := by rw [g1]; exact Old.le X
  refine Go.dup K jo_3 rfl ?_
  refine Go.aloadN K jo_4 rfl hhv ?_
  refine Go.aloadN K jo_5 rfl hpv ?_
  refine Go.iconst K jo_6 (3) (by first | rfl | decide) ?_
  refine Go.getS K (hw _ (List.mem_of_getElem? (i := 43) rfl)) Via.refl (S1.ext O2.2) jo_7 ?_
  refine Go.getS K (hw _ (List.mem_of_getElem? (i := 45) rfl)) Via.refl (S2.ext O2.2) jo_10 ?_
  refine Go.aconstNull K jo_13 ?_
  refine Go.call K hE (Inv.special (argsL := [hv, pv, .int 3, .ref bk, .ref pr, .null]) (S := [.ref x1]) K.1 rfl (hw _ (List.mem_of_getElem? (i := 49) rfl)) (hw _ (List.mem_of_getElem? (i := 50) rfl)) (hw _ (List.mem_of_getElem? (i := 51) rfl)) (by decide) (lenOf pd_7 rfl) (hb K.2.1 jo_14.1)) (kJI l Z a0 hw _ n0 x1 qa1 hv pv hhv hpv bk pr X1 F1_0 F1_1 F1_2 F1_3 F1_4 F1_5) nofun (hw _ (List.mem_of_getElem? (i := 51) rfl)) (hw _ (List.mem_of_getElem? (i := 39) rfl)) jo_14.1 rfl (by decide) (Nat.le_of_ble_eq_true rfl) (by decide) (by decide) ?_
  rintro _ h3 L3 _ ⟨rfl, rfl, N3, K3, q0, q1, q2, q3, q4, q5⟩
  show Go true p l e _ s m _ below meth c Z EL1 _ _ _ (mkF m 17 _ [.ref x1]) _ _ _ _
  have X4_0 := X1.keep K3
  have O4 := O2.keep K3 (fun y q => by simp only [List.mem_cons, List.not_mem_nil, or_false] at q; subst q; exact qa1)
  exact Go.aret K hE jo_17 rfl rfl (by decide) (by decide) (A := []) nofun ⟨x1, rfl, rfl, by simpa using ((Fr.nil n0).app N3), O4, q0, q1, q2, q3, q4, q5⟩
theorem ef_10 (m : MethodId) (o : Addr) : entryFrame m #[.ref o] 1 = mkF m 0 #[.val (.ref o)] [] := by first | (simp [entryFrame, mkF, argsToLocals, Value.category]; done) | rfl
set_option maxRecDepth 65536 in
set_option maxHeartbeats 40000000 in
theorem kA0 (l : Launch) (Z : State) (a0 : Array Value) (hw : ∀ d ∈ tables_1, d.before a0 Z = true) (h : Heap) (o : Addr) (u : Value) (hu : u.isRef = true) (F : Fld Z h o "com/example/baklog/baklog/JobRequest" "handler" "Ljava/lang/String;" (u)) :
    Ctr true l Z EL1 (⟨"com/example/baklog/baklog/JobRequest", "handler", "()Ljava/lang/String;"⟩ : MethodName) prog_7_method_7_code 1 (some (.object "java/lang/String")) [] ({ frames := 0, cells := 0, slots := 0, locals := 0 } : Room) #[.ref o] h [] (fun v h' L A => v = some (u) ∧ h' = h ∧ L = [] ∧ A = []) := by
  have hEW : EW Z a0 EL1 := el1 hw
  have hE : true = true ∧ EW Z a0 EL1 ∨ EL1 = [] := Or.inl ⟨rfl, hEW⟩
  refine Ctr.of (y := (⟨"com/example/baklog/baklog/JobRequest", "handler", "()Ljava/lang/String;"⟩ : MethodName)) pn_4 (ef_10 · o) fun p e s m below meth c K => ?_
  refine Go.aloadN K ac0_0 rfl rfl ?_
  refine Go.getF K (hw _ (List.mem_of_getElem? (i := 53) rfl)) Via.refl F ac0_1 ?_
  exact Go.aret K hE ac0_4 rfl hu (Nat.zero_le _) (Nat.zero_le _) (A := []) nofun ⟨rfl, rfl, rfl, rfl⟩
theorem ef_11 (m : MethodId) (o : Addr) : entryFrame m #[.ref o] 1 = mkF m 0 #[.val (.ref o)] [] := by first | (simp [entryFrame, mkF, argsToLocals, Value.category]; done) | rfl
set_option maxRecDepth 65536 in
set_option maxHeartbeats 40000000 in
theorem kA1 (l : Launch) (Z : State) (a0 : Array Value) (hw : ∀ d ∈ tables_1, d.before a0 Z = true) (h : Heap) (o : Addr) (u : Value) (hu : u.isRef = true) (F : Fld Z h o "com/example/baklog/baklog/JobRequest" "payload" "Ljava/lang/String;" (u)) :
    Ctr true l Z EL1 (⟨"com/example/baklog/baklog/JobRequest", "payload", "()Ljava/lang/String;"⟩ : MethodName) prog_7_method_8_code 1 (some (.object "java/lang/String")) [] ({ frames := 0, cells := 0, slots := 0, locals := 0 } : Room) #[.ref o] h [] (fun v h' L A => v = some (u) ∧ h' = h ∧ L = [] ∧ A = []) := by
  have hEW : EW Z a0 EL1 := el1 hw
  have hE : true = true ∧ EW Z a0 EL1 ∨ EL1 = [] := Or.inl ⟨rfl, hEW⟩
  refine Ctr.of (y := (⟨"com/example/baklog/baklog/JobRequest", "payload", "()Ljava/lang/String;"⟩ : MethodName)) pn_4 (ef_11 · o) fun p e s m below meth c K => ?_
  refine Go.aloadN K ac1_0 rfl rfl ?_
  refine Go.getF K (hw _ (List.mem_of_getElem? (i := 55) rfl)) Via.refl F ac1_1 ?_
  exact Go.aret K hE ac1_4 rfl hu (Nat.zero_le _) (Nat.zero_le _) (A := []) nofun ⟨rfl, rfl, rfl, rfl⟩
theorem ef_12 (m : MethodId) (o : Addr) : entryFrame m #[.ref o] 1 = mkF m 0 #[.val (.ref o)] [] := by first | (simp [entryFrame, mkF, argsToLocals, Value.category]; done) | rfl
set_option maxRecDepth 65536 in
set_option maxHeartbeats 40000000 in
theorem kA2 (l : Launch) (Z : State) (a0 : Array Value) (hw : ∀ d ∈ tables_1, d.before a0 Z = true) (h : Heap) (o : Addr) (F : Fld Z h o "com/example/baklog/baklog/JobRequest" "maxAttempts" "I" (.int 3)) :
    Ctr true l Z EL1 (⟨"com/example/baklog/baklog/JobRequest", "maxAttempts", "()I"⟩ : MethodName) prog_7_method_9_code 1 (some (.int)) [] ({ frames := 0, cells := 0, slots := 0, locals := 0 } : Room) #[.ref o] h [] (fun v h' L A => v = some (.int 3) ∧ h' = h ∧ L = [] ∧ A = []) := by
  have hEW : EW Z a0 EL1 := el1 hw
  have hE : true = true ∧ EW Z a0 EL1 ∨ EL1 = [] := Or.inl ⟨rfl, hEW⟩
  refine Ctr.of (y := (⟨"com/example/baklog/baklog/JobRequest", "maxAttempts", "()I"⟩ : MethodName)) pn_4 (ef_12 · o) fun p e s m below meth c K => ?_
  refine Go.aloadN K ac2_0 rfl rfl ?_
  refine Go.getF K (hw _ (List.mem_of_getElem? (i := 57) rfl)) Via.refl F ac2_1 ?_
  exact Go.iret K hE ac2_4 (Nat.zero_le _) (Nat.zero_le _) (A := []) nofun ⟨rfl, rfl, rfl, rfl⟩
theorem ef_13 (m : MethodId) (o : Addr) : entryFrame m #[.ref o] 1 = mkF m 0 #[.val (.ref o)] [] := by first | (simp [entryFrame, mkF, argsToLocals, Value.category]; done) | rfl
set_option maxRecDepth 65536 in
set_option maxHeartbeats 40000000 in
theorem kA3 (l : Launch) (Z : State) (a0 : Array Value) (hw : ∀ d ∈ tables_1, d.before a0 Z = true) (h : Heap) (o : Addr) (u : Value) (hu : u.isRef = true) (F : Fld Z h o "com/example/baklog/baklog/JobRequest" "backoff" "Ljava/time/Duration;" (u)) :
    Ctr true l Z EL1 (⟨"com/example/baklog/baklog/JobRequest", "backoff", "()Ljava/time/Duration;"⟩ : MethodName) prog_7_method_10_code 1 (some (.object "java/time/Duration")) [] ({ frames := 0, cells := 0, slots := 0, locals := 0 } : Room) #[.ref o] h [] (fun v h' L A => v = some (u) ∧ h' = h ∧ L = [] ∧ A = []) := by
  have hEW : EW Z a0 EL1 := el1 hw
  have hE : true = true ∧ EW Z a0 EL1 ∨ EL1 = [] := Or.inl ⟨rfl, hEW⟩
  refine Ctr.of (y := (⟨"com/example/baklog/baklog/JobRequest", "backoff", "()Ljava/time/Duration;"⟩ : MethodName)) pn_4 (ef_13 · o) fun p e s m below meth c K => ?_
  refine Go.aloadN K ac3_0 rfl rfl ?_
  refine Go.getF K (hw _ (List.mem_of_getElem? (i := 59) rfl)) Via.refl F ac3_1 ?_
  exact Go.aret K hE ac3_4 rfl hu (Nat.zero_le _) (Nat.zero_le _) (A := []) nofun ⟨rfl, rfl, rfl, rfl⟩
theorem ef_14 (m : MethodId) (o : Addr) : entryFrame m #[.ref o] 1 = mkF m 0 #[.val (.ref o)] [] := by first | (simp [entryFrame, mkF, argsToLocals, Value.category]; done) | rfl
set_option maxRecDepth 65536 in
set_option maxHeartbeats 40000000 in
theorem kA4 (l : Launch) (Z : State) (a0 : Array Value) (hw : ∀ d ∈ tables_1, d.before a0 Z = true) (h : Heap) (o : Addr) (u : Value) (hu : u.isRef = true) (F : Fld Z h o "com/example/baklog/baklog/JobRequest" "priority" "Lcom/example/baklog/baklog/Priority;" (u)) :
    Ctr true l Z EL1 (⟨"com/example/baklog/baklog/JobRequest", "priority", "()Lcom/example/baklog/baklog/Priority;"⟩ : MethodName) prog_7_method_11_code 1 (some (.object "com/example/baklog/baklog/Priority")) [] ({ frames := 0, cells := 0, slots := 0, locals := 0 } : Room) #[.ref o] h [] (fun v h' L A => v = some (u) ∧ h' = h ∧ L = [] ∧ A = []) := by
  have hEW : EW Z a0 EL1 := el1 hw
  have hE : true = true ∧ EW Z a0 EL1 ∨ EL1 = [] := Or.inl ⟨rfl, hEW⟩
  refine Ctr.of (y := (⟨"com/example/baklog/baklog/JobRequest", "priority", "()Lcom/example/baklog/baklog/Priority;"⟩ : MethodName)) pn_4 (ef_14 · o) fun p e s m below meth c K => ?_
  refine Go.aloadN K ac4_0 rfl rfl ?_
  refine Go.getF K (hw _ (List.mem_of_getElem? (i := 61) rfl)) Via.refl F ac4_1 ?_
  exact Go.aret K hE ac4_4 rfl hu (Nat.zero_le _) (Nat.zero_le _) (A := []) nofun ⟨rfl, rfl, rfl, rfl⟩
theorem ef_15 (m : MethodId) (i0 i1 i2 i3 : Int32) : entryFrame m #[.int i0, .int i1, .int i2, .int i3] maxLocals = mkF m 0 #[.val (.int i0), .val (.int i1), .val (.int i2), .val (.int i3), .unset, .unset, .unset] [] := by first | (simp [entryFrame, mkF, argsToLocals, Value.category, maxLocals]; done) | rfl
set_option maxRecDepth 65536 in
set_option maxHeartbeats 40000000 in
theorem k0 (l : Launch) (Z : State) (a0 : Array Value) (hw : ∀ d ∈ tables_1, d.before a0 Z = true) (ws : List Jvm.Cond) (h : Heap) (n0 : Nat) (X : Old Z n0 h) (z : Int32) (St : Sta Z Z.heap "java/lang/String" "COMPACT_STRINGS" "Z" (.int z)) (hz : ¬ z = 0) (bk pr : Addr) (S1 : Sta Z Z.heap "com/example/baklog/baklog/JobRequest" "DEFAULT_BACKOFF" "Ljava/time/Duration;" (.ref bk)) (S2 : Sta Z Z.heap "com/example/baklog/baklog/JobRequest" "DEFAULT_PRIORITY" "Lcom/example/baklog/baklog/Priority;" (.ref pr)) (S3 : Sta Z Z.heap "com/example/baklog/baklog/Priority" "NORMAL" "Lcom/example/baklog/baklog/Priority;" (.ref pr)) (i0 i1 i2 i3 : Int32) :
    Ctr true l Z EL1 x code maxLocals ret ws room_1 #[.int i0, .int i1, .int i2, .int i3] h [] (fun v h' L A => v = some (.int 1) ∧ Fr n0 L) := by
  have hEW : EW Z a0 EL1 := el1 hw
  have hE : true = true ∧ EW Z a0 EL1 ∨ EL1 = [] := Or.inl ⟨rfl, hEW⟩
  refine Ctr.of (y := x) pn_3 (ef_15 · i0 i1 i2 i3) fun p e s m below meth c K => ?_
  refine Go.iloadN K e0_0 rfl ?_
  refine Go.iloadN K e0_1 rfl ?_
  refine Go.call K hE (Inv.static (argsL := [.int i0, .int i1]) (S := []) K.1 (hw _ (List.mem_of_getElem? (i := 0) rfl)) (hw _ (List.mem_of_getElem? (i := 1) rfl)) (hw _ (List.mem_of_getElem? (i := 2) rfl)) (hw _ (List.mem_of_getElem? (i := 3) rfl)) (by decide) (lenOf pd_8 rfl) (hb K.2.1 at_2)) (kDraw l Z a0 hw _ n0 X z St hz _ _) nofun (hw _ (List.mem_of_getElem? (i := 3) rfl)) (hw _ (List.mem_of_getElem? (i := 2) rfl)) at_2 rfl (by decide) (Nat.le_of_ble_eq_true rfl) (by decide) (by decide) ?_
  rintro _ h1 L1 _ ⟨te1, rfl, hte1, N1, O1, rfl⟩
  rcases hte1 with rfl | ⟨a1, rfl⟩
  · show Go true p l e _ s m _ below meth c Z EL1 _ _ _ (mkF m 5 _ [.null]) _ _ _ _
    refine Go.astore K #[.val (.int i0), .val (.int i1), .val (.int i2), .val (.int i3), .val (.null), .unset, .unset] e0_5 rfl rfl ?_
    refine Go.iloadN K e0_7 rfl ?_
    refine Go.iloadN K e0_8 rfl ?_
    refine Go.call K hE (Inv.static (argsL := [.int i2, .int i3]) (S := []) K.1 (hw _ (List.mem_of_getElem? (i := 0) rfl)) (hw _ (List.mem_of_getElem? (i := 1) rfl)) (hw _ (List.mem_of_getElem? (i := 2) rfl)) (hw _ (List.mem_of_getElem? (i := 3) rfl)) (by decide) (lenOf pd_8 rfl) (hb K.2.1 at_9)) (kDraw l Z a0 hw _ n0 O1 z St hz _ _) nofun (hw _ (List.mem_of_getElem? (i := 3) rfl)) (hw _ (List.mem_of_getElem? (i := 2) rfl)) at_9 rfl (by decide) (Nat.le_of_ble_eq_true rfl) (by decide) (by decide) ?_
    rintro _ h2 L2 _ ⟨te2, rfl, hte2, N2, O2, rfl⟩
    rcases hte2 with rfl | ⟨a2, rfl⟩
    · show Go true p l e _ s m _ below meth c Z EL1 _ _ _ (mkF m 12 _ [.null]) _ _ _ _
      refine Go.astore K #[.val (.int i0), .val (.int i1), .val (.int i2), .val (.int i3), .val (.null), .val (.null), .unset] e0_12 rfl rfl ?_
      refine Go.aload K e0_14 rfl rfl ?_
      refine Go.aload K e0_16 rfl rfl ?_
      refine Go.call K hE (Inv.static (argsL := [.null, .null]) (S := []) K.1 (hw _ (List.mem_of_getElem? (i := 37) rfl)) (hw _ (List.mem_of_getElem? (i := 38) rfl)) (hw _ (List.mem_of_getElem? (i := 39) rfl)) (hw _ (List.mem_of_getElem? (i := 40) rfl)) (by decide) (lenOf pd_9 rfl) (hb K.2.1 at_18)) (kJO l Z a0 hw _ n0 O2 (.null) (.null) rfl rfl bk pr S1 S2) nofun (hw _ (List.mem_of_getElem? (i := 40) rfl)) (hw _ (List.mem_of_getElem? (i := 39) rfl)) at_18 rfl (by decide) (Nat.le_of_ble_eq_true rfl) (by decide) (by decide) ?_
      rintro _ h3 L3 _ ⟨o, rfl, rfl, N3, O3, q0, q1, q2, q3, q4, q5⟩
      show Go true p l e _ s m _ below meth c Z EL1 _ _ _ (mkF m 21 _ [.ref o]) _ _ _ _
      refine Go.astore K #[.val (.int i0), .val (.int i1), .val (.int i2), .val (.int i3), .val (.null), .val (.null), .val (.ref o)] e0_21 rfl rfl ?_
      refine Go.aload K e0_23 rfl rfl ?_
      refine Go.ifnonnullY K e0_25 ?_
      refine Go.aload K e0_30 rfl rfl ?_
      refine Go.call K hE (Inv.virtual (argsL := []) (S := []) K.1 (hw _ (List.mem_of_getElem? (i := 65) rfl)) (hw _ (List.mem_of_getElem? (i := 66) rfl)) (Inv.nf (hw _ (List.mem_of_getElem? (i := 68) rfl))) (hw _ (List.mem_of_getElem? (i := 68) rfl)) (hw _ (List.mem_of_getElem? (i := 67) rfl)) (by decide) q0 (lenOf pd_10 rfl) (hb K.2.1 at_32)) (kA0 l Z a0 hw _ o (.null) rfl q1) nofun (hw _ (List.mem_of_getElem? (i := 69) rfl)) (hw _ (List.mem_of_getElem? (i := 39) rfl)) at_32 rfl (by decide) (Nat.le_of_ble_eq_true rfl) (by decide) (by decide) ?_
      rintro _ hq _ _ ⟨rfl, eh, rfl, rfl⟩
      subst hq
      show Go true p l e _ s m _ below meth c Z EL1 _ _ _ (mkF m 35 _ [.null]) _ _ _ _
      refine Go.aload K e0_35 rfl rfl ?_
      refine Go.acmp K rfl rfl e0_37 (fun q => absurd q (by simp)) (fun _ => ?_)
      refine Go.aload K e0_40 rfl rfl ?_
      refine Go.call K hE (Inv.virtual (argsL := []) (S := []) K.1 (hw _ (List.mem_of_getElem? (i := 70) rfl)) (hw _ (List.mem_of_getElem? (i := 71) rfl)) (Inv.nf (hw _ (List.mem_of_getElem? (i := 73) rfl))) (hw _ (List.mem_of_getElem? (i := 73) rfl)) (hw _ (List.mem_of_getElem? (i := 72) rfl)) (by decide) q0 (lenOf pd_10 rfl) (hb K.2.1 at_42)) (kA1 l Z a0 hw _ o (.null) rfl q2) nofun (hw _ (List.mem_of_getElem? (i := 74) rfl)) (hw _ (List.mem_of_getElem? (i := 39) rfl)) at_42 rfl (by decide) (Nat.le_of_ble_eq_true rfl) (by decide) (by decide) ?_
      rintro _ hq _ _ ⟨rfl, eh, rfl, rfl⟩
      subst hq
      show Go true p l e _ s m _ below meth c Z EL1 _ _ _ (mkF m 45 _ [.null]) _ _ _ _
      refine Go.aload K e0_45 rfl rfl ?_
      refine Go.acmp K rfl rfl e0_47 (fun q => absurd q (by simp)) (fun _ => ?_)
      refine Go.aload K e0_50 rfl rfl ?_
      refine Go.call K hE (Inv.virtual (argsL := []) (S := []) K.1 (hw _ (List.mem_of_getElem? (i := 75) rfl)) (hw _ (List.mem_of_getElem? (i := 76) rfl)) (Inv.nf (hw _ (List.mem_of_getElem? (i := 78) rfl))) (hw _ (List.mem_of_getElem? (i := 78) rfl)) (hw _ (List.mem_of_getElem? (i := 77) rfl)) (by decide) q0 (lenOf pd_11 rfl) (hb K.2.1 at_52)) (kA2 l Z a0 hw _ o q3) nofun (hw _ (List.mem_of_getElem? (i := 79) rfl)) (hw _ (List.mem_of_getElem? (i := 39) rfl)) at_52 rfl (by decide) (Nat.le_of_ble_eq_true rfl) (by decide) (by decide) ?_
      rintro _ hq _ _ ⟨rfl, eh, rfl, rfl⟩
      subst hq
      show Go true p l e _ s m _ below meth c Z EL1 _ _ _ (mkF m 55 _ [.int 3]) _ _ _ _
      refine Go.iconst K e0_55 (3) (by first | rfl | decide) ?_
      refine Go.icmp K e0_56 (fun (c56 : ¬ (3 : Int32) = (3 : Int32)) => ?_) (fun (c56 : (3 : Int32) = (3 : Int32)) => ?_)
      · exact absurd rfl c56
      · refine Go.aload K e0_59 rfl rfl ?_
        refine Go.call K hE (Inv.virtual (argsL := []) (S := []) K.1 (hw _ (List.mem_of_getElem? (i := 80) rfl)) (hw _ (List.mem_of_getElem? (i := 81) rfl)) (Inv.nf (hw _ (List.mem_of_getElem? (i := 83) rfl))) (hw _ (List.mem_of_getElem? (i := 83) rfl)) (hw _ (List.mem_of_getElem? (i := 82) rfl)) (by decide) q0 (lenOf pd_12 rfl) (hb K.2.1 at_61)) (kA4 l Z a0 hw _ o (.ref pr) rfl q5) nofun (hw _ (List.mem_of_getElem? (i := 84) rfl)) (hw _ (List.mem_of_getElem? (i := 39) rfl)) at_61 rfl (by decide) (Nat.le_of_ble_eq_true rfl) (by decide) (by decide) ?_
        rintro _ hq _ _ ⟨rfl, eh, rfl, rfl⟩
        subst hq
        show Go true p l e _ s m _ below meth c Z EL1 _ _ _ (mkF m 64 _ [.ref pr]) _ _ _ _
        refine Go.getS K (hw _ (List.mem_of_getElem? (i := 85) rfl)) Via.refl (S3.ext O3.2) e0_64 ?_
        refine Go.acmp K rfl rfl e0_67 (fun q => absurd q (by simp)) (fun _ => ?_)
        refine Go.aload K e0_70 rfl rfl ?_
        refine Go.call K hE (Inv.virtual (argsL := []) (S := []) K.1 (hw _ (List.mem_of_getElem? (i := 86) rfl)) (hw _ (List.mem_of_getElem? (i := 87) rfl)) (Inv.nf (hw _ (List.mem_of_getElem? (i := 89) rfl))) (hw _ (List.mem_of_getElem? (i := 89) rfl)) (hw _ (List.mem_of_getElem? (i := 88) rfl)) (by decide) q0 (lenOf pd_13 rfl) (hb K.2.1 at_72)) (kA3 l Z a0 hw _ o (.ref bk) rfl q4) nofun (hw _ (List.mem_of_getElem? (i := 90) rfl)) (hw _ (List.mem_of_getElem? (i := 39) rfl)) at_72 rfl (by decide) (Nat.le_of_ble_eq_true rfl) (by decide) (by decide) ?_
        rintro _ hq _ _ ⟨rfl, eh, rfl, rfl⟩
        subst hq
        show Go true p l e _ s m _ below meth c Z EL1 _ _ _ (mkF m 75 _ [.ref bk]) _ _ _ _
        refine Go.ifnullN K e0_75 ?_
        refine Go.iconst K e0_78 (1) (by first | rfl | decide) ?_
        refine Go.goto K e0_79 ?_
        exact Go.nret K hE e0_83 (Or.inl rfl) (by decide) (by decide) (A := []) nofun ⟨rfl, by simpa using ((((Fr.nil n0).app N1).app N2).app N3)⟩
    · show Go true p l e _ s m _ below meth c Z EL1 _ _ _ (mkF m 12 _ [.ref a2]) _ _ _ _
      refine Go.astore K #[.val (.int i0), .val (.int i1), .val (.int i2), .val (.int i3), .val (.null), .val (.ref a2), .unset] e0_12 rfl rfl ?_
      refine Go.aload K e0_14 rfl rfl ?_
      refine Go.aload K e0_16 rfl rfl ?_
      refine Go.call K hE (Inv.static (argsL := [.null, .ref a2]) (S := []) K.1 (hw _ (List.mem_of_getElem? (i := 37) rfl)) (hw _ (List.mem_of_getElem? (i := 38) rfl)) (hw _ (List.mem_of_getElem? (i := 39) rfl)) (hw _ (List.mem_of_getElem? (i := 40) rfl)) (by decide) (lenOf pd_9 rfl) (hb K.2.1 at_18)) (kJO l Z a0 hw _ n0 O2 (.null) (.ref a2) rfl rfl bk pr S1 S2) nofun (hw _ (List.mem_of_getElem? (i := 40) rfl)) (hw _ (List.mem_of_getElem? (i := 39) rfl)) at_18 rfl (by decide) (Nat.le_of_ble_eq_true rfl) (by decide) (by decide) ?_
      rintro _ h4 L4 _ ⟨o, rfl, rfl, N4, O4, q0, q1, q2, q3, q4, q5⟩
      show Go true p l e _ s m _ below meth c Z EL1 _ _ _ (mkF m 21 _ [.ref o]) _ _ _ _
      refine Go.astore K #[.val (.int i0), .val (.int i1), .val (.int i2), .val (.int i3), .val (.null), .val (.ref a2), .val (.ref o)] e0_21 rfl rfl ?_
      refine Go.aload K e0_23 rfl rfl ?_
      refine Go.ifnonnullY K e0_25 ?_
      refine Go.aload K e0_30 rfl rfl ?_
      refine Go.call K hE (Inv.virtual (argsL := []) (S := []) K.1 (hw _ (List.mem_of_getElem? (i := 65) rfl)) (hw _ (List.mem_of_getElem? (i := 66) rfl)) (Inv.nf (hw _ (List.mem_of_getElem? (i := 68) rfl))) (hw _ (List.mem_of_getElem? (i := 68) rfl)) (hw _ (List.mem_of_getElem? (i := 67) rfl)) (by decide) q0 (lenOf pd_10 rfl) (hb K.2.1 at_32)) (kA0 l Z a0 hw _ o (.null) rfl q1) nofun (hw _ (List.mem_of_getElem? (i := 69) rfl)) (hw _ (List.mem_of_getElem? (i := 39) rfl)) at_32 rfl (by decide) (Nat.le_of_ble_eq_true rfl) (by decide) (by decide) ?_
      rintro _ hq _ _ ⟨rfl, eh, rfl, rfl⟩
      subst hq
      show Go true p l e _ s m _ below meth c Z EL1 _ _ _ (mkF m 35 _ [.null]) _ _ _ _
      refine Go.aload K e0_35 rfl rfl ?_
      refine Go.acmp K rfl rfl e0_37 (fun q => absurd q (by simp)) (fun _ => ?_)
      refine Go.aload K e0_40 rfl rfl ?_
      refine Go.call K hE (Inv.virtual (argsL := []) (S := []) K.1 (hw _ (List.mem_of_getElem? (i := 70) rfl)) (hw _ (List.mem_of_getElem? (i := 71) rfl)) (Inv.nf (hw _ (List.mem_of_getElem? (i := 73) rfl))) (hw _ (List.mem_of_getElem? (i := 73) rfl)) (hw _ (List.mem_of_getElem? (i := 72) rfl)) (by decide) q0 (lenOf pd_10 rfl) (hb K.2.1 at_42)) (kA1 l Z a0 hw _ o (.ref a2) rfl q2) nofun (hw _ (List.mem_of_getElem? (i := 74) rfl)) (hw _ (List.mem_of_getElem? (i := 39) rfl)) at_42 rfl (by decide) (Nat.le_of_ble_eq_true rfl) (by decide) (by decide) ?_
      rintro _ hq _ _ ⟨rfl, eh, rfl, rfl⟩
      subst hq
      show Go true p l e _ s m _ below meth c Z EL1 _ _ _ (mkF m 45 _ [.ref a2]) _ _ _ _
      refine Go.aload K e0_45 rfl rfl ?_
      refine Go.acmp K rfl rfl e0_47 (fun q => absurd q (by simp)) (fun _ => ?_)
      refine Go.aload K e0_50 rfl rfl ?_
      refine Go.call K hE (Inv.virtual (argsL := []) (S := []) K.1 (hw _ (List.mem_of_getElem? (i := 75) rfl)) (hw _ (List.mem_of_getElem? (i := 76) rfl)) (Inv.nf (hw _ (List.mem_of_getElem? (i := 78) rfl))) (hw _ (List.mem_of_getElem? (i := 78) rfl)) (hw _ (List.mem_of_getElem? (i := 77) rfl)) (by decide) q0 (lenOf pd_11 rfl) (hb K.2.1 at_52)) (kA2 l Z a0 hw _ o q3) nofun (hw _ (List.mem_of_getElem? (i := 79) rfl)) (hw _ (List.mem_of_getElem? (i := 39) rfl)) at_52 rfl (by decide) (Nat.le_of_ble_eq_true rfl) (by decide) (by decide) ?_
      rintro _ hq _ _ ⟨rfl, eh, rfl, rfl⟩
      subst hq
      show Go true p l e _ s m _ below meth c Z EL1 _ _ _ (mkF m 55 _ [.int 3]) _ _ _ _
      refine Go.iconst K e0_55 (3) (by first | rfl | decide) ?_
      refine Go.icmp K e0_56 (fun (c56 : ¬ (3 : Int32) = (3 : Int32)) => ?_) (fun (c56 : (3 : Int32) = (3 : Int32)) => ?_)
      · exact absurd rfl c56
      · refine Go.aload K e0_59 rfl rfl ?_
        refine Go.call K hE (Inv.virtual (argsL := []) (S := []) K.1 (hw _ (List.mem_of_getElem? (i := 80) rfl)) (hw _ (List.mem_of_getElem? (i := 81) rfl)) (Inv.nf (hw _ (List.mem_of_getElem? (i := 83) rfl))) (hw _ (List.mem_of_getElem? (i := 83) rfl)) (hw _ (List.mem_of_getElem? (i := 82) rfl)) (by decide) q0 (lenOf pd_12 rfl) (hb K.2.1 at_61)) (kA4 l Z a0 hw _ o (.ref pr) rfl q5) nofun (hw _ (List.mem_of_getElem? (i := 84) rfl)) (hw _ (List.mem_of_getElem? (i := 39) rfl)) at_61 rfl (by decide) (Nat.le_of_ble_eq_true rfl) (by decide) (by decide) ?_
        rintro _ hq _ _ ⟨rfl, eh, rfl, rfl⟩
        subst hq
        show Go true p l e _ s m _ below meth c Z EL1 _ _ _ (mkF m 64 _ [.ref pr]) _ _ _ _
        refine Go.getS K (hw _ (List.mem_of_getElem? (i := 85) rfl)) Via.refl (S3.ext O4.2) e0_64 ?_
        refine Go.acmp K rfl rfl e0_67 (fun q => absurd q (by simp)) (fun _ => ?_)
        refine Go.aload K e0_70 rfl rfl ?_
        refine Go.call K hE (Inv.virtual (argsL := []) (S := []) K.1 (hw _ (List.mem_of_getElem? (i := 86) rfl)) (hw _ (List.mem_of_getElem? (i := 87) rfl)) (Inv.nf (hw _ (List.mem_of_getElem? (i := 89) rfl))) (hw _ (List.mem_of_getElem? (i := 89) rfl)) (hw _ (List.mem_of_getElem? (i := 88) rfl)) (by decide) q0 (lenOf pd_13 rfl) (hb K.2.1 at_72)) (kA3 l Z a0 hw _ o (.ref bk) rfl q4) nofun (hw _ (List.mem_of_getElem? (i := 90) rfl)) (hw _ (List.mem_of_getElem? (i := 39) rfl)) at_72 rfl (by decide) (Nat.le_of_ble_eq_true rfl) (by decide) (by decide) ?_
        rintro _ hq _ _ ⟨rfl, eh, rfl, rfl⟩
        subst hq
        show Go true p l e _ s m _ below meth c Z EL1 _ _ _ (mkF m 75 _ [.ref bk]) _ _ _ _
        refine Go.ifnullN K e0_75 ?_
        refine Go.iconst K e0_78 (1) (by first | rfl | decide) ?_
        refine Go.goto K e0_79 ?_
        exact Go.nret K hE e0_83 (Or.inl rfl) (by decide) (by decide) (A := []) nofun ⟨rfl, by simpa using ((((Fr.nil n0).app N1).app N2).app N4)⟩
  · show Go true p l e _ s m _ below meth c Z EL1 _ _ _ (mkF m 5 _ [.ref a1]) _ _ _ _
    refine Go.astore K #[.val (.int i0), .val (.int i1), .val (.int i2), .val (.int i3), .val (.ref a1), .unset, .unset] e0_5 rfl rfl ?_
    refine Go.iloadN K e0_7 rfl ?_
    refine Go.iloadN K e0_8 rfl ?_
    refine Go.call K hE (Inv.static (argsL := [.int i2, .int i3]) (S := []) K.1 (hw _ (List.mem_of_getElem? (i := 0) rfl)) (hw _ (List.mem_of_getElem? (i := 1) rfl)) (hw _ (List.mem_of_getElem? (i := 2) rfl)) (hw _ (List.mem_of_getElem? (i := 3) rfl)) (by decide) (lenOf pd_8 rfl) (hb K.2.1 at_9)) (kDraw l Z a0 hw _ n0 O1 z St hz _ _) nofun (hw _ (List.mem_of_getElem? (i := 3) rfl)) (hw _ (List.mem_of_getElem? (i := 2) rfl)) at_9 rfl (by decide) (Nat.le_of_ble_eq_true rfl) (by decide) (by decide) ?_
    rintro _ h5 L5 _ ⟨te5, rfl, hte5, N5, O5, rfl⟩
    rcases hte5 with rfl | ⟨a5, rfl⟩
    · show Go true p l e _ s m _ below meth c Z EL1 _ _ _ (mkF m 12 _ [.null]) _ _ _ _
      refine Go.astore K #[.val (.int i0), .val (.int i1), .val (.int i2), .val (.int i3), .val (.ref a1), .val (.null), .unset] e0_12 rfl rfl ?_
      refine Go.aload K e0_14 rfl rfl ?_
      refine Go.aload K e0_16 rfl rfl ?_
      refine Go.call K hE (Inv.static (argsL := [.ref a1, .null]) (S := []) K.1 (hw _ (List.mem_of_getElem? (i := 37) rfl)) (hw _ (List.mem_of_getElem? (i := 38) rfl)) (hw _ (List.mem_of_getElem? (i := 39) rfl)) (hw _ (List.mem_of_getElem? (i := 40) rfl)) (by decide) (lenOf pd_9 rfl) (hb K.2.1 at_18)) (kJO l Z a0 hw _ n0 O5 (.ref a1) (.null) rfl rfl bk pr S1 S2) nofun (hw _ (List.mem_of_getElem? (i := 40) rfl)) (hw _ (List.mem_of_getElem? (i := 39) rfl)) at_18 rfl (by decide) (Nat.le_of_ble_eq_true rfl) (by decide) (by decide) ?_
      rintro _ h6 L6 _ ⟨o, rfl, rfl, N6, O6, q0, q1, q2, q3, q4, q5⟩
      show Go true p l e _ s m _ below meth c Z EL1 _ _ _ (mkF m 21 _ [.ref o]) _ _ _ _
      refine Go.astore K #[.val (.int i0), .val (.int i1), .val (.int i2), .val (.int i3), .val (.ref a1), .val (.null), .val (.ref o)] e0_21 rfl rfl ?_
      refine Go.aload K e0_23 rfl rfl ?_
      refine Go.ifnonnullY K e0_25 ?_
      refine Go.aload K e0_30 rfl rfl ?_
      refine Go.call K hE (Inv.virtual (argsL := []) (S := []) K.1 (hw _ (List.mem_of_getElem? (i := 65) rfl)) (hw _ (List.mem_of_getElem? (i := 66) rfl)) (Inv.nf (hw _ (List.mem_of_getElem? (i := 68) rfl))) (hw _ (List.mem_of_getElem? (i := 68) rfl)) (hw _ (List.mem_of_getElem? (i := 67) rfl)) (by decide) q0 (lenOf pd_10 rfl) (hb K.2.1 at_32)) (kA0 l Z a0 hw _ o (.ref a1) rfl q1) nofun (hw _ (List.mem_of_getElem? (i := 69) rfl)) (hw _ (List.mem_of_getElem? (i := 39) rfl)) at_32 rfl (by decide) (Nat.le_of_ble_eq_true rfl) (by decide) (by decide) ?_
      rintro _ hq _ _ ⟨rfl, eh, rfl, rfl⟩
      subst hq
      show Go true p l e _ s m _ below meth c Z EL1 _ _ _ (mkF m 35 _ [.ref a1]) _ _ _ _
      refine Go.aload K e0_35 rfl rfl ?_
      refine Go.acmp K rfl rfl e0_37 (fun q => absurd q (by simp)) (fun _ => ?_)
      refine Go.aload K e0_40 rfl rfl ?_
      refine Go.call K hE (Inv.virtual (argsL := []) (S := []) K.1 (hw _ (List.mem_of_getElem? (i := 70) rfl)) (hw _ (List.mem_of_getElem? (i := 71) rfl)) (Inv.nf (hw _ (List.mem_of_getElem? (i := 73) rfl))) (hw _ (List.mem_of_getElem? (i := 73) rfl)) (hw _ (List.mem_of_getElem? (i := 72) rfl)) (by decide) q0 (lenOf pd_10 rfl) (hb K.2.1 at_42)) (kA1 l Z a0 hw _ o (.null) rfl q2) nofun (hw _ (List.mem_of_getElem? (i := 74) rfl)) (hw _ (List.mem_of_getElem? (i := 39) rfl)) at_42 rfl (by decide) (Nat.le_of_ble_eq_true rfl) (by decide) (by decide) ?_
      rintro _ hq _ _ ⟨rfl, eh, rfl, rfl⟩
      subst hq
      show Go true p l e _ s m _ below meth c Z EL1 _ _ _ (mkF m 45 _ [.null]) _ _ _ _
      refine Go.aload K e0_45 rfl rfl ?_
      refine Go.acmp K rfl rfl e0_47 (fun q => absurd q (by simp)) (fun _ => ?_)
      refine Go.aload K e0_50 rfl rfl ?_
      refine Go.call K hE (Inv.virtual (argsL := []) (S := []) K.1 (hw _ (List.mem_of_getElem? (i := 75) rfl)) (hw _ (List.mem_of_getElem? (i := 76) rfl)) (Inv.nf (hw _ (List.mem_of_getElem? (i := 78) rfl))) (hw _ (List.mem_of_getElem? (i := 78) rfl)) (hw _ (List.mem_of_getElem? (i := 77) rfl)) (by decide) q0 (lenOf pd_11 rfl) (hb K.2.1 at_52)) (kA2 l Z a0 hw _ o q3) nofun (hw _ (List.mem_of_getElem? (i := 79) rfl)) (hw _ (List.mem_of_getElem? (i := 39) rfl)) at_52 rfl (by decide) (Nat.le_of_ble_eq_true rfl) (by decide) (by decide) ?_
      rintro _ hq _ _ ⟨rfl, eh, rfl, rfl⟩
      subst hq
      show Go true p l e _ s m _ below meth c Z EL1 _ _ _ (mkF m 55 _ [.int 3]) _ _ _ _
      refine Go.iconst K e0_55 (3) (by first | rfl | decide) ?_
      refine Go.icmp K e0_56 (fun (c56 : ¬ (3 : Int32) = (3 : Int32)) => ?_) (fun (c56 : (3 : Int32) = (3 : Int32)) => ?_)
      · exact absurd rfl c56
      · refine Go.aload K e0_59 rfl rfl ?_
        refine Go.call K hE (Inv.virtual (argsL := []) (S := []) K.1 (hw _ (List.mem_of_getElem? (i := 80) rfl)) (hw _ (List.mem_of_getElem? (i := 81) rfl)) (Inv.nf (hw _ (List.mem_of_getElem? (i := 83) rfl))) (hw _ (List.mem_of_getElem? (i := 83) rfl)) (hw _ (List.mem_of_getElem? (i := 82) rfl)) (by decide) q0 (lenOf pd_12 rfl) (hb K.2.1 at_61)) (kA4 l Z a0 hw _ o (.ref pr) rfl q5) nofun (hw _ (List.mem_of_getElem? (i := 84) rfl)) (hw _ (List.mem_of_getElem? (i := 39) rfl)) at_61 rfl (by decide) (Nat.le_of_ble_eq_true rfl) (by decide) (by decide) ?_
        rintro _ hq _ _ ⟨rfl, eh, rfl, rfl⟩
        subst hq
        show Go true p l e _ s m _ below meth c Z EL1 _ _ _ (mkF m 64 _ [.ref pr]) _ _ _ _
        refine Go.getS K (hw _ (List.mem_of_getElem? (i := 85) rfl)) Via.refl (S3.ext O6.2) e0_64 ?_
        refine Go.acmp K rfl rfl e0_67 (fun q => absurd q (by simp)) (fun _ => ?_)
        refine Go.aload K e0_70 rfl rfl ?_
        refine Go.call K hE (Inv.virtual (argsL := []) (S := []) K.1 (hw _ (List.mem_of_getElem? (i := 86) rfl)) (hw _ (List.mem_of_getElem? (i := 87) rfl)) (Inv.nf (hw _ (List.mem_of_getElem? (i := 89) rfl))) (hw _ (List.mem_of_getElem? (i := 89) rfl)) (hw _ (List.mem_of_getElem? (i := 88) rfl)) (by decide) q0 (lenOf pd_13 rfl) (hb K.2.1 at_72)) (kA3 l Z a0 hw _ o (.ref bk) rfl q4) nofun (hw _ (List.mem_of_getElem? (i := 90) rfl)) (hw _ (List.mem_of_getElem? (i := 39) rfl)) at_72 rfl (by decide) (Nat.le_of_ble_eq_true rfl) (by decide) (by decide) ?_
        rintro _ hq _ _ ⟨rfl, eh, rfl, rfl⟩
        subst hq
        show Go true p l e _ s m _ below meth c Z EL1 _ _ _ (mkF m 75 _ [.ref bk]) _ _ _ _
        refine Go.ifnullN K e0_75 ?_
        refine Go.iconst K e0_78 (1) (by first | rfl | decide) ?_
        refine Go.goto K e0_79 ?_
        exact Go.nret K hE e0_83 (Or.inl rfl) (by decide) (by decide) (A := []) nofun ⟨rfl, by simpa using ((((Fr.nil n0).app N1).app N5).app N6)⟩
    · show Go true p l e _ s m _ below meth c Z EL1 _ _ _ (mkF m 12 _ [.ref a5]) _ _ _ _
      refine Go.astore K #[.val (.int i0), .val (.int i1), .val (.int i2), .val (.int i3), .val (.ref a1), .val (.ref a5), .unset] e0_12 rfl rfl ?_
      refine Go.aload K e0_14 rfl rfl ?_
      refine Go.aload K e0_16 rfl rfl ?_
      refine Go.call K hE (Inv.static (argsL := [.ref a1, .ref a5]) (S := []) K.1 (hw _ (List.mem_of_getElem? (i := 37) rfl)) (hw _ (List.mem_of_getElem? (i := 38) rfl)) (hw _ (List.mem_of_getElem? (i := 39) rfl)) (hw _ (List.mem_of_getElem? (i := 40) rfl)) (by decide) (lenOf pd_9 rfl) (hb K.2.1 at_18)) (kJO l Z a0 hw _ n0 O5 (.ref a1) (.ref a5) rfl rfl bk pr S1 S2) nofun (hw _ (List.mem_of_getElem? (i := 40) rfl)) (hw _ (List.mem_of_getElem? (i := 39) rfl)) at_18 rfl (by decide) (Nat.le_of_ble_eq_true rfl) (by decide) (by decide) ?_
      rintro _ h7 L7 _ ⟨o, rfl, rfl, N7, O7, q0, q1, q2, q3, q4, q5⟩
      show Go true p l e _ s m _ below meth c Z EL1 _ _ _ (mkF m 21 _ [.ref o]) _ _ _ _
      refine Go.astore K #[.val (.int i0), .val (.int i1), .val (.int i2), .val (.int i3), .val (.ref a1), .val (.ref a5), .val (.ref o)] e0_21 rfl rfl ?_
      refine Go.aload K e0_23 rfl rfl ?_
      refine Go.ifnonnullY K e0_25 ?_
      refine Go.aload K e0_30 rfl rfl ?_
      refine Go.call K hE (Inv.virtual (argsL := []) (S := []) K.1 (hw _ (List.mem_of_getElem? (i := 65) rfl)) (hw _ (List.mem_of_getElem? (i := 66) rfl)) (Inv.nf (hw _ (List.mem_of_getElem? (i := 68) rfl))) (hw _ (List.mem_of_getElem? (i := 68) rfl)) (hw _ (List.mem_of_getElem? (i := 67) rfl)) (by decide) q0 (lenOf pd_10 rfl) (hb K.2.1 at_32)) (kA0 l Z a0 hw _ o (.ref a1) rfl q1) nofun (hw _ (List.mem_of_getElem? (i := 69) rfl)) (hw _ (List.mem_of_getElem? (i := 39) rfl)) at_32 rfl (by decide) (Nat.le_of_ble_eq_true rfl) (by decide) (by decide) ?_
      rintro _ hq _ _ ⟨rfl, eh, rfl, rfl⟩
      subst hq
      show Go true p l e _ s m _ below meth c Z EL1 _ _ _ (mkF m 35 _ [.ref a1]) _ _ _ _
      refine Go.aload K e0_35 rfl rfl ?_
      refine Go.acmp K rfl rfl e0_37 (fun q => absurd q (by simp)) (fun _ => ?_)
      refine Go.aload K e0_40 rfl rfl ?_
      refine Go.call K hE (Inv.virtual (argsL := []) (S := []) K.1 (hw _ (List.mem_of_getElem? (i := 70) rfl)) (hw _ (List.mem_of_getElem? (i := 71) rfl)) (Inv.nf (hw _ (List.mem_of_getElem? (i := 73) rfl))) (hw _ (List.mem_of_getElem? (i := 73) rfl)) (hw _ (List.mem_of_getElem? (i := 72) rfl)) (by decide) q0 (lenOf pd_10 rfl) (hb K.2.1 at_42)) (kA1 l Z a0 hw _ o (.ref a5) rfl q2) nofun (hw _ (List.mem_of_getElem? (i := 74) rfl)) (hw _ (List.mem_of_getElem? (i := 39) rfl)) at_42 rfl (by decide) (Nat.le_of_ble_eq_true rfl) (by decide) (by decide) ?_
      rintro _ hq _ _ ⟨rfl, eh, rfl, rfl⟩
      subst hq
      show Go true p l e _ s m _ below meth c Z EL1 _ _ _ (mkF m 45 _ [.ref a5]) _ _ _ _
      refine Go.aload K e0_45 rfl rfl ?_
      refine Go.acmp K rfl rfl e0_47 (fun q => absurd q (by simp)) (fun _ => ?_)
      refine Go.aload K e0_50 rfl rfl ?_
      refine Go.call K hE (Inv.virtual (argsL := []) (S := []) K.1 (hw _ (List.mem_of_getElem? (i := 75) rfl)) (hw _ (List.mem_of_getElem? (i := 76) rfl)) (Inv.nf (hw _ (List.mem_of_getElem? (i := 78) rfl))) (hw _ (List.mem_of_getElem? (i := 78) rfl)) (hw _ (List.mem_of_getElem? (i := 77) rfl)) (by decide) q0 (lenOf pd_11 rfl) (hb K.2.1 at_52)) (kA2 l Z a0 hw _ o q3) nofun (hw _ (List.mem_of_getElem? (i := 79) rfl)) (hw _ (List.mem_of_getElem? (i := 39) rfl)) at_52 rfl (by decide) (Nat.le_of_ble_eq_true rfl) (by decide) (by decide) ?_
      rintro _ hq _ _ ⟨rfl, eh, rfl, rfl⟩
      subst hq
      show Go true p l e _ s m _ below meth c Z EL1 _ _ _ (mkF m 55 _ [.int 3]) _ _ _ _
      refine Go.iconst K e0_55 (3) (by first | rfl | decide) ?_
      refine Go.icmp K e0_56 (fun (c56 : ¬ (3 : Int32) = (3 : Int32)) => ?_) (fun (c56 : (3 : Int32) = (3 : Int32)) => ?_)
      · exact absurd rfl c56
      · refine Go.aload K e0_59 rfl rfl ?_
        refine Go.call K hE (Inv.virtual (argsL := []) (S := []) K.1 (hw _ (List.mem_of_getElem? (i := 80) rfl)) (hw _ (List.mem_of_getElem? (i := 81) rfl)) (Inv.nf (hw _ (List.mem_of_getElem? (i := 83) rfl))) (hw _ (List.mem_of_getElem? (i := 83) rfl)) (hw _ (List.mem_of_getElem? (i := 82) rfl)) (by decide) q0 (lenOf pd_12 rfl) (hb K.2.1 at_61)) (kA4 l Z a0 hw _ o (.ref pr) rfl q5) nofun (hw _ (List.mem_of_getElem? (i := 84) rfl)) (hw _ (List.mem_of_getElem? (i := 39) rfl)) at_61 rfl (by decide) (Nat.le_of_ble_eq_true rfl) (by decide) (by decide) ?_
        rintro _ hq _ _ ⟨rfl, eh, rfl, rfl⟩
        subst hq
        show Go true p l e _ s m _ below meth c Z EL1 _ _ _ (mkF m 64 _ [.ref pr]) _ _ _ _
        refine Go.getS K (hw _ (List.mem_of_getElem? (i := 85) rfl)) Via.refl (S3.ext O7.2) e0_64 ?_
        refine Go.acmp K rfl rfl e0_67 (fun q => absurd q (by simp)) (fun _ => ?_)
        refine Go.aload K e0_70 rfl rfl ?_
        refine Go.call K hE (Inv.virtual (argsL := []) (S := []) K.1 (hw _ (List.mem_of_getElem? (i := 86) rfl)) (hw _ (List.mem_of_getElem? (i := 87) rfl)) (Inv.nf (hw _ (List.mem_of_getElem? (i := 89) rfl))) (hw _ (List.mem_of_getElem? (i := 89) rfl)) (hw _ (List.mem_of_getElem? (i := 88) rfl)) (by decide) q0 (lenOf pd_13 rfl) (hb K.2.1 at_72)) (kA3 l Z a0 hw _ o (.ref bk) rfl q4) nofun (hw _ (List.mem_of_getElem? (i := 90) rfl)) (hw _ (List.mem_of_getElem? (i := 39) rfl)) at_72 rfl (by decide) (Nat.le_of_ble_eq_true rfl) (by decide) (by decide) ?_
        rintro _ hq _ _ ⟨rfl, eh, rfl, rfl⟩
        subst hq
        show Go true p l e _ s m _ below meth c Z EL1 _ _ _ (mkF m 75 _ [.ref bk]) _ _ _ _
        refine Go.ifnullN K e0_75 ?_
        refine Go.iconst K e0_78 (1) (by first | rfl | decide) ?_
        refine Go.goto K e0_79 ?_
        exact Go.nret K hE e0_83 (Or.inl rfl) (by decide) (by decide) (A := []) nofun ⟨rfl, by simpa using ((((Fr.nil n0).app N1).app N5).app N7)⟩
set_option maxRecDepth 65536 in
set_option maxHeartbeats 40000000 in
theorem comes_1 {Post : Tables → Env → Array Value → State → Outcome → State → Prop} (hpost : ∀ tb e args s v u, (limb_1_1.after args s (.returned v) u = true ∧ limb_1_2.after args s (.returned v) u = true) → FramedW s (.returned v) u (Jvm.fieldLocs frame_1_writes args s ++ Jvm.arrayLocs frame_1_arrays args s ++ Jvm.staticLocs frame_1_statics s) 24 1152 → Post tb e args s (.returned v) u) :
    ArmFor flags0 classFile x code maxLocals ret World_1 tables_1 room_1 Calls_1 rest_1 Pre_1 Post := by
  intro l hfl _ _ p e ha hc hk s m args below hf hA hF happ hP
  obtain ⟨hcalls, hrest, hpre⟩ := hP
  obtain ⟨-, -, -, hnamed, -, -, -, hat⟩ := (Spec.applies_iff hf).mp happ
  obtain ⟨hg, hn⟩ := and_e (Cond.before_iff.mp (show (Jvm.Cond.and given_1 narrow_1).before args s = true from hpre))
  obtain ⟨h1, h2⟩ := and_e hg
  obtain ⟨h2, h3⟩ := and_e h2
  obtain ⟨h3, h4⟩ := and_e h3
  obtain ⟨h4, h5⟩ := and_e h4
  obtain ⟨w0, w1, w2, w3, rfl⟩ : ∃ w0 w1 w2 w3 : Value, args = #[w0, w1, w2, w3] := by
    have hs : args.size = 4 := by simpa [Cond.value, given_1] using h1
    obtain ⟨L⟩ := args
    match L, hs with
    | [w0, w1, w2, w3], _ => exact ⟨w0, w1, w2, w3, rfl⟩
  have hw := fun d (hd : d ∈ tables_1) => atoms_spec (ws := Jvm.Cond.code x code maxLocals ret :: tables_1) hat d (List.mem_cons_of_mem _ hd)
  obtain ⟨hsets, -⟩ := atoms_of jdkStatics_1 (show (jdkStatics_1.foldr Jvm.Cond.and restOwn_1).before _ s = true from hrest)
  obtain ⟨i0, e0⟩ := is_v h2
  obtain rfl : w0 = (.int i0) := Option.some.inj e0
  obtain ⟨i1, e1⟩ := is_v h3
  obtain rfl : w1 = (.int i1) := Option.some.inj e1
  obtain ⟨i2, e2⟩ := is_v h4
  obtain rfl : w2 = (.int i2) := Option.some.inj e2
  obtain ⟨i3, e3⟩ := is_v h5
  obtain rfl : w3 = (.int i3) := Option.some.inj e3
  obtain ⟨z, ez⟩ := is_v (Cond.before_iff.mp (hsets _ (List.mem_of_getElem? (i := 1) rfl)))
  have St : Sta s s.heap "java/lang/String" "COMPACT_STRINGS" "Z" (.int z) := Sta.start ez (Or.inl (hsets _ (List.mem_of_getElem? (i := 0) rfl)))
  have hz : ¬ z = 0 := fun q => by
    have r := not_v (Cond.before_iff.mp (hsets _ (List.mem_of_getElem? (i := 2) rfl)))
    have r2 := (eq_i ez (Term.int_eval (0 : Int32)) (by rw [q]))
    rw [r] at r2
    cases r2
  have hfit : Fit s := fun {y c} hc i hi => by
    obtain ⟨ha, rfl⟩ := Array.getElem?_eq_some_iff.mp hc
    have q := List.all_eq_true.mp ((Array.all_eq_true_iff_forall_mem.mp hF) _ (Array.getElem_mem ha)) i (List.mem_range.mpr hi)
    simpa [Array.getElem?_eq_getElem hi] using q
  obtain ⟨n1, n2⟩ := and_e (show (Jvm.Cond.and _ _).value _ _ _ _ _ = _ from hn)
  obtain ⟨n2, n3⟩ := and_e n2
  obtain ⟨bk, ebk⟩ := exa_v n1
  obtain ⟨pr, epr⟩ := exa_v n2
  have S1 : Sta s s.heap "com/example/baklog/baklog/JobRequest" "DEFAULT_BACKOFF" "Ljava/time/Duration;" (.ref bk) := Sta.start ebk (Or.inr ⟨hw _ (List.mem_of_getElem? (i := 39) rfl), hw _ (List.mem_of_getElem? (i := 44) rfl)⟩)
  have S3 : Sta s s.heap "com/example/baklog/baklog/Priority" "NORMAL" "Lcom/example/baklog/baklog/Priority;" (.ref pr) := Sta.start epr (Or.inr ⟨hw _ (List.mem_of_getElem? (i := 47) rfl), hw _ (List.mem_of_getElem? (i := 48) rfl)⟩)
  obtain ⟨dp, edp, fdp⟩ := static_fit (ty := .object "com/example/baklog/baklog/Priority") hfit (hw _ (List.mem_of_getElem? (i := 46) rfl)) (by decide)
  have hdp : dp = .ref pr := gotT (eq_R edp epr (fit_R fdp rfl) rfl) n3
  have S2 : Sta s s.heap "com/example/baklog/baklog/JobRequest" "DEFAULT_PRIORITY" "Lcom/example/baklog/baklog/Priority;" (.ref pr) := Sta.start (hdp ▸ edp) (Or.inr ⟨hw _ (List.mem_of_getElem? (i := 39) rfl), hw _ (List.mem_of_getElem? (i := 46) rfl)⟩)
  have hCH : CHv s EL1 s.vm s.heap := CHv.start (el1 hw) (fun p hp => hcalls.1 p hp) (hsets _ (List.mem_of_getElem? (i := 2) rfl)) (hw _ (List.mem_of_getElem? (i := 19) rfl)) (hw _ (List.mem_of_getElem? (i := 5) rfl))
  obtain ⟨n, o, h1, h2, h3, v, L, A, rfl, ⟨rfl, N⟩, -, -, hq⟩ := k0 l s _ hw tables_1 s.heap s.heap.size (Old.start s) z St hz bk pr S1 S2 S3 i0 i1 i2 i3 p e ha hc hk s m _ below hf ((Spec.applies_iff_loose hf).mp happ).1 ⟨rfl, State.Warmed39.refl s, rfl, hCH, Sl.nil⟩ trivial
  obtain ⟨q1, q2, q3, q4⟩ := (show ReturnedEndW _ _ _ _ _ _ from hq)
  refine ⟨n, _, h1, h2, h3, hpost _ _ _ _ _ _ ⟨Cond.after_iff.mpr rfl, Cond.after_iff.mpr (eq_i res_at (Term.int_eval (1)) rfl)⟩ ⟨q1, q2, q3, (q4.sift fun y hy => Or.inr (N y hy)).mono (by decide) (by decide)⟩⟩
theorem main_1_1 : Claimed_1_1 := comes_1 fun _ _ _ _ _ _ h hF => ⟨h.1, hF⟩
theorem main_1_2 : Claimed_1_2 := comes_1 fun _ _ _ _ _ _ h hF => ⟨h.2, hF⟩
end Jvm.Pilot.@@N@@
namespace Jvm.Pilot.@@N@@
open Jvm Jvm.ClassFile Sem Op Lib Jvm.Free Jvm.Stand Jvm.Pilot.@@N@@.Jvm.D
/-! MADE BY PROGRAM (witnessworld.py) out of the Statement's table words and the real class files: 24 classes; the members and pool entries that the words name. The judged class is class 1, her method 2. -/
namespace start1
open Jvm.ClassFile
def u (s : String) : CpInfo := .utf8 (stringToUtf16 s)
/-- a pool by its gaps: so many unusable entries, then the entry; so many at the end -/
def gap : Nat → List CpInfo → List CpInfo
  | 0, r => r
  | n + 1, r => .unusable :: gap n r
def poolList (es : List (Nat × CpInfo)) (last : Nat) : List CpInfo := es.foldr (fun e r => gap e.1 (e.2 :: r)) (gap last [])
def pool (es : List (Nat × CpInfo)) (last : Nat) : Array CpInfo := ⟨poolList es last⟩
def fileOf (pool : Array CpInfo) (this : Nat) (attrs : Array Attribute := #[]) (ms : Array MethodInfo := #[]) (fl : Nat := 33) (sup : Nat := 0) (ifs : Array Nat := #[]) (fds : Array FieldInfo := #[]) : ClassFile where
  minorVersion := 0
  majorVersion := 65
  constantPool := pool
  accessFlags := fl
  thisClass := this
  superClass := sup
  interfaces := ifs
  fields := fds
  methods := ms
  attributes := attrs
def plain (name : String) (sup : Option ClassId) : Class where
  name := name
  kind := .ordinary
  loader := none
  accessFlags := 33
  super := sup
  interfaces := #[]
  cf := none
  fields := #[]
  methods := #[]
  instanceTypes := #[]
  staticTypes := #[]
  resolved := #[]
  callSites := []
  init := .initialized
  statics := none
  mirror := none

def pool0 : Array CpInfo := pool [(5, u "<init>"), (0, u "()V"), (1, .class_ 10), (1, u "java/lang/Object")] 113

def k0c0 : Code := { maxStack := 0, maxLocals := 1, code := object_method_1_code, exceptionTable := #[], attributes := #[] }
def k0m0 : Method := { name := "<init>", desc := "()V", sig := { parameters := [], returnType := none }, accessFlags := 1, code := some k0c0 }
/-- java/lang/Object -/
def k0 : Class := { plain "java/lang/Object" none with
  accessFlags := 33
  interfaces := #[]
  cf := some (fileOf pool0 8 #[] #[{ accessFlags := 1, nameIndex := 5, descriptorIndex := 6, attributes := #[] }] 33 0 #[] #[])
  fields := #[]
  methods := #[k0m0]
  instanceTypes := #[]
  staticTypes := #[]
  resolved := Array.replicate 124 none
  statics := none }

def pool1 : Array CpInfo := pool [(2, .class_ 4), (1, u "java/lang/Object"), (0, u "<init>"), (0, u "()V"), (0, .class_ 8), (0, u "java/lang/String"), (0, .methodref 7 10), (0, .nameAndType 5 11), (0, u "([C)V"), (0, .methodref 7 13), (0, .nameAndType 14 15), (0, u "valueOf"), (0, u "(C)Ljava/lang/String;"), (0, .methodref 17 18), (0, .class_ 19), (0, .nameAndType 20 21), (0, u "com/example/baklog/baklog/JobRequestOfPinLaw"), (0, u "draw"), (0, u "(II)Ljava/lang/String;"), (0, .methodref 23 24), (0, .class_ 25), (0, .nameAndType 26 27), (0, u "com/example/baklog/baklog/JobRequest"), (0, u "of"), (0, u "(Ljava/lang/String;Ljava/lang/String;)Lcom/example/baklog/baklog/JobRequest;"), (0, .methodref 23 29), (0, .nameAndType 30 31), (0, u "handler"), (0, u "()Ljava/lang/String;"), (0, .methodref 23 33), (0, .nameAndType 34 31), (0, u "payload"), (0, .methodref 23 36), (0, .nameAndType 37 38), (0, u "maxAttempts"), (0, u "()I"), (0, .methodref 23 40), (0, .nameAndType 41 42), (0, u "priority"), (0, u "()Lcom/example/baklog/baklog/Priority;"), (0, .fieldref 44 45), (0, .class_ 46), (0, .nameAndType 47 48), (0, u "com/example/baklog/baklog/Priority"), (0, u "NORMAL"), (0, u "Lcom/example/baklog/baklog/Priority;"), (0, .methodref 23 50), (0, .nameAndType 51 52), (0, u "backoff"), (0, u "()Ljava/time/Duration;"), (3, u "law"), (0, u "(IIII)Z")] 2

def k1m0 : Method := { name := "<init>", desc := "()V", sig := { parameters := [], returnType := none }, accessFlags := 1, code := none }
def k1c1 : Code := { maxStack := 3, maxLocals := 7, code := method_2_code, exceptionTable := #[], attributes := #[] }
def k1m1 : Method := { name := "draw", desc := "(II)Ljava/lang/String;", sig := { parameters := [.int, .int], returnType := some (.object "java/lang/String") }, accessFlags := 10, code := some k1c1 }
def k1c2 : Code := { maxStack := 2, maxLocals := 7, code := code, exceptionTable := #[], attributes := #[] }
def k1m2 : Method := { name := "law", desc := "(IIII)Z", sig := { parameters := [.int, .int, .int, .int], returnType := some .boolean }, accessFlags := 9, code := some k1c2 }
/-- com/example/baklog/baklog/JobRequestOfPinLaw -/
def k1 : Class := { plain "com/example/baklog/baklog/JobRequestOfPinLaw" (some 0) with
  accessFlags := 49
  interfaces := #[]
  cf := some (fileOf pool1 17 #[] #[{ accessFlags := 1, nameIndex := 5, descriptorIndex := 6, attributes := #[] }, { accessFlags := 10, nameIndex := 20, descriptorIndex := 21, attributes := #[] }, { accessFlags := 9, nameIndex := 56, descriptorIndex := 57, attributes := #[] }] 49 2 #[] #[])
  fields := #[]
  methods := #[k1m0, k1m1, k1m2]
  instanceTypes := #[]
  staticTypes := #[]
  resolved := Array.replicate 60 none
  statics := none }

def pool2 : Array CpInfo := pool [(1, .class_ 2), (0, u "java/io/Serializable"), (0, .class_ 4), (0, u "java/lang/Object")] 2

/-- java/io/Serializable -/
def k2 : Class := { plain "java/io/Serializable" (some 0) with
  accessFlags := 1537
  interfaces := #[]
  cf := some (fileOf pool2 1 #[] #[] 1537 3 #[] #[])
  fields := #[]
  methods := #[]
  instanceTypes := #[]
  staticTypes := #[]
  resolved := Array.replicate 7 none
  statics := none }

def pool3 : Array CpInfo := pool [(1, .class_ 2), (0, u "java/lang/Comparable"), (0, .class_ 4), (0, u "java/lang/Object")] 7

/-- java/lang/Comparable -/
def k3 : Class := { plain "java/lang/Comparable" (some 0) with
  accessFlags := 1537
  interfaces := #[]
  cf := some (fileOf pool3 1 #[] #[] 1537 3 #[] #[])
  fields := #[]
  methods := #[]
  instanceTypes := #[]
  staticTypes := #[]
  resolved := Array.replicate 12 none
  statics := none }

def pool4 : Array CpInfo := pool [(2, .class_ 4), (1, u "java/lang/CharSequence"), (42, .class_ 48), (0, u "java/lang/CharSequence$1CodePointIterator"), (10, .class_ 60), (0, u "java/lang/CharSequence$1CharIterator"), (5, .class_ 67), (0, u "java/lang/Object")] 63

/-- java/lang/CharSequence -/
def k4 : Class := { plain "java/lang/CharSequence" (some 0) with
  accessFlags := 1537
  interfaces := #[]
  cf := some (fileOf pool4 2 #[.nestMembers #[47, 59]] #[] 1537 66 #[] #[])
  fields := #[]
  methods := #[]
  instanceTypes := #[]
  staticTypes := #[]
  resolved := Array.replicate 131 none
  statics := none }

def pool5 : Array CpInfo := pool [(1, .class_ 2), (0, u "java/lang/constant/Constable"), (0, .class_ 4), (0, u "java/lang/Object")] 6

/-- java/lang/constant/Constable -/
def k5 : Class := { plain "java/lang/constant/Constable" (some 0) with
  accessFlags := 1537
  interfaces := #[]
  cf := some (fileOf pool5 1 #[] #[] 1537 3 #[] #[])
  fields := #[]
  methods := #[]
  instanceTypes := #[]
  staticTypes := #[]
  resolved := Array.replicate 11 none
  statics := none }

def pool6 : Array CpInfo := pool [(1, .class_ 2), (0, u "java/lang/constant/ConstantDesc"), (0, .class_ 4), (0, u "java/lang/Object")] 32

/-- java/lang/constant/ConstantDesc -/
def k6 : Class := { plain "java/lang/constant/ConstantDesc" (some 0) with
  accessFlags := 1537
  interfaces := #[]
  cf := some (fileOf pool6 1 #[] #[] 1537 3 #[] #[])
  fields := #[]
  methods := #[]
  instanceTypes := #[]
  staticTypes := #[]
  resolved := Array.replicate 37 none
  statics := none }

def pool7 : Array CpInfo := pool [(1, .methodref 2 3), (0, .class_ 4), (0, .nameAndType 5 6), (0, u "java/lang/Object"), (0, u "<init>"), (0, u "()V"), (0, .string 8), (0, u ""), (0, .fieldref 10 11), (0, .class_ 12), (0, .nameAndType 13 14), (0, u "java/lang/String"), (0, u "value"), (0, u "[B"), (0, .fieldref 10 16), (0, .nameAndType 17 18), (0, u "coder"), (0, u "B"), (2, u "hash"), (0, u "I"), (2, u "hashIsZero"), (0, u "Z"), (0, .methodref 10 28), (0, .nameAndType 5 29), (0, u "([CIILjava/lang/Void;)V"), (8, .fieldref 10 39), (0, .nameAndType 40 26), (0, u "COMPACT_STRINGS"), (1, .class_ 44), (1, u "java/lang/StringUTF16"), (0, u "compress"), (1, .methodref 42 48), (0, .nameAndType 49 50), (0, u "coderFromArrayLen"), (0, u "([BI)B"), (2, u "toBytes"), (53, .class_ 109), (1, u "java/lang/StringLatin1"), (67, .methodref 42 178), (0, .nameAndType 45 179), (0, u "([CII)[B"), (29, .methodref 10 210), (0, .nameAndType 5 211), (0, u "([BB)V"), (157, u "(C)Z"), (205, .class_ 576), (0, u "java/lang/CharSequence"), (22, u "CASE_INSENSITIVE_ORDER"), (0, u "Ljava/util/Comparator;"), (181, u "valueOf"), (0, u "(C)Ljava/lang/String;"), (226, u "([C)V"), (4, .methodref 107 1016), (0, .nameAndType 1017 369), (0, u "canEncode"), (0, .methodref 107 1019), (0, .nameAndType 53 1020), (0, u "(C)[B"), (80, u "serialPersistentFields"), (0, u "[Ljava/io/ObjectStreamField;"), (0, .class_ 1104), (0, u "java/lang/String$CaseInsensitiveComparator"), (1, .class_ 1107), (0, u "java/io/Serializable"), (0, .class_ 1109), (0, u "java/lang/Comparable"), (0, .class_ 1111), (0, u "java/lang/constant/Constable"), (0, .class_ 1113), (0, u "java/lang/constant/ConstantDesc"), (2, u "serialVersionUID"), (0, u "J"), (3, u "REPL"), (0, u "C"), (2, u "LATIN1"), (1, u "UTF16")] 323

def k7m0 : Method := { name := "<init>", desc := "()V", sig := { parameters := [], returnType := none }, accessFlags := 1, code := none }
def k7c1 : Code := { maxStack := 5, maxLocals := 2, code := jdk_42_method_3_code, exceptionTable := #[], attributes := #[] }
def k7m1 : Method := { name := "<init>", desc := "([C)V", sig := { parameters := [(.array .char)], returnType := none }, accessFlags := 1, code := some k7c1 }
def k7c2 : Code := { maxStack := 4, maxLocals := 1, code := jdk_42_method_139_code, exceptionTable := #[], attributes := #[] }
def k7m2 : Method := { name := "valueOf", desc := "(C)Ljava/lang/String;", sig := { parameters := [.char], returnType := some (.object "java/lang/String") }, accessFlags := 9, code := some k7c2 }
def k7c3 : Code := { maxStack := 4, maxLocals := 6, code := jdk_42_method_149_code, exceptionTable := #[], attributes := #[] }
def k7m3 : Method := { name := "<init>", desc := "([CIILjava/lang/Void;)V", sig := { parameters := [(.array .char), .int, .int, (.object "java/lang/Void")], returnType := none }, accessFlags := 2, code := some k7c3 }
def k7c4 : Code := { maxStack := 2, maxLocals := 3, code := jdk_42_method_151_code, exceptionTable := #[], attributes := #[] }
def k7m4 : Method := { name := "<init>", desc := "([BB)V", sig := { parameters := [(.array .byte), .byte], returnType := none }, accessFlags := 0, code := some k7c4 }
/-- java/lang/String -/
def k7 : Class := { plain "java/lang/String" (some 0) with
  accessFlags := 49
  interfaces := #[2, 3, 4, 5, 6]
  cf := some (fileOf pool7 10 #[.nestMembers #[1103]] #[{ accessFlags := 1, nameIndex := 5, descriptorIndex := 6, attributes := #[] }, { accessFlags := 1, nameIndex := 5, descriptorIndex := 1010, attributes := #[] }, { accessFlags := 9, nameIndex := 782, descriptorIndex := 783, attributes := #[] }, { accessFlags := 2, nameIndex := 5, descriptorIndex := 29, attributes := #[] }, { accessFlags := 0, nameIndex := 5, descriptorIndex := 211, attributes := #[] }] 49 2 #[1106, 1108, 575, 1110, 1112] #[{ accessFlags := 18, nameIndex := 13, descriptorIndex := 14, attributes := #[] }, { accessFlags := 18, nameIndex := 17, descriptorIndex := 18, attributes := #[] }, { accessFlags := 2, nameIndex := 21, descriptorIndex := 22, attributes := #[] }, { accessFlags := 2, nameIndex := 25, descriptorIndex := 26, attributes := #[] }, { accessFlags := 26, nameIndex := 1116, descriptorIndex := 1117, attributes := #[] }, { accessFlags := 24, nameIndex := 40, descriptorIndex := 26, attributes := #[] }, { accessFlags := 26, nameIndex := 1101, descriptorIndex := 1102, attributes := #[] }, { accessFlags := 26, nameIndex := 1121, descriptorIndex := 1122, attributes := #[] }, { accessFlags := 25, nameIndex := 599, descriptorIndex := 600, attributes := #[] }, { accessFlags := 24, nameIndex := 1125, descriptorIndex := 18, attributes := #[] }, { accessFlags := 24, nameIndex := 1127, descriptorIndex := 18, attributes := #[] }])
  fields := #[{ name := "value", type := (.array .byte), accessFlags := 18, slot := 0, constantValue := 0 }, { name := "coder", type := .byte, accessFlags := 18, slot := 1, constantValue := 0 }, { name := "hash", type := .int, accessFlags := 2, slot := 2, constantValue := 0 }, { name := "hashIsZero", type := .boolean, accessFlags := 2, slot := 3, constantValue := 0 }, { name := "serialVersionUID", type := .long, accessFlags := 26, slot := 0, constantValue := 0 }, { name := "COMPACT_STRINGS", type := .boolean, accessFlags := 24, slot := 1, constantValue := 0 }, { name := "serialPersistentFields", type := (.array (.object "java/io/ObjectStreamField")), accessFlags := 26, slot := 2, constantValue := 0 }, { name := "REPL", type := .char, accessFlags := 26, slot := 3, constantValue := 0 }, { name := "CASE_INSENSITIVE_ORDER", type := (.object "java/util/Comparator"), accessFlags := 25, slot := 4, constantValue := 0 }, { name := "LATIN1", type := .byte, accessFlags := 24, slot := 5, constantValue := 0 }, { name := "UTF16", type := .byte, accessFlags := 24, slot := 6, constantValue := 0 }]
  methods := #[k7m0, k7m1, k7m2, k7m3, k7m4]
  instanceTypes := #[(.array .byte), .byte, .int, .boolean]
  staticTypes := #[.long, .boolean, (.array (.object "java/io/ObjectStreamField")), .char, (.object "java/util/Comparator"), .byte, .byte]
  resolved := Array.replicate 1451 none
  statics := some 0 }

def pool8 : Array CpInfo := pool [(6, .class_ 8), (1, u "java/lang/Object"), (0, u "<init>"), (0, u "()V"), (1, .class_ 14), (1, u "java/lang/StringUTF16"), (31, u "$assertionsDisabled"), (0, u "Z"), (13, u "HI_BYTE_SHIFT"), (0, u "I"), (2, u "LO_BYTE_SHIFT"), (49, .methodref 12 116), (0, .nameAndType 117 118), (0, u "compress"), (0, u "([CI[BII)I"), (3, u "([CII)[B"), (138, u "coderFromArrayLen"), (0, u "([BI)B"), (106, .class_ 371), (1, u "java/lang/StringUTF16$LinesSpliterator"), (58, u "MAX_LENGTH"), (196, .class_ 628), (0, u "java/lang/StringUTF16$CodePointsSpliterator"), (0, .class_ 630), (0, u "java/lang/StringUTF16$CharsSpliterator")] 4

def k8m0 : Method := { name := "<init>", desc := "()V", sig := { parameters := [], returnType := none }, accessFlags := 0, code := none }
def k8c1 : Code := { maxStack := 2, maxLocals := 2, code := jdk_52_method_15_code, exceptionTable := #[], attributes := #[] }
def k8m1 : Method := { name := "coderFromArrayLen", desc := "([BI)B", sig := { parameters := [(.array .byte), .int], returnType := some .byte }, accessFlags := 8, code := some k8c1 }
def k8c2 : Code := { maxStack := 5, maxLocals := 6, code := jdk_52_method_16_code, exceptionTable := #[], attributes := #[] }
def k8m2 : Method := { name := "compress", desc := "([CII)[B", sig := { parameters := [(.array .char), .int, .int], returnType := some (.array .byte) }, accessFlags := 9, code := some k8c2 }
def k8c3 : Code := { maxStack := 3, maxLocals := 7, code := jdk_52_method_21_code, exceptionTable := #[], attributes := #[] }
def k8m3 : Method := { name := "compress", desc := "([CI[BII)I", sig := { parameters := [(.array .char), .int, (.array .byte), .int, .int], returnType := some .int }, accessFlags := 9, code := some k8c3 }
/-- java/lang/StringUTF16 -/
def k8 : Class := { plain "java/lang/StringUTF16" (some 0) with
  accessFlags := 48
  interfaces := #[]
  cf := some (fileOf pool8 12 #[.nestMembers #[627, 629, 369]] #[{ accessFlags := 0, nameIndex := 9, descriptorIndex := 10, attributes := #[] }, { accessFlags := 8, nameIndex := 261, descriptorIndex := 262, attributes := #[] }, { accessFlags := 9, nameIndex := 117, descriptorIndex := 122, attributes := #[] }, { accessFlags := 9, nameIndex := 117, descriptorIndex := 118, attributes := #[] }] 48 6 #[] #[{ accessFlags := 26, nameIndex := 61, descriptorIndex := 62, attributes := #[] }, { accessFlags := 26, nameIndex := 65, descriptorIndex := 62, attributes := #[] }, { accessFlags := 24, nameIndex := 430, descriptorIndex := 62, attributes := #[] }, { accessFlags := 4120, nameIndex := 46, descriptorIndex := 47, attributes := #[] }])
  fields := #[{ name := "HI_BYTE_SHIFT", type := .int, accessFlags := 26, slot := 0, constantValue := 0 }, { name := "LO_BYTE_SHIFT", type := .int, accessFlags := 26, slot := 1, constantValue := 0 }, { name := "MAX_LENGTH", type := .int, accessFlags := 24, slot := 2, constantValue := 0 }, { name := "$assertionsDisabled", type := .boolean, accessFlags := 4120, slot := 3, constantValue := 0 }]
  methods := #[k8m0, k8m1, k8m2, k8m3]
  instanceTypes := #[]
  staticTypes := #[.int, .int, .int, .boolean]
  resolved := Array.replicate 635 none
  statics := none }

def pool9 : Array CpInfo := pool [(1, .methodref 2 3), (0, .class_ 4), (0, .nameAndType 5 6), (0, u "java/lang/Object"), (0, u "<init>"), (0, u "()V"), (0, .fieldref 8 9), (0, .class_ 10), (0, .nameAndType 11 12), (0, u "com/example/baklog/baklog/JobRequest"), (0, u "handler"), (0, u "Ljava/lang/String;"), (0, .fieldref 8 14), (0, .nameAndType 15 12), (0, u "payload"), (0, .fieldref 8 17), (0, .nameAndType 18 19), (0, u "maxAttempts"), (0, u "I"), (0, .fieldref 8 21), (0, .nameAndType 22 23), (0, u "backoff"), (0, u "Ljava/time/Duration;"), (0, .fieldref 8 25), (0, .nameAndType 26 27), (0, u "priority"), (0, u "Lcom/example/baklog/baklog/Priority;"), (0, .fieldref 8 29), (0, .nameAndType 30 31), (0, u "runAt"), (0, u "Ljava/time/Instant;"), (0, .fieldref 8 33), (0, .nameAndType 34 23), (0, u "DEFAULT_BACKOFF"), (0, .fieldref 8 36), (0, .nameAndType 37 27), (0, u "DEFAULT_PRIORITY"), (0, .methodref 8 39), (0, .nameAndType 5 40), (0, u "(Ljava/lang/String;Ljava/lang/String;ILjava/time/Duration;Lcom/example/baklog/baklog/Priority;Ljava/time/Instant;)V"), (10, u "EARLIEST_RUN_AT"), (8, u "LATEST_RUN_AT"), (48, u "MAX_RETRY_DELAY"), (39, u "DEFAULT_MAX_ATTEMPTS"), (4, u "of"), (0, u "(Ljava/lang/String;Ljava/lang/String;)Lcom/example/baklog/baklog/JobRequest;"), (5, u "()Ljava/lang/String;"), (0, u "()I"), (0, u "()Ljava/time/Duration;"), (0, u "()Lcom/example/baklog/baklog/Priority;")] 25

def k9c0 : Code := { maxStack := 2, maxLocals := 7, code := prog_7_method_1_code, exceptionTable := #[], attributes := #[] }
def k9m0 : Method := { name := "<init>", desc := "(Ljava/lang/String;Ljava/lang/String;ILjava/time/Duration;Lcom/example/baklog/baklog/Priority;Ljava/time/Instant;)V", sig := { parameters := [(.object "java/lang/String"), (.object "java/lang/String"), .int, (.object "java/time/Duration"), (.object "com/example/baklog/baklog/Priority"), (.object "java/time/Instant")], returnType := none }, accessFlags := 2, code := some k9c0 }
def k9c1 : Code := { maxStack := 8, maxLocals := 2, code := prog_7_method_2_code, exceptionTable := #[], attributes := #[] }
def k9m1 : Method := { name := "of", desc := "(Ljava/lang/String;Ljava/lang/String;)Lcom/example/baklog/baklog/JobRequest;", sig := { parameters := [(.object "java/lang/String"), (.object "java/lang/String")], returnType := some (.object "com/example/baklog/baklog/JobRequest") }, accessFlags := 9, code := some k9c1 }
def k9c2 : Code := { maxStack := 1, maxLocals := 1, code := prog_7_method_7_code, exceptionTable := #[], attributes := #[] }
def k9m2 : Method := { name := "handler", desc := "()Ljava/lang/String;", sig := { parameters := [], returnType := some (.object "java/lang/String") }, accessFlags := 0, code := some k9c2 }
def k9c3 : Code := { maxStack := 1, maxLocals := 1, code := prog_7_method_8_code, exceptionTable := #[], attributes := #[] }
def k9m3 : Method := { name := "payload", desc := "()Ljava/lang/String;", sig := { parameters := [], returnType := some (.object "java/lang/String") }, accessFlags := 0, code := some k9c3 }
def k9c4 : Code := { maxStack := 1, maxLocals := 1, code := prog_7_method_9_code, exceptionTable := #[], attributes := #[] }
def k9m4 : Method := { name := "maxAttempts", desc := "()I", sig := { parameters := [], returnType := some .int }, accessFlags := 0, code := some k9c4 }
def k9c5 : Code := { maxStack := 1, maxLocals := 1, code := prog_7_method_10_code, exceptionTable := #[], attributes := #[] }
def k9m5 : Method := { name := "backoff", desc := "()Ljava/time/Duration;", sig := { parameters := [], returnType := some (.object "java/time/Duration") }, accessFlags := 0, code := some k9c5 }
def k9c6 : Code := { maxStack := 1, maxLocals := 1, code := prog_7_method_11_code, exceptionTable := #[], attributes := #[] }
def k9m6 : Method := { name := "priority", desc := "()Lcom/example/baklog/baklog/Priority;", sig := { parameters := [], returnType := some (.object "com/example/baklog/baklog/Priority") }, accessFlags := 0, code := some k9c6 }
/-- com/example/baklog/baklog/JobRequest -/
def k9 : Class := { plain "com/example/baklog/baklog/JobRequest" (some 0) with
  accessFlags := 33
  interfaces := #[]
  cf := some (fileOf pool9 8 #[] #[{ accessFlags := 2, nameIndex := 5, descriptorIndex := 40, attributes := #[] }, { accessFlags := 9, nameIndex := 154, descriptorIndex := 155, attributes := #[] }, { accessFlags := 0, nameIndex := 11, descriptorIndex := 161, attributes := #[] }, { accessFlags := 0, nameIndex := 15, descriptorIndex := 161, attributes := #[] }, { accessFlags := 0, nameIndex := 18, descriptorIndex := 162, attributes := #[] }, { accessFlags := 0, nameIndex := 22, descriptorIndex := 163, attributes := #[] }, { accessFlags := 0, nameIndex := 26, descriptorIndex := 164, attributes := #[] }] 33 2 #[] #[{ accessFlags := 24, nameIndex := 109, descriptorIndex := 23, attributes := #[] }, { accessFlags := 26, nameIndex := 51, descriptorIndex := 31, attributes := #[] }, { accessFlags := 26, nameIndex := 60, descriptorIndex := 31, attributes := #[] }, { accessFlags := 26, nameIndex := 149, descriptorIndex := 19, attributes := #[] }, { accessFlags := 26, nameIndex := 34, descriptorIndex := 23, attributes := #[] }, { accessFlags := 26, nameIndex := 37, descriptorIndex := 27, attributes := #[] }, { accessFlags := 18, nameIndex := 11, descriptorIndex := 12, attributes := #[] }, { accessFlags := 18, nameIndex := 15, descriptorIndex := 12, attributes := #[] }, { accessFlags := 18, nameIndex := 18, descriptorIndex := 19, attributes := #[] }, { accessFlags := 18, nameIndex := 22, descriptorIndex := 23, attributes := #[] }, { accessFlags := 18, nameIndex := 26, descriptorIndex := 27, attributes := #[] }, { accessFlags := 18, nameIndex := 30, descriptorIndex := 31, attributes := #[] }])
  fields := #[{ name := "MAX_RETRY_DELAY", type := (.object "java/time/Duration"), accessFlags := 24, slot := 0, constantValue := 0 }, { name := "EARLIEST_RUN_AT", type := (.object "java/time/Instant"), accessFlags := 26, slot := 1, constantValue := 0 }, { name := "LATEST_RUN_AT", type := (.object "java/time/Instant"), accessFlags := 26, slot := 2, constantValue := 0 }, { name := "DEFAULT_MAX_ATTEMPTS", type := .int, accessFlags := 26, slot := 3, constantValue := 0 }, { name := "DEFAULT_BACKOFF", type := (.object "java/time/Duration"), accessFlags := 26, slot := 4, constantValue := 0 }, { name := "DEFAULT_PRIORITY", type := (.object "com/example/baklog/baklog/Priority"), accessFlags := 26, slot := 5, constantValue := 0 }, { name := "handler", type := (.object "java/lang/String"), accessFlags := 18, slot := 0, constantValue := 0 }, { name := "payload", type := (.object "java/lang/String"), accessFlags := 18, slot := 1, constantValue := 0 }, { name := "maxAttempts", type := .int, accessFlags := 18, slot := 2, constantValue := 0 }, { name := "backoff", type := (.object "java/time/Duration"), accessFlags := 18, slot := 3, constantValue := 0 }, { name := "priority", type := (.object "com/example/baklog/baklog/Priority"), accessFlags := 18, slot := 4, constantValue := 0 }, { name := "runAt", type := (.object "java/time/Instant"), accessFlags := 18, slot := 5, constantValue := 0 }]
  methods := #[k9m0, k9m1, k9m2, k9m3, k9m4, k9m5, k9m6]
  instanceTypes := #[(.object "java/lang/String"), (.object "java/lang/String"), .int, (.object "java/time/Duration"), (.object "com/example/baklog/baklog/Priority"), (.object "java/time/Instant")]
  staticTypes := #[(.object "java/time/Duration"), (.object "java/time/Instant"), (.object "java/time/Instant"), .int, (.object "java/time/Duration"), (.object "com/example/baklog/baklog/Priority")]
  resolved := Array.replicate 190 none
  statics := some 1 }

def pool10 : Array CpInfo := pool [(2, .class_ 4), (1, u "java/lang/Enum"), (0, u "name"), (0, u "Ljava/lang/String;"), (2, u "ordinal"), (0, u "I"), (1, .class_ 14), (1, u "java/lang/Object"), (4, u "hash"), (86, .class_ 108), (1, u "java/lang/Enum$EnumDesc"), (2, .class_ 112), (0, u "java/lang/constant/Constable"), (0, .class_ 114), (0, u "java/lang/Comparable"), (0, .class_ 116), (0, u "java/io/Serializable")] 87

/-- java/lang/Enum -/
def k10 : Class := { plain "java/lang/Enum" (some 0) with
  accessFlags := 1057
  interfaces := #[5, 3, 2]
  cf := some (fileOf pool10 2 #[.nestMembers #[106]] #[] 1057 12 #[111, 113, 115] #[{ accessFlags := 18, nameIndex := 5, descriptorIndex := 6, attributes := #[] }, { accessFlags := 18, nameIndex := 9, descriptorIndex := 10, attributes := #[] }, { accessFlags := 2, nameIndex := 19, descriptorIndex := 10, attributes := #[] }])
  fields := #[{ name := "name", type := (.object "java/lang/String"), accessFlags := 18, slot := 0, constantValue := 0 }, { name := "ordinal", type := .int, accessFlags := 18, slot := 1, constantValue := 0 }, { name := "hash", type := .int, accessFlags := 2, slot := 2, constantValue := 0 }]
  methods := #[]
  instanceTypes := #[(.object "java/lang/String"), .int, .int]
  staticTypes := #[]
  resolved := Array.replicate 204 none
  statics := none }

def pool11 : Array CpInfo := pool [(1, .class_ 2), (0, u "com/example/baklog/baklog/Priority"), (2, u "LOWEST"), (0, u "Lcom/example/baklog/baklog/Priority;"), (2, u "LOW"), (2, u "NORMAL"), (2, u "HIGH"), (2, u "CRITICAL"), (2, u "$VALUES"), (0, u "[Lcom/example/baklog/baklog/Priority;"), (6, .class_ 31), (1, u "java/lang/Enum"), (8, u "value"), (0, u "I")] 25

/-- com/example/baklog/baklog/Priority -/
def k11 : Class := { plain "com/example/baklog/baklog/Priority" (some 10) with
  accessFlags := 16433
  interfaces := #[]
  cf := some (fileOf pool11 1 #[] #[] 16433 29 #[] #[{ accessFlags := 16409, nameIndex := 5, descriptorIndex := 6, attributes := #[] }, { accessFlags := 16409, nameIndex := 9, descriptorIndex := 6, attributes := #[] }, { accessFlags := 16409, nameIndex := 12, descriptorIndex := 6, attributes := #[] }, { accessFlags := 16409, nameIndex := 15, descriptorIndex := 6, attributes := #[] }, { accessFlags := 16409, nameIndex := 18, descriptorIndex := 6, attributes := #[] }, { accessFlags := 18, nameIndex := 40, descriptorIndex := 41, attributes := #[] }, { accessFlags := 4122, nameIndex := 21, descriptorIndex := 22, attributes := #[] }])
  fields := #[{ name := "LOWEST", type := (.object "com/example/baklog/baklog/Priority"), accessFlags := 16409, slot := 0, constantValue := 0 }, { name := "LOW", type := (.object "com/example/baklog/baklog/Priority"), accessFlags := 16409, slot := 1, constantValue := 0 }, { name := "NORMAL", type := (.object "com/example/baklog/baklog/Priority"), accessFlags := 16409, slot := 2, constantValue := 0 }, { name := "HIGH", type := (.object "com/example/baklog/baklog/Priority"), accessFlags := 16409, slot := 3, constantValue := 0 }, { name := "CRITICAL", type := (.object "com/example/baklog/baklog/Priority"), accessFlags := 16409, slot := 4, constantValue := 0 }, { name := "value", type := .int, accessFlags := 18, slot := 3, constantValue := 0 }, { name := "$VALUES", type := (.array (.object "com/example/baklog/baklog/Priority")), accessFlags := 4122, slot := 5, constantValue := 0 }]
  methods := #[]
  instanceTypes := #[(.object "java/lang/String"), .int, .int, .int]
  staticTypes := #[(.object "com/example/baklog/baklog/Priority"), (.object "com/example/baklog/baklog/Priority"), (.object "com/example/baklog/baklog/Priority"), (.object "com/example/baklog/baklog/Priority"), (.object "com/example/baklog/baklog/Priority"), (.array (.object "com/example/baklog/baklog/Priority"))]
  resolved := Array.replicate 67 none
  statics := some 2 }

def pool12 : Array CpInfo := pool [(4, .class_ 6), (1, u "java/lang/Object"), (0, u "<init>"), (0, u "()V"), (5, .class_ 16), (1, u "java/lang/StringLatin1"), (73, u "canEncode"), (14, u "(C)Z"), (15, u "$assertionsDisabled"), (0, u "Z"), (98, .class_ 223), (1, u "java/lang/StringLatin1$LinesSpliterator"), (156, u "toBytes"), (1, u "(C)[B"), (7, .class_ 391), (0, u "java/lang/StringLatin1$CharsSpliterator")] 3

def k12m0 : Method := { name := "<init>", desc := "()V", sig := { parameters := [], returnType := none }, accessFlags := 0, code := none }
def k12c1 : Code := { maxStack := 2, maxLocals := 1, code := jdk_43_method_3_code, exceptionTable := #[], attributes := #[] }
def k12m1 : Method := { name := "canEncode", desc := "(C)Z", sig := { parameters := [.char], returnType := some .boolean }, accessFlags := 9, code := some k12c1 }
def k12c2 : Code := { maxStack := 4, maxLocals := 1, code := jdk_43_method_46_code, exceptionTable := #[], attributes := #[] }
def k12m2 : Method := { name := "toBytes", desc := "(C)[B", sig := { parameters := [.char], returnType := some (.array .byte) }, accessFlags := 9, code := some k12c2 }
/-- java/lang/StringLatin1 -/
def k12 : Class := { plain "java/lang/StringLatin1" (some 0) with
  accessFlags := 48
  interfaces := #[]
  cf := some (fileOf pool12 14 #[.nestMembers #[390, 221]] #[{ accessFlags := 0, nameIndex := 7, descriptorIndex := 8, attributes := #[] }, { accessFlags := 9, nameIndex := 90, descriptorIndex := 105, attributes := #[] }, { accessFlags := 9, nameIndex := 380, descriptorIndex := 382, attributes := #[] }] 48 4 #[] #[{ accessFlags := 4120, nameIndex := 121, descriptorIndex := 122, attributes := #[] }])
  fields := #[{ name := "$assertionsDisabled", type := .boolean, accessFlags := 4120, slot := 0, constantValue := 0 }]
  methods := #[k12m0, k12m1, k12m2]
  instanceTypes := #[]
  staticTypes := #[.boolean]
  resolved := Array.replicate 395 none
  statics := none }

def pool13 : Array CpInfo := pool [(2, .class_ 4), (1, u "java/lang/Object"), (0, u "<init>"), (0, u "()V"), (17, .class_ 26), (1, u "jdk/internal/util/Preconditions"), (28, .class_ 56), (0, u "jdk/internal/util/Preconditions$4"), (57, .class_ 115), (0, u "jdk/internal/util/Preconditions$1"), (7, u "SIOOBE_FORMATTER"), (0, u "Ljava/util/function/BiFunction;"), (0, .class_ 126), (0, u "jdk/internal/util/Preconditions$2"), (3, u "AIOOBE_FORMATTER"), (0, .class_ 132), (0, u "jdk/internal/util/Preconditions$3"), (3, u "IOOBE_FORMATTER")] 57

def k13m0 : Method := { name := "<init>", desc := "()V", sig := { parameters := [], returnType := none }, accessFlags := 1, code := none }
/-- jdk/internal/util/Preconditions -/
def k13 : Class := { plain "jdk/internal/util/Preconditions" (some 0) with
  accessFlags := 33
  interfaces := #[]
  cf := some (fileOf pool13 24 #[.nestMembers #[55, 131, 125, 114]] #[{ accessFlags := 1, nameIndex := 5, descriptorIndex := 6, attributes := #[] }] 33 2 #[] #[{ accessFlags := 25, nameIndex := 123, descriptorIndex := 124, attributes := #[] }, { accessFlags := 25, nameIndex := 130, descriptorIndex := 124, attributes := #[] }, { accessFlags := 25, nameIndex := 136, descriptorIndex := 124, attributes := #[] }])
  fields := #[{ name := "SIOOBE_FORMATTER", type := (.object "java/util/function/BiFunction"), accessFlags := 25, slot := 0, constantValue := 0 }, { name := "AIOOBE_FORMATTER", type := (.object "java/util/function/BiFunction"), accessFlags := 25, slot := 1, constantValue := 0 }, { name := "IOOBE_FORMATTER", type := (.object "java/util/function/BiFunction"), accessFlags := 25, slot := 2, constantValue := 0 }]
  methods := #[k13m0]
  instanceTypes := #[]
  staticTypes := #[(.object "java/util/function/BiFunction"), (.object "java/util/function/BiFunction"), (.object "java/util/function/BiFunction")]
  resolved := Array.replicate 194 none
  statics := some 3 }

def pool14 : Array CpInfo := pool [(9, u "<init>"), (6, .class_ 18), (1, u "java/lang/Object"), (0, u "()V"), (1, .class_ 23), (1, u "jdk/internal/util/ArraysSupport"), (0, u "LOG2_ARRAY_LONG_INDEX_SCALE"), (0, u "I"), (2, u "U"), (0, u "Ljdk/internal/misc/Unsafe;"), (8, u "BIG_ENDIAN"), (0, u "Z"), (8, u "LOG2_BYTE_BIT_SIZE"), (4, u "LOG2_ARRAY_INT_INDEX_SCALE"), (54, u "JLA"), (0, u "Ljdk/internal/access/JavaLangAccess;"), (11, u "LOG2_ARRAY_BOOLEAN_INDEX_SCALE"), (9, u "LOG2_ARRAY_BYTE_INDEX_SCALE"), (5, u "LOG2_ARRAY_CHAR_INDEX_SCALE"), (5, u "LOG2_ARRAY_SHORT_INDEX_SCALE"), (18, u "LOG2_ARRAY_FLOAT_INDEX_SCALE"), (24, u "LOG2_ARRAY_DOUBLE_INDEX_SCALE"), (89, u "T_BOOLEAN"), (2, u "T_CHAR"), (1, u "T_FLOAT"), (1, u "T_DOUBLE"), (1, u "T_BYTE"), (1, u "T_SHORT"), (1, u "T_INT"), (1, u "T_LONG"), (1, u "SOFT_MAX_ARRAY_LENGTH")] 83

def k14m0 : Method := { name := "<init>", desc := "()V", sig := { parameters := [], returnType := none }, accessFlags := 2, code := none }
/-- jdk/internal/util/ArraysSupport -/
def k14 : Class := { plain "jdk/internal/util/ArraysSupport" (some 0) with
  accessFlags := 33
  interfaces := #[]
  cf := some (fileOf pool14 21 #[] #[{ accessFlags := 2, nameIndex := 9, descriptorIndex := 19, attributes := #[] }] 33 16 #[] #[{ accessFlags := 24, nameIndex := 28, descriptorIndex := 29, attributes := #[] }, { accessFlags := 26, nameIndex := 38, descriptorIndex := 39, attributes := #[] }, { accessFlags := 25, nameIndex := 121, descriptorIndex := 25, attributes := #[] }, { accessFlags := 25, nameIndex := 131, descriptorIndex := 25, attributes := #[] }, { accessFlags := 25, nameIndex := 137, descriptorIndex := 25, attributes := #[] }, { accessFlags := 25, nameIndex := 143, descriptorIndex := 25, attributes := #[] }, { accessFlags := 25, nameIndex := 53, descriptorIndex := 25, attributes := #[] }, { accessFlags := 25, nameIndex := 24, descriptorIndex := 25, attributes := #[] }, { accessFlags := 25, nameIndex := 162, descriptorIndex := 25, attributes := #[] }, { accessFlags := 25, nameIndex := 187, descriptorIndex := 25, attributes := #[] }, { accessFlags := 26, nameIndex := 48, descriptorIndex := 25, attributes := #[] }, { accessFlags := 25, nameIndex := 277, descriptorIndex := 25, attributes := #[] }, { accessFlags := 25, nameIndex := 280, descriptorIndex := 25, attributes := #[] }, { accessFlags := 25, nameIndex := 282, descriptorIndex := 25, attributes := #[] }, { accessFlags := 25, nameIndex := 284, descriptorIndex := 25, attributes := #[] }, { accessFlags := 25, nameIndex := 286, descriptorIndex := 25, attributes := #[] }, { accessFlags := 25, nameIndex := 288, descriptorIndex := 25, attributes := #[] }, { accessFlags := 25, nameIndex := 290, descriptorIndex := 25, attributes := #[] }, { accessFlags := 25, nameIndex := 292, descriptorIndex := 25, attributes := #[] }, { accessFlags := 26, nameIndex := 108, descriptorIndex := 109, attributes := #[] }, { accessFlags := 25, nameIndex := 294, descriptorIndex := 25, attributes := #[] }])
  fields := #[{ name := "U", type := (.object "jdk/internal/misc/Unsafe"), accessFlags := 24, slot := 0, constantValue := 0 }, { name := "BIG_ENDIAN", type := .boolean, accessFlags := 26, slot := 1, constantValue := 0 }, { name := "LOG2_ARRAY_BOOLEAN_INDEX_SCALE", type := .int, accessFlags := 25, slot := 2, constantValue := 0 }, { name := "LOG2_ARRAY_BYTE_INDEX_SCALE", type := .int, accessFlags := 25, slot := 3, constantValue := 0 }, { name := "LOG2_ARRAY_CHAR_INDEX_SCALE", type := .int, accessFlags := 25, slot := 4, constantValue := 0 }, { name := "LOG2_ARRAY_SHORT_INDEX_SCALE", type := .int, accessFlags := 25, slot := 5, constantValue := 0 }, { name := "LOG2_ARRAY_INT_INDEX_SCALE", type := .int, accessFlags := 25, slot := 6, constantValue := 0 }, { name := "LOG2_ARRAY_LONG_INDEX_SCALE", type := .int, accessFlags := 25, slot := 7, constantValue := 0 }, { name := "LOG2_ARRAY_FLOAT_INDEX_SCALE", type := .int, accessFlags := 25, slot := 8, constantValue := 0 }, { name := "LOG2_ARRAY_DOUBLE_INDEX_SCALE", type := .int, accessFlags := 25, slot := 9, constantValue := 0 }, { name := "LOG2_BYTE_BIT_SIZE", type := .int, accessFlags := 26, slot := 10, constantValue := 0 }, { name := "T_BOOLEAN", type := .int, accessFlags := 25, slot := 11, constantValue := 0 }, { name := "T_CHAR", type := .int, accessFlags := 25, slot := 12, constantValue := 0 }, { name := "T_FLOAT", type := .int, accessFlags := 25, slot := 13, constantValue := 0 }, { name := "T_DOUBLE", type := .int, accessFlags := 25, slot := 14, constantValue := 0 }, { name := "T_BYTE", type := .int, accessFlags := 25, slot := 15, constantValue := 0 }, { name := "T_SHORT", type := .int, accessFlags := 25, slot := 16, constantValue := 0 }, { name := "T_INT", type := .int, accessFlags := 25, slot := 17, constantValue := 0 }, { name := "T_LONG", type := .int, accessFlags := 25, slot := 18, constantValue := 0 }, { name := "JLA", type := (.object "jdk/internal/access/JavaLangAccess"), accessFlags := 26, slot := 19, constantValue := 0 }, { name := "SOFT_MAX_ARRAY_LENGTH", type := .int, accessFlags := 25, slot := 20, constantValue := 0 }]
  methods := #[k14m0]
  instanceTypes := #[]
  staticTypes := #[(.object "jdk/internal/misc/Unsafe"), .boolean, .int, .int, .int, .int, .int, .int, .int, .int, .int, .int, .int, .int, .int, .int, .int, .int, .int, (.object "jdk/internal/access/JavaLangAccess"), .int]
  resolved := Array.replicate 378 none
  statics := none }

def pool15 : Array CpInfo := pool [(1, .class_ 2), (0, u "java/time/temporal/TemporalAmount"), (0, .class_ 4), (0, u "java/lang/Object")] 11

/-- java/time/temporal/TemporalAmount -/
def k15 : Class := { plain "java/time/temporal/TemporalAmount" (some 0) with
  accessFlags := 1537
  interfaces := #[]
  cf := some (fileOf pool15 1 #[] #[] 1537 3 #[] #[])
  fields := #[]
  methods := #[]
  instanceTypes := #[]
  staticTypes := #[]
  resolved := Array.replicate 16 none
  statics := none }

def pool16 : Array CpInfo := pool [(11, .class_ 13), (1, u "java/time/Duration"), (20, u "ZERO"), (0, u "Ljava/time/Duration;"), (13, .class_ 51), (1, u "java/time/temporal/TemporalAmount"), (27, .class_ 81), (1, u "java/time/Duration$Lazy"), (35, u "seconds"), (101, .class_ 220), (0, u "java/lang/Object"), (2, u "J"), (2, u "nanos"), (0, u "I"), (11, .class_ 241), (1, u "java/time/Duration$DurationUnits"), (27, .class_ 271), (1, u "java/time/Duration$1"), (91, u "BI_NANOS_PER_SECOND"), (0, u "Ljava/math/BigInteger;"), (120, .class_ 486), (0, u "java/lang/Comparable"), (0, .class_ 488), (0, u "java/io/Serializable"), (0, u "serialVersionUID")] 166

/-- java/time/Duration -/
def k16 : Class := { plain "java/time/Duration" (some 0) with
  accessFlags := 49
  interfaces := #[15, 3, 2]
  cf := some (fileOf pool16 11 #[.nestMembers #[269, 239, 79]] #[] 49 219 #[49, 485, 487] #[{ accessFlags := 25, nameIndex := 34, descriptorIndex := 35, attributes := #[] }, { accessFlags := 26, nameIndex := 489, descriptorIndex := 223, attributes := #[] }, { accessFlags := 26, nameIndex := 363, descriptorIndex := 364, attributes := #[] }, { accessFlags := 18, nameIndex := 117, descriptorIndex := 223, attributes := #[] }, { accessFlags := 18, nameIndex := 226, descriptorIndex := 227, attributes := #[] }])
  fields := #[{ name := "ZERO", type := (.object "java/time/Duration"), accessFlags := 25, slot := 0, constantValue := 0 }, { name := "serialVersionUID", type := .long, accessFlags := 26, slot := 1, constantValue := 0 }, { name := "BI_NANOS_PER_SECOND", type := (.object "java/math/BigInteger"), accessFlags := 26, slot := 2, constantValue := 0 }, { name := "seconds", type := .long, accessFlags := 18, slot := 0, constantValue := 0 }, { name := "nanos", type := .int, accessFlags := 18, slot := 1, constantValue := 0 }]
  methods := #[]
  instanceTypes := #[.long, .int]
  staticTypes := #[(.object "java/time/Duration"), .long, (.object "java/math/BigInteger")]
  resolved := Array.replicate 656 none
  statics := none }

def pool17 : Array CpInfo := pool [(1, u "java/lang/Cloneable"), (0, .class_ 1), (0, u "java/lang/Object"), (0, .class_ 3)] 3

/-- java/lang/Cloneable -/
def k17 : Class := { plain "java/lang/Cloneable" (some 0) with
  accessFlags := 1537
  interfaces := #[]
  cf := some (fileOf pool17 2 #[] #[] 1537 4 #[] #[])
  fields := #[]
  methods := #[]
  instanceTypes := #[]
  staticTypes := #[]
  resolved := Array.replicate 8 none
  statics := none }

/-- the primitive byte -/
def k18 : Class := { plain "byte" none with kind := .primitive 'B', accessFlags := 0x411 }
/-- [B -/
def k19 : Class := { plain "[B" (some 0) with kind := .array 18 .byte, interfaces := #[17, 2], accessFlags := 1041 }

/-- the primitive char -/
def k20 : Class := { plain "char" none with kind := .primitive 'C', accessFlags := 0x411 }
/-- [C -/
def k21 : Class := { plain "[C" (some 0) with kind := .array 20 .char, interfaces := #[17, 2], accessFlags := 1041 }

/-- the primitive int -/
def k22 : Class := { plain "int" none with kind := .primitive 'I', accessFlags := 0x411 }
/-- [I -/
def k23 : Class := { plain "[I" (some 0) with kind := .array 22 .int, interfaces := #[17, 2], accessFlags := 1041 }

def heap : Heap := #[{ cls := 7, slots := #[.long 0, .int 1, .null, .int 0, .null, .int 0, .int 0], vm := .statics 7 },
  { cls := 9, slots := #[.null, .null, .null, .int 0, .ref 4, .ref 5], vm := .statics 9 },
  { cls := 11, slots := #[.null, .null, .ref 5, .null, .null, .null], vm := .statics 11 },
  { cls := 13, slots := #[.null, .null, .null], vm := .statics 13 },
  { cls := 16, slots := #[.long 0, .int 0], vm := .none },
  { cls := 11, slots := #[.null, .int 0, .int 0, .int 0], vm := .none }]
def classes : Array Class := #[k0, k1, k2, k3, k4, k5, k6, k7, k8, k9, k10, k11, k12, k13, k14, k15, k16, k17, k18, k19, k20, k21, k22, k23]
def interned : List (Array UInt16 × Addr) := []
def slotsUsed : Nat := 28
def theMethod : MethodId := ⟨1, 2⟩
def args0 : Array Value := #[.int 5, .int 5, .int 5, .int 5]
def aboutOver (below : List Frame) : State where
  vm := { classes := classes, interned := interned.toArray }
  heap := heap
  slotsUsed := slotsUsed
  threads := #[{ frames := .invoking theMethod args0 :: below }]
def below0 : List Frame := [.native { method := ⟨0, 0⟩, args := #[] }]
def about1 : State := aboutOver below0
def p0 : Program := .bare "" "" ""
def e0 : Env := launch0.env 0 0 0
theorem w_frames : about1.frames = Frame.invoking theMethod args0 :: below0 := rfl
set_option maxRecDepth 65536 in
theorem w_args : argsFit about1.vm theMethod args0 = true := by decide +kernel
set_option maxRecDepth 65536 in
theorem w_heap : heapFits about1 = true := by decide +kernel
set_option maxRecDepth 65536 in
theorem w_runnable : about1.curStatus? = some .runnable := by decide +kernel
set_option maxRecDepth 65536 in
theorem w_alone : about1.alone = true := by decide +kernel
set_option maxRecDepth 65536 in
theorem w_named : about1.methodNamed? x = some theMethod := by decide +kernel
set_option maxRecDepth 65536 in
theorem w_hears : about1.hears theMethod below0 = true := by decide +kernel
set_option maxRecDepth 65536 in
theorem w_ripe : about1.ripe theMethod args0 below0 = true := by decide +kernel
theorem w_running : about1.status = .running := rfl
set_option maxRecDepth 65536 in
theorem w_room : about1.hasRoom e0.platform room_1 = true :=
  launch0.hasRoom_least _ room_1 (by decide +kernel) (by decide +kernel) (by decide +kernel) (by decide +kernel) (by decide +kernel) (by decide +kernel)
theorem allAtoms_all (ts : List Jvm.Cond) (a : Array Jvm.Value) (st : Jvm.State) : (allAtoms ts).before a st = ts.all (fun c => c.before a st) := by
  induction ts with
  | nil => rfl
  | cons c t ih =>
    show (Jvm.Cond.and c (allAtoms t)).before a st = _
    rw [Jvm.Cond.before_and, ih, List.all_cons]
def words1 : List Jvm.Cond := Jvm.Cond.code x code maxLocals ret :: tables_1
/-- a 'code' word, met by the world's own term for the bytes: nothing is compared byte by byte -/
theorem code_word {y : MethodName} {bytes : ByteArray} {mx : Nat} {rt : Option FieldType} {a : Array Value} {s : State} {m : MethodId} {meth : Method} {c : Code} (h1 : s.methodNamed? y = some m) (h2 : s.vm.method? m = some meth) (h3 : meth.code = some c) (h4 : c.code = bytes)
    (h5 : (c.maxLocals == mx && c.exceptionTable.isEmpty && decide (c.maxStack ≤ mostOperands) && decide (meth.sig.returnType = rt) && !meth.locks && decide (parseMethodDescriptor y.desc = some meth.sig)) = true) : (Jvm.Cond.code y bytes mx rt).before a s = true := by
  simp only [Bool.and_eq_true, beq_iff_eq, Bool.not_eq_true', decide_eq_true_eq] at h5
  obtain ⟨⟨⟨⟨⟨g1, g2⟩, g3⟩, g4⟩, g5⟩, g6⟩ := h5
  simp [Cond.before, Cond.holds, Cond.value, h1, h2, h3, h4, g1, g2, g3, g4, g5, g6]
def isCode : Jvm.Cond → Bool
  | .code _ _ _ _ => true
  | _ => false
theorem all_split {L : List Jvm.Cond} {P : Jvm.Cond → Bool} (h1 : L.all (fun c => isCode c || P c) = true) (h2 : ∀ c ∈ L.filter isCode, P c = true) : L.all P = true := by
  refine List.all_eq_true.mpr fun c hc => ?_
  have h := List.all_eq_true.mp h1 c hc
  rcases Bool.eq_false_or_eq_true (isCode c) with hi | hi
  · exact h2 c (List.mem_filter.mpr ⟨hc, hi⟩)
  · simpa [hi] using h
set_option maxRecDepth 65536 in
theorem w_c0 : (Jvm.Cond.code x code maxLocals ret).before args0 about1 = true := code_word (m := ⟨1, 2⟩) (meth := k1m2) (c := k1c2) (by decide +kernel) rfl rfl rfl (by decide +kernel)
set_option maxRecDepth 65536 in
theorem w_c1 : (Jvm.Cond.code ({ cls := "com/example/baklog/baklog/JobRequestOfPinLaw", name := "draw", desc := "(II)Ljava/lang/String;" } : Jvm.MethodName) method_2_code (7 : Nat) (Option.some (Jvm.ClassFile.FieldType.object "java/lang/String"))).before args0 about1 = true := code_word (m := ⟨1, 1⟩) (meth := k1m1) (c := k1c1) (by decide +kernel) rfl rfl rfl (by decide +kernel)
set_option maxRecDepth 65536 in
theorem w_c2 : (Jvm.Cond.code ({ cls := "java/lang/String", name := "<init>", desc := "([C)V" } : Jvm.MethodName) jdk_42_method_3_code (2 : Nat) (Option.none : Option Jvm.ClassFile.FieldType)).before args0 about1 = true := code_word (m := ⟨7, 1⟩) (meth := k7m1) (c := k7c1) (by decide +kernel) rfl rfl rfl (by decide +kernel)
set_option maxRecDepth 65536 in
theorem w_c3 : (Jvm.Cond.code ({ cls := "java/lang/String", name := "<init>", desc := "([CIILjava/lang/Void;)V" } : Jvm.MethodName) jdk_42_method_149_code (6 : Nat) (Option.none : Option Jvm.ClassFile.FieldType)).before args0 about1 = true := code_word (m := ⟨7, 3⟩) (meth := k7m3) (c := k7c3) (by decide +kernel) rfl rfl rfl (by decide +kernel)
set_option maxRecDepth 65536 in
theorem w_c4 : (Jvm.Cond.code ({ cls := "java/lang/Object", name := "<init>", desc := "()V" } : Jvm.MethodName) object_method_1_code (1 : Nat) (Option.none : Option Jvm.ClassFile.FieldType)).before args0 about1 = true := code_word (m := ⟨0, 0⟩) (meth := k0m0) (c := k0c0) (by decide +kernel) rfl rfl rfl (by decide +kernel)
set_option maxRecDepth 65536 in
theorem w_c5 : (Jvm.Cond.code ({ cls := "java/lang/StringUTF16", name := "compress", desc := "([CII)[B" } : Jvm.MethodName) jdk_52_method_16_code (6 : Nat) (Option.some (Jvm.ClassFile.FieldType.array Jvm.ClassFile.FieldType.byte))).before args0 about1 = true := code_word (m := ⟨8, 2⟩) (meth := k8m2) (c := k8c2) (by decide +kernel) rfl rfl rfl (by decide +kernel)
set_option maxRecDepth 65536 in
theorem w_c6 : (Jvm.Cond.code ({ cls := "java/lang/StringUTF16", name := "compress", desc := "([CI[BII)I" } : Jvm.MethodName) jdk_52_method_21_code (7 : Nat) (Option.some Jvm.ClassFile.FieldType.int)).before args0 about1 = true := code_word (m := ⟨8, 3⟩) (meth := k8m3) (c := k8c3) (by decide +kernel) rfl rfl rfl (by decide +kernel)
set_option maxRecDepth 65536 in
theorem w_c7 : (Jvm.Cond.code ({ cls := "java/lang/StringUTF16", name := "coderFromArrayLen", desc := "([BI)B" } : Jvm.MethodName) jdk_52_method_15_code (2 : Nat) (Option.some Jvm.ClassFile.FieldType.byte)).before args0 about1 = true := code_word (m := ⟨8, 1⟩) (meth := k8m1) (c := k8c1) (by decide +kernel) rfl rfl rfl (by decide +kernel)
set_option maxRecDepth 65536 in
theorem w_c8 : (Jvm.Cond.code ({ cls := "com/example/baklog/baklog/JobRequest", name := "of", desc := "(Ljava/lang/String;Ljava/lang/String;)Lcom/example/baklog/baklog/JobRequest;" } : Jvm.MethodName) prog_7_method_2_code (2 : Nat) (Option.some (Jvm.ClassFile.FieldType.object "com/example/baklog/baklog/JobRequest"))).before args0 about1 = true := code_word (m := ⟨9, 1⟩) (meth := k9m1) (c := k9c1) (by decide +kernel) rfl rfl rfl (by decide +kernel)
set_option maxRecDepth 65536 in
theorem w_c9 : (Jvm.Cond.code ({ cls := "com/example/baklog/baklog/JobRequest", name := "<init>", desc := "(Ljava/lang/String;Ljava/lang/String;ILjava/time/Duration;Lcom/example/baklog/baklog/Priority;Ljava/time/Instant;)V" } : Jvm.MethodName) prog_7_method_1_code (7 : Nat) (Option.none : Option Jvm.ClassFile.FieldType)).before args0 about1 = true := code_word (m := ⟨9, 0⟩) (meth := k9m0) (c := k9c0) (by decide +kernel) rfl rfl rfl (by decide +kernel)
set_option maxRecDepth 65536 in
theorem w_c10 : (Jvm.Cond.code ({ cls := "com/example/baklog/baklog/JobRequest", name := "handler", desc := "()Ljava/lang/String;" } : Jvm.MethodName) prog_7_method_7_code (1 : Nat) (Option.some (Jvm.ClassFile.FieldType.object "java/lang/String"))).before args0 about1 = true := code_word (m := ⟨9, 2⟩) (meth := k9m2) (c := k9c2) (by decide +kernel) rfl rfl rfl (by decide +kernel)
set_option maxRecDepth 65536 in
theorem w_c11 : (Jvm.Cond.code ({ cls := "com/example/baklog/baklog/JobRequest", name := "payload", desc := "()Ljava/lang/String;" } : Jvm.MethodName) prog_7_method_8_code (1 : Nat) (Option.some (Jvm.ClassFile.FieldType.object "java/lang/String"))).before args0 about1 = true := code_word (m := ⟨9, 3⟩) (meth := k9m3) (c := k9c3) (by decide +kernel) rfl rfl rfl (by decide +kernel)
set_option maxRecDepth 65536 in
theorem w_c12 : (Jvm.Cond.code ({ cls := "com/example/baklog/baklog/JobRequest", name := "maxAttempts", desc := "()I" } : Jvm.MethodName) prog_7_method_9_code (1 : Nat) (Option.some Jvm.ClassFile.FieldType.int)).before args0 about1 = true := code_word (m := ⟨9, 4⟩) (meth := k9m4) (c := k9c4) (by decide +kernel) rfl rfl rfl (by decide +kernel)
set_option maxRecDepth 65536 in
theorem w_c13 : (Jvm.Cond.code ({ cls := "com/example/baklog/baklog/JobRequest", name := "priority", desc := "()Lcom/example/baklog/baklog/Priority;" } : Jvm.MethodName) prog_7_method_11_code (1 : Nat) (Option.some (Jvm.ClassFile.FieldType.object "com/example/baklog/baklog/Priority"))).before args0 about1 = true := code_word (m := ⟨9, 6⟩) (meth := k9m6) (c := k9c6) (by decide +kernel) rfl rfl rfl (by decide +kernel)
set_option maxRecDepth 65536 in
theorem w_c14 : (Jvm.Cond.code ({ cls := "com/example/baklog/baklog/JobRequest", name := "backoff", desc := "()Ljava/time/Duration;" } : Jvm.MethodName) prog_7_method_10_code (1 : Nat) (Option.some (Jvm.ClassFile.FieldType.object "java/time/Duration"))).before args0 about1 = true := code_word (m := ⟨9, 5⟩) (meth := k9m5) (c := k9c5) (by decide +kernel) rfl rfl rfl (by decide +kernel)
set_option maxRecDepth 65536 in
theorem w_c15 : (Jvm.Cond.code ({ cls := "java/lang/String", name := "valueOf", desc := "(C)Ljava/lang/String;" } : Jvm.MethodName) jdk_42_method_139_code (1 : Nat) (Option.some (Jvm.ClassFile.FieldType.object "java/lang/String"))).before args0 about1 = true := code_word (m := ⟨7, 2⟩) (meth := k7m2) (c := k7c2) (by decide +kernel) rfl rfl rfl (by decide +kernel)
set_option maxRecDepth 65536 in
theorem w_c16 : (Jvm.Cond.code ({ cls := "java/lang/StringLatin1", name := "canEncode", desc := "(C)Z" } : Jvm.MethodName) jdk_43_method_3_code (1 : Nat) (Option.some Jvm.ClassFile.FieldType.boolean)).before args0 about1 = true := code_word (m := ⟨12, 1⟩) (meth := k12m1) (c := k12c1) (by decide +kernel) rfl rfl rfl (by decide +kernel)
set_option maxRecDepth 65536 in
theorem w_c17 : (Jvm.Cond.code ({ cls := "java/lang/StringLatin1", name := "toBytes", desc := "(C)[B" } : Jvm.MethodName) jdk_43_method_46_code (1 : Nat) (Option.some (Jvm.ClassFile.FieldType.array Jvm.ClassFile.FieldType.byte))).before args0 about1 = true := code_word (m := ⟨12, 2⟩) (meth := k12m2) (c := k12c2) (by decide +kernel) rfl rfl rfl (by decide +kernel)
set_option maxRecDepth 65536 in
theorem w_c18 : (Jvm.Cond.code ({ cls := "java/lang/String", name := "<init>", desc := "([BB)V" } : Jvm.MethodName) jdk_42_method_151_code (3 : Nat) (Option.none : Option Jvm.ClassFile.FieldType)).before args0 about1 = true := code_word (m := ⟨7, 4⟩) (meth := k7m4) (c := k7c4) (by decide +kernel) rfl rfl rfl (by decide +kernel)
def codes1 : List Jvm.Cond := [Jvm.Cond.code x code maxLocals ret, Jvm.Cond.code ({ cls := "com/example/baklog/baklog/JobRequestOfPinLaw", name := "draw", desc := "(II)Ljava/lang/String;" } : Jvm.MethodName) method_2_code (7 : Nat) (Option.some (Jvm.ClassFile.FieldType.object "java/lang/String")), Jvm.Cond.code ({ cls := "java/lang/String", name := "<init>", desc := "([C)V" } : Jvm.MethodName) jdk_42_method_3_code (2 : Nat) (Option.none : Option Jvm.ClassFile.FieldType), Jvm.Cond.code ({ cls := "java/lang/String", name := "<init>", desc := "([CIILjava/lang/Void;)V" } : Jvm.MethodName) jdk_42_method_149_code (6 : Nat) (Option.none : Option Jvm.ClassFile.FieldType), Jvm.Cond.code ({ cls := "java/lang/Object", name := "<init>", desc := "()V" } : Jvm.MethodName) object_method_1_code (1 : Nat) (Option.none : Option Jvm.ClassFile.FieldType), Jvm.Cond.code ({ cls := "java/lang/StringUTF16", name := "compress", desc := "([CII)[B" } : Jvm.MethodName) jdk_52_method_16_code (6 : Nat) (Option.some (Jvm.ClassFile.FieldType.array Jvm.ClassFile.FieldType.byte)), Jvm.Cond.code ({ cls := "java/lang/StringUTF16", name := "compress", desc := "([CI[BII)I" } : Jvm.MethodName) jdk_52_method_21_code (7 : Nat) (Option.some Jvm.ClassFile.FieldType.int), Jvm.Cond.code ({ cls := "java/lang/StringUTF16", name := "coderFromArrayLen", desc := "([BI)B" } : Jvm.MethodName) jdk_52_method_15_code (2 : Nat) (Option.some Jvm.ClassFile.FieldType.byte), Jvm.Cond.code ({ cls := "com/example/baklog/baklog/JobRequest", name := "of", desc := "(Ljava/lang/String;Ljava/lang/String;)Lcom/example/baklog/baklog/JobRequest;" } : Jvm.MethodName) prog_7_method_2_code (2 : Nat) (Option.some (Jvm.ClassFile.FieldType.object "com/example/baklog/baklog/JobRequest")), Jvm.Cond.code ({ cls := "com/example/baklog/baklog/JobRequest", name := "<init>", desc := "(Ljava/lang/String;Ljava/lang/String;ILjava/time/Duration;Lcom/example/baklog/baklog/Priority;Ljava/time/Instant;)V" } : Jvm.MethodName) prog_7_method_1_code (7 : Nat) (Option.none : Option Jvm.ClassFile.FieldType), Jvm.Cond.code ({ cls := "com/example/baklog/baklog/JobRequest", name := "handler", desc := "()Ljava/lang/String;" } : Jvm.MethodName) prog_7_method_7_code (1 : Nat) (Option.some (Jvm.ClassFile.FieldType.object "java/lang/String")), Jvm.Cond.code ({ cls := "com/example/baklog/baklog/JobRequest", name := "payload", desc := "()Ljava/lang/String;" } : Jvm.MethodName) prog_7_method_8_code (1 : Nat) (Option.some (Jvm.ClassFile.FieldType.object "java/lang/String")), Jvm.Cond.code ({ cls := "com/example/baklog/baklog/JobRequest", name := "maxAttempts", desc := "()I" } : Jvm.MethodName) prog_7_method_9_code (1 : Nat) (Option.some Jvm.ClassFile.FieldType.int), Jvm.Cond.code ({ cls := "com/example/baklog/baklog/JobRequest", name := "priority", desc := "()Lcom/example/baklog/baklog/Priority;" } : Jvm.MethodName) prog_7_method_11_code (1 : Nat) (Option.some (Jvm.ClassFile.FieldType.object "com/example/baklog/baklog/Priority")), Jvm.Cond.code ({ cls := "com/example/baklog/baklog/JobRequest", name := "backoff", desc := "()Ljava/time/Duration;" } : Jvm.MethodName) prog_7_method_10_code (1 : Nat) (Option.some (Jvm.ClassFile.FieldType.object "java/time/Duration")), Jvm.Cond.code ({ cls := "java/lang/String", name := "valueOf", desc := "(C)Ljava/lang/String;" } : Jvm.MethodName) jdk_42_method_139_code (1 : Nat) (Option.some (Jvm.ClassFile.FieldType.object "java/lang/String")), Jvm.Cond.code ({ cls := "java/lang/StringLatin1", name := "canEncode", desc := "(C)Z" } : Jvm.MethodName) jdk_43_method_3_code (1 : Nat) (Option.some Jvm.ClassFile.FieldType.boolean), Jvm.Cond.code ({ cls := "java/lang/StringLatin1", name := "toBytes", desc := "(C)[B" } : Jvm.MethodName) jdk_43_method_46_code (1 : Nat) (Option.some (Jvm.ClassFile.FieldType.array Jvm.ClassFile.FieldType.byte)), Jvm.Cond.code ({ cls := "java/lang/String", name := "<init>", desc := "([BB)V" } : Jvm.MethodName) jdk_42_method_151_code (3 : Nat) (Option.none : Option Jvm.ClassFile.FieldType)]
set_option maxRecDepth 65536 in
theorem codes_eq : words1.filter isCode = codes1 := rfl
theorem w_codes : ∀ c ∈ words1.filter isCode, c.before args0 about1 = true := by
  rw [codes_eq]
  intro c hc
  simp only [codes1, List.mem_cons, List.not_mem_nil, or_false] at hc
  rcases hc with rfl | rfl | rfl | rfl | rfl | rfl | rfl | rfl | rfl | rfl | rfl | rfl | rfl | rfl | rfl | rfl | rfl | rfl | rfl
  · exact w_c0
  · exact w_c1
  · exact w_c2
  · exact w_c3
  · exact w_c4
  · exact w_c5
  · exact w_c6
  · exact w_c7
  · exact w_c8
  · exact w_c9
  · exact w_c10
  · exact w_c11
  · exact w_c12
  · exact w_c13
  · exact w_c14
  · exact w_c15
  · exact w_c16
  · exact w_c17
  · exact w_c18
set_option maxRecDepth 65536 in
theorem w_t1 : (words1.take 24).all (fun c => isCode c || c.before args0 about1) = true := by decide +kernel
set_option maxRecDepth 65536 in
theorem w_t2 : ((words1.drop 24).take 24).all (fun c => isCode c || c.before args0 about1) = true := by decide +kernel
set_option maxRecDepth 65536 in
theorem w_t3 : (((words1.drop 24).drop 24).take 24).all (fun c => isCode c || c.before args0 about1) = true := by decide +kernel
set_option maxRecDepth 65536 in
theorem w_t4 : ((((words1.drop 24).drop 24).drop 24).take 24).all (fun c => isCode c || c.before args0 about1) = true := by decide +kernel
set_option maxRecDepth 65536 in
theorem w_t5 : ((((words1.drop 24).drop 24).drop 24).drop 24).all (fun c => isCode c || c.before args0 about1) = true := by decide +kernel
theorem w_tables : (allAtoms (Jvm.Cond.code x code maxLocals ret :: tables_1)).before args0 about1 = true := by
  rw [allAtoms_all]
  show words1.all (fun c => c.before args0 about1) = true
  refine all_split ?_ w_codes
  rw [← List.take_append_drop 24 words1, List.all_append, w_t1, ← List.take_append_drop 24 (words1.drop 24), List.all_append, w_t2, ← List.take_append_drop 24 ((words1.drop 24).drop 24), List.all_append, w_t3, ← List.take_append_drop 24 (((words1.drop 24).drop 24).drop 24), List.all_append, w_t4, w_t5]
  rfl
set_option maxRecDepth 65536 in
theorem w_rest : rest_1_c.before args0 about1 = true := by decide +kernel
set_option maxRecDepth 65536 in
theorem w_case : (Jvm.Cond.and given_1 narrow_1).before args0 about1 = true := by decide +kernel
set_option maxRecDepth 65536 in
theorem w_consts : constsHeld consts_1 about1 := Jvm.Lit.constsHeldB_iff.mp (by decide +kernel)
theorem w_applies : (headSpec (Jvm.Cond.code x code maxLocals ret :: tables_1) room_1).applies x e0.platform about1 = true :=
  (Spec.applies_iff w_frames).mpr ⟨w_running, w_runnable, w_alone, w_named, w_hears, w_ripe, w_room, w_tables⟩
theorem atStart : AtStart classFile x code maxLocals ret World_1 tables_1 room_1 Calls_1 rest_1 Pre_1 launch0 p0 e0 about1 theMethod args0 below0 :=
  ⟨lists_1, trivial, launch0.admits_env _ _ _, launch0.least_env, fairChoices_fair.cas, fairChoices_fair.clock, w_frames, w_args, w_heap, w_applies, ⟨w_consts, trivial⟩, w_rest, w_case⟩
end start1
theorem witness_1 : WitnessClaimed_1 := ⟨start1.p0, start1.e0, start1.about1, start1.theMethod, start1.args0, start1.below0, start1.atStart⟩
end Jvm.Pilot.@@N@@
