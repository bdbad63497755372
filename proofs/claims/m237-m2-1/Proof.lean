import JvmDerived
import JvmDerived.Pilot.@@N@@Statement
import JvmDerived.Pilot.@@N@@Code
set_option linter.unusedVariables false
set_option linter.unusedSimpArgs false
namespace Jvm.Pilot.@@N@@.Own
open Jvm Jvm.ClassFile Sem Op Lib Jvm.Free Jvm.Stand Jvm.LawKit Jvm.RoadKit Bundle
/-- the tables at which a walk's Stand is based: the start's own, or later ones (a String constant may have been interned) -/
def Cx (b : Bool) (s : State) (vm0 : Vm) (n : Nat) : Prop := match b with
  | true => ∃ k0, s.Since vm0 k0 ∧ k0 ≤ n
  | false => vm0 = s.vm
def En (b : Bool) (s : State) (o : Outcome) (t : State) (L : List Loc) (k n : Nat) : Prop := match b with
  | true => ReturnedEndW s o t L k n
  | false => FrameEnd s o t L k n
theorem Cx.start (b : Bool) (s : State) (n : Nat) : Cx b s s.vm n := by
  cases b
  · exact rfl
  · exact ⟨n, (State.WarmedH.refl s).since n, Nat.le_refl _⟩
theorem Cx.mono {b : Bool} {s : State} {vm0 : Vm} {n n' : Nat} (x : Cx b s vm0 n) (q : n ≤ n') : Cx b s vm0 n' := by
  cases b
  · exact x
  · obtain ⟨k, h1, h2⟩ := x; exact ⟨k, h1, Nat.le_trans h2 q⟩
/-- an instruction with its length and the next pc -/
abbrev Dec (b : ByteArray) (pc : Nat) (i : Instr) (n pc' : Nat) : Prop := decode b pc = .ok (i, n) ∧ pc + n = pc'
def ccP : ClassFile.Cond → Int32 → Int32 → Prop
  | .eq, x, y => x = y
  | .ne, x, y => ¬ x = y
  | .lt, x, y => x < y
  | .ge, x, y => ¬ x < y
  | .gt, x, y => y < x
  | .le, x, y => ¬ y < x
def ccN : ClassFile.Cond → Int32 → Int32 → Prop
  | .eq, x, y => ¬ x = y
  | .ne, x, y => x = y
  | .lt, x, y => ¬ x < y
  | .ge, x, y => x < y
  | .gt, x, y => ¬ y < x
  | .le, x, y => y < x
theorem cc_or (cd : ClassFile.Cond) (x y : Int32) : ccP cd x y ∨ ccN cd x y := by
  cases cd
  · exact Decidable.em (x = y)
  · exact (Decidable.em (x = y)).symm
  · exact Decidable.em (x < y)
  · exact (Decidable.em (x < y)).symm
  · exact Decidable.em (y < x)
  · exact (Decidable.em (y < x)).symm
theorem cc_y {cd : ClassFile.Cond} {x y : Int32} (h : ccP cd x y) : if_icmp.holds cd x y = true := by
  cases cd
  · exact (teq h).1
  · exact (feq h).2
  · exact (tlt h).1
  · exact (flt h).2.1
  · exact (tlt h).2.2.1
  · exact (flt h).2.2.2
theorem cc_n {cd : ClassFile.Cond} {x y : Int32} (h : ccN cd x y) : if_icmp.holds cd x y = false := by
  cases cd
  · exact (feq h).1
  · exact (teq h).2
  · exact (flt h).1
  · exact (tlt h).2.1
  · exact (flt h).2.2.1
  · exact (tlt h).2.2.2
/-- what a walk knows of its own method -/
abbrev Kx (p : Program) (c : Code) (meth : Method) (bytes : ByteArray) (mx : Nat) (ret : Option FieldType) (nm : String) : Prop :=
  p.tables.exec = Jvm.exec ∧ c.code = bytes ∧ c.maxLocals = mx ∧ meth.sig.returnType = ret ∧ meth.name = nm ∧ meth.locks = false
/-- of an address: no booked String constant and no such one's array -/
def Sl (Z : State) (EL : List (String × Nat)) (SL : List Addr) (vm : Vm) (h : Heap) : Prop := ∀ x ∈ SL, x < h.size ∧ Safe Z EL vm h x
def Sf (Z : State) (EL : List (String × Nat)) (SL : List Addr) (h : Heap) (a : Addr) : Prop := ∀ vm0 : Vm, Z.Warmed39 vm0 → Sl Z EL SL vm0 h → Safe Z EL vm0 h a
theorem safe0 {Z : State} {vm : Vm} {h : Heap} {a : Addr} : Safe Z [] vm h a := fun ⟨_, hp, _⟩ => nomatch hp
theorem Sf.nil {Z : State} {SL : List Addr} {h : Heap} {a : Addr} : Sf Z [] SL h a := fun _ _ _ => safe0
theorem Sf.mem {Z : State} {EL : List (String × Nat)} {SL : List Addr} {h : Heap} {a : Addr} (q : a ∈ SL) : Sf Z EL SL h a := fun _ _ k => (k a q).2
theorem Sf.exa {Z : State} {EL : List (String × Nat)} {SL : List Addr} {h : Heap} {a : Addr} {C : String} (E : Exa Z h a C) (h1 : C ≠ "java/lang/String") (h2 : C ≠ "[B") : Sf Z EL SL h a := fun _ hZ _ => Safe.exa hZ.alike E h1 h2
theorem Sf.arr {Z : State} {EL : List (String × Nat)} {SL : List Addr} {h : Heap} {a : Addr} {cl : Cell} {ty : FieldType} (A : Arr Z h a cl ty) (ht : ty ≠ .byte) : Sf Z EL SL h a := fun _ hZ _ => Safe.arr hZ.alike A ht
theorem Sf.arv {Z : State} {EL : List (String × Nat)} {SL : List Addr} {h : Heap} {a : Addr} {k : ClassId} {ty : FieldType} {z : Int32} {vs : List Value} {d : Value} (A : Arv Z h a k ty z vs d) (ht : ty ≠ .byte) : Sf Z EL SL h a := by
  obtain ⟨cl, A, -⟩ := A; exact Sf.arr A ht
theorem Sl.step {Z : State} {EL : List (String × Nat)} {SL : List Addr} {vm vm1 : Vm} {h h' : Heap} (A : CHr Z EL vm h vm1 h') (k : Sl Z EL SL vm h) : Sl Z EL SL vm1 h' := fun x q => ⟨Nat.lt_of_lt_of_le (k x q).1 A.2.1, A.safe (k x q).1 (k x q).2⟩
theorem Sl.nil {Z : State} {EL : List (String × Nat)} {vm : Vm} {h : Heap} : Sl Z EL [] vm h := fun _ q => nomatch q
theorem Sl.app {Z : State} {EL : List (String × Nat)} {SL SL' : List Addr} {vm : Vm} {h : Heap} (a : Sl Z EL SL vm h) (b : Sl Z EL SL' vm h) : Sl Z EL (SL ++ SL') vm h := fun x q => (List.mem_append.mp q).elim (a x) (b x)
theorem chr0 {Z : State} {vm vm1 : Vm} {h h' : Heap} (q : h.size ≤ h'.size) : CHr Z [] vm h vm1 h' := ⟨(fun _ hp => nomatch hp : CHv Z [] vm1 h'), q, fun _ B => by obtain ⟨_, hp, _⟩ := B; nomatch hp⟩
theorem chv0 {Z : State} {vm : Vm} {h : Heap} : CHv Z [] vm h := fun _ hp => nomatch hp

/-- **WHERE A WALK STANDS AND WHAT IT OWES**: from this frame, over this heap, the method comes to its end and Q holds there -/
def Go (b : Bool) (p : Program) (l : Launch) (e : Env) (R : Room) (s : State) (m : MethodId) (args : Array Value) (below : List Frame) (meth : Method) (c : Code) (Z : State) (EL : List (String × Nat)) (own : String)
    (Q : Option Value → Heap → List Loc → List Addr → Prop) (SL : List Addr) (g : JFrame) (h : Heap) (locs : List Loc) (cells slots : Nat) : Prop :=
  ∀ (T : State) (vm0 : Vm), Stand p l e R (s.setVm vm0) m args below meth c T locs cells slots → T.heap = h → Cx b s vm0 h.size → Z.Warmed39 vm0 → vm0.findClass own = some m.cls → CHr Z EL s.vm s.heap vm0 h → Sl Z EL SL vm0 h →
    ∃ (s₂ : State) (v : Option Value) (L : List Loc) (A : List Addr), Steps p.tables e below (T.setTop g) s₂ ∧ s₂.status = .running ∧ Ended s₂ below (.returned v) ∧ Q v s₂.heap L A ∧ CHr Z EL s.vm s.heap s₂.vm s₂.heap ∧ Sl Z EL A s₂.vm s₂.heap ∧ En b s (.returned v) s₂ L R.cells R.slots
/-- **A CONTRACT**: called with these arguments at this heap, the method comes back and Q holds -/
def Ctr (b : Bool) (l : Launch) (Z : State) (EL : List (String × Nat)) (y : MethodName) (bytes : ByteArray) (maxL : Nat) (ret : Option FieldType) (ws : List Jvm.Cond) (rm : Room) (as' : Array Value) (h : Heap) (SL : List Addr)
    (Q : Option Value → Heap → List Loc → List Addr → Prop) : Prop :=
  MetFree l y (head1 (Jvm.Cond.code y bytes maxL ret :: ws) rm) (fun a U => a = as' ∧ Z.Warmed39 U.vm ∧ U.heap = h ∧ CHv Z EL U.vm h ∧ Sl Z EL SL U.vm h) (fun _ _ _ _ _ => True)
    (fun _ U o U' => ∃ v L A, o = .returned v ∧ Q v U'.heap L A ∧ CHr Z EL U.vm U.heap U'.vm U'.heap ∧ Sl Z EL A U'.vm U'.heap ∧ En b U o U' L rm.cells rm.slots)

section W
variable {b : Bool} {p : Program} {l : Launch} {e : Env} {R : Room} {s : State} {m : MethodId} {args : Array Value} {below : List Frame} {meth : Method} {c : Code} {Z : State} {EL : List (String × Nat)} {own : String}
  {Q : Option Value → Heap → List Loc → List Addr → Prop} {SL : List Addr} {g g' : JFrame} {h : Heap} {locs : List Loc} {cells slots : Nat} {bytes : ByteArray} {mx : Nat} {ret : Option FieldType} {nm : String} {a0 : Array Value}

theorem Ctr.of {y : MethodName} {ws : List Jvm.Cond} {rm : Room} {as' : Array Value} {Ls : Array Slot} (hpl : plainName y.cls = true) (hef : ∀ m : MethodId, entryFrame m as' mx = mkF m 0 Ls [])
    (body : ∀ (p : Program) (e : Env) (s : State) (m : MethodId) (below : List Frame) (meth : Method) (c : Code), Kx p c meth bytes mx ret y.name → Go b p l e rm s m as' below meth c Z EL y.cls Q SL (mkF m 0 Ls []) h [] 0 0) :
    Ctr b l Z EL y bytes mx ret ws rm as' h SL Q := by
  refine MetFree.of_bodySF (plainFor_of_name hpl) hisR ?_
  intro p e s m args below meth c s₁ Bd hml hP hK
  obtain ⟨rfl, hZ, hh, hch, hsl⟩ := hP
  have e0 : s₁.heap = h := by rw [← hh, Bd.state]; rfl
  subst hh
  obtain ⟨s₂, v, L, A, h1, h2, h3, h4, h5, h6, h7⟩ := body p e s m below meth c ⟨Bd.exec, Bd.bytes, hml, Bd.returns, (name_of_methodNamed Bd.named Bd.method).1, Bd.notSynchronized⟩ s₁ s.vm (Stand.of_body Bd) e0 (Cx.start b s _) hZ (findClass_of_methodNamed Bd.named) (CHr.refl hch) hsl
  exact ⟨s₂, .returned v, castTop (hef m) h1, h2, h3, v, L, A, rfl, h4, h5, h6, h7⟩
theorem Ctr.widen {y : MethodName} {ws : List Jvm.Cond} {rm : Room} {as' : Array Value} (hC : Ctr false l Z EL y bytes mx ret ws rm as' h SL Q) : Ctr true l Z EL y bytes mx ret ws rm as' h SL Q := by
  intro p e ha hc hk s m args below hf happ hP hK
  obtain ⟨n, o, h1, h2, h3, v, L, A, h4, h5, h6, h7, h8⟩ := hC p e ha hc hk s m args below hf happ hP hK
  exact ⟨n, o, h1, h2, h3, v, L, A, h4, h5, h6, h7, wide h8⟩
theorem Ctr.mono {y : MethodName} {ws : List Jvm.Cond} {rm : Room} {as' : Array Value} {Q' : Option Value → Heap → List Loc → List Addr → Prop} (hC : Ctr b l Z EL y bytes mx ret ws rm as' h SL Q) (q : ∀ v h' L A, Q v h' L A → Q' v h' L A) : Ctr b l Z EL y bytes mx ret ws rm as' h SL Q' := by
  intro p e ha hc hk s m args below hf happ hP hK
  obtain ⟨n, o, h1, h2, h3, v, L, A, h4, h5, h6⟩ := hC p e ha hc hk s m args below hf happ hP hK
  exact ⟨n, o, h1, h2, h3, v, L, A, h4, q _ _ _ _ h5, h6⟩

/-- a step that moves the frame alone -/
theorem Go.step (st : ∀ (T : State) (vm0 : Vm), Stand p l e R (s.setVm vm0) m args below meth c T locs cells slots → T.heap = h → Z.Warmed39 vm0 → vm0.findClass own = some m.cls → ∀ t, Steps p.tables e below (T.setTop g') t → Steps p.tables e below (T.setTop g) t)
    (r : Go b p l e R s m args below meth c Z EL own Q SL g' h locs cells slots) : Go b p l e R s m args below meth c Z EL own Q SL g h locs cells slots := fun T vm0 X eT cx hZ ho ch sl => by
  obtain ⟨s₂, v, L, A, h1, hr⟩ := r T vm0 X eT cx hZ ho ch sl
  exact ⟨s₂, v, L, A, st T vm0 X eT hZ ho _ h1, hr⟩
/-- a step that may warm the tables -/
theorem Go.warm (st : ∀ (T : State) (vm0 : Vm), Stand p l e R (s.setVm vm0) m args below meth c T locs cells slots → T.heap = h → Z.Warmed39 vm0 → vm0.findClass own = some m.cls → ∃ T', Stand p l e R (s.setVm vm0) m args below meth c T' locs cells slots ∧ T'.heap = h ∧ ∀ t, Steps p.tables e below (T'.setTop g') t → Steps p.tables e below (T.setTop g) t)
    (r : Go b p l e R s m args below meth c Z EL own Q SL g' h locs cells slots) : Go b p l e R s m args below meth c Z EL own Q SL g h locs cells slots := fun T vm0 X eT cx hZ ho ch sl => by
  obtain ⟨T', X', e', st'⟩ := st T vm0 X eT hZ ho
  obtain ⟨s₂, v, L, A, h1, hr⟩ := r T' vm0 X' e' cx hZ ho ch sl
  exact ⟨s₂, v, L, A, st' _ h1, hr⟩
/-- a store in one place of an address that is no booked constant's -/
theorem Go.wrote {a : Addr} {sl0 : Nat} {v0 : Value} (hs : Sf Z EL SL h a) (st : ∀ (T : State) (vm0 : Vm), Stand p l e R (s.setVm vm0) m args below meth c T locs cells slots → T.heap = h → Z.Warmed39 vm0 → vm0.findClass own = some m.cls → ∃ T' h', Stand p l e R (s.setVm vm0) m args below meth c T' (locs ++ [⟨a, sl0⟩]) cells slots ∧ T'.heap = h' ∧ Wr h h' a sl0 v0 ∧ ∀ t, Steps p.tables e below (T'.setTop g') t → Steps p.tables e below (T.setTop g) t)
    (r : ∀ h', Wr h h' a sl0 v0 → Go b p l e R s m args below meth c Z EL own Q SL g' h' (locs ++ [⟨a, sl0⟩]) cells slots) : Go b p l e R s m args below meth c Z EL own Q SL g h locs cells slots := fun T vm0 X eT cx hZ ho ch sl => by
  obtain ⟨T', h', X', e', W, st'⟩ := st T vm0 X eT hZ ho
  have ch' := CHr.wr W (hs vm0 hZ sl) ch.1
  obtain ⟨s₂, v, L, A, h1, hr⟩ := r h' W T' vm0 X' e' (cx.mono ch'.2.1) hZ ho (ch.trans ch') (sl.step ch')
  exact ⟨s₂, v, L, A, st' _ h1, hr⟩
/-- the heap grows by one cell at its end -/
theorem Go.grew {F : Heap → Prop} {cells' slots' : Nat} (st : ∀ (T : State) (vm0 : Vm), Stand p l e R (s.setVm vm0) m args below meth c T locs cells slots → T.heap = h → Z.Warmed39 vm0 → vm0.findClass own = some m.cls → ∃ T' h', Stand p l e R (s.setVm vm0) m args below meth c T' locs cells' slots' ∧ T'.heap = h' ∧ Ext h h' ∧ h.size < h'.size ∧ F h' ∧ ∀ t, Steps p.tables e below (T'.setTop g') t → Steps p.tables e below (T.setTop g) t)
    (r : ∀ h', Ext h h' → F h' → Go b p l e R s m args below meth c Z EL own Q (h.size :: SL) g' h' locs cells' slots') : Go b p l e R s m args below meth c Z EL own Q SL g h locs cells slots := fun T vm0 X eT cx hZ ho ch sl => by
  obtain ⟨T', h', X', e', E, lt, f, st'⟩ := st T vm0 X eT hZ ho
  have ch' := CHr.ext E ch.1
  have sl' : Sl Z EL (h.size :: SL) vm0 h' := fun x q => by
    rcases List.mem_cons.mp q with rfl | q
    · exact ⟨lt, Safe.ext E ch.1 (Safe.new (Nat.le_refl _))⟩
    · exact sl.step ch' x q
  obtain ⟨s₂, v, L, A, h1, hr⟩ := r h' E f T' vm0 X' e' (cx.mono ch'.2.1) hZ ho (ch.trans ch') sl'
  exact ⟨s₂, v, L, A, st' _ h1, hr⟩
/-- the end -/
theorem Go.end {v : Option Value} {A : List Addr} (K : Kx p c meth bytes mx ret nm) (hE : b = true ∧ EW Z a0 EL ∨ EL = []) (hv : ret = none → v = none) (hcl : cells ≤ R.cells) (hsl : slots ≤ R.slots) (hA : ∀ x ∈ A, x ∈ SL) (hQ : Q v h locs A)
    (st : ∀ (T : State) (vm0 : Vm), Stand p l e R (s.setVm vm0) m args below meth c T locs cells slots → T.heap = h → Z.Warmed39 vm0 → ∀ fs, (∀ (f : JFrame) (acts : List Action), f.method = m → f.locked = none → f.entered = [] → (doReturn e (T.setTop f) acts v).1 = T.setFrames fs) → Steps p.tables e below (T.setTop g) (T.setFrames fs)) :
    Go b p l e R s m args below meth c Z EL own Q SL g h locs cells slots := fun T vm0 X eT cx hZ ho ch sl => by
  have hlk : meth.locks = false := K.2.2.2.2.2
  have hv' : meth.sig.returnType = none → v = none := fun q => hv (K.2.2.2.1.symm.trans q)
  have chE : CHr Z EL vm0 h T.vm h := by
    rcases hE with ⟨-, hE⟩ | rfl
    · exact CHv.at X hZ hE ch.1
    · exact chr0 (Nat.le_refl _)
  have slE : Sl Z EL A T.vm h := fun x q => sl.step chE x (hA x q)
  cases b
  · cases (show vm0 = s.vm from cx)
    obtain ⟨fs, hr, hrun, hend, hW, hsame⟩ := Stand.leave (s := s) X hv' hlk
    refine ⟨T.setFrames fs, v, locs, A, st T _ X eT hZ fs hr, hrun, hend, ?_, ?_, ?_, ⟨v, rfl⟩, hW, hsame.mono hcl hsl⟩
    · show Q v T.heap locs A; rw [eT]; exact hQ
    · show CHr Z EL s.vm s.heap T.vm T.heap; rw [eT]; exact ch.trans chE
    · show Sl Z EL A T.vm T.heap; rw [eT]; exact slE
  · obtain ⟨k0, hS, hk⟩ := cx
    obtain ⟨fs, hr, hrun, hend, q1, q2, q3, q4⟩ := X.leaveW hS (by rw [eT]; exact hk) hv' hlk
    refine ⟨T.setFrames fs, v, locs, A, st T _ X eT hZ fs hr, hrun, hend, ?_, ?_, ?_, q1, q2, q3, q4.mono hcl hsl⟩
    · show Q v T.heap locs A; rw [eT]; exact hQ
    · show CHr Z EL s.vm s.heap T.vm T.heap; rw [eT]; exact ch.trans chE
    · show Sl Z EL A T.vm T.heap; rw [eT]; exact slE
theorem Go.aloadN (K : Kx p c meth bytes mx ret nm) {pc pc' : Nat} {Ls : Array Slot} {S : List Value} {k : Fin 4} {v : Value} (d : Dec bytes pc (.aload_n k) 1 pc') (hl : Ls[k.val]? = some (.val v)) (hv : v.isRef = true) (r : Go b p l e R s m args below meth c Z EL own Q SL (mkF m (pc') Ls (v :: S)) h locs cells slots) : Go b p l e R s m args below meth c Z EL own Q SL (mkF m pc Ls (S)) h locs cells slots := by
  obtain ⟨d1, rfl⟩ := d
  exact Go.step (fun T vm0 X eT hZ ho t k => XS.aloadN X.here K.1 rfl (hb K.2.1 d1) hl hv k) r
theorem Go.aload (K : Kx p c meth bytes mx ret nm) {pc pc' : Nat} {Ls : Array Slot} {S : List Value} {k : Nat} {v : Value} (d : Dec bytes pc (.aload k) 2 pc') (hl : Ls[k]? = some (.val v)) (hv : v.isRef = true) (r : Go b p l e R s m args below meth c Z EL own Q SL (mkF m (pc') Ls (v :: S)) h locs cells slots) : Go b p l e R s m args below meth c Z EL own Q SL (mkF m pc Ls (S)) h locs cells slots := by
  obtain ⟨d1, rfl⟩ := d
  exact Go.step (fun T vm0 X eT hZ ho t k => XS.aload X.here K.1 rfl (hb K.2.1 d1) hl hv k) r
theorem Go.iloadN (K : Kx p c meth bytes mx ret nm) {pc pc' : Nat} {Ls : Array Slot} {S : List Value} {k : Fin 4} {v : Int32} (d : Dec bytes pc (.iload_n k) 1 pc') (hl : Ls[k.val]? = some (.val (.int v))) (r : Go b p l e R s m args below meth c Z EL own Q SL (mkF m (pc') Ls (.int v :: S)) h locs cells slots) : Go b p l e R s m args below meth c Z EL own Q SL (mkF m pc Ls (S)) h locs cells slots := by
  obtain ⟨d1, rfl⟩ := d
  exact Go.step (fun T vm0 X eT hZ ho t k => XS.iloadN X.here K.1 rfl (hb K.2.1 d1) hl k) r
theorem Go.iload (K : Kx p c meth bytes mx ret nm) {pc pc' : Nat} {Ls : Array Slot} {S : List Value} {k : Nat} {v : Int32} (d : Dec bytes pc (.iload k) 2 pc') (hl : Ls[k]? = some (.val (.int v))) (r : Go b p l e R s m args below meth c Z EL own Q SL (mkF m (pc') Ls (.int v :: S)) h locs cells slots) : Go b p l e R s m args below meth c Z EL own Q SL (mkF m pc Ls (S)) h locs cells slots := by
  obtain ⟨d1, rfl⟩ := d
  exact Go.step (fun T vm0 X eT hZ ho t k => XS.iload X.here K.1 rfl (hb K.2.1 d1) hl k) r
theorem Go.lloadN (K : Kx p c meth bytes mx ret nm) {pc pc' : Nat} {Ls : Array Slot} {S : List Value} {k : Fin 4} {v : Int64} (d : Dec bytes pc (.lload_n k) 1 pc') (hl : Ls[k.val]? = some (.val (.long v))) (r : Go b p l e R s m args below meth c Z EL own Q SL (mkF m (pc') Ls (.long v :: S)) h locs cells slots) : Go b p l e R s m args below meth c Z EL own Q SL (mkF m pc Ls (S)) h locs cells slots := by
  obtain ⟨d1, rfl⟩ := d
  exact Go.step (fun T vm0 X eT hZ ho t k => XS.lloadN X.here K.1 rfl (hb K.2.1 d1) hl k) r
theorem Go.lload (K : Kx p c meth bytes mx ret nm) {pc pc' : Nat} {Ls : Array Slot} {S : List Value} {k : Nat} {v : Int64} (d : Dec bytes pc (.lload k) 2 pc') (hl : Ls[k]? = some (.val (.long v))) (r : Go b p l e R s m args below meth c Z EL own Q SL (mkF m (pc') Ls (.long v :: S)) h locs cells slots) : Go b p l e R s m args below meth c Z EL own Q SL (mkF m pc Ls (S)) h locs cells slots := by
  obtain ⟨d1, rfl⟩ := d
  exact Go.step (fun T vm0 X eT hZ ho t k => XS.lload X.here K.1 rfl (hb K.2.1 d1) hl k) r
theorem Go.istoreN (K : Kx p c meth bytes mx ret nm) {pc pc' : Nat} {Ls : Array Slot} {S : List Value} {k : Fin 4} {x : Int32} (l' : Array Slot) (d : Dec bytes pc (.istore_n k) 1 pc') (hl : storeLocals Ls k.val (.int x) = some l') (r : Go b p l e R s m args below meth c Z EL own Q SL (mkF m (pc') l' (S)) h locs cells slots) : Go b p l e R s m args below meth c Z EL own Q SL (mkF m pc Ls (.int x :: S)) h locs cells slots := by
  obtain ⟨d1, rfl⟩ := d
  exact Go.step (fun T vm0 X eT hZ ho t k => XS.istoreN X.here K.1 rfl (hb K.2.1 d1) rfl hl k) r
theorem Go.istore (K : Kx p c meth bytes mx ret nm) {pc pc' : Nat} {Ls : Array Slot} {S : List Value} {k : Nat} {x : Int32} (l' : Array Slot) (d : Dec bytes pc (.istore k) 2 pc') (hl : storeLocals Ls k (.int x) = some l') (r : Go b p l e R s m args below meth c Z EL own Q SL (mkF m (pc') l' (S)) h locs cells slots) : Go b p l e R s m args below meth c Z EL own Q SL (mkF m pc Ls (.int x :: S)) h locs cells slots := by
  obtain ⟨d1, rfl⟩ := d
  exact Go.step (fun T vm0 X eT hZ ho t k => XS.istore X.here K.1 rfl (hb K.2.1 d1) rfl hl k) r
theorem Go.lstoreN (K : Kx p c meth bytes mx ret nm) {pc pc' : Nat} {Ls : Array Slot} {S : List Value} {k : Fin 4} {x : Int64} (l' : Array Slot) (d : Dec bytes pc (.lstore_n k) 1 pc') (hl : storeLocals Ls k.val (.long x) = some l') (r : Go b p l e R s m args below meth c Z EL own Q SL (mkF m (pc') l' (S)) h locs cells slots) : Go b p l e R s m args below meth c Z EL own Q SL (mkF m pc Ls (.long x :: S)) h locs cells slots := by
  obtain ⟨d1, rfl⟩ := d
  exact Go.step (fun T vm0 X eT hZ ho t k => XS.lstoreN X.here K.1 rfl (hb K.2.1 d1) rfl hl k) r
theorem Go.lstore (K : Kx p c meth bytes mx ret nm) {pc pc' : Nat} {Ls : Array Slot} {S : List Value} {k : Nat} {x : Int64} (l' : Array Slot) (d : Dec bytes pc (.lstore k) 2 pc') (hl : storeLocals Ls k (.long x) = some l') (r : Go b p l e R s m args below meth c Z EL own Q SL (mkF m (pc') l' (S)) h locs cells slots) : Go b p l e R s m args below meth c Z EL own Q SL (mkF m pc Ls (.long x :: S)) h locs cells slots := by
  obtain ⟨d1, rfl⟩ := d
  exact Go.step (fun T vm0 X eT hZ ho t k => XS.lstore X.here K.1 rfl (hb K.2.1 d1) rfl hl k) r
theorem Go.astoreN (K : Kx p c meth bytes mx ret nm) {pc pc' : Nat} {Ls : Array Slot} {S : List Value} {k : Fin 4} {x : Value} (l' : Array Slot) (d : Dec bytes pc (.astore_n k) 1 pc') (hv : x.isRef = true) (hl : storeLocals Ls k.val (x) = some l') (r : Go b p l e R s m args below meth c Z EL own Q SL (mkF m (pc') l' (S)) h locs cells slots) : Go b p l e R s m args below meth c Z EL own Q SL (mkF m pc Ls (x :: S)) h locs cells slots := by
  obtain ⟨d1, rfl⟩ := d
  exact Go.step (fun T vm0 X eT hZ ho t k => XS.astoreN X.here K.1 rfl (hb K.2.1 d1) rfl hv hl k) r
theorem Go.astore (K : Kx p c meth bytes mx ret nm) {pc pc' : Nat} {Ls : Array Slot} {S : List Value} {k : Nat} {x : Value} (l' : Array Slot) (d : Dec bytes pc (.astore k) 2 pc') (hv : x.isRef = true) (hl : storeLocals Ls k (x) = some l') (r : Go b p l e R s m args below meth c Z EL own Q SL (mkF m (pc') l' (S)) h locs cells slots) : Go b p l e R s m args below meth c Z EL own Q SL (mkF m pc Ls (x :: S)) h locs cells slots := by
  obtain ⟨d1, rfl⟩ := d
  exact Go.step (fun T vm0 X eT hZ ho t k => XS.astore X.here K.1 rfl (hb K.2.1 d1) rfl hv hl k) r
theorem Go.iconst (K : Kx p c meth bytes mx ret nm) {pc pc' : Nat} {Ls : Array Slot} {S : List Value} {i : Int} (d : Dec bytes pc (.iconst i) 1 pc') (z : Int32) (hz : Int32.ofInt i = z) (r : Go b p l e R s m args below meth c Z EL own Q SL (mkF m pc' Ls (.int z :: S)) h locs cells slots) : Go b p l e R s m args below meth c Z EL own Q SL (mkF m pc Ls S) h locs cells slots := by
  obtain ⟨d1, rfl⟩ := d; subst hz
  exact Go.step (fun T vm0 X eT hZ ho t k => XS.iconst X.here K.1 rfl (hb K.2.1 d1) k) r
theorem Go.bipush (K : Kx p c meth bytes mx ret nm) {pc pc' : Nat} {Ls : Array Slot} {S : List Value} {i : Int} (d : Dec bytes pc (.bipush i) 2 pc') (z : Int32) (hz : (Int8.ofInt i).toInt32 = z) (r : Go b p l e R s m args below meth c Z EL own Q SL (mkF m pc' Ls (.int z :: S)) h locs cells slots) : Go b p l e R s m args below meth c Z EL own Q SL (mkF m pc Ls S) h locs cells slots := by
  obtain ⟨d1, rfl⟩ := d; subst hz
  exact Go.step (fun T vm0 X eT hZ ho t k => XS.bipush X.here K.1 rfl (hb K.2.1 d1) k) r
theorem Go.sipush (K : Kx p c meth bytes mx ret nm) {pc pc' : Nat} {Ls : Array Slot} {S : List Value} {i : Int} (d : Dec bytes pc (.sipush i) 3 pc') (z : Int32) (hz : (Int16.ofInt i).toInt32 = z) (r : Go b p l e R s m args below meth c Z EL own Q SL (mkF m pc' Ls (.int z :: S)) h locs cells slots) : Go b p l e R s m args below meth c Z EL own Q SL (mkF m pc Ls S) h locs cells slots := by
  obtain ⟨d1, rfl⟩ := d; subst hz
  exact Go.step (fun T vm0 X eT hZ ho t k => XS.sipush X.here K.1 rfl (hb K.2.1 d1) k) r
theorem Go.lconst (K : Kx p c meth bytes mx ret nm) {pc pc' : Nat} {Ls : Array Slot} {S : List Value} {i : Fin 2} (d : Dec bytes pc (.lconst i) 1 pc') (z : Int64) (hz : Int64.ofNat i = z) (r : Go b p l e R s m args below meth c Z EL own Q SL (mkF m pc' Ls (.long z :: S)) h locs cells slots) : Go b p l e R s m args below meth c Z EL own Q SL (mkF m pc Ls S) h locs cells slots := by
  obtain ⟨d1, rfl⟩ := d; subst hz
  exact Go.step (fun T vm0 X eT hZ ho t k => XS.lconst X.here K.1 rfl (hb K.2.1 d1) k) r
theorem Go.aconstNull (K : Kx p c meth bytes mx ret nm) {pc pc' : Nat} {Ls : Array Slot} {S : List Value}  (d : Dec bytes pc (.aconst_null) 1 pc')  (r : Go b p l e R s m args below meth c Z EL own Q SL (mkF m (pc') Ls (.null :: S)) h locs cells slots) : Go b p l e R s m args below meth c Z EL own Q SL (mkF m pc Ls (S)) h locs cells slots := by
  obtain ⟨d1, rfl⟩ := d
  exact Go.step (fun T vm0 X eT hZ ho t k => XS.aconstNull X.here K.1 rfl (hb K.2.1 d1) k) r
theorem Go.iadd (K : Kx p c meth bytes mx ret nm) {pc pc' : Nat} {Ls : Array Slot} {S : List Value} {x y : Int32} (d : Dec bytes pc (.iadd) 1 pc')  (r : Go b p l e R s m args below meth c Z EL own Q SL (mkF m (pc') Ls (.int (x + y) :: S)) h locs cells slots) : Go b p l e R s m args below meth c Z EL own Q SL (mkF m pc Ls (.int y :: .int x :: S)) h locs cells slots := by
  obtain ⟨d1, rfl⟩ := d
  exact Go.step (fun T vm0 X eT hZ ho t k => XS.iadd X.here K.1 rfl (hb K.2.1 d1) rfl k) r
theorem Go.isub (K : Kx p c meth bytes mx ret nm) {pc pc' : Nat} {Ls : Array Slot} {S : List Value} {x y : Int32} (d : Dec bytes pc (.isub) 1 pc')  (r : Go b p l e R s m args below meth c Z EL own Q SL (mkF m (pc') Ls (.int (x - y) :: S)) h locs cells slots) : Go b p l e R s m args below meth c Z EL own Q SL (mkF m pc Ls (.int y :: .int x :: S)) h locs cells slots := by
  obtain ⟨d1, rfl⟩ := d
  exact Go.step (fun T vm0 X eT hZ ho t k => XS.isub X.here K.1 rfl (hb K.2.1 d1) rfl k) r
theorem Go.imul (K : Kx p c meth bytes mx ret nm) {pc pc' : Nat} {Ls : Array Slot} {S : List Value} {x y : Int32} (d : Dec bytes pc (.imul) 1 pc')  (r : Go b p l e R s m args below meth c Z EL own Q SL (mkF m (pc') Ls (.int (x * y) :: S)) h locs cells slots) : Go b p l e R s m args below meth c Z EL own Q SL (mkF m pc Ls (.int y :: .int x :: S)) h locs cells slots := by
  obtain ⟨d1, rfl⟩ := d
  exact Go.step (fun T vm0 X eT hZ ho t k => XS.imul X.here K.1 rfl (hb K.2.1 d1) rfl k) r
theorem Go.iand (K : Kx p c meth bytes mx ret nm) {pc pc' : Nat} {Ls : Array Slot} {S : List Value} {x y : Int32} (d : Dec bytes pc (.iand) 1 pc')  (r : Go b p l e R s m args below meth c Z EL own Q SL (mkF m (pc') Ls (.int (x &&& y) :: S)) h locs cells slots) : Go b p l e R s m args below meth c Z EL own Q SL (mkF m pc Ls (.int y :: .int x :: S)) h locs cells slots := by
  obtain ⟨d1, rfl⟩ := d
  exact Go.step (fun T vm0 X eT hZ ho t k => XS.iand X.here K.1 rfl (hb K.2.1 d1) rfl k) r
theorem Go.ior (K : Kx p c meth bytes mx ret nm) {pc pc' : Nat} {Ls : Array Slot} {S : List Value} {x y : Int32} (d : Dec bytes pc (.ior) 1 pc')  (r : Go b p l e R s m args below meth c Z EL own Q SL (mkF m (pc') Ls (.int (x ||| y) :: S)) h locs cells slots) : Go b p l e R s m args below meth c Z EL own Q SL (mkF m pc Ls (.int y :: .int x :: S)) h locs cells slots := by
  obtain ⟨d1, rfl⟩ := d
  exact Go.step (fun T vm0 X eT hZ ho t k => XS.ior X.here K.1 rfl (hb K.2.1 d1) rfl k) r
theorem Go.ixor (K : Kx p c meth bytes mx ret nm) {pc pc' : Nat} {Ls : Array Slot} {S : List Value} {x y : Int32} (d : Dec bytes pc (.ixor) 1 pc')  (r : Go b p l e R s m args below meth c Z EL own Q SL (mkF m (pc') Ls (.int (x ^^^ y) :: S)) h locs cells slots) : Go b p l e R s m args below meth c Z EL own Q SL (mkF m pc Ls (.int y :: .int x :: S)) h locs cells slots := by
  obtain ⟨d1, rfl⟩ := d
  exact Go.step (fun T vm0 X eT hZ ho t k => XS.ixor X.here K.1 rfl (hb K.2.1 d1) rfl k) r
theorem Go.ishl (K : Kx p c meth bytes mx ret nm) {pc pc' : Nat} {Ls : Array Slot} {S : List Value} {x y : Int32} (d : Dec bytes pc (.ishl) 1 pc')  (r : Go b p l e R s m args below meth c Z EL own Q SL (mkF m (pc') Ls (.int (x <<< (y &&& 31)) :: S)) h locs cells slots) : Go b p l e R s m args below meth c Z EL own Q SL (mkF m pc Ls (.int y :: .int x :: S)) h locs cells slots := by
  obtain ⟨d1, rfl⟩ := d
  exact Go.step (fun T vm0 X eT hZ ho t k => XS.ishl X.here K.1 rfl (hb K.2.1 d1) rfl k) r
theorem Go.ishr (K : Kx p c meth bytes mx ret nm) {pc pc' : Nat} {Ls : Array Slot} {S : List Value} {x y : Int32} (d : Dec bytes pc (.ishr) 1 pc')  (r : Go b p l e R s m args below meth c Z EL own Q SL (mkF m (pc') Ls (.int (x >>> (y &&& 31)) :: S)) h locs cells slots) : Go b p l e R s m args below meth c Z EL own Q SL (mkF m pc Ls (.int y :: .int x :: S)) h locs cells slots := by
  obtain ⟨d1, rfl⟩ := d
  exact Go.step (fun T vm0 X eT hZ ho t k => XS.ishr X.here K.1 rfl (hb K.2.1 d1) rfl k) r
theorem Go.iushr (K : Kx p c meth bytes mx ret nm) {pc pc' : Nat} {Ls : Array Slot} {S : List Value} {x y : Int32} (d : Dec bytes pc (.iushr) 1 pc')  (r : Go b p l e R s m args below meth c Z EL own Q SL (mkF m (pc') Ls (.int ((x.toUInt32 >>> (y &&& 31).toUInt32).toInt32) :: S)) h locs cells slots) : Go b p l e R s m args below meth c Z EL own Q SL (mkF m pc Ls (.int y :: .int x :: S)) h locs cells slots := by
  obtain ⟨d1, rfl⟩ := d
  exact Go.step (fun T vm0 X eT hZ ho t k => XS.iushr X.here K.1 rfl (hb K.2.1 d1) rfl k) r
theorem Go.ladd (K : Kx p c meth bytes mx ret nm) {pc pc' : Nat} {Ls : Array Slot} {S : List Value} {x y : Int64} (d : Dec bytes pc (.ladd) 1 pc')  (r : Go b p l e R s m args below meth c Z EL own Q SL (mkF m (pc') Ls (.long (x + y) :: S)) h locs cells slots) : Go b p l e R s m args below meth c Z EL own Q SL (mkF m pc Ls (.long y :: .long x :: S)) h locs cells slots := by
  obtain ⟨d1, rfl⟩ := d
  exact Go.step (fun T vm0 X eT hZ ho t k => XS.ladd X.here K.1 rfl (hb K.2.1 d1) rfl k) r
theorem Go.lsub (K : Kx p c meth bytes mx ret nm) {pc pc' : Nat} {Ls : Array Slot} {S : List Value} {x y : Int64} (d : Dec bytes pc (.lsub) 1 pc')  (r : Go b p l e R s m args below meth c Z EL own Q SL (mkF m (pc') Ls (.long (x - y) :: S)) h locs cells slots) : Go b p l e R s m args below meth c Z EL own Q SL (mkF m pc Ls (.long y :: .long x :: S)) h locs cells slots := by
  obtain ⟨d1, rfl⟩ := d
  exact Go.step (fun T vm0 X eT hZ ho t k => XS.lsub X.here K.1 rfl (hb K.2.1 d1) rfl k) r
theorem Go.lmul (K : Kx p c meth bytes mx ret nm) {pc pc' : Nat} {Ls : Array Slot} {S : List Value} {x y : Int64} (d : Dec bytes pc (.lmul) 1 pc')  (r : Go b p l e R s m args below meth c Z EL own Q SL (mkF m (pc') Ls (.long (x * y) :: S)) h locs cells slots) : Go b p l e R s m args below meth c Z EL own Q SL (mkF m pc Ls (.long y :: .long x :: S)) h locs cells slots := by
  obtain ⟨d1, rfl⟩ := d
  exact Go.step (fun T vm0 X eT hZ ho t k => XS.lmul X.here K.1 rfl (hb K.2.1 d1) rfl k) r
theorem Go.land (K : Kx p c meth bytes mx ret nm) {pc pc' : Nat} {Ls : Array Slot} {S : List Value} {x y : Int64} (d : Dec bytes pc (.land) 1 pc')  (r : Go b p l e R s m args below meth c Z EL own Q SL (mkF m (pc') Ls (.long (x &&& y) :: S)) h locs cells slots) : Go b p l e R s m args below meth c Z EL own Q SL (mkF m pc Ls (.long y :: .long x :: S)) h locs cells slots := by
  obtain ⟨d1, rfl⟩ := d
  exact Go.step (fun T vm0 X eT hZ ho t k => XS.land X.here K.1 rfl (hb K.2.1 d1) rfl k) r
theorem Go.lor (K : Kx p c meth bytes mx ret nm) {pc pc' : Nat} {Ls : Array Slot} {S : List Value} {x y : Int64} (d : Dec bytes pc (.lor) 1 pc')  (r : Go b p l e R s m args below meth c Z EL own Q SL (mkF m (pc') Ls (.long (x ||| y) :: S)) h locs cells slots) : Go b p l e R s m args below meth c Z EL own Q SL (mkF m pc Ls (.long y :: .long x :: S)) h locs cells slots := by
  obtain ⟨d1, rfl⟩ := d
  exact Go.step (fun T vm0 X eT hZ ho t k => XS.lor X.here K.1 rfl (hb K.2.1 d1) rfl k) r
theorem Go.lxor (K : Kx p c meth bytes mx ret nm) {pc pc' : Nat} {Ls : Array Slot} {S : List Value} {x y : Int64} (d : Dec bytes pc (.lxor) 1 pc')  (r : Go b p l e R s m args below meth c Z EL own Q SL (mkF m (pc') Ls (.long (x ^^^ y) :: S)) h locs cells slots) : Go b p l e R s m args below meth c Z EL own Q SL (mkF m pc Ls (.long y :: .long x :: S)) h locs cells slots := by
  obtain ⟨d1, rfl⟩ := d
  exact Go.step (fun T vm0 X eT hZ ho t k => XS.lxor X.here K.1 rfl (hb K.2.1 d1) rfl k) r
theorem Go.lshl (K : Kx p c meth bytes mx ret nm) {pc pc' : Nat} {Ls : Array Slot} {S : List Value} {x : Int64} {y : Int32} (d : Dec bytes pc (.lshl) 1 pc')  (r : Go b p l e R s m args below meth c Z EL own Q SL (mkF m (pc') Ls (.long (x <<< (y &&& 0x3f).toInt64) :: S)) h locs cells slots) : Go b p l e R s m args below meth c Z EL own Q SL (mkF m pc Ls (.int y :: .long x :: S)) h locs cells slots := by
  obtain ⟨d1, rfl⟩ := d
  exact Go.step (fun T vm0 X eT hZ ho t k => XS.lshl X.here K.1 rfl (hb K.2.1 d1) rfl k) r
theorem Go.lshr (K : Kx p c meth bytes mx ret nm) {pc pc' : Nat} {Ls : Array Slot} {S : List Value} {x : Int64} {y : Int32} (d : Dec bytes pc (.lshr) 1 pc')  (r : Go b p l e R s m args below meth c Z EL own Q SL (mkF m (pc') Ls (.long (x >>> (y &&& 0x3f).toInt64) :: S)) h locs cells slots) : Go b p l e R s m args below meth c Z EL own Q SL (mkF m pc Ls (.int y :: .long x :: S)) h locs cells slots := by
  obtain ⟨d1, rfl⟩ := d
  exact Go.step (fun T vm0 X eT hZ ho t k => XS.lshr X.here K.1 rfl (hb K.2.1 d1) rfl k) r
theorem Go.lushr (K : Kx p c meth bytes mx ret nm) {pc pc' : Nat} {Ls : Array Slot} {S : List Value} {x : Int64} {y : Int32} (d : Dec bytes pc (.lushr) 1 pc')  (r : Go b p l e R s m args below meth c Z EL own Q SL (mkF m (pc') Ls (.long ((x.toUInt64 >>> (y &&& 0x3f).toInt64.toUInt64).toInt64) :: S)) h locs cells slots) : Go b p l e R s m args below meth c Z EL own Q SL (mkF m pc Ls (.int y :: .long x :: S)) h locs cells slots := by
  obtain ⟨d1, rfl⟩ := d
  exact Go.step (fun T vm0 X eT hZ ho t k => XS.lushr X.here K.1 rfl (hb K.2.1 d1) rfl k) r
theorem Go.lcmp (K : Kx p c meth bytes mx ret nm) {pc pc' : Nat} {Ls : Array Slot} {S : List Value} {x y : Int64} (d : Dec bytes pc (.lcmp) 1 pc')  (r : Go b p l e R s m args below meth c Z EL own Q SL (mkF m (pc') Ls (.int (lcmpW x y) :: S)) h locs cells slots) : Go b p l e R s m args below meth c Z EL own Q SL (mkF m pc Ls (.long y :: .long x :: S)) h locs cells slots := by
  obtain ⟨d1, rfl⟩ := d
  exact Go.step (fun T vm0 X eT hZ ho t k => XS.lcmp X.here K.1 rfl (hb K.2.1 d1) rfl k) r
theorem Go.irem (K : Kx p c meth bytes mx ret nm) {pc pc' : Nat} {Ls : Array Slot} {S : List Value} {x y : Int32} (d : Dec bytes pc (.irem) 1 pc') (hy : y ≠ 0) (r : Go b p l e R s m args below meth c Z EL own Q SL (mkF m (pc') Ls (.int (x % y) :: S)) h locs cells slots) : Go b p l e R s m args below meth c Z EL own Q SL (mkF m pc Ls (.int y :: .int x :: S)) h locs cells slots := by
  obtain ⟨d1, rfl⟩ := d
  exact Go.step (fun T vm0 X eT hZ ho t k => iremM X K.1 rfl (hb K.2.1 d1) rfl hy k) r
theorem Go.idiv (K : Kx p c meth bytes mx ret nm) {pc pc' : Nat} {Ls : Array Slot} {S : List Value} {x y : Int32} (d : Dec bytes pc (.idiv) 1 pc') (hy : y ≠ 0) (r : Go b p l e R s m args below meth c Z EL own Q SL (mkF m (pc') Ls (.int (x / y) :: S)) h locs cells slots) : Go b p l e R s m args below meth c Z EL own Q SL (mkF m pc Ls (.int y :: .int x :: S)) h locs cells slots := by
  obtain ⟨d1, rfl⟩ := d
  exact Go.step (fun T vm0 X eT hZ ho t k => XS.idiv X.here K.1 rfl (hb K.2.1 d1) rfl hy k) r
theorem Go.ldiv (K : Kx p c meth bytes mx ret nm) {pc pc' : Nat} {Ls : Array Slot} {S : List Value} {x y : Int64} (d : Dec bytes pc (.ldiv) 1 pc') (hy : y ≠ 0) (r : Go b p l e R s m args below meth c Z EL own Q SL (mkF m (pc') Ls (.long (x / y) :: S)) h locs cells slots) : Go b p l e R s m args below meth c Z EL own Q SL (mkF m pc Ls (.long y :: .long x :: S)) h locs cells slots := by
  obtain ⟨d1, rfl⟩ := d
  exact Go.step (fun T vm0 X eT hZ ho t k => XS.ldiv X.here K.1 rfl (hb K.2.1 d1) rfl hy k) r
theorem Go.lrem (K : Kx p c meth bytes mx ret nm) {pc pc' : Nat} {Ls : Array Slot} {S : List Value} {x y : Int64} (d : Dec bytes pc (.lrem) 1 pc') (hy : y ≠ 0) (r : Go b p l e R s m args below meth c Z EL own Q SL (mkF m (pc') Ls (.long (x - (x / y) * y) :: S)) h locs cells slots) : Go b p l e R s m args below meth c Z EL own Q SL (mkF m pc Ls (.long y :: .long x :: S)) h locs cells slots := by
  obtain ⟨d1, rfl⟩ := d
  exact Go.step (fun T vm0 X eT hZ ho t k => XS.lrem X.here K.1 rfl (hb K.2.1 d1) rfl hy k) r
theorem Go.i2b (K : Kx p c meth bytes mx ret nm) {pc pc' : Nat} {Ls : Array Slot} {S : List Value} {x : Int32} (d : Dec bytes pc (.i2b) 1 pc')  (r : Go b p l e R s m args below meth c Z EL own Q SL (mkF m (pc') Ls (.int (x.toInt8.toInt32) :: S)) h locs cells slots) : Go b p l e R s m args below meth c Z EL own Q SL (mkF m pc Ls (.int x :: S)) h locs cells slots := by
  obtain ⟨d1, rfl⟩ := d
  exact Go.step (fun T vm0 X eT hZ ho t k => XS.i2b X.here K.1 rfl (hb K.2.1 d1) rfl k) r
theorem Go.i2c (K : Kx p c meth bytes mx ret nm) {pc pc' : Nat} {Ls : Array Slot} {S : List Value} {x : Int32} (d : Dec bytes pc (.i2c) 1 pc')  (r : Go b p l e R s m args below meth c Z EL own Q SL (mkF m (pc') Ls (.int (x.toUInt32.toUInt16.toUInt32.toInt32) :: S)) h locs cells slots) : Go b p l e R s m args below meth c Z EL own Q SL (mkF m pc Ls (.int x :: S)) h locs cells slots := by
  obtain ⟨d1, rfl⟩ := d
  exact Go.step (fun T vm0 X eT hZ ho t k => XS.i2c X.here K.1 rfl (hb K.2.1 d1) rfl k) r
theorem Go.i2s (K : Kx p c meth bytes mx ret nm) {pc pc' : Nat} {Ls : Array Slot} {S : List Value} {x : Int32} (d : Dec bytes pc (.i2s) 1 pc')  (r : Go b p l e R s m args below meth c Z EL own Q SL (mkF m (pc') Ls (.int (x.toInt16.toInt32) :: S)) h locs cells slots) : Go b p l e R s m args below meth c Z EL own Q SL (mkF m pc Ls (.int x :: S)) h locs cells slots := by
  obtain ⟨d1, rfl⟩ := d
  exact Go.step (fun T vm0 X eT hZ ho t k => XS.i2s X.here K.1 rfl (hb K.2.1 d1) rfl k) r
theorem Go.i2l (K : Kx p c meth bytes mx ret nm) {pc pc' : Nat} {Ls : Array Slot} {S : List Value} {x : Int32} (d : Dec bytes pc (.i2l) 1 pc')  (r : Go b p l e R s m args below meth c Z EL own Q SL (mkF m (pc') Ls (.long (x.toInt64) :: S)) h locs cells slots) : Go b p l e R s m args below meth c Z EL own Q SL (mkF m pc Ls (.int x :: S)) h locs cells slots := by
  obtain ⟨d1, rfl⟩ := d
  exact Go.step (fun T vm0 X eT hZ ho t k => XS.i2l X.here K.1 rfl (hb K.2.1 d1) rfl k) r
theorem Go.l2i (K : Kx p c meth bytes mx ret nm) {pc pc' : Nat} {Ls : Array Slot} {S : List Value} {x : Int64} (d : Dec bytes pc (.l2i) 1 pc')  (r : Go b p l e R s m args below meth c Z EL own Q SL (mkF m (pc') Ls (.int (x.toInt32) :: S)) h locs cells slots) : Go b p l e R s m args below meth c Z EL own Q SL (mkF m pc Ls (.long x :: S)) h locs cells slots := by
  obtain ⟨d1, rfl⟩ := d
  exact Go.step (fun T vm0 X eT hZ ho t k => XS.l2i X.here K.1 rfl (hb K.2.1 d1) rfl k) r
theorem Go.ineg (K : Kx p c meth bytes mx ret nm) {pc pc' : Nat} {Ls : Array Slot} {S : List Value} {x : Int32} (d : Dec bytes pc (.ineg) 1 pc')  (r : Go b p l e R s m args below meth c Z EL own Q SL (mkF m (pc') Ls (.int (-x) :: S)) h locs cells slots) : Go b p l e R s m args below meth c Z EL own Q SL (mkF m pc Ls (.int x :: S)) h locs cells slots := by
  obtain ⟨d1, rfl⟩ := d
  exact Go.step (fun T vm0 X eT hZ ho t k => XS.ineg X.here K.1 rfl (hb K.2.1 d1) rfl k) r
theorem Go.lneg (K : Kx p c meth bytes mx ret nm) {pc pc' : Nat} {Ls : Array Slot} {S : List Value} {x : Int64} (d : Dec bytes pc (.lneg) 1 pc')  (r : Go b p l e R s m args below meth c Z EL own Q SL (mkF m (pc') Ls (.long (-x) :: S)) h locs cells slots) : Go b p l e R s m args below meth c Z EL own Q SL (mkF m pc Ls (.long x :: S)) h locs cells slots := by
  obtain ⟨d1, rfl⟩ := d
  exact Go.step (fun T vm0 X eT hZ ho t k => XS.lneg X.here K.1 rfl (hb K.2.1 d1) rfl k) r
theorem Go.dup (K : Kx p c meth bytes mx ret nm) {pc pc' : Nat} {Ls : Array Slot} {S : List Value} {x : Value} (d : Dec bytes pc (.dup) 1 pc') (hc : x.category = 1) (r : Go b p l e R s m args below meth c Z EL own Q SL (mkF m (pc') Ls (x :: x :: S)) h locs cells slots) : Go b p l e R s m args below meth c Z EL own Q SL (mkF m pc Ls (x :: S)) h locs cells slots := by
  obtain ⟨d1, rfl⟩ := d
  exact Go.step (fun T vm0 X eT hZ ho t k => XS.dup X.here K.1 rfl (hb K.2.1 d1) rfl hc k) r
theorem Go.pop (K : Kx p c meth bytes mx ret nm) {pc pc' : Nat} {Ls : Array Slot} {S : List Value} {x : Value} (d : Dec bytes pc (.pop) 1 pc') (hc : x.category = 1) (r : Go b p l e R s m args below meth c Z EL own Q SL (mkF m (pc') Ls (S)) h locs cells slots) : Go b p l e R s m args below meth c Z EL own Q SL (mkF m pc Ls (x :: S)) h locs cells slots := by
  obtain ⟨d1, rfl⟩ := d
  exact Go.step (fun T vm0 X eT hZ ho t k => XS.pop X.here K.1 rfl (hb K.2.1 d1) rfl hc k) r
theorem Go.dupX1 (K : Kx p c meth bytes mx ret nm) {pc pc' : Nat} {Ls : Array Slot} {S : List Value} {x y : Value} (d : Dec bytes pc (.dup_x1) 1 pc') (hc : x.category = 1) (hc2 : y.category = 1) (r : Go b p l e R s m args below meth c Z EL own Q SL (mkF m (pc') Ls (x :: y :: x :: S)) h locs cells slots) : Go b p l e R s m args below meth c Z EL own Q SL (mkF m pc Ls (x :: y :: S)) h locs cells slots := by
  obtain ⟨d1, rfl⟩ := d
  exact Go.step (fun T vm0 X eT hZ ho t k => XS.dupX1 X.here K.1 rfl (hb K.2.1 d1) rfl hc hc2 k) r
theorem Go.iinc (K : Kx p c meth bytes mx ret nm) {pc pc' : Nat} {Ls : Array Slot} {S : List Value} {k : Nat} {i : Int} {x : Int32} (d : Dec bytes pc (.iinc k i) 3 pc') (z : Int32) (hz : Int32.ofInt i = z) (l' : Array Slot) (hl : Ls[k]? = some (.val (.int x))) (hl' : storeLocals Ls k (.int (x + z)) = some l') (r : Go b p l e R s m args below meth c Z EL own Q SL (mkF m pc' l' S) h locs cells slots) : Go b p l e R s m args below meth c Z EL own Q SL (mkF m pc Ls S) h locs cells slots := by
  obtain ⟨d1, rfl⟩ := d; subst hz
  exact Go.step (fun T vm0 X eT hZ ho t k => XS.iinc X.here K.1 rfl (hb K.2.1 d1) hl hl' k) r
theorem Go.goto (K : Kx p c meth bytes mx ret nm) {pc pc' pcT : Nat} {Ls : Array Slot} {S : List Value} (d : Dec bytes pc (.goto (((pcT : Nat) : Int) - ((pc : Nat) : Int))) 3 pc') (r : Go b p l e R s m args below meth c Z EL own Q SL (mkF m pcT Ls S) h locs cells slots) : Go b p l e R s m args below meth c Z EL own Q SL (mkF m pc Ls S) h locs cells slots := by
  obtain ⟨d1, rfl⟩ := d
  exact Go.step (fun T vm0 X eT hZ ho t k => XS.goto (pc0 := pc) (pc' := pcT) X.here K.1 rfl rfl (hb K.2.1 d1) (by omega) (by omega) k) r
theorem Go.ifc (K : Kx p c meth bytes mx ret nm) {pc pc' pcT : Nat} {Ls : Array Slot} {S : List Value} {cd : ClassFile.Cond} {x : Int32} (d : Dec bytes pc (.ifCond cd (((pcT : Nat) : Int) - ((pc : Nat) : Int))) 3 pc') (ry : ccP cd x 0 → Go b p l e R s m args below meth c Z EL own Q SL (mkF m pcT Ls S) h locs cells slots) (rn : ccN cd x 0 → Go b p l e R s m args below meth c Z EL own Q SL (mkF m pc' Ls S) h locs cells slots) : Go b p l e R s m args below meth c Z EL own Q SL (mkF m pc Ls (.int x :: S)) h locs cells slots := by
  obtain ⟨d1, rfl⟩ := d
  rcases cc_or cd x 0 with q | q
  · exact Go.step (fun T vm0 X eT hZ ho t k => XS.ifYes (pc0 := pc) (pc' := pcT) X.here K.1 rfl rfl (hb K.2.1 d1) rfl ((if0 _ _).trans (cc_y q)) (by omega) (by omega) k) (ry q)
  · exact Go.step (fun T vm0 X eT hZ ho t k => XS.ifNo X.here K.1 rfl (hb K.2.1 d1) rfl ((if0 _ _).trans (cc_n q)) k) (rn q)
theorem Go.icmp (K : Kx p c meth bytes mx ret nm) {pc pc' pcT : Nat} {Ls : Array Slot} {S : List Value} {cd : ClassFile.Cond} {x y : Int32} (d : Dec bytes pc (.if_icmp cd (((pcT : Nat) : Int) - ((pc : Nat) : Int))) 3 pc') (ry : ccP cd x y → Go b p l e R s m args below meth c Z EL own Q SL (mkF m pcT Ls S) h locs cells slots) (rn : ccN cd x y → Go b p l e R s m args below meth c Z EL own Q SL (mkF m pc' Ls S) h locs cells slots) : Go b p l e R s m args below meth c Z EL own Q SL (mkF m pc Ls (.int y :: .int x :: S)) h locs cells slots := by
  obtain ⟨d1, rfl⟩ := d
  rcases cc_or cd x y with q | q
  · exact Go.step (fun T vm0 X eT hZ ho t k => XS.icmpYes (pc0 := pc) (pc' := pcT) X.here K.1 rfl rfl (hb K.2.1 d1) rfl (cc_y q) (by omega) (by omega) k) (ry q)
  · exact Go.step (fun T vm0 X eT hZ ho t k => XS.icmpNo X.here K.1 rfl (hb K.2.1 d1) rfl (cc_n q) k) (rn q)
theorem Go.ifnullY (K : Kx p c meth bytes mx ret nm) {pc pc' pcT : Nat} {Ls : Array Slot} {S : List Value}  (d : Dec bytes pc (.ifnull (((pcT : Nat) : Int) - ((pc : Nat) : Int))) 3 pc') (r : Go b p l e R s m args below meth c Z EL own Q SL (mkF m pcT Ls S) h locs cells slots) : Go b p l e R s m args below meth c Z EL own Q SL (mkF m pc Ls (.null :: S)) h locs cells slots := by
  obtain ⟨d1, rfl⟩ := d
  exact Go.step (fun T vm0 X eT hZ ho t k => XS.ifnullYes (pc0 := pc) (pc' := pcT) X.here K.1 rfl rfl (hb K.2.1 d1) rfl (by omega) (by omega) k) r
theorem Go.ifnullN (K : Kx p c meth bytes mx ret nm) {pc pc' pcT : Nat} {Ls : Array Slot} {S : List Value} {a : Addr} (d : Dec bytes pc (.ifnull (((pcT : Nat) : Int) - ((pc : Nat) : Int))) 3 pc') (r : Go b p l e R s m args below meth c Z EL own Q SL (mkF m pc' Ls S) h locs cells slots) : Go b p l e R s m args below meth c Z EL own Q SL (mkF m pc Ls (.ref a :: S)) h locs cells slots := by
  obtain ⟨d1, rfl⟩ := d
  exact Go.step (fun T vm0 X eT hZ ho t k => XS.ifnullNo X.here K.1 rfl (hb K.2.1 d1) rfl k) r
theorem Go.ifnonnullY (K : Kx p c meth bytes mx ret nm) {pc pc' pcT : Nat} {Ls : Array Slot} {S : List Value} {a : Addr} (d : Dec bytes pc (.ifnonnull (((pcT : Nat) : Int) - ((pc : Nat) : Int))) 3 pc') (r : Go b p l e R s m args below meth c Z EL own Q SL (mkF m pcT Ls S) h locs cells slots) : Go b p l e R s m args below meth c Z EL own Q SL (mkF m pc Ls (.ref a :: S)) h locs cells slots := by
  obtain ⟨d1, rfl⟩ := d
  exact Go.step (fun T vm0 X eT hZ ho t k => XS.ifnonnullYes (pc0 := pc) (pc' := pcT) X.here K.1 rfl rfl (hb K.2.1 d1) rfl (by omega) (by omega) k) r
theorem Go.ifnonnullN (K : Kx p c meth bytes mx ret nm) {pc pc' pcT : Nat} {Ls : Array Slot} {S : List Value}  (d : Dec bytes pc (.ifnonnull (((pcT : Nat) : Int) - ((pc : Nat) : Int))) 3 pc') (r : Go b p l e R s m args below meth c Z EL own Q SL (mkF m pc' Ls S) h locs cells slots) : Go b p l e R s m args below meth c Z EL own Q SL (mkF m pc Ls (.null :: S)) h locs cells slots := by
  obtain ⟨d1, rfl⟩ := d
  exact Go.step (fun T vm0 X eT hZ ho t k => XS.ifnonnullNo X.here K.1 rfl (hb K.2.1 d1) rfl k) r
theorem Go.acmp (K : Kx p c meth bytes mx ret nm) {pc pc' pcT : Nat} {Ls : Array Slot} {S : List Value} {cd : ACond} {x y : Value} (h1 : x.isRef = true) (h2 : y.isRef = true) (d : Dec bytes pc (.if_acmp cd (((pcT : Nat) : Int) - ((pc : Nat) : Int))) 3 pc') (ry : (cd = .eq ∧ x = y ∨ cd = .ne ∧ x ≠ y) → Go b p l e R s m args below meth c Z EL own Q SL (mkF m pcT Ls S) h locs cells slots) (rn : (cd = .eq ∧ x ≠ y ∨ cd = .ne ∧ x = y) → Go b p l e R s m args below meth c Z EL own Q SL (mkF m pc' Ls S) h locs cells slots) : Go b p l e R s m args below meth c Z EL own Q SL (mkF m pc Ls (y :: x :: S)) h locs cells slots := by
  obtain ⟨d1, rfl⟩ := d
  by_cases q : x = y
  · cases cd
    · exact Go.step (fun T vm0 X eT hZ ho t k => Jvm.RoadKit.acmp (pc0 := pc) (pc' := pcT) (same := true) X K.1 rfl h1 h2 rfl (hb K.2.1 d1) rfl (decide_eq_true q) (by omega) (by show pcT = (((pc : Nat) : Int) + (((pcT : Nat) : Int) - ((pc : Nat) : Int))).toNat; omega) k) (ry (Or.inl ⟨rfl, q⟩))
    · exact Go.step (fun T vm0 X eT hZ ho t k => Jvm.RoadKit.acmp (pc0 := pc) (pc' := pc + 3) (same := true) X K.1 rfl h1 h2 rfl (hb K.2.1 d1) rfl (decide_eq_true q) (by omega) rfl k) (rn (Or.inr ⟨rfl, q⟩))
  · cases cd
    · exact Go.step (fun T vm0 X eT hZ ho t k => Jvm.RoadKit.acmp (pc0 := pc) (pc' := pc + 3) (same := false) X K.1 rfl h1 h2 rfl (hb K.2.1 d1) rfl (decide_eq_false q) (by omega) rfl k) (rn (Or.inl ⟨rfl, q⟩))
    · exact Go.step (fun T vm0 X eT hZ ho t k => Jvm.RoadKit.acmp (pc0 := pc) (pc' := pcT) (same := false) X K.1 rfl h1 h2 rfl (hb K.2.1 d1) rfl (decide_eq_false q) (by omega) (by show pcT = (((pc : Nat) : Int) + (((pcT : Nat) : Int) - ((pc : Nat) : Int))).toNat; omega) k) (ry (Or.inr ⟨rfl, q⟩))
theorem Go.ldcI (K : Kx p c meth bytes mx ret nm) {pc pc' : Nat} {Ls : Array Slot} {S : List Value} {index : Nat} {v : Int32} (w : (Jvm.Cond.constant own index v).before a0 Z = true) (d : Dec bytes pc (.ldc index) 2 pc') (r : Go b p l e R s m args below meth c Z EL own Q SL (mkF m pc' Ls (.int v :: S)) h locs cells slots) : Go b p l e R s m args below meth c Z EL own Q SL (mkF m pc Ls S) h locs cells slots := by
  obtain ⟨d1, rfl⟩ := d
  exact Go.step (fun T vm0 X eT hZ ho t k => X.ldcInt K.1 ho (mv (s := s.setVm vm0) hZ w) (g := mkF m pc Ls S) rfl (hb K.2.1 d1) t k) r
theorem Go.ldcL (K : Kx p c meth bytes mx ret nm) {pc pc' : Nat} {Ls : Array Slot} {S : List Value} {index : Nat} {v : Int64} (w : (Jvm.Cond.constantLong own index v).before a0 Z = true) (d : Dec bytes pc (.ldc2_w index) 3 pc') (r : Go b p l e R s m args below meth c Z EL own Q SL (mkF m pc' Ls (.long v :: S)) h locs cells slots) : Go b p l e R s m args below meth c Z EL own Q SL (mkF m pc Ls S) h locs cells slots := by
  obtain ⟨d1, rfl⟩ := d
  exact Go.step (fun T vm0 X eT hZ ho t k => X.ldc2Long K.1 ho (mv (s := s.setVm vm0) hZ w) (g := mkF m pc Ls S) rfl (hb K.2.1 d1) t k) r
theorem Go.getF (K : Kx p c meth bytes mx ret nm) {pc pc' : Nat} {Ls : Array Slot} {S : List Value} {index : Nat} {R0 O n d0 : String} {a : Addr} {v : Value} (w : (Jvm.Cond.fieldLink own index R0 n d0).before a0 Z = true) (via : Via Z R0 O n d0) (F : Fld Z h a O n d0 v) (d : Dec bytes pc (.getfield index) 3 pc')
    (r : Go b p l e R s m args below meth c Z EL own Q SL (mkF m pc' Ls (v :: S)) h locs cells slots) : Go b p l e R s m args below meth c Z EL own Q SL (mkF m pc Ls (.ref a :: S)) h locs cells slots := by
  obtain ⟨d1, rfl⟩ := d
  exact Go.warm (fun T vm0 X eT hZ ho => Jvm.RoadKit.getF X K.1 hZ ho (host := "") (Or.inl w) via eT F (g := mkF m pc Ls (.ref a :: S)) rfl rfl (hb K.2.1 d1)) r
theorem Go.getS (K : Kx p c meth bytes mx ret nm) {pc pc' : Nat} {Ls : Array Slot} {S : List Value} {index : Nat} {R0 O n d0 : String} {v : Value} (w : (Jvm.Cond.fieldLink own index R0 n d0).before a0 Z = true) (via : Via Z R0 O n d0) (F : Sta Z h O n d0 v) (d : Dec bytes pc (.getstatic index) 3 pc')
    (r : Go b p l e R s m args below meth c Z EL own Q SL (mkF m pc' Ls (v :: S)) h locs cells slots) : Go b p l e R s m args below meth c Z EL own Q SL (mkF m pc Ls S) h locs cells slots := by
  obtain ⟨d1, rfl⟩ := d
  exact Go.warm (fun T vm0 X eT hZ ho => Jvm.RoadKit.getS X K.1 hZ ho w via eT F (g := mkF m pc Ls S) (host := "") rfl (hb K.2.1 d1)) r
theorem Go.putF (K : Kx p c meth bytes mx ret nm) {pc pc' : Nat} {Ls : Array Slot} {S : List Value} {index kk : Nat} {R0 O n d0 C : String} {ty : FieldType} {a : Addr} {v old : Value} (w : (Jvm.Cond.fieldLink own index R0 n d0).before a0 Z = true) (via : Via Z R0 O n d0) (F : Fld Z h a O n d0 old) (E : Exa Z h a C)
    (L : (Jvm.Cond.lays C O n d0).before a0 Z = true ∨ ((Jvm.Cond.laysFinal C O n d0).before a0 Z = true ∧ own = O ∧ nm = "<init>")) (wi : (Jvm.Cond.instantiable C kk).before a0 Z = true) (hty : parseFieldDescriptor d0 = some ty) (hn : narrow ty v = v) (hf : fits ty v = true) (hs : Sf Z EL SL h a) (d : Dec bytes pc (.putfield index) 3 pc')
    (r : ∀ h', Wr h h' a (Jvm.RoadKit.slotOf Z O n d0) v → Go b p l e R s m args below meth c Z EL own Q SL (mkF m pc' Ls S) h' (locs ++ [⟨a, Jvm.RoadKit.slotOf Z O n d0⟩]) cells slots) : Go b p l e R s m args below meth c Z EL own Q SL (mkF m pc Ls (v :: .ref a :: S)) h locs cells slots := by
  obtain ⟨d1, rfl⟩ := d
  exact Go.wrote hs (fun T vm0 X eT hZ ho => Jvm.RoadKit.putF X K.1 hZ ho (host := "") (Or.inl w) via eT F E (L.imp id fun q => ⟨q.1, q.2.1, K.2.2.2.2.1.trans q.2.2⟩) wi hty hn hf (g := mkF m pc Ls (v :: .ref a :: S)) rfl rfl (hb K.2.1 d1)) r
theorem Go.newO (K : Kx p c meth bytes mx ret nm) {pc pc' : Nat} {Ls : Array Slot} {S : List Value} {index n : Nat} {C : String} (w : (Jvm.Cond.classLink own index C).before a0 Z = true) (wi : (Jvm.Cond.instantiable C n).before a0 Z = true) (wz : (Jvm.Cond.initialized C).before a0 Z = true) (d : Dec bytes pc (.new index) 3 pc') (hc : cells + 1 ≤ R.cells) (hl : slots + n ≤ R.slots)
    (r : ∀ h', Ext h h' → (Exa Z h' h.size C ∧ ∀ {O nm d : String} {ty : FieldType}, Laid Z a0 C O nm d → parseFieldDescriptor d = some ty → Fld Z h' h.size O nm d (defaultValue ty)) → Go b p l e R s m args below meth c Z EL own Q (h.size :: SL) (mkF m pc' Ls (.ref h.size :: S)) h' locs (cells + 1) (slots + n)) :
    Go b p l e R s m args below meth c Z EL own Q SL (mkF m pc Ls S) h locs cells slots := by
  obtain ⟨d1, rfl⟩ := d
  refine Go.grew (fun T vm0 X eT hZ ho => ?_) r
  obtain ⟨T', h', X', e', E, Ex, D, -, st⟩ := Jvm.RoadKit.newO X K.1 hZ ho w wi wz eT (g := mkF m pc Ls S) rfl (hb K.2.1 d1) hc hl
  exact ⟨T', h', X', e', E, Ex.lt, ⟨Ex, D⟩, st⟩
theorem Go.newP (K : Kx p c meth bytes mx ret nm) {pc pc' : Nat} {Ls : Array Slot} {S : List Value} {aty : ArrayType} {n : Int32} (w : (Jvm.Cond.arrayClass (newarray.typeOf aty)).before a0 Z = true) (d : Dec bytes pc (.newarray aty) 2 pc') (hn : ¬ n < 0) (cap : Nat) (hcap : n.toNatClampNeg ≤ cap) (hb8 : cap * 8 ≤ 536870912) (hc : cells + 1 ≤ R.cells) (hl : slots + cap ≤ R.slots)
    (r : ∀ h', Ext h h' → (∃ k, Arv Z h' h.size k (newarray.typeOf aty) n [] (defaultValue (newarray.typeOf aty))) → Go b p l e R s m args below meth c Z EL own Q (h.size :: SL) (mkF m pc' Ls (.ref h.size :: S)) h' locs (cells + 1) (slots + cap)) :
    Go b p l e R s m args below meth c Z EL own Q SL (mkF m pc Ls (.int n :: S)) h locs cells slots := by
  obtain ⟨d1, rfl⟩ := d
  refine Go.grew (fun T vm0 X eT hZ ho => ?_) r
  obtain ⟨T', h', cA, X', e', E, A, st⟩ := Jvm.RoadKit.newP X K.1 hZ w eT (g := mkF m pc Ls (.int n :: S)) rfl (hb K.2.1 d1) rfl hn hcap hb8 hc hl
  exact ⟨T', h', X', e', E, A.lt, ⟨cA, Arv.new A hn⟩, st⟩
theorem Go.castore (K : Kx p c meth bytes mx ret nm) {pc pc' : Nat} {Ls : Array Slot} {S : List Value} {a : Addr} {k : ClassId} {z j x : Int32} {vs : List Value} {dv : Value} (A : Arv Z h a k .char z vs dv) (i : Nat) (hj : j.toNatClampNeg = i) (hj0 : ¬ j < 0) (hi : i < vs.length) (hz : i < z.toNatClampNeg) (d : Dec bytes pc .castore 1 pc')
    (r : ∀ h', Wr h h' a i (.int (nar .char x)) → Arv Z h' a k .char z (vs.set i (.int (nar .char x))) dv → Go b p l e R s m args below meth c Z EL own Q SL (mkF m pc' Ls S) h' (locs ++ [⟨a, i⟩]) cells slots) :
    Go b p l e R s m args below meth c Z EL own Q SL (mkF m pc Ls (.int x :: .int j :: .ref a :: S)) h locs cells slots := by
  obtain ⟨d1, rfl⟩ := d
  subst hj
  obtain ⟨cl, A1, A2, A3, A4, A5, A6⟩ := A
  exact Go.wrote (Sf.arr A1 (by simp)) (fun T vm0 X eT hZ ho => Jvm.RoadKit.stC X K.1 hZ eT A1 (fun q => q.elim hj0 fun r => by rw [A3] at r; omega) (g := mkF m pc Ls (.int x :: .int j :: .ref a :: S)) rfl rfl (hb K.2.1 d1)) (fun h' W => r h' W (Arv.set A1 A2 A3 A4 A5 A6 (fits_nar_char x) W _ rfl hi))
theorem Go.bastore (K : Kx p c meth bytes mx ret nm) {pc pc' : Nat} {Ls : Array Slot} {S : List Value} {a : Addr} {k : ClassId} {z j x : Int32} {vs : List Value} {dv : Value} (A : Arv Z h a k .byte z vs dv) (i : Nat) (hj : j.toNatClampNeg = i) (hj0 : ¬ j < 0) (hi : i < vs.length) (hz : i < z.toNatClampNeg) (hs : Sf Z EL SL h a) (d : Dec bytes pc .bastore 1 pc')
    (r : ∀ h', Wr h h' a i (.int (nar .byte x)) → Arv Z h' a k .byte z (vs.set i (.int (nar .byte x))) dv → Go b p l e R s m args below meth c Z EL own Q SL (mkF m pc' Ls S) h' (locs ++ [⟨a, i⟩]) cells slots) :
    Go b p l e R s m args below meth c Z EL own Q SL (mkF m pc Ls (.int x :: .int j :: .ref a :: S)) h locs cells slots := by
  obtain ⟨d1, rfl⟩ := d
  subst hj
  obtain ⟨cl, A1, A2, A3, A4, A5, A6⟩ := A
  exact Go.wrote hs (fun T vm0 X eT hZ ho => Jvm.RoadKit.stB X K.1 hZ eT A1 (fun q => q.elim hj0 fun r => by rw [A3] at r; omega) (g := mkF m pc Ls (.int x :: .int j :: .ref a :: S)) rfl rfl (hb K.2.1 d1)) (fun h' W => r h' W (Arv.set A1 A2 A3 A4 A5 A6 (fits_nar_byte x) W _ rfl hi))
theorem Go.initO (K : Kx p c meth bytes mx ret nm) {pc pc' : Nat} {Ls : Array Slot} {S : List Value} {index : Nat} {a : Addr} (w1 : (Jvm.Cond.methodLink own index Lib.objectInit).before a0 Z = true) (w2 : (Jvm.Cond.instanceMethod Lib.objectInit).before a0 Z = true) (w3 : (Jvm.Cond.code Lib.objectInit ⟨#[0xb1]⟩ 1 none).before a0 Z = true) (d : Dec bytes pc (.invokespecial index) 3 pc')
    (hsz : Ls.size = mx) (hf : 1 ≤ R.frames) (hl : (S.map fun v => v.category).sum + 12 ≤ R.locals) (r : Go b p l e R s m args below meth c Z EL own Q SL (mkF m pc' Ls S) h locs cells slots) : Go b p l e R s m args below meth c Z EL own Q SL (mkF m pc Ls (.ref a :: S)) h locs cells slots := by
  obtain ⟨d1, rfl⟩ := d
  exact Go.warm (fun T vm0 X eT hZ ho => Jvm.RoadKit.initO X K.1 hZ ho w1 w2 w3 eT (g := mkF m pc Ls (.ref a :: S)) rfl (hsz.trans K.2.2.1.symm) rfl (hb K.2.1 d1) hf (W := (S.map fun v => v.category).sum) (by show 2 * 0 + _ ≤ _; omega) hl) r
/-- ldc of a String constant, its text unread -/
theorem Go.ldcS (K : Kx p c meth bytes mx ret nm) (hb1 : b = true) (hE : EW Z a0 EL) {pc pc' : Nat} {Ls : Array Slot} {S : List Value} {index : Nat} {text : String} (w : (Jvm.Cond.stringLink own index text).before a0 Z = true) (wS : ∀ a ∈ Bundle.stringAtoms, a.before a0 Z = true) (d : Dec bytes pc (.ldc index) 2 pc') {n : Nat} (hn : 4 * text.toList.length ≤ n) (hbig : n ≤ 536870912) (hc : cells + 2 ≤ R.cells) (hl : slots + (n + 4) ≤ R.slots)
    (r : ∀ (a : Addr) (h' : Heap), Ext h h' → Go b p l e R s m args below meth c Z EL own Q SL (mkF m pc' Ls (.ref a :: S)) h' locs (cells + 2) (slots + (n + 4))) : Go b p l e R s m args below meth c Z EL own Q SL (mkF m pc Ls S) h locs cells slots := fun T vm0 X eT cx hZ ho ch sl => by
  obtain ⟨d1, rfl⟩ := d
  subst hb1
  obtain ⟨k0, hS, hk⟩ := cx
  obtain ⟨a, T', h', k1, X', e', E, hS', hk', hZ', ho', ch', -, st⟩ := ldcOH X K.1 hZ ho w wS eT hS hk hE ch.1 (g := mkF m pc Ls S) rfl (hb K.2.1 d1) hn hbig hc hl
  obtain ⟨s₂, v, L, A, h1, hr⟩ := r a h' E T' T'.vm X' e' ⟨k1, hS', hk'⟩ hZ' ho' (ch.trans ch') (sl.step ch')
  exact ⟨s₂, v, L, A, st _ h1, hr⟩
/-- ldc of a String constant of EL, read -/
theorem Go.ldcR (K : Kx p c meth bytes mx ret nm) (hb1 : b = true) (hE : EW Z a0 EL) {pc pc' : Nat} {Ls : Array Slot} {S : List Value} {index : Nat} {text : String} (hmem : (own, index) ∈ EL) (w : (Jvm.Cond.stringLink own index text).before a0 Z = true) (wS : ∀ a ∈ Bundle.stringAtoms, a.before a0 Z = true)
    {vs : List Value} {z : Int32} (ht : (∀ c ∈ text.toList, c.toNat < 256) ∧ text.toList.map (fun c => Value.int (Jvm.Lit.byteI c.toNat.toUInt16)) = vs) (hz : ¬ z < 0) (hlz : z.toNatClampNeg = vs.length)
    (d : Dec bytes pc (.ldc index) 2 pc') {n : Nat} (hn : 4 * text.toList.length ≤ n) (hbig : n ≤ 536870912) (hc : cells + 2 ≤ R.cells) (hl : slots + (n + 4) ≤ R.slots)
    (r : ∀ (a : Addr) (h' : Heap) (bb : Addr) (k : ClassId), Ext h h' → Exa Z h' a "java/lang/String" → Fld Z h' a "java/lang/String" "coder" "B" (.int 0) → Fld Z h' a "java/lang/String" "value" "[B" (.ref bb) → Arv Z h' bb k .byte z vs (.int 0) → (∀ x ∈ SL, x ≠ a ∧ x ≠ bb) → Go b p l e R s m args below meth c Z EL own Q SL (mkF m pc' Ls (.ref a :: S)) h' locs (cells + 2) (slots + (n + 4))) : Go b p l e R s m args below meth c Z EL own Q SL (mkF m pc Ls S) h locs cells slots := fun T vm0 X eT cx hZ ho ch sl => by
  obtain ⟨d1, rfl⟩ := d
  subst hb1
  obtain ⟨k0, hS, hk⟩ := cx
  obtain ⟨a, T', h', k1, bb, k, X', e', E, hS', hk', hZ', ho', x1, x2, x3, x4, -, -, ch', -, sf, st⟩ := ldcCH X K.1 hZ ho w wS eT hS hk hE hmem ch.1 ht hz hlz (g := mkF m pc Ls S) rfl (hb K.2.1 d1) hn hbig hc hl
  have sl' := sl.step ch'
  obtain ⟨s₂, v, L, A, h1, hr⟩ := r a h' bb k E x1 x2 x3 x4 (fun x q => sf x (sl' x q).2) T' T'.vm X' e' ⟨k1, hS', hk'⟩ hZ' ho' (ch.trans ch') sl'
  exact ⟨s₂, v, L, A, st _ h1, hr⟩
theorem Go.retV {v : Value} {t : FieldType} {A : List Addr} {i : Instr} (K : Kx p c meth bytes mx (some t) nm) (hE : b = true ∧ EW Z a0 EL ∨ EL = []) {pc pc' : Nat} {Ls : Array Slot} {S : List Value} (d : Dec bytes pc i 1 pc') (hn : narrow t v = v)
    (hi : (i = .ireturn ∧ (t = .int ∨ t = .boolean ∨ t = .byte ∨ t = .char ∨ t = .short) ∧ ∃ z, v = .int z) ∨ (i = .lreturn ∧ t = .long ∧ ∃ z, v = .long z) ∨ (i = .dreturn ∧ t = .double ∧ ∃ z, v = .double z) ∨ (i = .freturn ∧ t = .float ∧ ∃ z, v = .float z) ∨ (i = .areturn ∧ t.isReference = true ∧ v.isRef = true))
    (hcl : cells ≤ R.cells) (hsl : slots ≤ R.slots) (hA : ∀ x ∈ A, x ∈ SL) (hQ : Q (some v) h locs A) : Go b p l e R s m args below meth c Z EL own Q SL (mkF m pc Ls (v :: S)) h locs cells slots :=
  Go.end (v := some v) (A := A) K hE (fun q => by cases q) hcl hsl hA hQ (fun T vm0 X eT hZ fs hr => retOut X K.1 K.2.2.2.1 hn hi (hb K.2.1 d.1) hr)
theorem Go.iret {v : Int32} {A : List Addr} (K : Kx p c meth bytes mx (some .int) nm) (hE : b = true ∧ EW Z a0 EL ∨ EL = []) {pc pc' : Nat} {Ls : Array Slot} {S : List Value} (d : Dec bytes pc .ireturn 1 pc') (hcl : cells ≤ R.cells) (hsl : slots ≤ R.slots) (hA : ∀ x ∈ A, x ∈ SL) (hQ : Q (some (.int v)) h locs A) : Go b p l e R s m args below meth c Z EL own Q SL (mkF m pc Ls (.int v :: S)) h locs cells slots :=
  Go.retV K hE d rfl (Or.inl ⟨rfl, Or.inl rfl, v, rfl⟩) hcl hsl hA hQ
theorem Go.lret {v : Int64} {A : List Addr} (K : Kx p c meth bytes mx (some .long) nm) (hE : b = true ∧ EW Z a0 EL ∨ EL = []) {pc pc' : Nat} {Ls : Array Slot} {S : List Value} (d : Dec bytes pc .lreturn 1 pc') (hcl : cells ≤ R.cells) (hsl : slots ≤ R.slots) (hA : ∀ x ∈ A, x ∈ SL) (hQ : Q (some (.long v)) h locs A) : Go b p l e R s m args below meth c Z EL own Q SL (mkF m pc Ls (.long v :: S)) h locs cells slots :=
  Go.retV K hE d rfl (Or.inr (Or.inl ⟨rfl, rfl, v, rfl⟩)) hcl hsl hA hQ
theorem Go.aret {v : Value} {t : FieldType} {A : List Addr} (K : Kx p c meth bytes mx (some t) nm) (hE : b = true ∧ EW Z a0 EL ∨ EL = []) {pc pc' : Nat} {Ls : Array Slot} {S : List Value} (d : Dec bytes pc .areturn 1 pc') (ht : t.isReference = true) (hv : v.isRef = true) (hcl : cells ≤ R.cells) (hsl : slots ≤ R.slots) (hA : ∀ x ∈ A, x ∈ SL) (hQ : Q (some v) h locs A) : Go b p l e R s m args below meth c Z EL own Q SL (mkF m pc Ls (v :: S)) h locs cells slots :=
  Go.retV K hE d (by cases v <;> first | (simp [Value.isRef] at hv; done) | (cases t <;> rfl)) (Or.inr (Or.inr (Or.inr (Or.inr ⟨rfl, ht, hv⟩)))) hcl hsl hA hQ
/-- a boolean, byte, char or short: narrowed -/
theorem Go.nret {v : Int32} {t : FieldType} {A : List Addr} (K : Kx p c meth bytes mx (some t) nm) (hE : b = true ∧ EW Z a0 EL ∨ EL = []) {pc pc' : Nat} {Ls : Array Slot} {S : List Value} (d : Dec bytes pc .ireturn 1 pc') (ht : t = .boolean ∨ t = .byte ∨ t = .char ∨ t = .short) (hcl : cells ≤ R.cells) (hsl : slots ≤ R.slots) (hA : ∀ x ∈ A, x ∈ SL) (hQ : Q (some (.int (nar t v))) h locs A) : Go b p l e R s m args below meth c Z EL own Q SL (mkF m pc Ls (.int v :: S)) h locs cells slots :=
  Go.end (v := some (.int (nar t v))) (A := A) K hE (fun q => by cases q) hcl hsl hA hQ (fun T vm0 X eT hZ fs hr => retN X K.1 K.2.2.2.1 ht (hb K.2.1 d.1) hr)
theorem Go.vret {A : List Addr} (K : Kx p c meth bytes mx none nm) (hE : b = true ∧ EW Z a0 EL ∨ EL = []) {pc pc' : Nat} {Ls : Array Slot} {S : List Value} (d : Dec bytes pc .return_ 1 pc') (hcl : cells ≤ R.cells) (hsl : slots ≤ R.slots) (hA : ∀ x ∈ A, x ∈ SL) (hS : S = []) (hQ : Q none h locs A) : Go b p l e R s m args below meth c Z EL own Q SL (mkF m pc Ls S) h locs cells slots := by
  subst hS
  exact Go.end (v := none) (A := A) K hE (fun q => rfl) hcl hsl hA hQ (fun T vm0 X eT hZ fs hr => X.returnOut K.1 K.2.2.2.1 (hb K.2.1 d.1) hr)

/-! calls -/
/-- the invoking instruction has brought the machine to the callee y with these arguments -/
def Inv (p : Program) (l : Launch) (e : Env) (R : Room) (s : State) (m : MethodId) (args : Array Value) (below : List Frame) (meth : Method) (c : Code) (Z : State) (own : String) (y : MethodName) (as' : Array Value) (g g' : JFrame) (h : Heap) (locs : List Loc) (cells slots : Nat) : Prop :=
  ∀ (T : State) (vm0 : Vm), Stand p l e R (s.setVm vm0) m args below meth c T locs cells slots → T.heap = h → Z.Warmed39 vm0 → vm0.findClass own = some m.cls →
    ∃ (mk : MethodId) (vm1 : Vm), Stand p l e R (s.setVm vm0) m args below meth c (T.setVm vm1) locs cells slots ∧ (T.setVm vm1).methodNamed? y = some mk ∧ Steps p.tables e below (T.setTop g) (doInvoke e ((T.setVm vm1).setTop g') [] mk as').1
theorem Inv.static (hx : p.tables.exec = Jvm.exec) {index : Nat} {y : MethodName} {bytesY : ByteArray} {maxL : Nat} {retY : Option FieldType} (w1 : (Jvm.Cond.methodLink own index y).before a0 Z = true) (w2 : (Jvm.Cond.static y).before a0 Z = true) (w3 : (Jvm.Cond.initialized y.cls).before a0 Z = true) (w4 : (Jvm.Cond.code y bytesY maxL retY).before a0 Z = true)
    (hy : y.cls ≠ "java/lang/invoke/MethodHandle" ∧ y.cls ≠ "java/lang/invoke/VarHandle") {argsL S : List Value} {pc : Nat} {Ls : Array Slot} (hlen : ∀ sig, parseMethodDescriptor y.desc = some sig → argsL.length = sig.parameters.length) (hd : decode c.code pc = .ok (.invokestatic index, 3)) :
    Inv p l e R s m args below meth c Z own y argsL.toArray (mkF m pc Ls (argsL.reverse ++ S)) (mkF m pc Ls S) h locs cells slots := fun T vm0 X eT hZ ho => by
  have hcode : (Jvm.Cond.code y bytesY maxL retY).before args (s.setVm vm0) = true := mv (s := s.setVm vm0) hZ w4
  obtain ⟨mk, hnamed⟩ := Cond.code_named hcode
  obtain ⟨methM, cM, hmethM, -, -, -, -, -, -, hsig⟩ := Cond.code_spec hnamed hcode
  obtain ⟨kP, hkP, -⟩ := className_of_methodNamed hnamed
  obtain ⟨vm₁, X₁, hstep₁⟩ := X.invokestatic hx ho (mvT (s := s.setVm vm0) hZ w1) hnamed hmethM (Cond.static_spec hnamed hmethM (mvT (s := s.setVm vm0) (args := args) hZ w2)) hkP (Cond.initialized_spec (findClass_of_methodNamed hnamed) hkP (mvT (s := s.setVm vm0) (args := args) hZ w3)) hy (g := mkF m pc Ls (argsL.reverse ++ S)) rfl (argsL := argsL) (rest := S) (hlen _ hsig) rfl hd
  exact ⟨mk, vm₁, X₁, X₁.named hnamed, hstep₁ _ fun acts => by rw [doInvoke_state]; exact Steps.refl _⟩
theorem Inv.special (hx : p.tables.exec = Jvm.exec) {index : Nat} {y : MethodName} (hy1 : y.name = "<init>") {bytesY : ByteArray} {maxL : Nat} (w1 : (Jvm.Cond.methodLink own index y).before a0 Z = true) (w2 : (Jvm.Cond.instanceMethod y).before a0 Z = true) (w4 : (Jvm.Cond.code y bytesY maxL none).before a0 Z = true)
    (hy : y.cls ≠ "java/lang/invoke/MethodHandle" ∧ y.cls ≠ "java/lang/invoke/VarHandle") {a : Addr} {argsL S : List Value} {pc : Nat} {Ls : Array Slot} (hlen : ∀ sig, parseMethodDescriptor y.desc = some sig → argsL.length = sig.parameters.length) (hd : decode c.code pc = .ok (.invokespecial index, 3)) :
    Inv p l e R s m args below meth c Z own y (.ref a :: argsL).toArray (mkF m pc Ls (argsL.reverse ++ .ref a :: S)) (mkF m pc Ls S) h locs cells slots := fun T vm0 X eT hZ ho => by
  have hpl : e.platform.magicAccessors = ({} : Platform).magicAccessors := by rw [X.admits.platform]
  obtain ⟨mk, methM, cM, kP, vm₁, hnamed, hmethM, -, -, -, -, hkP, -, hW₁, hstep₁⟩ :=
    Steps.initColdArgs (e := e) X.here hx X.warmed hpl ho hy1 hy (mvT (s := s.setVm vm0) (args := args) hZ w1) (mvT (s := s.setVm vm0) (args := args) hZ w2) (mv (s := s.setVm vm0) (args := args) hZ w4) (f := mkF m pc Ls (argsL.reverse ++ .ref a :: S)) rfl hlen rfl hd
  have X₁ := X.noted hW₁
  exact ⟨mk, vm₁, X₁, X₁.named hnamed, hstep₁ _ fun acts => by rw [doInvoke_state]; exact Steps.refl _⟩
theorem Inv.virtual (hx : p.tables.exec = Jvm.exec) {index : Nat} {C : String} {y z : MethodName} (w1 : (Jvm.Cond.methodLink own index y).before a0 Z = true) (w2 : (Jvm.Cond.declares y).before a0 Z = true) (nf : ∀ vm0 : Vm, Z.Warmed39 vm0 → NotFace (s.setVm vm0) y) (w3 : (Jvm.Cond.selects C y z).before a0 Z = true) (w4 : (Jvm.Cond.instanceMethod z).before a0 Z = true)
    (hy : y.cls ≠ "java/lang/invoke/MethodHandle" ∧ y.cls ≠ "java/lang/invoke/VarHandle") {a : Addr} (E : Exa Z h a C) {argsL S : List Value} {pc : Nat} {Ls : Array Slot} (hlen : ∀ sig, parseMethodDescriptor y.desc = some sig → argsL.length = sig.parameters.length) (hd : decode c.code pc = .ok (.invokevirtual index, 3)) :
    Inv p l e R s m args below meth c Z own z (.ref a :: argsL).toArray (mkF m pc Ls (argsL.reverse ++ .ref a :: S)) (mkF m pc Ls S) h locs cells slots := fun T vm0 X eT hZ ho => by
  obtain ⟨cB, kB, hcB, -, hrecv⟩ := isOf (s := s.setVm vm0) (T := T) hZ eT E
  obtain ⟨cellB, hcellT, hclsB, hstatB⟩ := hrecv
  obtain ⟨r0, r, hn, hrm, hstR, hsigR⟩ := Cond.declares_spec (mvT (s := s.setVm vm0) (args := args) hZ w2)
  obtain ⟨mk, methM, hnamed, hmethM, -, habM⟩ := Cond.instanceMethod_spec (mvT (s := s.setVm vm0) (args := args) hZ w4)
  obtain ⟨c2, r2, m2, q1, q2, q3, q4, kP, hkP, hkPi⟩ := Cond.selects_spec (mvT (s := s.setVm vm0) (args := args) hZ w3)
  cases hcB.symm.trans q1
  cases (State.methodFound?_of_named hn hy).symm.trans q2
  cases hnamed.symm.trans q3
  have hselP : selectMethod e.platform (s.setVm vm0).vm cellB.cls r0 = .method mk := by rw [Launch.admits_selectMethod X.admits, hclsB]; exact q4
  obtain ⟨kr, hkr, hni⟩ := nf vm0 hZ r0 hn
  obtain ⟨vm₁, X₁, hstep₁⟩ := X.invokevirtual hx ho (mvT (s := s.setVm vm0) (args := args) hZ w1) hn hrm hstR hkr hni hy (a := a) (cell := cellB) hcellT
    (fun z h => by rw [h] at hstatB; cases hstatB) hselP hmethM habM hkP hkPi (g := mkF m pc Ls (argsL.reverse ++ .ref a :: S)) rfl (argsL := argsL) (rest := S) (hlen _ hsigR) rfl hd
  exact ⟨mk, vm₁, X₁, X₁.named hnamed, hstep₁ _ fun acts => by rw [doInvoke_state]; exact Steps.refl _⟩
theorem Inv.nf {y : MethodName} {C : String} (w3 : (Jvm.Cond.selects C y y).before a0 Z = true) : ∀ vm0 : Vm, Z.Warmed39 vm0 → NotFace (s.setVm vm0) y := fun vm0 hZ => notFace_of_selects (args := #[]) (mvT (s := s.setVm vm0) hZ w3)
/-- a call by a contract -/
theorem Go.call {y : MethodName} {bytesY : ByteArray} {maxL : Nat} {retY : Option FieldType} {rm : Room} {as' : Array Value} {SLc : List Addr} {Qc : Option Value → Heap → List Loc → List Addr → Prop} {pc len : Nat} {Ls : Array Slot} {S : List Value} {ig : Instr}
    (K : Kx p c meth bytes mx ret nm) (hE : b = true ∧ EW Z a0 EL ∨ EL = []) (I : Inv p l e R s m args below meth c Z own y as' g (mkF m pc Ls S) h locs cells slots) (hC : Ctr b l Z EL y bytesY maxL retY [] rm as' h SLc Qc) (hSL : ∀ x ∈ SLc, x ∈ SL) (wc : (Jvm.Cond.code y bytesY maxL retY).before a0 Z = true) (wz : (Jvm.Cond.initialized y.cls).before a0 Z = true)
    (hd : decode bytes pc = .ok (ig, len)) (hsz : Ls.size = mx) (hf : rm.frames + 1 ≤ R.frames) (hl : (S.map fun v => v.category).sum + (maxL + 11) + rm.locals ≤ R.locals) (hcl : cells + rm.cells ≤ R.cells) (hsl : slots + rm.slots ≤ R.slots)
    (r : ∀ (v : Option Value) (h' : Heap) (L : List Loc) (A : List Addr), Qc v h' L A → Go b p l e R s m args below meth c Z EL own Q (SL ++ A) (mkF m (pc + len) Ls (v.toList ++ S)) h' (locs ++ L) (cells + rm.cells) (slots + rm.slots)) :
    Go b p l e R s m args below meth c Z EL own Q SL g h locs cells slots := fun T vm0 X eT cx hZ ho ch sl => by
  obtain ⟨mk, vm1, X1, hn, st⟩ := I T vm0 X eT hZ ho
  have hat : ∀ {T : State} {locs : List Loc} {cells slots : Nat}, Stand p l e R (s.setVm vm0) m args below meth c T locs cells slots → CHr Z EL vm0 h T.vm h := fun Y => by
    rcases hE with ⟨-, hE⟩ | rfl
    · exact CHv.at Y hZ hE ch.1
    · exact chr0 (Nat.le_refl _)
  have hslc : Sl Z EL SLc vm0 h := fun x q => sl x (hSL x q)
  cases b
  · have hEL : EL = [] := by
      rcases hE with ⟨q, -⟩ | q
      · cases q
      · exact q
    subst hEL
    have hB : Back l R p e below (s.setVm vm0) args y len (S.map fun v => v.category).sum (fun A a => a = as' ∧ A.U.heap = h ∧ A.cells + rm.cells ≤ R.cells ∧ A.slots + rm.slots ≤ R.slots)
        (fun A _ v B => h.size ≤ B.U.heap.size ∧ ∃ L AA, Qc v B.U.heap L AA ∧ Sl Z [] AA vm0 B.U.heap ∧ B.locs = A.locs ++ L ∧ B.cells = A.cells + rm.cells ∧ B.slots = A.slots + rm.slots) :=
      Back.of_free (bytes := bytesY) (maxL := maxL) (ret := retY) (E := fun _ first o t L k n => k = rm.cells ∧ n = rm.slots ∧ first.heap.size ≤ t.heap.size ∧ ∃ v AA, o = .returned v ∧ Qc v t.heap L AA ∧ Sl Z [] AA t.vm t.heap) hC hf hl
        (fun m meth c A a Y hp => have hU : Z.Warmed39 A.U.vm := wtrans (s := s.setVm vm0) hZ Y.warmed
          ⟨by show (Jvm.Cond.and _ .tt).before a A.U = true; rw [Cond.before_and, mv hU wc]; rfl, mv hU wc, mv hU wz, hp.2.2.1, hp.2.2.2⟩)
        (fun m meth c A a g mk Y hp => ⟨hp.1, wtrans (s := s.setVm vm0) hZ Y.warmed, hp.2.1, chv0, fun x q => ⟨(hslc x q).1, safe0⟩⟩) (fun _ _ _ _ _ _ _ _ _ => trivial)
        (fun _ _ _ _ ⟨v, L, AA, h1, h2, h3, h4, h5⟩ => ⟨L, _, _, h5, rfl, rfl, h3.2.1, v, AA, h1, h2, h4⟩)
        (fun m meth c A a g mk v t L k n Y hp _ _ ⟨e1, e2, e3, v', AA, e4, e5, e6⟩ => by
          cases e4; subst e1 e2
          exact ⟨by rw [← hp.2.1]; exact e3, L, AA, e5, fun x q => ⟨(e6 x q).1, safe0⟩, rfl, rfl, rfl⟩)
    obtain ⟨v, ⟨T', L', k', n'⟩, X', ⟨hgr, L, AA, hq, hs, e1, e2, e3⟩, st2⟩ := hB m meth c ⟨T.setVm vm1, locs, cells, slots⟩ (mkF m pc Ls S) ig mk as' X1 rfl (hsz.trans K.2.2.1.symm) (hb K.2.1 hd) (by show 2 * 0 + (S.map fun v => v.category).sum ≤ _; omega) hn ⟨rfl, eT, hcl, hsl⟩
    dsimp only [Pt.U, Pt.locs, Pt.cells, Pt.slots] at X' hgr hq hs e1 e2 e3 st2
    subst e1 e2 e3
    obtain ⟨s₂, v2, L2, A2, h1, hr⟩ := r v T'.heap L AA hq T' vm0 X' rfl (cx.mono hgr) hZ ho (ch.trans (chr0 hgr)) ((sl.step (chr0 hgr)).app hs)
    exact ⟨s₂, v2, L2, A2, st.trans (st2.trans h1), hr⟩
  · have hB : BackS l R p e below (s.setVm vm0) args y len (S.map fun v => v.category).sum (fun A a => a = as' ∧ A.U.heap = h ∧ A.cells + rm.cells ≤ R.cells ∧ A.slots + rm.slots ≤ R.slots)
        (fun A _ v B => CHr Z EL vm0 h B.U.vm B.U.heap ∧ ∃ L AA, Qc v B.U.heap L AA ∧ Sl Z EL AA B.U.vm B.U.heap ∧ B.locs = A.locs ++ L ∧ B.cells = A.cells + rm.cells ∧ B.slots = A.slots + rm.slots) :=
      BackS.of_freeW (bytes := bytesY) (maxL := maxL) (ret := retY) (E := fun _ first o t L k n => k = rm.cells ∧ n = rm.slots ∧ CHr Z EL first.vm first.heap t.vm t.heap ∧ ∃ v AA, o = .returned v ∧ Qc v t.heap L AA ∧ Sl Z EL AA t.vm t.heap) hC hf hl
        (fun m meth c A a Y hp => have hU : Z.Warmed39 A.U.vm := wtrans (s := s.setVm vm0) hZ Y.warmed
          ⟨by show (Jvm.Cond.and _ .tt).before a A.U = true; rw [Cond.before_and, mv hU wc]; rfl, mv hU wc, mv hU wz, hp.2.2.1, hp.2.2.2⟩)
        (fun m' meth' c' A a g mk Y hp => by
          have q : CHr Z EL vm0 h A.U.vm h := by
            rcases hE with ⟨-, hE⟩ | rfl
            · exact CHv.at Y hZ hE ch.1
            · exact chr0 (Nat.le_refl _)
          exact ⟨hp.1, wtrans (s := s.setVm vm0) hZ Y.warmed, hp.2.1, q.1, hslc.step q⟩) (fun _ _ _ _ _ _ _ _ _ => trivial)
        (fun _ _ _ _ ⟨v, L, AA, h1, h2, h3, h4, h5⟩ => ⟨L, _, _, h5, rfl, rfl, h3, v, AA, h1, h2, h4⟩)
        (fun m' meth' c' A a g mk v t L k n Y hp _ _ ⟨e1, e2, e3, v', AA, e4, e5, e6⟩ => by
          cases e4; subst e1 e2
          have q : CHr Z EL vm0 h A.U.vm h := by
            rcases hE with ⟨-, hE⟩ | rfl
            · exact CHv.at Y hZ hE ch.1
            · exact chr0 (Nat.le_refl _)
          refine ⟨q.trans ?_, L, AA, e5, e6, rfl, rfl, rfl⟩
          rw [← hp.2.1]; exact e3)
    obtain ⟨v, ⟨T', L', k', n'⟩, X', hS', hgr, ⟨ch', L, AA, hq, hs, e1, e2, e3⟩, st2⟩ := hB m meth c ⟨T.setVm vm1, locs, cells, slots⟩ (mkF m pc Ls S) ig mk as' X1 rfl (hsz.trans K.2.2.1.symm) (hb K.2.1 hd) (by show 2 * 0 + (S.map fun v => v.category).sum ≤ _; omega) hn ⟨rfl, eT, hcl, hsl⟩
    dsimp only [Pt.U, Pt.locs, Pt.cells, Pt.slots] at X' hS' hgr ch' hq hs e1 e2 e3 st2
    subst e1 e2 e3
    obtain ⟨k0, hS, hk⟩ := cx
    have hgr' : k0 ≤ T'.heap.size := Nat.le_trans hk ch'.2.1
    obtain ⟨s₂, v2, L2, A2, h1, hr⟩ := r v T'.heap L AA hq T' T'.vm X' rfl ⟨_, hS.trans hS' hgr', Nat.le_refl _⟩ (State.Warmed39.trans (t := s.setVm vm0) hZ hS'.1) (by rw [hS'.1.alike.findClass]; exact ho) (ch.trans ch') ((sl.step ch').app hs)
    exact ⟨s₂, v2, L2, A2, st.trans (st2.trans h1), hr⟩
/-- a call that a law in Back's form pays (it interns nothing; it writes at ws alone) -/
theorem Go.callB {y : MethodName} {kc ks : Nat} {as' : Array Value} {Qc : Option Value → Heap → List Loc → Prop} {pc len W : Nat} {Ls : Array Slot} {S : List Value} {ig : Instr}
    (K : Kx p c meth bytes mx ret nm) (I : Inv p l e R s m args below meth c Z own y as' g (mkF m pc Ls S) h locs cells slots)
    (hB : ∀ s' : State, Z.Warmed39 s'.vm → Back l R p e below s' args y len W (fun A a => a = as' ∧ A.U.heap = h ∧ A.cells + kc ≤ R.cells ∧ A.slots + ks ≤ R.slots) (fun A _ v B => ∃ L, Qc v B.U.heap L ∧ B.locs = A.locs ++ L ∧ B.cells = A.cells + kc ∧ B.slots = A.slots + ks))
    (hd : decode bytes pc = .ok (ig, len)) (hsz : Ls.size = mx) (hW : (S.map fun v => v.category).sum ≤ W) (hcl : cells + kc ≤ R.cells) (hsl : slots + ks ≤ R.slots) {ws : List Addr} (hK : ∀ v h' L, Qc v h' L → Keep h h' ws) (hws : ∀ x ∈ ws, Sf Z EL SL h x)
    (r : ∀ (v : Option Value) (h' : Heap) (L : List Loc), Qc v h' L → Go b p l e R s m args below meth c Z EL own Q SL (mkF m (pc + len) Ls (v.toList ++ S)) h' (locs ++ L) (cells + kc) (slots + ks)) :
    Go b p l e R s m args below meth c Z EL own Q SL g h locs cells slots := fun T vm0 X eT cx hZ ho ch sl => by
  obtain ⟨mk, vm1, X1, hn, st⟩ := I T vm0 X eT hZ ho
  obtain ⟨v, ⟨T', L', k', n'⟩, X', ⟨L, hq, e1, e2, e3⟩, st2⟩ := hB (s.setVm vm0) hZ m meth c ⟨T.setVm vm1, locs, cells, slots⟩ (mkF m pc Ls S) ig mk as' X1 rfl (hsz.trans K.2.2.1.symm) (hb K.2.1 hd) (by show 2 * 0 + (S.map fun v => v.category).sum ≤ _; omega) hn ⟨rfl, eT, hcl, hsl⟩
  dsimp only [Pt.U, Pt.locs, Pt.cells, Pt.slots] at X' hq e1 e2 e3 st2
  subst e1 e2 e3
  have ch' := CHr.keep (hK _ _ _ hq) (fun x q => hws x q vm0 hZ sl) ch.1
  obtain ⟨s₂, v2, L2, A2, h1, hr⟩ := r v T'.heap L hq T' vm0 X' rfl (cx.mono ch'.2.1) hZ ho (ch.trans ch') (sl.step ch')
  exact ⟨s₂, v2, L2, A2, st.trans (st2.trans h1), hr⟩
end W
end Jvm.Pilot.@@N@@.Own
/- laws to paste: Road.backV, Road.lenW, Road.empW, Road.chN (cut by pick.py; bodies as the Statement names them) -/
namespace Jvm.Pilot.@@N@@
namespace StrChars
open Jvm Sem ClassFile Op Lib Jvm.Stand Jvm.Free.XT Jvm.Free.ALB Jvm.Free.JM Jvm.Free
open Jvm.Lib.Cold (StaticIs)
/-- a char array whose places are chars -/
def Ch (a : Addr) (A : Cell) (U : State) : Prop := Arr .char a A U ∧ Typed .char A
theorem Ch.mv {a : Addr} {A : Cell} {U U' : State} (h : Ch a A U) (hal : U.vm.Alike U'.vm) (hh : U'.heap = U.heap) : Ch a A U' := ⟨h.1.mv hal hh, h.2⟩
theorem Ch.keep {a : Addr} {A : Cell} {U U' : State} (h : Ch a A U) (hal : U.vm.Alike U'.vm) (hk : U'.heap[a]? = some A) : Ch a A U' := ⟨h.1.keep hal hk, h.2⟩
/-- what place i of a char[]'s cell holds -/
def cv (A : Cell) (i : Nat) : Int32 := match A.slots[i]? with | some (.int x) => x | _ => 0
theorem Ch.get {a : Addr} {A : Cell} {U : State} (h : Ch a A U) {i : Nat} (hi : i < A.slots.size) : A.slots[i]? = some (.int (cv A i)) := by
  have e := Array.getElem?_eq_getElem hi
  have f := h.2 i _ e
  unfold cv; rw [e]
  generalize A.slots[i] = v at f
  cases v <;> simp [fits] at f ⊢
/-- the byte that i2b leaves of a char -/
def lo8 (x : Int32) : Int32 := x.toInt8.toInt32
theorem fits_lo8 (y : Int32) : fits .byte (.int (lo8 y)) = true := by
  have h1 := y.toInt8.le_toInt
  have h2 := y.toInt8.toInt_lt
  simp only [lo8, fits, Bool.and_eq_true, decide_eq_true_eq, Int32.le_iff_toInt_le, Int8.toInt_toInt32, show (-128 : Int32).toInt = -128 from by decide, show (127 : Int32).toInt = 127 from by decide]
  omega
/-- A' is A but that each place j of lo .. hi - 1 holds f j -/
def Laid (A A' : Cell) (lo hi : Nat) (f : Nat → Value) : Prop := A'.cls = A.cls ∧ A'.vm = A.vm ∧ A'.slots.size = A.slots.size ∧ ∀ i, A'.slots[i]? = if lo ≤ i ∧ i < hi then some (f i) else A.slots[i]?
theorem Laid.zero (A : Cell) (lo : Nat) (f : Nat → Value) : Laid A A lo (lo + 0) f := ⟨rfl, rfl, rfl, fun i => by rw [if_neg (by omega)]⟩
theorem Laid.step {A Ak : Cell} {lo k : Nat} {f : Nat → Value} {v : Value} (h : Laid A Ak lo k f) (hlo : lo ≤ k) (hk : k < Ak.slots.size) (hv : v = f k) : Laid A (Ak.setSlot k v) lo (k + 1) f := by
  refine ⟨h.1, h.2.1, by simpa [Cell.setSlot] using h.2.2.1, fun i => ?_⟩
  by_cases e : k = i
  · subst e; rw [Cell.slots_setSlot_self v hk, if_pos (by omega), hv]
  · rw [Cell.slots_setSlot_ne v e, h.2.2.2 i]
    by_cases q : lo ≤ i ∧ i < k
    · rw [if_pos q, if_pos (by omega)]
    · rw [if_neg q, if_neg (by omega)]
def U16 : String := "java/lang/StringUTF16"
namespace Cmp5
def yN : MethodName := ⟨"java/lang/StringUTF16", "compress", "([CI[BII)I"⟩
abbrev yB : ByteArray := jdk_52_method_21_code
theorem d0 : decode yB 0 = .ok (.iconst 0, 1) := by decide +kernel
theorem d1 : decode yB 1 = .ok (.istore 5, 2) := by decide +kernel
theorem d3 : decode yB 3 = .ok (.iload 5, 2) := by decide +kernel
theorem d5 : decode yB 5 = .ok (.iload 4, 2) := by decide +kernel
theorem d7 : decode yB 7 = .ok (.if_icmp (.ge) 37, 3) := by decide +kernel
theorem d10 : decode yB 10 = .ok (.aload_n 0, 1) := by decide +kernel
theorem d11 : decode yB 11 = .ok (.iload_n 1, 1) := by decide +kernel
theorem d12 : decode yB 12 = .ok (.caload, 1) := by decide +kernel
theorem d13 : decode yB 13 = .ok (.istore 6, 2) := by decide +kernel
theorem d15 : decode yB 15 = .ok (.iload 6, 2) := by decide +kernel
theorem d17 : decode yB 17 = .ok (.sipush 255, 3) := by decide +kernel
theorem d20 : decode yB 20 = .ok (.if_icmp (.le) 6, 3) := by decide +kernel
theorem d26 : decode yB 26 = .ok (.aload_n 2, 1) := by decide +kernel
theorem d27 : decode yB 27 = .ok (.iload_n 3, 1) := by decide +kernel
theorem d28 : decode yB 28 = .ok (.iload 6, 2) := by decide +kernel
theorem d30 : decode yB 30 = .ok (.i2b, 1) := by decide +kernel
theorem d31 : decode yB 31 = .ok (.bastore, 1) := by decide +kernel
theorem d32 : decode yB 32 = .ok (.iinc 1 1, 3) := by decide +kernel
theorem d35 : decode yB 35 = .ok (.iinc 3 1, 3) := by decide +kernel
theorem d38 : decode yB 38 = .ok (.iinc 5 1, 3) := by decide +kernel
theorem d41 : decode yB 41 = .ok (.goto (-38), 3) := by decide +kernel
theorem d44 : decode yB 44 = .ok (.iload 4, 2) := by decide +kernel
theorem d46 : decode yB 46 = .ok (.ireturn, 1) := by decide +kernel
def site : List Cond := []
def tab : Cond := tabOf yN yB 7 (some .int) site
def P (b : Addr) (A : Cell) (d : Addr) (B : Cell) (o q len : Nat) (args : Array Value) (s : State) : Prop := args = #[.ref b, .int (Int32.ofNat o), .ref d, .int (Int32.ofNat q), .int (Int32.ofNat len)] ∧ Ch b A s ∧ Arr .byte d B s ∧ b ≠ d ∧ o + len ≤ A.slots.size ∧ q + len ≤ B.slots.size ∧ ∀ i, i < len → ¬ 255 < cv A (o + i)
def E (b : Addr) (A : Cell) (d : Addr) (B : Cell) (o q len : Nat) (r : Option Value) (s u : State) : Prop := r = some (.int (Int32.ofNat len)) ∧ ∃ B', Put d B' s u ∧ Laid B B' q (q + len) (fun j => Value.int (lo8 (cv A (o + (j - q)))))
/-- no char of the range above 255: len; the places written hold each char's low byte -/
theorem law (l : Launch) (b : Addr) (A : Cell) (d : Addr) (B : Cell) (o q len : Nat) : Law l yN 5 5 0 0 yB 7 (some .int) site (P b A d B o q len) (E b A d B o q len) (copyLocs d q len) 0 0 := by
  refine Law.of_walk (plainFor_of_name (by decide +kernel)) (by decide +kernel) (by decide +kernel) (by decide) (fun _ _ h => by rw [h.1]; rfl) (fun _ U U' hal hh h => ⟨h.1, h.2.1.mv hal hh, h.2.2.1.mv hal hh, h.2.2.2⟩) (fun r U U' V V' h1 hal h2 h => ⟨h.1, h.2.elim fun B' q => ⟨B', q.1.mv h1 h2, q.2⟩⟩) ?_
  intro p e s m args below meth c s₁ X0 hexec hbytes hml hret hlk hnm hown hh0 W hP
  obtain ⟨rfl, hA, hB, hne, l1, l2, hp⟩ := hP
  have c1 : Steps p.tables e below (s₁.setTop (entryFrame m #[.ref b, .int (Int32.ofNat o), .ref d, .int (Int32.ofNat q), .int (Int32.ofNat len)] 7)) (s₁.setTop (mkF m 0 #[.val (.ref b), .val (.int (Int32.ofNat o)), .val (.ref d), .val (.int (Int32.ofNat q)), .val (.int (Int32.ofNat len)), .unset, .unset] [])) := entry rfl
  have hA0 := hA.1.mv X0.warmed.alike hh0
  have hB0 := hB.mv X0.warmed.alike hh0
  have a31 := hA.1.2.2.2
  have c2 : Steps p.tables e below (s₁.setTop (entryFrame m #[.ref b, .int (Int32.ofNat o), .ref d, .int (Int32.ofNat q), .int (Int32.ofNat len)] 7)) (s₁.setTop (mkF m 3 #[.val (.ref b), .val (.int (Int32.ofNat o)), .val (.ref d), .val (.int (Int32.ofNat q)), .val (.int (Int32.ofNat len)), .val (.int 0), .unset] [])) := c1.trans (by
    refine iconstV X0.here hexec rfl 0 (hb hbytes d0) (by decide) ?_
    refine XS.istore X0.here hexec rfl (hb hbytes d1) rfl rfl ?_
    exact Steps.refl _)
  have loop : ∀ (r i : Nat), i + r = len → ∀ (z : Slot), (z = .unset ∨ ∃ w, z = .val w ∧ w.category = 1) → ∀ (Tl : State) (Bk : Cell), Stand p l e { frames := 0, locals := 0, cells := 0, slots := 0 } s m #[.ref b, .int (Int32.ofNat o), .ref d, .int (Int32.ofNat q), .int (Int32.ofNat len)] below meth c Tl ([] ++ copyLocs d q i) 0 0 → Put d Bk s₁ Tl → Laid B Bk q (q + i) (fun j => Value.int (lo8 (cv A (o + (j - q))))) →
      Steps p.tables e below (s₁.setTop (entryFrame m #[.ref b, .int (Int32.ofNat o), .ref d, .int (Int32.ofNat q), .int (Int32.ofNat len)] 7)) (Tl.setTop (mkF m 3 #[.val (.ref b), .val (.int (Int32.ofNat (o + i))), .val (.ref d), .val (.int (Int32.ofNat (q + i))), .val (.int (Int32.ofNat len)), .val (.int (Int32.ofNat i)), z] [])) → ∃ (T' : State) (B' : Cell) (z' : Slot), Stand p l e { frames := 0, locals := 0, cells := 0, slots := 0 } s m #[.ref b, .int (Int32.ofNat o), .ref d, .int (Int32.ofNat q), .int (Int32.ofNat len)] below meth c T' ([] ++ copyLocs d q len) 0 0 ∧ Put d B' s₁ T' ∧ Laid B B' q (q + len) (fun j => Value.int (lo8 (cv A (o + (j - q))))) ∧
      Steps p.tables e below (s₁.setTop (entryFrame m #[.ref b, .int (Int32.ofNat o), .ref d, .int (Int32.ofNat q), .int (Int32.ofNat len)] 7)) (T'.setTop (mkF m 3 #[.val (.ref b), .val (.int (Int32.ofNat (o + len))), .val (.ref d), .val (.int (Int32.ofNat (q + len))), .val (.int (Int32.ofNat len)), .val (.int (Int32.ofNat len)), z'] [])) := by
    intro r
    induction r with
    | zero =>
      intro i hi z hz Tl Bk Xl pl fl cl
      have hil : i = len := by omega
      rw [hil] at Xl fl cl
      exact ⟨Tl, Bk, z, Xl, pl, fl, cl⟩
    | succ r ih =>
      intro i hi z hz Tl Bk Xl pl fl cl
      have all := X0.warmed.alike.symm.trans Xl.warmed.alike
      have hAl := hA0.keep all (pl.other hne hA0.1)
      have hBk := hB0.like all pl.1 fl.1 fl.2.1 fl.2.2.1
      have hlt : q + i < Bk.slots.size := by rw [fl.2.2.1]; omega
      have c3 : Steps p.tables e below (s₁.setTop (entryFrame m #[.ref b, .int (Int32.ofNat o), .ref d, .int (Int32.ofNat q), .int (Int32.ofNat len)] 7)) (Tl.setTop (mkF m 12 #[.val (.ref b), .val (.int (Int32.ofNat (o + i))), .val (.ref d), .val (.int (Int32.ofNat (q + i))), .val (.int (Int32.ofNat len)), .val (.int (Int32.ofNat i)), z] [.int (Int32.ofNat (o + i)), .ref b])) := cl.trans (by
        refine XS.iload Xl.here hexec rfl (hb hbytes d3) rfl ?_
        refine XS.iload Xl.here hexec rfl (hb hbytes d5) rfl ?_
        refine XS.icmpNo Xl.here hexec rfl (hb hbytes d7) rfl (ii_ge_f (lt32 (by omega) (by omega))) ?_
        refine XS.aloadN Xl.here hexec rfl (hb hbytes d10) rfl rfl ?_
        refine XS.iloadN Xl.here hexec rfl (hb hbytes d11) rfl ?_
        exact Steps.refl _)
      have c4 : Steps p.tables e below (s₁.setTop (entryFrame m #[.ref b, .int (Int32.ofNat o), .ref d, .int (Int32.ofNat q), .int (Int32.ofNat len)] 7)) (Tl.setTop (mkF m 13 #[.val (.ref b), .val (.int (Int32.ofNat (o + i))), .val (.ref d), .val (.int (Int32.ofNat (q + i))), .val (.int (Int32.ofNat len)), .val (.int (Int32.ofNat i)), z] [.int (cv A (o + i))])) := c3.trans (by
        refine Xl.aget hexec hAl rfl (hA.get (i := o + i) (by omega)) rfl rfl (hb hbytes d12) ?_
        exact Steps.refl _)
      have c5 : Steps p.tables e below (s₁.setTop (entryFrame m #[.ref b, .int (Int32.ofNat o), .ref d, .int (Int32.ofNat q), .int (Int32.ofNat len)] 7)) (Tl.setTop (mkF m 15 #[.val (.ref b), .val (.int (Int32.ofNat (o + i))), .val (.ref d), .val (.int (Int32.ofNat (q + i))), .val (.int (Int32.ofNat len)), .val (.int (Int32.ofNat i)), .val (.int (cv A (o + i)))] [])) := c4.trans (by
        refine XS.istoreS Xl.here hexec rfl (hb hbytes d13) rfl rfl hz ?_
        exact Steps.refl _)
      have c6 : Steps p.tables e below (s₁.setTop (entryFrame m #[.ref b, .int (Int32.ofNat o), .ref d, .int (Int32.ofNat q), .int (Int32.ofNat len)] 7)) (Tl.setTop (mkF m 31 #[.val (.ref b), .val (.int (Int32.ofNat (o + i))), .val (.ref d), .val (.int (Int32.ofNat (q + i))), .val (.int (Int32.ofNat len)), .val (.int (Int32.ofNat i)), .val (.int (cv A (o + i)))] [.int (lo8 (cv A (o + i))), .int (Int32.ofNat (q + i)), .ref d])) := c5.trans (by
        refine XS.iload Xl.here hexec rfl (hb hbytes d15) rfl ?_
        refine sipushV Xl.here hexec rfl 255 (hb hbytes d17) (by decide) ?_
        refine XS.icmpYes Xl.here hexec rfl (pc0 := 20) rfl (hb hbytes d20) rfl (ii_le_t (hp i (by omega))) (by decide) rfl ?_
        refine XS.aloadN Xl.here hexec rfl (hb hbytes d26) rfl rfl ?_
        refine XS.iloadN Xl.here hexec rfl (hb hbytes d27) rfl ?_
        refine XS.iload Xl.here hexec rfl (hb hbytes d28) rfl ?_
        refine i2b Xl.here hexec rfl (hb hbytes d30) rfl ?_
        exact Steps.refl _)
      obtain ⟨T7, X7, p7, st7⟩ := Xl.aput hexec hBk rfl hlt rfl (fits_lo8 (cv A (o + i))) (g := (mkF m 31 #[.val (.ref b), .val (.int (Int32.ofNat (o + i))), .val (.ref d), .val (.int (Int32.ofNat (q + i))), .val (.int (Int32.ofNat len)), .val (.int (Int32.ofNat i)), .val (.int (cv A (o + i)))] [.int (lo8 (cv A (o + i))), .int (Int32.ofNat (q + i)), .ref d])) rfl (rest := []) rfl (hb hbytes d31)
      have c8 : Steps p.tables e below (s₁.setTop (entryFrame m #[.ref b, .int (Int32.ofNat o), .ref d, .int (Int32.ofNat q), .int (Int32.ofNat len)] 7)) (T7.setTop (mkF m 32 #[.val (.ref b), .val (.int (Int32.ofNat (o + i))), .val (.ref d), .val (.int (Int32.ofNat (q + i))), .val (.int (Int32.ofNat len)), .val (.int (Int32.ofNat i)), .val (.int (cv A (o + i)))] [])) := c6.trans (st7 _ (Steps.refl _))
      have c9 : Steps p.tables e below (s₁.setTop (entryFrame m #[.ref b, .int (Int32.ofNat o), .ref d, .int (Int32.ofNat q), .int (Int32.ofNat len)] 7)) (T7.setTop (mkF m 3 #[.val (.ref b), .val (.int (Int32.ofNat (o + i) + 1)), .val (.ref d), .val (.int (Int32.ofNat (q + i) + 1)), .val (.int (Int32.ofNat len)), .val (.int (Int32.ofNat i + 1)), .val (.int (cv A (o + i)))] [])) := c8.trans (by
        refine iincV X7.here hexec rfl 1 (hb hbytes d32) (by decide) rfl rfl ?_
        refine iincV X7.here hexec rfl 1 (hb hbytes d35) (by decide) rfl rfl ?_
        refine iincV X7.here hexec rfl 1 (hb hbytes d38) (by decide) rfl rfl ?_
        refine XS.goto X7.here hexec rfl (pc0 := 41) rfl (hb hbytes d41) (by decide) rfl ?_
        exact Steps.refl _)
      have c10 : Steps p.tables e below (s₁.setTop (entryFrame m #[.ref b, .int (Int32.ofNat o), .ref d, .int (Int32.ofNat q), .int (Int32.ofNat len)] 7)) (T7.setTop (mkF m 3 #[.val (.ref b), .val (.int (Int32.ofNat (o + (i + 1)))), .val (.ref d), .val (.int (Int32.ofNat (q + (i + 1)))), .val (.int (Int32.ofNat len)), .val (.int (Int32.ofNat (i + 1))), .val (.int (cv A (o + i)))] [])) := by
        have := c9
        rw [succ32, succ32, succ32] at this
        exact this
      exact ih (i + 1) (by omega) _ (Or.inr ⟨_, rfl, rfl⟩) T7 _ (by rw [copyLocs_step, ← List.append_assoc]; exact X7) (pl.trans p7) (fl.step (by omega) hlt (by simp)) c10
  obtain ⟨T9, B9, z9, X9, p9, f9, g9⟩ := loop len 0 (by omega) .unset (Or.inl rfl) s₁ B (by simpa [copyLocs] using X0) ⟨hB0.1, fun _ _ => rfl, rfl⟩ (Laid.zero _ _ _) c2
  have c11 : Steps p.tables e below (s₁.setTop (entryFrame m #[.ref b, .int (Int32.ofNat o), .ref d, .int (Int32.ofNat q), .int (Int32.ofNat len)] 7)) (T9.setTop (mkF m 46 #[.val (.ref b), .val (.int (Int32.ofNat (o + len))), .val (.ref d), .val (.int (Int32.ofNat (q + len))), .val (.int (Int32.ofNat len)), .val (.int (Int32.ofNat len)), z9] [.int (Int32.ofNat len)])) := g9.trans (by
    refine XS.iload X9.here hexec rfl (hb hbytes d3) rfl ?_
    refine XS.iload X9.here hexec rfl (hb hbytes d5) rfl ?_
    refine XS.icmpYes X9.here hexec rfl (pc0 := 7) rfl (hb hbytes d7) rfl (ii_ge_t (nlt32 (by omega) (Nat.le_refl _))) (by decide) rfl ?_
    refine XS.iload X9.here hexec rfl (hb hbytes d44) rfl ?_
    exact Steps.refl _)
  exact ⟨T9, some (.int (Int32.ofNat len)), _, _, _, X9, by simp, rfl, rfl, (fun h => by cases h), ⟨rfl, B9, p9.from hh0, f9⟩, fun fs hl => c11.trans (X9.ireturnOut hexec hret rfl (Or.inl rfl) (hb hbytes d46) hl)⟩
end Cmp5
namespace Cmp3
def yN : MethodName := ⟨"java/lang/StringUTF16", "compress", "([CII)[B"⟩
abbrev yB : ByteArray := jdk_52_method_16_code
theorem d0 : decode yB 0 = .ok (.iload_n 2, 1) := by decide +kernel
theorem d1 : decode yB 1 = .ok (.newarray .byte, 2) := by decide +kernel
theorem d3 : decode yB 3 = .ok (.astore_n 3, 1) := by decide +kernel
theorem d4 : decode yB 4 = .ok (.aload_n 0, 1) := by decide +kernel
theorem d5 : decode yB 5 = .ok (.iload_n 1, 1) := by decide +kernel
theorem d6 : decode yB 6 = .ok (.aload_n 3, 1) := by decide +kernel
theorem d7 : decode yB 7 = .ok (.iconst 0, 1) := by decide +kernel
theorem d8 : decode yB 8 = .ok (.iload_n 2, 1) := by decide +kernel
theorem d9 : decode yB 9 = .ok (.invokestatic 115, 3) := by decide +kernel
theorem d12 : decode yB 12 = .ok (.istore 4, 2) := by decide +kernel
theorem d14 : decode yB 14 = .ok (.iload 4, 2) := by decide +kernel
theorem d16 : decode yB 16 = .ok (.iload_n 2, 1) := by decide +kernel
theorem d17 : decode yB 17 = .ok (.if_icmp (.eq) 40, 3) := by decide +kernel
theorem d57 : decode yB 57 = .ok (.aload_n 3, 1) := by decide +kernel
theorem d58 : decode yB 58 = .ok (.areturn, 1) := by decide +kernel
def site : List Cond := [.arrayClass .byte, Cmp5.tab] ++ staticW U16 115 Cmp5.yN
def tab : Cond := tabOf yN yB 6 (some (.array .byte)) site
def P (b : Addr) (A : Cell) (o len : Nat) (args : Array Value) (s : State) : Prop := args = #[.ref b, .int (Int32.ofNat o), .int (Int32.ofNat len)] ∧ Ch b A s ∧ o + len ≤ A.slots.size ∧ len ≤ 536870912 ∧ ∀ i, i < len → ¬ 255 < cv A (o + i)
def E (b : Addr) (A : Cell) (o len : Nat) (r : Option Value) (s u : State) : Prop := NewArr .byte "[B" len (fun j => .int (lo8 (cv A (o + j)))) r s u ∧ u.heap.size = s.heap.size + 1
/-- no char of the range above 255: a new byte[] of their low bytes -/
theorem law (l : Launch) (b : Addr) (A : Cell) (o len : Nat) : Law l yN 3 3 1 18 yB 6 (some (.array .byte)) site (P b A o len) (E b A o len) [] 1 len := by
  refine Law.of_walk (plainFor_of_name (by decide +kernel)) (by decide +kernel) (by decide +kernel) (by decide) (fun _ _ h => by rw [h.1]; rfl) (fun _ U U' hal hh h => ⟨h.1, h.2.1.mv hal hh, h.2.2⟩) (fun r U U' V V' h1 hal h2 h => ⟨NewArr.mv r U U' V V' h1 hal h2 h.1, by rw [h1, h2]; exact h.2⟩) ?_
  intro p e s m args below meth c s₁ X0 hexec hbytes hml hret hlk hnm hown hh0 W hP
  obtain ⟨rfl, hA, l1, l2, hp⟩ := hP
  have a31 := hA.1.2.2.2
  have c1 : Steps p.tables e below (s₁.setTop (entryFrame m #[.ref b, .int (Int32.ofNat o), .int (Int32.ofNat len)] 6)) (s₁.setTop (mkF m 0 #[.val (.ref b), .val (.int (Int32.ofNat o)), .val (.int (Int32.ofNat len)), .unset, .unset, .unset] [])) := entry rfl
  have c2 : Steps p.tables e below (s₁.setTop (entryFrame m #[.ref b, .int (Int32.ofNat o), .int (Int32.ofNat len)] 6)) (s₁.setTop (mkF m 1 #[.val (.ref b), .val (.int (Int32.ofNat o)), .val (.int (Int32.ofNat len)), .unset, .unset, .unset] [.int (Int32.ofNat len)])) := c1.trans (by
    refine XS.iloadN X0.here hexec rfl (hb hbytes d0) rfl ?_
    exact Steps.refl _)
  obtain ⟨T3, B3, X3, ba3, bs3, bv3, bh3, bf3, st3⟩ := X0.anew hexec (atype := .byte) (wk W (.arrayClass .byte)) rfl (by show len * 1 ≤ _; omega) (by omega) (g := (mkF m 1 #[.val (.ref b), .val (.int (Int32.ofNat o)), .val (.int (Int32.ofNat len)), .unset, .unset, .unset] [.int (Int32.ofNat len)])) rfl (hb hbytes d1) (rest := []) rfl (Nat.le_refl _) (by show 0 + len ≤ len; omega)
  rw [hh0] at ba3 st3
  have kp3 : XT.Kept s T3 := (XT.Kept.of_eq hh0).push bh3
  have hA3 := hA.keep X3.warmed.alike (kp3 _ _ hA.1.1)
  have hne : b ≠ s.heap.size := hA.1.ne
  have c4 : Steps p.tables e below (s₁.setTop (entryFrame m #[.ref b, .int (Int32.ofNat o), .int (Int32.ofNat len)] 6)) (T3.setTop (mkF m 3 #[.val (.ref b), .val (.int (Int32.ofNat o)), .val (.int (Int32.ofNat len)), .unset, .unset, .unset] [.ref s.heap.size])) := c2.trans (st3 _ (Steps.refl _))
  have c5 : Steps p.tables e below (s₁.setTop (entryFrame m #[.ref b, .int (Int32.ofNat o), .int (Int32.ofNat len)] 6)) (T3.setTop (mkF m 9 #[.val (.ref b), .val (.int (Int32.ofNat o)), .val (.int (Int32.ofNat len)), .val (.ref s.heap.size), .unset, .unset] [.int (Int32.ofNat len), .int 0, .ref s.heap.size, .int (Int32.ofNat o), .ref b])) := c4.trans (by
    refine XS.astoreN X3.here hexec rfl (hb hbytes d3) rfl rfl rfl ?_
    refine XS.aloadN X3.here hexec rfl (hb hbytes d4) rfl rfl ?_
    refine XS.iloadN X3.here hexec rfl (hb hbytes d5) rfl ?_
    refine XS.aloadN X3.here hexec rfl (hb hbytes d6) rfl rfl ?_
    refine iconstV X3.here hexec rfl 0 (hb hbytes d7) (by decide) ?_
    refine XS.iloadN X3.here hexec rfl (hb hbytes d8) rfl ?_
    exact Steps.refl _)
  obtain ⟨v6, T6, X6, E6, g6⟩ := X3.callS hexec (Cmp5.law l b A s.heap.size B3 o 0 len) hown (wks W (staticW U16 115 Cmp5.yN)) (wk W Cmp5.tab) (W := 0) (Nat.le_of_ble_eq_true rfl) (Nat.le_of_ble_eq_true rfl) (Nat.le_refl _) (by show 0 + len + 0 ≤ len; omega) (g := (mkF m 9 #[.val (.ref b), .val (.int (Int32.ofNat o)), .val (.int (Int32.ofNat len)), .val (.ref s.heap.size), .unset, .unset] [.int (Int32.ofNat len), .int (Int32.ofNat 0), .ref s.heap.size, .int (Int32.ofNat o), .ref b])) rfl (by rw [hml]; rfl) c5 (argsL := [.ref b, .int (Int32.ofNat o), .ref s.heap.size, .int (Int32.ofNat 0), .int (Int32.ofNat len)]) (rest := []) rfl rfl (by show 2 * 0 + 0 ≤ _; decide) (hb hbytes d9) (⟨rfl, hA3, ba3, hne, l1, by rw [bs3]; simp, hp⟩)
  obtain ⟨rfl, B6, p6, f6⟩ := E6
  have c7 : Steps p.tables e below (s₁.setTop (entryFrame m #[.ref b, .int (Int32.ofNat o), .int (Int32.ofNat len)] 6)) (T6.setTop (mkF m 12 #[.val (.ref b), .val (.int (Int32.ofNat o)), .val (.int (Int32.ofNat len)), .val (.ref s.heap.size), .unset, .unset] [.int (Int32.ofNat len)])) := g6
  have c8 : Steps p.tables e below (s₁.setTop (entryFrame m #[.ref b, .int (Int32.ofNat o), .int (Int32.ofNat len)] 6)) (T6.setTop (mkF m 58 #[.val (.ref b), .val (.int (Int32.ofNat o)), .val (.int (Int32.ofNat len)), .val (.ref s.heap.size), .val (.int (Int32.ofNat len)), .unset] [.ref s.heap.size])) := c7.trans (by
    refine XS.istore X6.here hexec rfl (hb hbytes d12) rfl rfl ?_
    refine XS.iload X6.here hexec rfl (hb hbytes d14) rfl ?_
    refine XS.iloadN X6.here hexec rfl (hb hbytes d16) rfl ?_
    refine XS.icmpYes X6.here hexec rfl (pc0 := 17) rfl (hb hbytes d17) rfl (ii_eq_t rfl) (by decide) rfl ?_
    refine XS.aloadN X6.here hexec rfl (hb hbytes d57) rfl rfl ?_
    exact Steps.refl _)
  have X8 := X6.wide (L' := []) (cells' := 1) (slots' := len) (fun x hx hlt => by
    simp only [List.nil_append, copyLocs, List.mem_map, List.mem_range] at hx
    obtain ⟨i, -, rfl⟩ := hx
    exact absurd hlt (Nat.lt_irrefl _)) (Nat.le_refl _) (by omega)
  exact ⟨T6, some (.ref s.heap.size), _, _, _, X8, rfl, rfl, rfl, (fun h => by cases h), ⟨⟨rfl, B6, ba3.like (X3.warmed.alike.symm.trans X6.warmed.alike) p6.1 f6.1 f6.2.1 f6.2.2.1, f6.2.1.trans bv3, by rw [X6.warmed.alike.findClass, f6.1]; exact bf3, by rw [f6.2.2.1, bs3]; simp, fun j hj => by rw [f6.2.2.2 j, if_pos (by omega)]; rfl, kp3.put p6 (Nat.le_refl _)⟩, by rw [p6.2.2, bh3, hh0]; simp⟩, fun fs hl => c8.trans (X8.areturnOut hexec rfl hret rfl (hb hbytes d58) hl)⟩
end Cmp3
namespace CodL
def yN : MethodName := ⟨"java/lang/StringUTF16", "coderFromArrayLen", "([BI)B"⟩
abbrev yB : ByteArray := jdk_52_method_15_code
theorem d0 : decode yB 0 = .ok (.iload_n 1, 1) := by decide +kernel
theorem d1 : decode yB 1 = .ok (.aload_n 0, 1) := by decide +kernel
theorem d2 : decode yB 2 = .ok (.arraylength, 1) := by decide +kernel
theorem d3 : decode yB 3 = .ok (.isub, 1) := by decide +kernel
theorem d4 : decode yB 4 = .ok (.bipush 31, 2) := by decide +kernel
theorem d6 : decode yB 6 = .ok (.iushr, 1) := by decide +kernel
theorem d7 : decode yB 7 = .ok (.i2b, 1) := by decide +kernel
theorem d8 : decode yB 8 = .ok (.ireturn, 1) := by decide +kernel
def site : List Cond := []
def tab : Cond := tabOf yN yB 2 (some .byte) site
def P (d : Addr) (B : Cell) (args : Array Value) (s : State) : Prop := args = #[.ref d, .int (Int32.ofNat B.slots.size)] ∧ Arr .byte d B s
def E (r : Option Value) (s u : State) : Prop := XT.PureE (some (.int 0)) r s u
/-- an array as long as the number of chars: LATIN1 -/
theorem law (l : Launch) (d : Addr) (B : Cell) : Law l yN 2 2 0 0 yB 2 (some .byte) site (P d B) E [] 0 0 := by
  refine Law.of_walk (plainFor_of_name (by decide +kernel)) (by decide +kernel) (by decide +kernel) (by decide) (fun _ _ h => by rw [h.1]; rfl) (fun _ U U' hal hh h => ⟨h.1, h.2.mv hal hh⟩) (fun r U U' V V' h1 hal h2 h => XT.PureE.mv r U U' V V' h1 hal h2 h) ?_
  intro p e s m args below meth c s₁ X0 hexec hbytes hml hret hlk hnm hown hh0 W hP
  obtain ⟨rfl, hB⟩ := hP
  have hB0 := hB.mv X0.warmed.alike hh0
  have c1 : Steps p.tables e below (s₁.setTop (entryFrame m #[.ref d, .int (Int32.ofNat B.slots.size)] 2)) (s₁.setTop (mkF m 0 #[.val (.ref d), .val (.int (Int32.ofNat B.slots.size))] [])) := entry rfl
  have c2 : Steps p.tables e below (s₁.setTop (entryFrame m #[.ref d, .int (Int32.ofNat B.slots.size)] 2)) (s₁.setTop (mkF m 2 #[.val (.ref d), .val (.int (Int32.ofNat B.slots.size))] [.ref d, .int (Int32.ofNat B.slots.size)])) := c1.trans (by
    refine XS.iloadN X0.here hexec rfl (hb hbytes d0) rfl ?_
    refine XS.aloadN X0.here hexec rfl (hb hbytes d1) rfl rfl ?_
    exact Steps.refl _)
  have c3 : Steps p.tables e below (s₁.setTop (entryFrame m #[.ref d, .int (Int32.ofNat B.slots.size)] 2)) (s₁.setTop (mkF m 8 #[.val (.ref d), .val (.int (Int32.ofNat B.slots.size))] [.int (lo8 (ushr (Int32.ofNat B.slots.size - Int32.ofNat B.slots.size) 31))])) := c2.trans (by
    refine X0.alen hexec hB0 rfl rfl (hb hbytes d2) ?_
    refine XS.isub X0.here hexec rfl (hb hbytes d3) rfl ?_
    refine bipushV X0.here hexec rfl 31 (hb hbytes d4) (by decide) ?_
    refine iushr X0.here hexec rfl (hb hbytes d6) rfl ?_
    refine i2b X0.here hexec rfl (hb hbytes d7) rfl ?_
    exact Steps.refl _)
  have e0 : lo8 (ushr (Int32.ofNat B.slots.size - Int32.ofNat B.slots.size) 31) = 0 := by rw [Int32.sub_self]; decide
  rw [e0] at c3
  exact ⟨s₁, some (.int 0), _, _, _, X0, rfl, rfl, rfl, (fun h => by cases h), ⟨rfl, hh0⟩, fun fs hl => c3.trans (X0.ireturnOut hexec hret rfl (Or.inr (Or.inr (Or.inl rfl))) (hb hbytes d8) hl)⟩
end CodL
/-- the String at a is Latin-1 over a new byte[] (the heap's one new cell): the low bytes of the len chars of A from o on; every cell but a is kept -/
def Got (a : Addr) (D : Cell) (fV fC : Field) (A : Cell) (o len : Nat) (r : Option Value) (s u : State) : Prop := r = none ∧ ∃ D' V : Cell, Blank "java/lang/String" a D' u ∧ Same D D' [fV.slot, fC.slot] ∧ D'.slots[fV.slot]? = some (.ref s.heap.size) ∧ D'.slots[fC.slot]? = some (.int 0) ∧ Arr .byte s.heap.size V u ∧ V.vm = .none ∧ u.vm.findClass "[B" = some V.cls ∧ V.slots.size = len ∧ (∀ j, j < len → V.slots[j]? = some (.int (lo8 (cv A (o + j))))) ∧ (∀ (y : Addr) (c : Cell), y ≠ a → s.heap[y]? = some c → u.heap[y]? = some c) ∧ u.heap.size = s.heap.size + 1
theorem Got.mv {a : Addr} {D A : Cell} {fV fC : Field} {o len : Nat} : ∀ r (U U' V V' : State), U'.heap = U.heap → V.vm.Alike V'.vm → V'.heap = V.heap → Got a D fV fC A o len r U V → Got a D fV fC A o len r U' V' :=
  fun r U U' V V' h1 hal h2 ⟨e0, D', X, a1, a2, a3, a4, a5, a6, a7, a8, a9, a10, a11⟩ => ⟨e0, D', X, a1.mv hal h2, a2, by rw [h1]; exact a3, a4, by rw [h1]; exact a5.mv hal h2, a6, by rw [hal.findClass]; exact a7, a8, a9, by rw [h1, h2]; exact a10, by rw [h1, h2]; exact a11⟩
namespace New4
def yN : MethodName := ⟨"java/lang/String", "<init>", "([CIILjava/lang/Void;)V"⟩
abbrev yB : ByteArray := jdk_42_method_149_code
theorem d0 : decode yB 0 = .ok (.aload_n 0, 1) := by decide +kernel
theorem d1 : decode yB 1 = .ok (.invokespecial 1, 3) := by decide +kernel
theorem d4 : decode yB 4 = .ok (.iload_n 3, 1) := by decide +kernel
theorem d5 : decode yB 5 = .ok (.ifCond (.ne) 22, 3) := by decide +kernel
theorem d27 : decode yB 27 = .ok (.getstatic 38, 3) := by decide +kernel
theorem d30 : decode yB 30 = .ok (.ifCond (.eq) 28, 3) := by decide +kernel
theorem d33 : decode yB 33 = .ok (.aload_n 1, 1) := by decide +kernel
theorem d34 : decode yB 34 = .ok (.iload_n 2, 1) := by decide +kernel
theorem d35 : decode yB 35 = .ok (.iload_n 3, 1) := by decide +kernel
theorem d36 : decode yB 36 = .ok (.invokestatic 177, 3) := by decide +kernel
theorem d39 : decode yB 39 = .ok (.astore 5, 2) := by decide +kernel
theorem d41 : decode yB 41 = .ok (.aload_n 0, 1) := by decide +kernel
theorem d42 : decode yB 42 = .ok (.aload 5, 2) := by decide +kernel
theorem d44 : decode yB 44 = .ok (.iload_n 3, 1) := by decide +kernel
theorem d45 : decode yB 45 = .ok (.invokestatic 47, 3) := by decide +kernel
theorem d48 : decode yB 48 = .ok (.putfield 15, 3) := by decide +kernel
theorem d51 : decode yB 51 = .ok (.aload_n 0, 1) := by decide +kernel
theorem d52 : decode yB 52 = .ok (.aload 5, 2) := by decide +kernel
theorem d54 : decode yB 54 = .ok (.putfield 9, 3) := by decide +kernel
theorem d57 : decode yB 57 = .ok (.return_, 1) := by decide +kernel
def site : List Cond := [.fieldLink "java/lang/String" 38 "java/lang/String" "COMPACT_STRINGS" "Z", Cmp3.tab, CodL.tab, .laysFinal "java/lang/String" "java/lang/String" "value" "[B", .fieldLink "java/lang/String" 9 "java/lang/String" "value" "[B", .laysFinal "java/lang/String" "java/lang/String" "coder" "B", .fieldLink "java/lang/String" 15 "java/lang/String" "coder" "B"] ++ objW "java/lang/String" 1 ++ staticW "java/lang/String" 177 Cmp3.yN ++ staticW "java/lang/String" 47 CodL.yN
def tab : Cond := tabOf yN yB 6 none site
def P (a : Addr) (D : Cell) (fV fC : Field) (b : Addr) (A : Cell) (z : Int32) (o len : Nat) (args : Array Value) (s : State) : Prop := args = #[.ref a, .ref b, .int (Int32.ofNat o), .int (Int32.ofNat len), .null] ∧ Blank "java/lang/String" a D s ∧ Found "java/lang/String" "value" "[B" fV s ∧ Found "java/lang/String" "coder" "B" fC s ∧ Ch b A s ∧ StaticIs s "java/lang/String" "COMPACT_STRINGS" "Z" (.int z) ∧ ¬ z = 0 ∧ 0 < len ∧ o + len ≤ A.slots.size ∧ len ≤ 536870912 ∧ ∀ i, i < len → ¬ 255 < cv A (o + i)
def E (a : Addr) (D : Cell) (fV fC : Field) (A : Cell) (o len : Nat) (r : Option Value) (s u : State) : Prop := Got a D fV fC A o len r s u
/-- len > 0, no char of the range above 255: a Latin-1 String of their low bytes -/
theorem law (l : Launch) (a : Addr) (D : Cell) (fV fC : Field) (b : Addr) (A : Cell) (z : Int32) (o len : Nat) : Law l yN 5 4 2 35 yB 6 none site (P a D fV fC b A z o len) (E a D fV fC A o len) [⟨a, fC.slot⟩, ⟨a, fV.slot⟩] 1 len := by
  refine Law.of_walk (plainFor_of_name (by decide +kernel)) (by decide +kernel) (by decide +kernel) (by decide) (fun _ _ h => by rw [h.1]; rfl) (fun _ U U' hal hh h => ⟨h.1, h.2.1.mv hal hh, h.2.2.1.al hal, h.2.2.2.1.al hal, h.2.2.2.2.1.mv hal hh, h.2.2.2.2.2.1.there hal hh, h.2.2.2.2.2.2⟩) (fun r U U' V V' h1 hal h2 h => Got.mv r U U' V V' h1 hal h2 h) ?_
  intro p e s m args below meth c s₁ X0 hexec hbytes hml hret hlk hnm hown hh0 W hP
  obtain ⟨rfl, hB, f1, f2, hA, s1, hz, l0, l1, l2, hp⟩ := hP
  have a31 := hA.1.2.2.2
  have c1 : Steps p.tables e below (s₁.setTop (entryFrame m #[.ref a, .ref b, .int (Int32.ofNat o), .int (Int32.ofNat len), .null] 6)) (s₁.setTop (mkF m 0 #[.val (.ref a), .val (.ref b), .val (.int (Int32.ofNat o)), .val (.int (Int32.ofNat len)), .val .null, .unset] [])) := entry rfl
  have c2 : Steps p.tables e below (s₁.setTop (entryFrame m #[.ref a, .ref b, .int (Int32.ofNat o), .int (Int32.ofNat len), .null] 6)) (s₁.setTop (mkF m 1 #[.val (.ref a), .val (.ref b), .val (.int (Int32.ofNat o)), .val (.int (Int32.ofNat len)), .val .null, .unset] [.ref a])) := c1.trans (by
    refine XS.aloadN X0.here hexec rfl (hb hbytes d0) rfl rfl ?_
    exact Steps.refl _)
  obtain ⟨T3, X3, q3, st3⟩ := X0.oinit hexec hown (wks W (objW "java/lang/String" 1)) (g := (mkF m 1 #[.val (.ref a), .val (.ref b), .val (.int (Int32.ofNat o)), .val (.int (Int32.ofNat len)), .val .null, .unset] [.ref a])) rfl (by rw [hml]; rfl) (rest := []) rfl (hb hbytes d1) (W := 0) (by show 2 * 0 + 0 ≤ _; decide) (Nat.le_of_ble_eq_true rfl) (Nat.le_of_ble_eq_true rfl)
  have hh3 := q3.trans hh0
  have c4 : Steps p.tables e below (s₁.setTop (entryFrame m #[.ref a, .ref b, .int (Int32.ofNat o), .int (Int32.ofNat len), .null] 6)) (T3.setTop (mkF m 27 #[.val (.ref a), .val (.ref b), .val (.int (Int32.ofNat o)), .val (.int (Int32.ofNat len)), .val .null, .unset] [])) := (c2.trans (st3 _ (Steps.refl _))).trans (by
    refine XS.iloadN X3.here hexec rfl (hb hbytes d4) rfl ?_
    refine XS.ifYes X3.here hexec rfl (pc0 := 5) rfl (hb hbytes d5) rfl (i0_ne_t (nz32 (by omega) l0)) (by decide) rfl ?_
    exact Steps.refl _)
  obtain ⟨T5, X5, q5, st5⟩ := X3.sget hexec hown (wk W (.fieldLink "java/lang/String" 38 "java/lang/String" "COMPACT_STRINGS" "Z")) s1 (fun _ _ h => by rw [hh3]; exact h) (g := (mkF m 27 #[.val (.ref a), .val (.ref b), .val (.int (Int32.ofNat o)), .val (.int (Int32.ofNat len)), .val .null, .unset] [])) rfl (hb hbytes d27)
  have hh5 := q5.trans hh3
  have c6 : Steps p.tables e below (s₁.setTop (entryFrame m #[.ref a, .ref b, .int (Int32.ofNat o), .int (Int32.ofNat len), .null] 6)) (T5.setTop (mkF m 30 #[.val (.ref a), .val (.ref b), .val (.int (Int32.ofNat o)), .val (.int (Int32.ofNat len)), .val .null, .unset] [.int z])) := c4.trans (st5 _ (Steps.refl _))
  have c7 : Steps p.tables e below (s₁.setTop (entryFrame m #[.ref a, .ref b, .int (Int32.ofNat o), .int (Int32.ofNat len), .null] 6)) (T5.setTop (mkF m 36 #[.val (.ref a), .val (.ref b), .val (.int (Int32.ofNat o)), .val (.int (Int32.ofNat len)), .val .null, .unset] [.int (Int32.ofNat len), .int (Int32.ofNat o), .ref b])) := c6.trans (by
    refine XS.ifNo X5.here hexec rfl (hb hbytes d30) rfl (i0_eq_f hz) ?_
    refine XS.aloadN X5.here hexec rfl (hb hbytes d33) rfl rfl ?_
    refine XS.iloadN X5.here hexec rfl (hb hbytes d34) rfl ?_
    refine XS.iloadN X5.here hexec rfl (hb hbytes d35) rfl ?_
    exact Steps.refl _)
  obtain ⟨v8, T8, X8, E8, g8⟩ := X5.callS hexec (Cmp3.law l b A o len) hown (wks W (staticW "java/lang/String" 177 Cmp3.yN)) (wk W Cmp3.tab) (W := 0) (Nat.le_of_ble_eq_true rfl) (Nat.le_of_ble_eq_true rfl) (Nat.le_refl _) (by show 0 + len ≤ len; omega) (g := (mkF m 36 #[.val (.ref a), .val (.ref b), .val (.int (Int32.ofNat o)), .val (.int (Int32.ofNat len)), .val .null, .unset] [.int (Int32.ofNat len), .int (Int32.ofNat o), .ref b])) rfl (by rw [hml]; rfl) c7 (argsL := [.ref b, .int (Int32.ofNat o), .int (Int32.ofNat len)]) (rest := []) rfl rfl (by show 2 * 0 + 0 ≤ _; decide) (hb hbytes d36) (⟨rfl, hA.mv X5.warmed.alike hh5, l1, l2, hp⟩)
  obtain ⟨e8, z8⟩ := E8
  obtain ⟨rfl, N, n1, n2, n3, n4, n5, n6⟩ := NewArr.mv _ T5 s _ _ hh5.symm (Vm.Alike.refl _) rfl e8
  rw [hh5] at z8
  have hB1 := hB.keep X8.warmed.alike (n6 _ _ hB.1)
  have hne : s.heap.size ≠ a := (Nat.ne_of_lt (Array.getElem?_eq_some_iff.mp hB.1).1).symm
  have c9 : Steps p.tables e below (s₁.setTop (entryFrame m #[.ref a, .ref b, .int (Int32.ofNat o), .int (Int32.ofNat len), .null] 6)) (T8.setTop (mkF m 39 #[.val (.ref a), .val (.ref b), .val (.int (Int32.ofNat o)), .val (.int (Int32.ofNat len)), .val .null, .unset] [.ref s.heap.size])) := g8
  have c10 : Steps p.tables e below (s₁.setTop (entryFrame m #[.ref a, .ref b, .int (Int32.ofNat o), .int (Int32.ofNat len), .null] 6)) (T8.setTop (mkF m 45 #[.val (.ref a), .val (.ref b), .val (.int (Int32.ofNat o)), .val (.int (Int32.ofNat len)), .val .null, .val (.ref s.heap.size)] [.int (Int32.ofNat N.slots.size), .ref s.heap.size, .ref a])) := by
    have hc : Steps p.tables e below (s₁.setTop (entryFrame m #[.ref a, .ref b, .int (Int32.ofNat o), .int (Int32.ofNat len), .null] 6)) (T8.setTop (mkF m 45 #[.val (.ref a), .val (.ref b), .val (.int (Int32.ofNat o)), .val (.int (Int32.ofNat len)), .val .null, .val (.ref s.heap.size)] [.int (Int32.ofNat len), .ref s.heap.size, .ref a])) := c9.trans (by
      refine XS.astore X8.here hexec rfl (hb hbytes d39) rfl rfl rfl ?_
      refine XS.aloadN X8.here hexec rfl (hb hbytes d41) rfl rfl ?_
      refine XS.aload X8.here hexec rfl (hb hbytes d42) rfl rfl ?_
      refine XS.iloadN X8.here hexec rfl (hb hbytes d44) rfl ?_
      exact Steps.refl _)
    rw [n4]; exact hc
  obtain ⟨v11, T11, X11, E11, g11⟩ := X8.callS hexec (CodL.law l s.heap.size N) hown (wks W (staticW "java/lang/String" 47 CodL.yN)) (wk W CodL.tab) (W := 1) (Nat.le_of_ble_eq_true rfl) (Nat.le_of_ble_eq_true rfl) (Nat.le_refl _) (by show 0 + len + 0 ≤ len; omega) (g := (mkF m 45 #[.val (.ref a), .val (.ref b), .val (.int (Int32.ofNat o)), .val (.int (Int32.ofNat len)), .val .null, .val (.ref s.heap.size)] [.int (Int32.ofNat N.slots.size), .ref s.heap.size, .ref a])) rfl (by rw [hml]; rfl) c10 (argsL := [.ref s.heap.size, .int (Int32.ofNat N.slots.size)]) (rest := [.ref a]) rfl rfl (by show 2 * 0 + (1 + 0) ≤ _; decide) (hb hbytes d45) (⟨rfl, n1⟩)
  obtain ⟨rfl, q11⟩ := E11
  have hB11 := hB1.mv (X8.warmed.alike.symm.trans X11.warmed.alike) q11
  have c12 : Steps p.tables e below (s₁.setTop (entryFrame m #[.ref a, .ref b, .int (Int32.ofNat o), .int (Int32.ofNat len), .null] 6)) (T11.setTop (mkF m 48 #[.val (.ref a), .val (.ref b), .val (.int (Int32.ofNat o)), .val (.int (Int32.ofNat len)), .val .null, .val (.ref s.heap.size)] [.int 0, .ref a])) := g11
  obtain ⟨T13, X13, p13, bl13, sl13, st13⟩ := X11.finit hexec hown (wk W (.fieldLink "java/lang/String" 15 "java/lang/String" "coder" "B")) (Or.inr ⟨_, (wk W (.laysFinal "java/lang/String" "java/lang/String" "coder" "B"))⟩) (Or.inl ⟨rfl, hnm⟩) f2 (Or.inl rfl) hB11 (t := .byte) (by decide +kernel) rfl (g := (mkF m 48 #[.val (.ref a), .val (.ref b), .val (.int (Int32.ofNat o)), .val (.int (Int32.ofNat len)), .val .null, .val (.ref s.heap.size)] [.int 0, .ref a])) rfl (rest := []) rfl (hb hbytes d48)
  have c14 : Steps p.tables e below (s₁.setTop (entryFrame m #[.ref a, .ref b, .int (Int32.ofNat o), .int (Int32.ofNat len), .null] 6)) (T13.setTop (mkF m 54 #[.val (.ref a), .val (.ref b), .val (.int (Int32.ofNat o)), .val (.int (Int32.ofNat len)), .val .null, .val (.ref s.heap.size)] [.ref s.heap.size, .ref a])) := (c12.trans (st13 _ (Steps.refl _))).trans (by
    refine XS.aloadN X13.here hexec rfl (hb hbytes d51) rfl rfl ?_
    refine XS.aload X13.here hexec rfl (hb hbytes d52) rfl rfl ?_
    exact Steps.refl _)
  obtain ⟨T15, X15, p15, bl15, sl15, st15⟩ := X13.finit hexec hown (wk W (.fieldLink "java/lang/String" 9 "java/lang/String" "value" "[B")) (Or.inr ⟨_, (wk W (.laysFinal "java/lang/String" "java/lang/String" "value" "[B"))⟩) (Or.inl ⟨rfl, hnm⟩) f1 (Or.inl rfl) bl13 (t := (.array .byte)) (by decide +kernel) rfl (g := (mkF m 54 #[.val (.ref a), .val (.ref b), .val (.int (Int32.ofNat o)), .val (.int (Int32.ofNat len)), .val .null, .val (.ref s.heap.size)] [.ref s.heap.size, .ref a])) rfl (rest := []) rfl (hb hbytes d54)
  have c16 : Steps p.tables e below (s₁.setTop (entryFrame m #[.ref a, .ref b, .int (Int32.ofNat o), .int (Int32.ofNat len), .null] 6)) (T15.setTop (mkF m 57 #[.val (.ref a), .val (.ref b), .val (.int (Int32.ofNat o)), .val (.int (Int32.ofNat len)), .val .null, .val (.ref s.heap.size)] [])) := c14.trans (st15 _ (Steps.refl _))
  have ap := apart (Or.inr ⟨_, (wk W (.laysFinal "java/lang/String" "java/lang/String" "value" "[B"))⟩) (Or.inr ⟨_, (wk W (.laysFinal "java/lang/String" "java/lang/String" "coder" "B"))⟩) f1 f2 (t₁ := .array .byte) (t₂ := .byte) (by decide +kernel) (by decide +kernel) (by decide)
  have al := X8.warmed.alike.symm.trans X15.warmed.alike
  have n7 : T11.heap[s.heap.size]? = some N := by rw [q11]; exact n1.1
  exact ⟨T15, none, _, _, _, X15, by simp, rfl, by omega, (fun _ => rfl), ⟨rfl, _, N, bl15, ((Same.refl D _).set _ (by simp)).set _ (by simp), sl15, (Cell.slots_setSlot_ne _ ap).trans sl13, n1.keep al (p15.other hne (p13.other hne n7)), n2, by rw [al.findClass]; exact n3, n4, n5, fun y c h1 h2 => p15.other h1 (p13.other h1 (by rw [q11]; exact n6 y c h2)), by rw [p15.2.2, p13.2.2, q11]; exact z8⟩, fun fs hl => c16.trans (X15.returnOut hexec hret (hb hbytes d57) hl)⟩
end New4
namespace New1
def yN : MethodName := ⟨"java/lang/String", "<init>", "([C)V"⟩
abbrev yB : ByteArray := jdk_42_method_3_code
theorem d0 : decode yB 0 = .ok (.aload_n 0, 1) := by decide +kernel
theorem d1 : decode yB 1 = .ok (.aload_n 1, 1) := by decide +kernel
theorem d2 : decode yB 2 = .ok (.iconst 0, 1) := by decide +kernel
theorem d3 : decode yB 3 = .ok (.aload_n 1, 1) := by decide +kernel
theorem d4 : decode yB 4 = .ok (.arraylength, 1) := by decide +kernel
theorem d5 : decode yB 5 = .ok (.aconst_null, 1) := by decide +kernel
theorem d6 : decode yB 6 = .ok (.invokespecial 27, 3) := by decide +kernel
theorem d9 : decode yB 9 = .ok (.return_, 1) := by decide +kernel
def site : List Cond := [New4.tab] ++ initW "java/lang/String" 27 New4.yN
def tab : Cond := tabOf yN yB 2 none site
def P (a : Addr) (D : Cell) (fV fC : Field) (b : Addr) (A : Cell) (z : Int32) (args : Array Value) (s : State) : Prop := args = #[.ref a, .ref b] ∧ Blank "java/lang/String" a D s ∧ Found "java/lang/String" "value" "[B" fV s ∧ Found "java/lang/String" "coder" "B" fC s ∧ Ch b A s ∧ StaticIs s "java/lang/String" "COMPACT_STRINGS" "Z" (.int z) ∧ ¬ z = 0 ∧ 0 < A.slots.size ∧ A.slots.size ≤ 536870912 ∧ ∀ i, i < A.slots.size → ¬ 255 < cv A i
def E (a : Addr) (D : Cell) (fV fC : Field) (A : Cell) (r : Option Value) (s u : State) : Prop := Got a D fV fC A 0 A.slots.size r s u
/-- new String(chars), not empty, no char above 255: a Latin-1 String of their low bytes -/
theorem law (l : Launch) (a : Addr) (D : Cell) (fV fC : Field) (b : Addr) (A : Cell) (z : Int32) : Law l yN 2 1 3 52 yB 2 none site (P a D fV fC b A z) (E a D fV fC A) [⟨a, fC.slot⟩, ⟨a, fV.slot⟩] 1 A.slots.size := by
  refine Law.of_walk (plainFor_of_name (by decide +kernel)) (by decide +kernel) (by decide +kernel) (by decide) (fun _ _ h => by rw [h.1]; rfl) (fun _ U U' hal hh h => ⟨h.1, h.2.1.mv hal hh, h.2.2.1.al hal, h.2.2.2.1.al hal, h.2.2.2.2.1.mv hal hh, h.2.2.2.2.2.1.there hal hh, h.2.2.2.2.2.2⟩) (fun r U U' V V' h1 hal h2 h => Got.mv r U U' V V' h1 hal h2 h) ?_
  intro p e s m args below meth c s₁ X0 hexec hbytes hml hret hlk hnm hown hh0 W hP
  obtain ⟨rfl, hB, f1, f2, hA, s1, hz, l0, l2, hp⟩ := hP
  have c1 : Steps p.tables e below (s₁.setTop (entryFrame m #[.ref a, .ref b] 2)) (s₁.setTop (mkF m 0 #[.val (.ref a), .val (.ref b)] [])) := entry rfl
  have c2 : Steps p.tables e below (s₁.setTop (entryFrame m #[.ref a, .ref b] 2)) (s₁.setTop (mkF m 6 #[.val (.ref a), .val (.ref b)] [.null, .int (Int32.ofNat A.slots.size), .int 0, .ref b, .ref a])) := c1.trans (by
    refine XS.aloadN X0.here hexec rfl (hb hbytes d0) rfl rfl ?_
    refine XS.aloadN X0.here hexec rfl (hb hbytes d1) rfl rfl ?_
    refine iconstV X0.here hexec rfl 0 (hb hbytes d2) (by decide) ?_
    refine XS.aloadN X0.here hexec rfl (hb hbytes d3) rfl rfl ?_
    refine X0.alen hexec (hA.1.mv X0.warmed.alike hh0) rfl rfl (hb hbytes d4) ?_
    refine XS.aconstNull X0.here hexec rfl (hb hbytes d5) ?_
    exact Steps.refl _)
  obtain ⟨v3, T3, X3, E3, g3⟩ := X0.callN hexec (New4.law l a D fV fC b A z 0 A.slots.size) rfl hown (wks W (initW "java/lang/String" 27 New4.yN)) (W New4.tab (by simp only [site, List.mem_cons, List.mem_append, true_or, or_true])) (W := 0) (Nat.le_of_ble_eq_true rfl) (Nat.le_of_ble_eq_true rfl) (Nat.le_refl _) (by show 0 + A.slots.size ≤ A.slots.size; omega) (g := (mkF m 6 #[.val (.ref a), .val (.ref b)] [.null, .int (Int32.ofNat A.slots.size), .int (Int32.ofNat 0), .ref b, .ref a])) rfl (by rw [hml]; rfl) c2 (argsL := [.ref b, .int (Int32.ofNat 0), .int (Int32.ofNat A.slots.size), .null]) (rest := []) rfl rfl (by show 2 * 0 + 0 ≤ _; decide) (hb hbytes d6) (⟨rfl, hB.mv X0.warmed.alike hh0, f1.al X0.warmed.alike, f2.al X0.warmed.alike, hA.mv X0.warmed.alike hh0, s1.there X0.warmed.alike hh0, hz, l0, by omega, l2, fun i hi => by rw [Nat.zero_add]; exact hp i hi⟩)
  have e0 := Got.mv _ s₁ s _ _ hh0.symm (Vm.Alike.refl _) rfl E3
  obtain rfl := e0.1
  have c4 : Steps p.tables e below (s₁.setTop (entryFrame m #[.ref a, .ref b] 2)) (T3.setTop (mkF m 9 #[.val (.ref a), .val (.ref b)] [])) := g3
  exact ⟨T3, none, _, _, _, X3, by simp, rfl, by omega, (fun _ => rfl), e0, fun fs hl => c4.trans (X3.returnOut hexec hret (hb hbytes d9) hl)⟩
theorem pays {l : Launch} {R : Room} {p : Program} {e : Env} {below : List Frame} {s : State} {sargs : Array Value} {len W : Nat} (a : Addr) (D : Cell) (fV fC : Field) (b : Addr) (A : Cell) (z : Int32) (htab : tab.before sargs s = true) (hfr : 4 ≤ R.frames) (hlo : W + 65 ≤ R.locals) :
    Back l R p e below s sargs yN len W (fun A₁ a₁ => A₁.cells + 1 ≤ R.cells ∧ A₁.slots + A.slots.size ≤ R.slots ∧ P a D fV fC b A z a₁ A₁.U) (fun A₁ _ v₁ B₁ => E a D fV fC A v₁ A₁.U B₁.U ∧ B₁.locs = A₁.locs ++ [⟨a, fC.slot⟩, ⟨a, fV.slot⟩] ∧ B₁.cells = A₁.cells + 1 ∧ B₁.slots = A₁.slots + A.slots.size) :=
  (law l a D fV fC b A z).pays htab hfr (by omega)
end New1
/-- the byte, read back as charAt reads it, is the char -/
theorem lo8_mask {x : Int32} (h0 : ¬ x < 0) (h1 : ¬ 255 < x) : lo8 x &&& 255 = x := by
  have t : ∀ k : Fin 256, lo8 (Int32.ofNat k.val) &&& 255 = Int32.ofNat k.val := by decide +kernel
  rw [Int32.lt_iff_toInt_lt] at h0 h1
  have e0 : (0 : Int32).toInt = 0 := rfl
  have e1 : (255 : Int32).toInt = 255 := rfl
  obtain ⟨k, hk⟩ : ∃ k : Nat, x.toInt = k := ⟨x.toInt.toNat, by omega⟩
  have hx : x = Int32.ofNat k := Int32.toInt_inj.mp (by rw [hk, Int32.toInt_ofNat_small (by omega)])
  rw [hx]
  exact t ⟨k, by omega⟩
end StrChars
namespace StrChars.Road
open Jvm Sem ClassFile Op Lib Jvm.Stand Jvm.Free Jvm.Free.XT
open Jvm.Lib.Cold (StaticIs)
abbrev ST : String := "java/lang/String"
/-- every table word that New1's law asks, flat -/
abbrev words : List Jvm.Cond := [.code New1.yN New1.yB 2 none, .initialized ST, .methodLink ST 27 New4.yN, .instanceMethod New4.yN,
  .code New4.yN New4.yB 6 none, .fieldLink ST 38 ST "COMPACT_STRINGS" "Z", .laysFinal ST ST "value" "[B", .fieldLink ST 9 ST "value" "[B", .laysFinal ST ST "coder" "B", .fieldLink ST 15 ST "coder" "B",
  .methodLink ST 1 Lib.objectInit, .instanceMethod Lib.objectInit, .code Lib.objectInit ⟨#[0xb1]⟩ 1 none, .methodLink ST 177 Cmp3.yN, .static Cmp3.yN, .methodLink ST 47 CodL.yN, .static CodL.yN,
  .code Cmp3.yN Cmp3.yB 6 (some (.array .byte)), .initialized U16, .arrayClass .byte, .methodLink U16 115 Cmp5.yN, .static Cmp5.yN, .code Cmp5.yN Cmp5.yB 7 (some .int), .code CodL.yN CodL.yB 2 (some .byte)]
theorem tab_of {a : Array Value} {s : State} (h : ∀ w ∈ words, w.before a s = true) : New1.tab.before a s = true := by
  have h5 : Cmp5.tab.before a s = true := unparts (wk h (.code Cmp5.yN Cmp5.yB 7 (some .int))) (wks h (.initialized Cmp5.yN.cls :: Cmp5.site))
  have hc : CodL.tab.before a s = true := unparts (wk h (.code CodL.yN CodL.yB 2 (some .byte))) (wks h (.initialized CodL.yN.cls :: CodL.site))
  have q5 : ∀ w ∈ Cmp5.tab :: words, w.before a s = true := fun w hw => (List.mem_cons.mp hw).elim (fun e => e ▸ h5) (h w)
  have h3 : Cmp3.tab.before a s = true := unparts (wk q5 (.code Cmp3.yN Cmp3.yB 6 (some (.array .byte)))) (wks q5 (.initialized Cmp3.yN.cls :: Cmp3.site))
  have q3 : ∀ w ∈ Cmp3.tab :: CodL.tab :: words, w.before a s = true := fun w hw => (List.mem_cons.mp hw).elim (fun e => e ▸ h3) fun hw => (List.mem_cons.mp hw).elim (fun e => e ▸ hc) (h w)
  have h4 : New4.tab.before a s = true := unparts (wk q3 (.code New4.yN New4.yB 6 none)) (wks q3 (.initialized New4.yN.cls :: New4.site))
  have q4 : ∀ w ∈ New4.tab :: words, w.before a s = true := fun w hw => (List.mem_cons.mp hw).elim (fun e => e ▸ h4) (h w)
  exact unparts (wk q4 (.code New1.yN New1.yB 2 none)) (wks q4 (.initialized New1.yN.cls :: New1.site))
/-- the words ride from the start Z to the walk's own state -/
theorem moved {Z s : State} {a0 args : Array Value} (hZ : Z.Warmed39 s.vm) (hw : ∀ d ∈ words, d.before a0 Z = true) : ∀ d ∈ words, d.before args s = true := fun d hd => by
  have q := hw d hd
  have t : ∀ d ∈ words, d = .arrayClass .byte ∨ (d.onTables && d.keepsFace) = true := by decide +kernel
  rcases t d hd with rfl | t
  · exact RoadKit.mvA hZ q
  · exact RoadKit.mv hZ q t
/-- WHAT COMES BACK, over the tables of the start Z: h the heap at the call, h' behind it -/
def Q (Z : State) (x : Addr) (A : Cell) (h : Heap) (v : Option Value) (h' : Heap) (L : List Loc) : Prop := v = none ∧ (∀ y ∈ L, y.base = x) ∧ RoadKit.Keep h h' [x] ∧ h'.size = h.size + 1 ∧ RoadKit.Exa Z h' x ST ∧ RoadKit.Fld Z h' x ST "value" "[B" (.ref h.size) ∧ RoadKit.Fld Z h' x ST "coder" "B" (.int 0) ∧
  (∃ V : Cell, RoadKit.Arr Z h' h.size V .byte ∧ V.vm = .none ∧ Z.vm.findClass "[B" = some V.cls ∧ V.slots.size = A.slots.size ∧ ∀ j, j < A.slots.size → V.slots[j]? = some (.int (lo8 (cv A j)))) ∧
  ∀ (O n d : String) (w : Value), RoadKit.Fld Z h x O n d w → RoadKit.slotOf Z O n d ≠ RoadKit.slotOf Z ST "value" "[B" → RoadKit.slotOf Z O n d ≠ RoadKit.slotOf Z ST "coder" "B" → RoadKit.Fld Z h' x O n d w
/-- **new String(chars) AT A CALL, IN THE ROAD'S FORM**: for specialBack behind newO: x the fresh String, b the char[] with the cell A -/
theorem back {p : Program} {l : Launch} {e : Env} {R : Room} {s : State} {args : Array Value} {below : List Frame} {len W : Nat} {Z : State} {a0 : Array Value} {h : Heap} (hZ : Z.Warmed39 s.vm) (hw : ∀ d ∈ words, d.before a0 Z = true) {kI : Nat} (wi : (Jvm.Cond.instantiable ST kI).before a0 Z = true)
    {x b : Addr} {A : Cell} {z : Int32} {v0 c0 : Value} (E : RoadKit.Exa Z h x ST) (V : RoadKit.Fld Z h x ST "value" "[B" v0) (C : RoadKit.Fld Z h x ST "coder" "B" c0) (K : RoadKit.Arr Z h b A .char) (hty : Typed .char A) (S : RoadKit.Sta Z h ST "COMPACT_STRINGS" "Z" (.int z)) (hz : ¬ z = 0)
    (l0 : 0 < A.slots.size) (l2 : A.slots.size ≤ 536870912) (hp : ∀ i, i < A.slots.size → ¬ 255 < cv A i) (hfr : 4 ≤ R.frames) (hlo : W + 65 ≤ R.locals) :
    Back l R p e below s args New1.yN len W (fun P a => a = #[.ref x, .ref b] ∧ P.U.heap = h ∧ P.cells + 1 ≤ R.cells ∧ P.slots + A.slots.size ≤ R.slots)
      (fun P _ v B => ∃ L, Q Z x A h v B.U.heap L ∧ B.locs = P.locs ++ L ∧ B.cells = P.cells + 1 ∧ B.slots = P.slots + A.slots.size) := by
  intro m meth c P g ig mk a X hg hsize hdg hW hn hp'
  obtain ⟨rfl, rfl, r1, r2⟩ := hp'
  have al : Z.vm.Alike P.U.vm := hZ.alike.trans X.warmed.alike
  obtain ⟨D, cfV, kV, iV, fV, hD, gV, stV, knV, obV, asV, slV⟩ := id V
  obtain ⟨D', cfC, kC, iC, fC, hD', gC, stC, -, -, asC, slC⟩ := id C
  cases hD.symm.trans hD'
  obtain ⟨D2, kD, e1, e2, e3, e4, e5⟩ := id E
  cases hD.symm.trans e1
  obtain ⟨c2, k2, i1, i2, i3, -⟩ := Cond.instantiable_spec wi
  cases e2.symm.trans i1
  cases e3.symm.trans i2
  obtain ⟨kU, u1, u2⟩ := al.2.2 _ _ e3
  have hB : Blank ST x D P.U := ⟨hD, ⟨knV, fun q hq => by rw [hq] at obV; cases obV⟩, by rw [al.findClass]; exact e2, kU, u1, by rw [u2]; exact i3, by rw [u2]; exact e5 i3⟩
  have F1 : Found ST "value" "[B" fV P.U := ⟨SBG.found_only al ⟨cfV, kV, iV, gV⟩, stV⟩
  have F2 : Found ST "coder" "B" fC P.U := ⟨SBG.found_only al ⟨cfC, kC, iC, gC⟩, stC⟩
  have hA : Ch b A P.U := ⟨⟨K.1, State.isArrayOf_alike al K.2.1, K.2.2, by omega⟩, hty⟩
  have hS : StaticIs P.U ST "COMPACT_STRINGS" "Z" (.int z) := by
    obtain ⟨cfS, iS, kS, fS, st, cS, t1, t2, t3, t4, t5, t6, t7⟩ := S
    exact StaticIs.there (s := { Z with heap := P.U.heap }) ⟨cfS, iS, kS, fS, st, cS, t1, t2, t3, t4, t5, (fun q => by rw [q] at t6; cases t6), t7⟩ al rfl
  obtain ⟨v, B, X', ⟨⟨hv, E', V', q1, q2, q3, q4, q5, q6, q7, q8, q9, q10, q11⟩, hl, hc, hs⟩, st⟩ := New1.pays x D fV fC b A z (tab_of (moved hZ hw)) hfr hlo m meth c P g ig mk _ X hg hsize hdg hW hn ⟨r1, r2, rfl, hB, F1, F2, hA, hS, hz, l0, l2, hp⟩
  have al' : Z.vm.Alike B.U.vm := hZ.alike.trans X'.warmed.alike
  have hsz : E'.slots.size = D.slots.size := by
    obtain ⟨-, -, -, kB, w1, w2, w3⟩ := q1
    obtain ⟨kB', y1, y2⟩ := al'.2.2 _ _ e3
    rw [q2.2.1] at w1
    cases w1.symm.trans y1
    rw [w3, e5 i3, y2]
  refine ⟨v, B, X', ⟨_, ⟨hv, ?_, ⟨by omega, fun y cy hy hn' => q10 y cy (by simpa using hn') hy, fun y cy hy => ?_⟩, q11, ⟨E', _, q1.1, by rw [q2.2.1]; exact e2, by rw [q2.2.1]; exact e3, by rw [q2.1]; exact obV, fun _ => by rw [hsz]; exact e5 i3⟩,
    ⟨E', cfV, kV, iV, fV, q1.1, gV, stV, by rw [q2.1]; exact knV, by rw [q2.1]; exact obV, by rw [q2.2.1]; exact asV, q3⟩, ⟨E', cfC, kC, iC, fC, q1.1, gC, stC, by rw [q2.1]; exact knV, by rw [q2.1]; exact obV, by rw [q2.2.1]; exact asC, q4⟩,
    ⟨V', ⟨q5.1, State.isArrayOf_alike al'.symm q5.2.1, q5.2.2.1⟩, q6, by rw [← al'.findClass]; exact q7, q8, fun j hj => by have := q9 j hj; rwa [Nat.zero_add] at this⟩, fun O n d w F n1 n2 => ?_⟩, hl, hc, hs⟩, st⟩
  · intro y hy
    simp only [List.mem_cons, List.not_mem_nil, or_false] at hy
    rcases hy with rfl | rfl <;> rfl
  · by_cases q : y = x
    · subst q
      cases hD.symm.trans hy
      exact ⟨E', q1.1, q2.2.1, q2.1, hsz⟩
    · exact ⟨cy, q10 y cy q hy, rfl, rfl, rfl⟩
  · obtain ⟨D3, cf, k, i, f, g1, g2, g3, g4, g5, g6, g7⟩ := F
    cases hD.symm.trans g1
    simp only [RoadKit.slotOf, g2, gV, gC, Option.map_some, Option.getD_some] at n1 n2
    exact ⟨E', cf, k, i, f, q1.1, g2, g3, by rw [q2.1]; exact g4, by rw [q2.1]; exact g5, by rw [q2.2.1]; exact g6, by rw [q2.2.2 f.slot (by simp [n1, n2])]; exact g7⟩
end StrChars.Road
namespace StrChars.Road
open Jvm Sem ClassFile Op Lib Jvm.Stand Jvm.Free Jvm.Free.XT
/-- WHAT COMES BACK, the byte[] as a list of values -/
def QA (Z : State) (x : Addr) (zn : Int32) (cs : List Int32) (h : Heap) (v : Option Value) (h' : Heap) (L : List Loc) : Prop := v = none ∧ (∀ y ∈ L, y.base = x) ∧ RoadKit.Keep h h' [x] ∧ h'.size = h.size + 1 ∧ RoadKit.Exa Z h' x ST ∧ RoadKit.Fld Z h' x ST "value" "[B" (.ref h.size) ∧ RoadKit.Fld Z h' x ST "coder" "B" (.int 0) ∧
  (∃ kb, Z.vm.findClass "[B" = some kb ∧ RoadKit.Arv Z h' h.size kb .byte zn (cs.map fun c => .int (lo8 c)) (.int 0)) ∧
  ∀ (O n d : String) (w : Value), RoadKit.Fld Z h x O n d w → RoadKit.slotOf Z O n d ≠ RoadKit.slotOf Z ST "value" "[B" → RoadKit.slotOf Z O n d ≠ RoadKit.slotOf Z ST "coder" "B" → RoadKit.Fld Z h' x O n d w
/-- **new String(chars) AT A CALL, THE ARRAYS AS LISTS**: the char[] at b holds cs, not empty, no char above 255 -/
theorem backArv {p : Program} {l : Launch} {e : Env} {R : Room} {s : State} {args : Array Value} {below : List Frame} {len W : Nat} {Z : State} {a0 : Array Value} {h : Heap} (hZ : Z.Warmed39 s.vm) (hw : ∀ d ∈ words, d.before a0 Z = true) {kI : Nat} (wi : (Jvm.Cond.instantiable ST kI).before a0 Z = true)
    {x b : Addr} {k : ClassId} {zn z : Int32} {cs : List Int32} {dv v0 c0 : Value} (E : RoadKit.Exa Z h x ST) (V : RoadKit.Fld Z h x ST "value" "[B" v0) (C : RoadKit.Fld Z h x ST "coder" "B" c0) (K : RoadKit.Arv Z h b k .char zn (cs.map Value.int) dv) (S : RoadKit.Sta Z h ST "COMPACT_STRINGS" "Z" (.int z)) (hz : ¬ z = 0)
    (hlen : zn.toNatClampNeg = cs.length) (h0 : 0 < cs.length) (hbig : cs.length ≤ 536870912) (hall : ∀ c ∈ cs, ¬ 255 < c) (hfr : 4 ≤ R.frames) (hlo : W + 65 ≤ R.locals) :
    Back l R p e below s args New1.yN len W (fun P a => a = #[.ref x, .ref b] ∧ P.U.heap = h ∧ P.cells + 1 ≤ R.cells ∧ P.slots + cs.length ≤ R.slots)
      (fun P _ v B => ∃ L, QA Z x zn cs h v B.U.heap L ∧ B.locs = P.locs ++ L ∧ B.cells = P.cells + 1 ∧ B.slots = P.slots + cs.length) := by
  obtain ⟨A, K1, K2, K3, K4, K5, K6⟩ := K
  have e : A.slots.size = cs.length := K3.trans hlen
  have hat : ∀ (i : Nat) (hi : i < cs.length), A.slots[i]? = some (.int cs[i]) := fun i hi => by rw [K5 i (by omega)]; simp [List.getD_eq_getElem?_getD, hi]
  have hcv : ∀ (i : Nat) (hi : i < cs.length), cv A i = cs[i] := fun i hi => by unfold cv; rw [hat i hi]
  have hty : Typed .char A := fun i v hv => by
    have hi : i < A.slots.size := (Array.getElem?_eq_some_iff.mp hv).1
    have q := K5 i hi
    rw [hv] at q
    rw [Option.some.inj q]
    exact K6 i hi
  refine Back.mono (back hZ hw wi E V C K1 hty S hz (by omega) (by omega) (fun i hi => by rw [hcv i (by omega)]; exact hall _ (List.getElem_mem _)) hfr hlo) (fun P a hp => ⟨hp.1, hp.2.1, hp.2.2.1, by rw [e]; exact hp.2.2.2⟩) (fun P a v B hp hq => ?_)
  obtain ⟨L, ⟨q1, q2, q3, q4, q5, q6, q7, ⟨V', v1, v2, v3, v4, v5⟩, q9⟩, hl, hc, hs⟩ := hq
  refine ⟨L, ⟨q1, q2, q3, q4, q5, q6, q7, ⟨V'.cls, v3, V', v1, rfl, by rw [v4, e, hlen], K4, fun i hi => ?_, fun i hi => ?_⟩, q9⟩, hl, hc, by rw [hs, e]⟩
  · have hi' : i < cs.length := by omega
    rw [v5 i (by omega), hcv i hi']; simp [List.getD_eq_getElem?_getD, hi']
  · have hi' : i < cs.length := by omega
    simp only [List.getD_eq_getElem?_getD, List.getElem?_map, List.getElem?_eq_getElem hi', Option.map_some, Option.getD_some]
    exact fits_lo8 _
end StrChars.Road
namespace StrChars.Road
open Jvm Sem ClassFile Op Lib Jvm.Stand Jvm.Free Jvm.Free.XT
/-- WHAT COMES BACK, in the writer's own shape -/
def QV (Z : State) (x : Addr) (N : Int32) (bs : List Int32) (h : Heap) (n0 : Nat) (v : Option Value) (h' : Heap) (L : List Loc) : Prop := v = none ∧ RoadKit.Fr n0 L ∧ RoadKit.Keep h h' [x] ∧ RoadKit.Exa Z h' x ST ∧ RoadKit.Fld Z h' x ST "coder" "B" (.int 0) ∧
  ∃ (t : Addr) (kb : ClassId), n0 ≤ t ∧ h.size ≤ t ∧ ¬ t = x ∧ RoadKit.Fld Z h' x ST "value" "[B" (.ref t) ∧ RoadKit.Arv Z h' t kb .byte N (bs.map Value.int) (.int 0)
/-- **new String(chars) AT A CALL, FOR THE WRITER**: a char[] of n known ints, each 0 to 255 -/
theorem backV {p : Program} {l : Launch} {e : Env} {R : Room} {s : State} {args : Array Value} {below : List Frame} {len W : Nat} {Z : State} {a0 : Array Value} {h : Heap} (hZ : Z.Warmed39 s.vm) (hw : ∀ d ∈ words, d.before a0 Z = true) {kI : Nat} (wi : (Jvm.Cond.instantiable ST kI).before a0 Z = true)
    {x b : Addr} {kC : ClassId} {cs bs : List Int32} {d v0 c0 : Value} {z N : Int32} {n n0 : Nat} (hx0 : n0 ≤ x) (hh0 : n0 ≤ h.size) (E : RoadKit.Exa Z h x ST) (V : RoadKit.Fld Z h x ST "value" "[B" v0) (C : RoadKit.Fld Z h x ST "coder" "B" c0) (K : RoadKit.Arv Z h b kC .char N (cs.map Value.int) d) (S : RoadKit.Sta Z h ST "COMPACT_STRINGS" "Z" (.int z)) (hz : ¬ z = 0)
    (hn : cs.length = n) (hN : N = Int32.ofNat n) (l0 : 0 < n) (l2 : n ≤ 4000) (hp : ∀ c ∈ cs, ¬ c < 0 ∧ ¬ (255 : Int32) < c) (hb : bs = cs.map (fun c => c.toInt8.toInt32)) (hfr : 4 ≤ R.frames) (hlo : W + 65 ≤ R.locals) :
    Back l R p e below s args (⟨"java/lang/String", "<init>", "([C)V"⟩ : MethodName) len W (fun P a => a = #[.ref x, .ref b] ∧ P.U.heap = h ∧ P.cells + 1 ≤ R.cells ∧ P.slots + n ≤ R.slots)
      (fun P _ v B => ∃ L, QV Z x N bs h n0 v B.U.heap L ∧ B.locs = P.locs ++ L ∧ B.cells = P.cells + 1 ∧ B.slots = P.slots + n) := by
  subst hn hN hb
  refine Back.mono (backArv hZ hw wi E V C K S hz (n32 (by omega)) l0 (by omega) (fun c hc => (hp c hc).2) hfr hlo) (fun P a hp => hp) (fun P a v B hp hq => ?_)
  obtain ⟨L, ⟨q1, q2, q3, q4, q5, q6, q7, ⟨kb, v1, v2⟩, q9⟩, hl, hc, hs⟩ := hq
  exact ⟨L, ⟨q1, fun y hy => by rw [q2 y hy]; exact hx0, q3, q5, q7, h.size, kb, hh0, Nat.le_refl _, Nat.ne_of_gt E.lt, q6, by rw [List.map_map]; exact v2⟩, hl, hc, hs⟩
end StrChars.Road
namespace StrChars
open Jvm Sem ClassFile Op Lib Jvm.Stand Jvm.Free.XT Jvm.Free.ALB Jvm.Free.JM Jvm.Free
open Jvm.Lib.Cold (StaticIs)
def hi8 (x : Int32) : Int32 := lo8 (x >>> ((8 : Int32) &&& 31))
/-- what StringUTF16.getChar makes of two bytes -/
def pairCh (u v : Int32) : Int32 := (((u &&& 255) <<< ((0 : Int32) &&& 31)) ||| ((v &&& 255) <<< ((8 : Int32) &&& 31))).toUInt32.toUInt16.toUInt32.toInt32
theorem shr0 (c : Int32) : c >>> ((0 : Int32) &&& 31) = c := by
  have e : ((0 : Int32) &&& 31) = 0 := by decide
  rw [e]
  apply Int32.toBitVec_inj.mp
  rw [Int32.toBitVec_shiftRight]
  have e1 : ((0 : Int32).toBitVec.smod 32) = 0#32 := by decide
  rw [e1, BitVec.sshiftRight_eq']
  exact BitVec.sshiftRight_zero
theorem lo8_and (x : Int32) : (lo8 x &&& 255).toBitVec.toNat = x.toBitVec.toNat % 256 := by
  have h : (lo8 x).toBitVec = (x.toBitVec.signExtend 8).signExtend 32 := by rw [lo8, Int8.toBitVec_toInt32, Int32.toBitVec_toInt8]
  rw [Int32.toBitVec_and, BitVec.toNat_and, h]
  have e : ((x.toBitVec.signExtend 8).signExtend 32).toNat % 256 = x.toBitVec.toNat % 256 := by
    rw [BitVec.toNat_signExtend]
    have hlt := x.toBitVec.isLt
    simp only [BitVec.toNat_setWidth, BitVec.toNat_signExtend]
    split <;> split <;> omega
  rw [← e]
  exact Nat.and_two_pow_sub_one_eq_mod _ 8
theorem pair_says {c : Int32} (h0 : ¬ c < 0) (h1 : ¬ 65535 < c) : pairCh (lo8 c) (hi8 c) = c := by
  rw [Int32.lt_iff_toInt_lt] at h0 h1
  have e0 : (0 : Int32).toInt = 0 := rfl
  have e1 : (65535 : Int32).toInt = 65535 := rfl
  have hc : c.toInt = c.toBitVec.toNat := by
    have := c.toBitVec.isLt
    have e : c.toInt = c.toBitVec.toInt := rfl
    rw [e] at h0 h1
    rw [e]
    rw [BitVec.toInt_eq_toNat_cond] at h0 h1 ⊢
    split at h0 <;> split <;> omega
  have hn : c.toBitVec.toNat < 65536 := by omega
  have a1 := lo8_and c
  have a2 : (hi8 c &&& 255).toBitVec.toNat = c.toBitVec.toNat / 256 := by
    rw [hi8, lo8_and]
    have e : ((8 : Int32) &&& 31) = 8 := by decide
    rw [e, Int32.toBitVec_shiftRight]
    have e2 : ((8 : Int32).toBitVec.smod 32) = 8#32 := by decide
    rw [e2, BitVec.sshiftRight_eq', BitVec.toNat_sshiftRight_of_msb_false (by rw [BitVec.msb_eq_false_iff_two_mul_lt]; omega)]
    show c.toBitVec.toNat >>> 8 % 256 = _
    rw [Nat.shiftRight_eq_div_pow]
    omega
  unfold pairCh
  apply Int32.toBitVec_inj.mp
  apply BitVec.eq_of_toNat_eq
  have f0 : ((0 : Int32) &&& 31) = 0 := by decide
  have f8 : ((8 : Int32) &&& 31) = 8 := by decide
  rw [f0, f8]
  have g : (((lo8 c &&& 255) <<< (0 : Int32)) ||| ((hi8 c &&& 255) <<< (8 : Int32))).toBitVec.toNat = c.toBitVec.toNat := by
    rw [Int32.toBitVec_or, Int32.toBitVec_shiftLeft, Int32.toBitVec_shiftLeft]
    have s0 : ((0 : Int32).toBitVec.smod 32) = 0#32 := by decide
    have s8 : ((8 : Int32).toBitVec.smod 32) = 8#32 := by decide
    rw [s0, s8, BitVec.toNat_or]
    simp only [BitVec.shiftLeft_eq', BitVec.toNat_shiftLeft, a1, a2]
    show (c.toBitVec.toNat % 256) <<< 0 % 2 ^ 32 ||| (c.toBitVec.toNat / 256) <<< 8 % 2 ^ 32 = _
    rw [Nat.shiftLeft_zero, Nat.mod_eq_of_lt (show c.toBitVec.toNat % 256 < 2 ^ 32 by omega), Nat.mod_eq_of_lt (show (c.toBitVec.toNat / 256) <<< 8 < 2 ^ 32 by rw [Nat.shiftLeft_eq]; omega), Nat.or_comm, ← Nat.shiftLeft_add_eq_or_of_lt (by omega), Nat.shiftLeft_eq]
    omega
  show BitVec.toNat (((((lo8 c &&& 255) <<< (0 : Int32)) ||| ((hi8 c &&& 255) <<< (8 : Int32))).toBitVec.setWidth 16).setWidth 32) = _
  rw [BitVec.toNat_setWidth, BitVec.toNat_setWidth, g]
  omega
end StrChars
namespace StrChars
open Jvm Sem ClassFile Op Lib Jvm.Stand Jvm.Free.XT Jvm.Free.ALB Jvm.Free.JM Jvm.Free
open Jvm.Lib.Cold (StaticIs)
theorem shr1 {n : Nat} (h : 2 * n < 2 ^ 31) : Int32.ofNat (2 * n) >>> ((1 : Int32) &&& 31) = Int32.ofNat n := by
  have e : ((1 : Int32) &&& 31) = 1 := by decide
  rw [e]
  apply Int32.toBitVec_inj.mp
  rw [Int32.toBitVec_shiftRight]
  have e1 : ((1 : Int32).toBitVec.smod 32) = 1#32 := by decide
  have hm : (BitVec.ofNat 32 (2 * n)).toNat = 2 * n := by rw [BitVec.toNat_ofNat, Nat.mod_eq_of_lt (by omega)]
  rw [e1, BitVec.sshiftRight_eq']
  apply BitVec.eq_of_toNat_eq
  show ((BitVec.ofNat 32 (2 * n)).sshiftRight 1).toNat = (BitVec.ofNat 32 n).toNat
  rw [BitVec.toNat_sshiftRight_of_msb_false (by rw [BitVec.msb_eq_false_iff_two_mul_lt, hm]; omega), hm, BitVec.toNat_ofNat, Nat.shiftRight_eq_div_pow]
  omega
/-- charAt's cast of a byte read back -/
def chr8 (u : Int32) : Int32 := (u &&& 255).toUInt32.toUInt16.toUInt32.toInt32
theorem chr8_lo8 {c : Int32} (h0 : ¬ c < 0) (h1 : ¬ 255 < c) : chr8 (lo8 c) = c := by
  have t : ∀ k : Fin 256, (Int32.ofNat k.val).toUInt32.toUInt16.toUInt32.toInt32 = Int32.ofNat k.val := by decide +kernel
  unfold chr8
  rw [lo8_mask h0 h1]
  rw [Int32.lt_iff_toInt_lt] at h0 h1
  have e0 : (0 : Int32).toInt = 0 := rfl
  have e1 : (255 : Int32).toInt = 255 := rfl
  obtain ⟨k, hk⟩ : ∃ k : Nat, c.toInt = k := ⟨c.toInt.toNat, by omega⟩
  have hx : c = Int32.ofNat k := Int32.toInt_inj.mp (by rw [hk, Int32.toInt_ofNat_small (by omega)])
  rw [hx]
  exact t ⟨k, by omega⟩
theorem narrow_ch {c : Int32} (h0 : ¬ c < 0) (h1 : ¬ 65535 < c) : narrow .char (.int c) = .int c := by
  have q : narrow .char (.int (pairCh (lo8 c) (hi8 c))) = .int (pairCh (lo8 c) (hi8 c)) := narrow_c _
  rwa [pair_says h0 h1] at q
/-- the array's cell V codes the n chars f 0 .. f (n - 1) by the coder cd, as the JDK does: coder 1 just where some char is above 255 -/
def Cod (cd : Int32) (n : Nat) (f : Nat → Int32) (V : Cell) : Prop := (cd = 0 ∧ V.slots.size = n ∧ ∀ j, j < n → V.slots[j]? = some (.int (lo8 (f j))) ∧ ¬ 255 < f j) ∨ (cd = 1 ∧ V.slots.size = 2 * n ∧ (∀ j, j < n → V.slots[2 * j]? = some (.int (lo8 (f j))) ∧ V.slots[2 * j + 1]? = some (.int (hi8 (f j)))) ∧ ∃ j, j < n ∧ 255 < f j)
theorem Cod.cd {cd : Int32} {n : Nat} {f : Nat → Int32} {V : Cell} (h : Cod cd n f V) : cd = 0 ∨ cd = 1 := h.imp (fun q => q.1) fun q => q.1
theorem Cod.len {cd : Int32} {n : Nat} {f : Nat → Int32} {V : Cell} (h : Cod cd n f V) (hs : V.slots.size < 2 ^ 31) : Int32.ofNat V.slots.size >>> (cd &&& 31) = Int32.ofNat n := by
  rcases h with ⟨rfl, h, -⟩ | ⟨rfl, h, -⟩
  · rw [shr0, h]
  · rw [h, shr1 (by omega)]
/-- **x is a String of the n chars f 0 .. f (n - 1)**, Latin-1 or UTF-16; its array at t has the cell V -/
def Txt (x t : Addr) (V : Cell) (cd : Int32) (n : Nat) (f : Nat → Int32) (U : State) : Prop := Exact "java/lang/String" x U ∧ Has x "java/lang/String" "value" "[B" (.ref t) U ∧ Has x "java/lang/String" "coder" "B" (.int cd) U ∧ XT.Arr .byte t V U ∧ Cod cd n f V ∧ ∀ j, j < n → ¬ f j < 0 ∧ ¬ 65535 < f j
theorem Txt.mv {x t : Addr} {V : Cell} {cd : Int32} {n : Nat} {f : Nat → Int32} {U U' : State} (h : Txt x t V cd n f U) (hal : U.vm.Alike U'.vm) (hh : U'.heap = U.heap) : Txt x t V cd n f U' := ⟨h.1.mv hal hh, h.2.1.mv hal hh, h.2.2.1.mv hal hh, h.2.2.2.1.mv hal hh, h.2.2.2.2⟩
namespace Cdr
def yN : MethodName := ⟨"java/lang/String", "coder", "()B"⟩
abbrev yB : ByteArray := jdk_42_method_152_code
theorem d0 : decode yB 0 = .ok (.getstatic 38, 3) := by decide +kernel
theorem d3 : decode yB 3 = .ok (.ifCond (.eq) 10, 3) := by decide +kernel
theorem d6 : decode yB 6 = .ok (.aload_n 0, 1) := by decide +kernel
theorem d7 : decode yB 7 = .ok (.getfield 15, 3) := by decide +kernel
theorem d10 : decode yB 10 = .ok (.goto 4, 3) := by decide +kernel
theorem d14 : decode yB 14 = .ok (.ireturn, 1) := by decide +kernel
def site : List Cond := [.fieldLink "java/lang/String" 38 "java/lang/String" "COMPACT_STRINGS" "Z", .fieldLink "java/lang/String" 15 "java/lang/String" "coder" "B"]
def tab : Cond := tabOf yN yB 1 (some .byte) site
def P (x : Addr) (cd z : Int32) (args : Array Value) (s : State) : Prop := args = #[.ref x] ∧ Has x "java/lang/String" "coder" "B" (.int cd) s ∧ (cd = 0 ∨ cd = 1) ∧ StaticIs s "java/lang/String" "COMPACT_STRINGS" "Z" (.int z) ∧ ¬ z = 0
def E (cd : Int32) (r : Option Value) (s u : State) : Prop := XT.PureE (some (.int cd)) r s u
theorem law (l : Launch) (x : Addr) (cd z : Int32) : Law l yN 1 0 0 0 yB 1 (some .byte) site (P x cd z) (E cd) [] 0 0 := by
  refine Law.of_walk (plainFor_of_name (by decide +kernel)) (by decide +kernel) (by decide +kernel) (by decide) (fun _ _ h => by rw [h.1]; rfl) (fun _ U U' hal hh h => ⟨h.1, h.2.1.mv hal hh, h.2.2.1, h.2.2.2.1.there hal hh, h.2.2.2.2⟩) (fun r U U' V V' h1 hal h2 h => XT.PureE.mv r U U' V V' h1 hal h2 h) ?_
  intro p e s m args below meth c s₁ X0 hexec hbytes hml hret hlk hnm hown hh0 W hP
  obtain ⟨rfl, hx, hc, s1, hz⟩ := hP
  have c1 : Steps p.tables e below (s₁.setTop (entryFrame m #[.ref x] 1)) (s₁.setTop (mkF m 0 #[.val (.ref x)] [])) := entry rfl
  obtain ⟨T2, X2, q2, st2⟩ := X0.sget hexec hown (wk W (.fieldLink "java/lang/String" 38 "java/lang/String" "COMPACT_STRINGS" "Z")) s1 (fun _ _ h => by rw [hh0]; exact h) (g := (mkF m 0 #[.val (.ref x)] [])) rfl (hb hbytes d0)
  have hh2 := q2.trans hh0
  have c3 : Steps p.tables e below (s₁.setTop (entryFrame m #[.ref x] 1)) (T2.setTop (mkF m 7 #[.val (.ref x)] [.ref x])) := (c1.trans (st2 _ (Steps.refl _))).trans (by
    refine XS.ifNo X2.here hexec rfl (hb hbytes d3) rfl (i0_eq_f hz) ?_
    refine XS.aloadN X2.here hexec rfl (hb hbytes d6) rfl rfl ?_
    exact Steps.refl _)
  obtain ⟨T4, X4, q4, st4⟩ := X2.hget hexec hown (wk W (.fieldLink "java/lang/String" 15 "java/lang/String" "coder" "B")) (hx.mv X2.warmed.alike hh2) (g := (mkF m 7 #[.val (.ref x)] [.ref x])) rfl (rest := []) rfl (hb hbytes d7)
  have c5 : Steps p.tables e below (s₁.setTop (entryFrame m #[.ref x] 1)) (T4.setTop (mkF m 14 #[.val (.ref x)] [.int cd])) := (c3.trans (st4 _ (Steps.refl _))).trans (by
    refine XS.goto X4.here hexec rfl (pc0 := 10) rfl (hb hbytes d10) (by decide) rfl ?_
    exact Steps.refl _)
  exact ⟨T4, some (.int cd), _, _, _, X4, rfl, rfl, rfl, (fun h => by cases h), ⟨rfl, q4.trans hh2⟩, fun fs hl => c5.trans (X4.ireturnOut hexec hret (by rcases hc with rfl | rfl <;> rfl) (Or.inr (Or.inr (Or.inl rfl))) (hb hbytes d14) hl)⟩
end Cdr
namespace Len
def yN : MethodName := ⟨"java/lang/String", "length", "()I"⟩
abbrev yB : ByteArray := jdk_42_method_54_code
theorem d0 : decode yB 0 = .ok (.aload_n 0, 1) := by decide +kernel
theorem d1 : decode yB 1 = .ok (.getfield 9, 3) := by decide +kernel
theorem d4 : decode yB 4 = .ok (.arraylength, 1) := by decide +kernel
theorem d5 : decode yB 5 = .ok (.aload_n 0, 1) := by decide +kernel
theorem d6 : decode yB 6 = .ok (.invokevirtual 335, 3) := by decide +kernel
theorem d9 : decode yB 9 = .ok (.ishr, 1) := by decide +kernel
theorem d10 : decode yB 10 = .ok (.ireturn, 1) := by decide +kernel
def site : List Cond := [.fieldLink "java/lang/String" 9 "java/lang/String" "value" "[B", Cdr.tab] ++ virtW "java/lang/String" 335 "java/lang/String" Cdr.yN Cdr.yN
def tab : Cond := tabOf yN yB 1 (some .int) site
def P (x t : Addr) (V : Cell) (cd : Int32) (n : Nat) (f : Nat → Int32) (z : Int32) (args : Array Value) (s : State) : Prop := args = #[.ref x] ∧ Txt x t V cd n f s ∧ StaticIs s "java/lang/String" "COMPACT_STRINGS" "Z" (.int z) ∧ ¬ z = 0
def E (n : Nat) (r : Option Value) (s u : State) : Prop := XT.PureE (some (.int (Int32.ofNat n))) r s u
/-- length() of a String of n chars, in either coding -/
theorem law (l : Launch) (x t : Addr) (V : Cell) (cd : Int32) (n : Nat) (f : Nat → Int32) (z : Int32) : Law l yN 1 0 1 13 yB 1 (some .int) site (P x t V cd n f z) (E n) [] 0 0 := by
  refine Law.of_walk (plainFor_of_name (by decide +kernel)) (by decide +kernel) (by decide +kernel) (by decide) (fun _ _ h => by rw [h.1]; rfl) (fun _ U U' hal hh h => ⟨h.1, h.2.1.mv hal hh, h.2.2.1.there hal hh, h.2.2.2⟩) (fun r U U' V V' h1 hal h2 h => XT.PureE.mv r U U' V V' h1 hal h2 h) ?_
  intro p e s m args below meth c s₁ X0 hexec hbytes hml hret hlk hnm hown hh0 W hP
  obtain ⟨rfl, hx, s1, hz⟩ := hP
  have v31 := hx.2.2.2.1.2.2.2
  have c1 : Steps p.tables e below (s₁.setTop (entryFrame m #[.ref x] 1)) (s₁.setTop (mkF m 1 #[.val (.ref x)] [.ref x])) := Steps.trans (entry rfl) (by
    show Steps p.tables e below (s₁.setTop (mkF m 0 #[.val (.ref x)] [])) _
    refine XS.aloadN X0.here hexec rfl (hb hbytes d0) rfl rfl ?_
    exact Steps.refl _)
  obtain ⟨T2, X2, q2, st2⟩ := X0.hget hexec hown (wk W (.fieldLink "java/lang/String" 9 "java/lang/String" "value" "[B")) (hx.mv X0.warmed.alike hh0).2.1 (g := (mkF m 1 #[.val (.ref x)] [.ref x])) rfl (rest := []) rfl (hb hbytes d1)
  have hh2 := q2.trans hh0
  have hx2 := hx.mv X2.warmed.alike hh2
  have c3 : Steps p.tables e below (s₁.setTop (entryFrame m #[.ref x] 1)) (T2.setTop (mkF m 6 #[.val (.ref x)] [.ref x, .int (Int32.ofNat V.slots.size)])) := (c1.trans (st2 _ (Steps.refl _))).trans (by
    refine X2.alen hexec hx2.2.2.2.1 rfl rfl (hb hbytes d4) ?_
    refine XS.aloadN X2.here hexec rfl (hb hbytes d5) rfl rfl ?_
    exact Steps.refl _)
  obtain ⟨v4, T4, X4, E4, g4⟩ := X2.callV hexec (Cdr.law l x cd z) hown (wks W (virtW "java/lang/String" 335 "java/lang/String" Cdr.yN Cdr.yN)) rfl (by decide) (wk W Cdr.tab) (W := 1) (Nat.le_of_ble_eq_true rfl) (Nat.le_of_ble_eq_true rfl) (Nat.le_refl _) (Nat.le_refl _) (hx2.1.fc X2.warmed.alike) hx2.1.is (g := (mkF m 6 #[.val (.ref x)] [.ref x, .int (Int32.ofNat V.slots.size)])) rfl (by rw [hml]; rfl) c3 (argsL := []) (rest := [.int (Int32.ofNat V.slots.size)]) rfl rfl (by show 2 * 0 + (1 + 0) ≤ _; decide) (hb hbytes d6) (⟨rfl, hx2.2.2.1, hx.2.2.2.2.1.cd, s1.there X2.warmed.alike hh2, hz⟩)
  obtain ⟨rfl, q4⟩ := E4
  have c5 : Steps p.tables e below (s₁.setTop (entryFrame m #[.ref x] 1)) (T4.setTop (mkF m 10 #[.val (.ref x)] [.int (Int32.ofNat V.slots.size >>> (cd &&& 31))])) := Steps.trans g4 (by
    refine ishr X4.here hexec rfl (hb hbytes d9) rfl ?_
    exact Steps.refl _)
  rw [hx.2.2.2.2.1.len v31] at c5
  exact ⟨T4, some (.int (Int32.ofNat n)), _, _, _, X4, rfl, rfl, rfl, (fun h => by cases h), ⟨rfl, q4.trans hh2⟩, fun fs hl => c5.trans (X4.ireturnOut hexec hret rfl (Or.inl rfl) (hb hbytes d10) hl)⟩
theorem pays {l : Launch} {R : Room} {p : Program} {e : Env} {below : List Frame} {s : State} {sargs : Array Value} {len W : Nat} (x t : Addr) (V : Cell) (cd : Int32) (n : Nat) (f : Nat → Int32) (z : Int32) (htab : tab.before sargs s = true) (hfr : 2 ≤ R.frames) (hlo : W + 25 ≤ R.locals) :
    Back l R p e below s sargs yN len W (fun A₁ a₁ => A₁.cells + 0 ≤ R.cells ∧ A₁.slots + 0 ≤ R.slots ∧ P x t V cd n f z a₁ A₁.U) (fun A₁ _ v₁ B₁ => E n v₁ A₁.U B₁.U ∧ B₁.locs = A₁.locs ++ [] ∧ B₁.cells = A₁.cells + 0 ∧ B₁.slots = A₁.slots + 0) :=
  (law l x t V cd n f z).pays htab hfr (by omega)
end Len
namespace IsL
def yN : MethodName := ⟨"java/lang/String", "isLatin1", "()Z"⟩
abbrev yB : ByteArray := jdk_42_method_154_code
theorem d0 : decode yB 0 = .ok (.getstatic 38, 3) := by decide +kernel
theorem d3 : decode yB 3 = .ok (.ifCond (.eq) 14, 3) := by decide +kernel
theorem d6 : decode yB 6 = .ok (.aload_n 0, 1) := by decide +kernel
theorem d7 : decode yB 7 = .ok (.getfield 15, 3) := by decide +kernel
theorem d10 : decode yB 10 = .ok (.ifCond (.ne) 7, 3) := by decide +kernel
theorem d13 : decode yB 13 = .ok (.iconst 1, 1) := by decide +kernel
theorem d14 : decode yB 14 = .ok (.goto 4, 3) := by decide +kernel
theorem d17 : decode yB 17 = .ok (.iconst 0, 1) := by decide +kernel
theorem d18 : decode yB 18 = .ok (.ireturn, 1) := by decide +kernel
def site : List Cond := [.fieldLink "java/lang/String" 38 "java/lang/String" "COMPACT_STRINGS" "Z", .fieldLink "java/lang/String" 15 "java/lang/String" "coder" "B"]
def tab : Cond := tabOf yN yB 1 (some .boolean) site
def P (x : Addr) (cd z : Int32) (args : Array Value) (s : State) : Prop := args = #[.ref x] ∧ Has x "java/lang/String" "coder" "B" (.int cd) s ∧ (cd = 0 ∨ cd = 1) ∧ StaticIs s "java/lang/String" "COMPACT_STRINGS" "Z" (.int z) ∧ ¬ z = 0
def E (cd : Int32) (r : Option Value) (s u : State) : Prop := XT.PureE (some (.int (1 - cd))) r s u
theorem law (l : Launch) (x : Addr) (cd z : Int32) : Law l yN 1 0 0 0 yB 1 (some .boolean) site (P x cd z) (E cd) [] 0 0 := by
  refine Law.of_walk (plainFor_of_name (by decide +kernel)) (by decide +kernel) (by decide +kernel) (by decide) (fun _ _ h => by rw [h.1]; rfl) (fun _ U U' hal hh h => ⟨h.1, h.2.1.mv hal hh, h.2.2.1, h.2.2.2.1.there hal hh, h.2.2.2.2⟩) (fun r U U' V V' h1 hal h2 h => XT.PureE.mv r U U' V V' h1 hal h2 h) ?_
  intro p e s m args below meth c s₁ X0 hexec hbytes hml hret hlk hnm hown hh0 W hP
  obtain ⟨rfl, hx, hc, s1, hz⟩ := hP
  have c1 : Steps p.tables e below (s₁.setTop (entryFrame m #[.ref x] 1)) (s₁.setTop (mkF m 0 #[.val (.ref x)] [])) := entry rfl
  obtain ⟨T2, X2, q2, st2⟩ := X0.sget hexec hown (wk W (.fieldLink "java/lang/String" 38 "java/lang/String" "COMPACT_STRINGS" "Z")) s1 (fun _ _ h => by rw [hh0]; exact h) (g := (mkF m 0 #[.val (.ref x)] [])) rfl (hb hbytes d0)
  have hh2 := q2.trans hh0
  have c3 : Steps p.tables e below (s₁.setTop (entryFrame m #[.ref x] 1)) (T2.setTop (mkF m 7 #[.val (.ref x)] [.ref x])) := (c1.trans (st2 _ (Steps.refl _))).trans (by
    refine XS.ifNo X2.here hexec rfl (hb hbytes d3) rfl (i0_eq_f hz) ?_
    refine XS.aloadN X2.here hexec rfl (hb hbytes d6) rfl rfl ?_
    exact Steps.refl _)
  obtain ⟨T4, X4, q4, st4⟩ := X2.hget hexec hown (wk W (.fieldLink "java/lang/String" 15 "java/lang/String" "coder" "B")) (hx.mv X2.warmed.alike hh2) (g := (mkF m 7 #[.val (.ref x)] [.ref x])) rfl (rest := []) rfl (hb hbytes d7)
  have c5 : Steps p.tables e below (s₁.setTop (entryFrame m #[.ref x] 1)) (T4.setTop (mkF m 10 #[.val (.ref x)] [.int cd])) := c3.trans (st4 _ (Steps.refl _))
  have c6 : Steps p.tables e below (s₁.setTop (entryFrame m #[.ref x] 1)) (T4.setTop (mkF m 18 #[.val (.ref x)] [.int (1 - cd)])) := by
    rcases hc with rfl | rfl
    · exact c5.trans (by
        refine XS.ifNo X4.here hexec rfl (hb hbytes d10) rfl (i0_ne_f rfl) ?_
        refine iconstV X4.here hexec rfl 1 (hb hbytes d13) (by decide) ?_
        refine XS.goto X4.here hexec rfl (pc0 := 14) rfl (hb hbytes d14) (by decide) rfl ?_
        exact Steps.refl _)
    · exact c5.trans (by
        refine XS.ifYes X4.here hexec rfl (pc0 := 10) rfl (hb hbytes d10) rfl (i0_ne_t (by decide)) (by decide) rfl ?_
        refine iconstV X4.here hexec rfl 0 (hb hbytes d17) (by decide) ?_
        exact Steps.refl _)
  exact ⟨T4, some (.int (1 - cd)), _, _, _, X4, rfl, rfl, rfl, (fun h => by cases h), ⟨rfl, q4.trans hh2⟩, fun fs hl => c6.trans (X4.ireturnOut hexec hret (by rcases hc with rfl | rfl <;> rfl) (Or.inr (Or.inl rfl)) (hb hbytes d18) hl)⟩
end IsL
namespace LChA
def yN : MethodName := ⟨"java/lang/StringLatin1", "charAt", "([BI)C"⟩
abbrev yB : ByteArray := jdk_43_method_2_code
theorem d0 : decode yB 0 = .ok (.iload_n 1, 1) := by decide +kernel
theorem d1 : decode yB 1 = .ok (.aload_n 0, 1) := by decide +kernel
theorem d2 : decode yB 2 = .ok (.arraylength, 1) := by decide +kernel
theorem d3 : decode yB 3 = .ok (.invokestatic 9, 3) := by decide +kernel
theorem d6 : decode yB 6 = .ok (.aload_n 0, 1) := by decide +kernel
theorem d7 : decode yB 7 = .ok (.iload_n 1, 1) := by decide +kernel
theorem d8 : decode yB 8 = .ok (.baload, 1) := by decide +kernel
theorem d9 : decode yB 9 = .ok (.sipush 255, 3) := by decide +kernel
theorem d12 : decode yB 12 = .ok (.iand, 1) := by decide +kernel
theorem d13 : decode yB 13 = .ok (.i2c, 1) := by decide +kernel
theorem d14 : decode yB 14 = .ok (.ireturn, 1) := by decide +kernel
def site : List Cond := [JO.Str_checkIndex.tab] ++ staticW "java/lang/StringLatin1" 9 JO.Str_checkIndex.yN
def tab : Cond := tabOf yN yB 2 (some .char) site
def P (t : Addr) (V : Cell) (i : Nat) (u : Int32) (fm : Value) (args : Array Value) (s : State) : Prop := args = #[.ref t, .int (Int32.ofNat i)] ∧ XT.Arr .byte t V s ∧ V.slots[i]? = some (.int u) ∧ (StaticIs s "jdk/internal/util/Preconditions" "SIOOBE_FORMATTER" "Ljava/util/function/BiFunction;" fm ∧ fm.isRef = true)
def E (u : Int32) (r : Option Value) (s w : State) : Prop := XT.PureE (some (.int (chr8 u))) r s w
theorem law (l : Launch) (t : Addr) (V : Cell) (i : Nat) (u : Int32) (fm : Value) : Law l yN 2 2 2 27 yB 2 (some .char) site (P t V i u fm) (E u) [] 0 0 := by
  refine Law.of_walk (plainFor_of_name (by decide +kernel)) (by decide +kernel) (by decide +kernel) (by decide) (fun _ _ h => by rw [h.1]; rfl) (fun _ U U' hal hh h => ⟨h.1, h.2.1.mv hal hh, h.2.2.1, h.2.2.2.1.there hal hh, h.2.2.2.2⟩) (fun r U U' V V' h1 hal h2 h => XT.PureE.mv r U U' V V' h1 hal h2 h) ?_
  intro p e s m args below meth c s₁ X0 hexec hbytes hml hret hlk hnm hown hh0 W hP
  obtain ⟨rfl, hV, hu, s1, rf⟩ := hP
  have v31 := hV.2.2.2
  have hi : i < V.slots.size := (Array.getElem?_eq_some_iff.mp hu).1
  have c1 : Steps p.tables e below (s₁.setTop (entryFrame m #[.ref t, .int (Int32.ofNat i)] 2)) (s₁.setTop (mkF m 0 #[.val (.ref t), .val (.int (Int32.ofNat i))] [])) := entry rfl
  have c2 : Steps p.tables e below (s₁.setTop (entryFrame m #[.ref t, .int (Int32.ofNat i)] 2)) (s₁.setTop (mkF m 3 #[.val (.ref t), .val (.int (Int32.ofNat i))] [.int (Int32.ofNat V.slots.size), .int (Int32.ofNat i)])) := c1.trans (by
    refine XS.iloadN X0.here hexec rfl (hb hbytes d0) rfl ?_
    refine XS.aloadN X0.here hexec rfl (hb hbytes d1) rfl rfl ?_
    refine X0.alen hexec (hV.mv X0.warmed.alike hh0) rfl rfl (hb hbytes d2) ?_
    exact Steps.refl _)
  obtain ⟨v3, T3, X3, E3, g3⟩ := X0.callS hexec (JO.Str_checkIndex.law l (Int32.ofNat i) (Int32.ofNat V.slots.size) fm) hown (wks W (staticW "java/lang/StringLatin1" 9 JO.Str_checkIndex.yN)) (wk W JO.Str_checkIndex.tab) (W := 0) (Nat.le_of_ble_eq_true rfl) (Nat.le_of_ble_eq_true rfl) (Nat.le_refl _) (Nat.le_refl _) (g := (mkF m 3 #[.val (.ref t), .val (.int (Int32.ofNat i))] [.int (Int32.ofNat V.slots.size), .int (Int32.ofNat i)])) rfl (by rw [hml]; rfl) c2 (argsL := [.int (Int32.ofNat i), .int (Int32.ofNat V.slots.size)]) (rest := []) rfl rfl (by show 2 * 0 + 0 ≤ _; decide) (hb hbytes d3) (⟨rfl, rf, s1.there X0.warmed.alike hh0, Int32.ofNat_not_neg (by omega), lt32 v31 hi⟩)
  obtain ⟨rfl, q3⟩ := E3
  have hh3 := q3.trans hh0
  have c4 : Steps p.tables e below (s₁.setTop (entryFrame m #[.ref t, .int (Int32.ofNat i)] 2)) (T3.setTop (mkF m 14 #[.val (.ref t), .val (.int (Int32.ofNat i))] [.int (chr8 u)])) := Steps.trans g3 (by
    refine XS.aloadN X3.here hexec rfl (hb hbytes d6) rfl rfl ?_
    refine XS.iloadN X3.here hexec rfl (hb hbytes d7) rfl ?_
    refine X3.aget hexec (hV.mv X3.warmed.alike hh3) rfl hu rfl rfl (hb hbytes d8) ?_
    refine sipushV X3.here hexec rfl 255 (hb hbytes d9) (by decide) ?_
    refine XS.iand X3.here hexec rfl (hb hbytes d12) rfl ?_
    refine i2c X3.here hexec rfl (hb hbytes d13) rfl ?_
    exact Steps.refl _)
  exact ⟨T3, some (.int (chr8 u)), _, _, _, X3, rfl, rfl, rfl, (fun h => by cases h), ⟨rfl, hh3⟩, fun fs hl => c4.trans (X3.ireturnOut hexec hret (narrow_c _) (Or.inr (Or.inr (Or.inr (Or.inl rfl)))) (hb hbytes d14) hl)⟩
end LChA
end StrChars
namespace StrChars.Road
open Jvm Sem ClassFile Op Lib Jvm.Stand Jvm.Free Jvm.Free.XT
open Jvm.Lib.Cold (StaticIs)
theorem consq {a : Array Value} {s : State} {c : Jvm.Cond} {L : List Jvm.Cond} (h0 : c.before a s = true) (h : ∀ w ∈ L, w.before a s = true) : ∀ w ∈ c :: L, w.before a s = true := fun w hw => (List.mem_cons.mp hw).elim (fun e => e ▸ h0) (h w)
/-- the words of String.length(), either coding -/
abbrev wordsLen : List Jvm.Cond := [.code Len.yN Len.yB 1 (some .int), .initialized ST, .fieldLink ST 9 ST "value" "[B", .fieldLink ST 38 ST "COMPACT_STRINGS" "Z", .fieldLink ST 15 ST "coder" "B", .code Cdr.yN Cdr.yB 1 (some .byte), .methodLink ST 335 Cdr.yN, .declares Cdr.yN, .selects ST Cdr.yN Cdr.yN, .instanceMethod Cdr.yN]
theorem tabLen_of {a : Array Value} {s : State} (h : ∀ w ∈ wordsLen, w.before a s = true) : Len.tab.before a s = true := by
  have hc : Cdr.tab.before a s = true := unparts (wk h (.code Cdr.yN Cdr.yB 1 (some .byte))) (wks h (.initialized Cdr.yN.cls :: Cdr.site))
  have q := consq hc h
  exact unparts (wk q (.code Len.yN Len.yB 1 (some .int))) (wks q (.initialized Len.yN.cls :: Len.site))
theorem movedLen {Z s : State} {a0 args : Array Value} (hZ : Z.Warmed39 s.vm) (hw : ∀ d ∈ wordsLen, d.before a0 Z = true) : ∀ d ∈ wordsLen, d.before args s = true := fun d hd => by
  have q := hw d hd
  have t : ∀ d ∈ wordsLen, d = .arrayClass .byte ∨ (d.onTables && d.keepsFace) = true := by decide +kernel
  rcases t d hd with rfl | t
  · exact RoadKit.mvA hZ q
  · exact RoadKit.mv hZ q t
/-- the bytes of the chars cs, low before high -/
def wideBytes : List Int32 → List Value
  | [] => []
  | c :: cs => .int (lo8 c) :: .int (hi8 c) :: wideBytes cs
theorem wide_lo (d : Value) : ∀ (cs : List Int32) (j : Nat), j < cs.length → (wideBytes cs).getD (2 * j) d = .int (lo8 (cs.getD j 0))
  | [], j, h => absurd h (Nat.not_lt_zero j)
  | c :: cs, 0, _ => rfl
  | c :: cs, j + 1, h => by
    have q := wide_lo d cs j (by simpa using h)
    rw [show 2 * (j + 1) = 2 * j + 1 + 1 from by omega]
    simpa [wideBytes] using q
theorem wide_hi (d : Value) : ∀ (cs : List Int32) (j : Nat), j < cs.length → (wideBytes cs).getD (2 * j + 1) d = .int (hi8 (cs.getD j 0))
  | [], j, h => absurd h (Nat.not_lt_zero j)
  | c :: cs, 0, _ => rfl
  | c :: cs, j + 1, h => by
    have q := wide_hi d cs j (by simpa using h)
    rw [show 2 * (j + 1) + 1 = 2 * j + 1 + 1 + 1 from by omega]
    simpa [wideBytes] using q
theorem low_at (d : Value) (cs : List Int32) (j : Nat) (h : j < cs.length) : (cs.map fun c => Value.int (lo8 c)).getD j d = .int (lo8 (cs.getD j 0)) := by
  simp [List.getD_eq_getElem?_getD, h]
/-- an array of N2 bytes vs codes the chars cs by the coder cd -/
def CodA (cs : List Int32) (cd N2 : Int32) (vs : List Value) : Prop := (cd = 0 ∧ N2 = Int32.ofNat cs.length ∧ vs = (cs.map fun c => Value.int (lo8 c)) ∧ ∀ c ∈ cs, ¬ 255 < c) ∨ (cd = 1 ∧ N2 = Int32.ofNat (2 * cs.length) ∧ vs = wideBytes cs ∧ ∃ c ∈ cs, 255 < c)
theorem CodA.cod {cs : List Int32} {cd N2 : Int32} {vs : List Value} {V : Cell} (h : CodA cs cd N2 vs) (hn : 2 * cs.length < 2 ^ 31) (hs : V.slots.size = N2.toNatClampNeg) (hv : RoadKit.Has V vs (.int 0)) : Cod cd cs.length (fun j => cs.getD j 0) V := by
  rcases h with ⟨rfl, rfl, rfl, h⟩ | ⟨rfl, rfl, rfl, c, hc, hw⟩
  · rw [n32 (by omega)] at hs
    exact Or.inl ⟨rfl, hs, fun j hj => ⟨by rw [hv j (by omega), low_at _ _ _ hj], by
      have e : cs.getD j 0 = cs[j] := by simp [List.getD_eq_getElem?_getD, hj]
      show ¬ 255 < cs.getD j 0
      rw [e]; exact h _ (List.getElem_mem _)⟩⟩
  · rw [n32 (by omega)] at hs
    obtain ⟨j, hj, rfl⟩ := List.getElem_of_mem hc
    exact Or.inr ⟨rfl, hs, fun j hj => ⟨by rw [hv _ (by omega), wide_lo _ _ _ hj], by rw [hv _ (by omega), wide_hi _ _ _ hj]⟩, j, hj, by
      have e : cs.getD j 0 = cs[j] := by simp [List.getD_eq_getElem?_getD, hj]
      show 255 < cs.getD j 0
      rw [e]; exact hw⟩
/-- an object of exactly java/lang/String, its two fields found: as the laws ask it -/
theorem strObj {Z U : State} {a0 : Array Value} {kI : Nat} (wi : (Jvm.Cond.instantiable ST kI).before a0 Z = true) (al : Z.vm.Alike U.vm) {x : Addr} {v0 c0 : Value} (E : RoadKit.Exa Z U.heap x ST) (V : RoadKit.Fld Z U.heap x ST "value" "[B" v0) (C : RoadKit.Fld Z U.heap x ST "coder" "B" c0) :
    ∃ (D : Cell) (fV fC : Field), Blank ST x D U ∧ Found ST "value" "[B" fV U ∧ Found ST "coder" "B" fC U ∧ D.slots[fV.slot]? = some v0 ∧ D.slots[fC.slot]? = some c0 ∧ RoadKit.slotOf Z ST "value" "[B" = fV.slot ∧ RoadKit.slotOf Z ST "coder" "B" = fC.slot := by
  obtain ⟨D, cfV, kV, iV, fV, hD, gV, stV, knV, obV, asV, slV⟩ := V
  obtain ⟨D', cfC, kC, iC, fC, hD', gC, stC, -, -, asC, slC⟩ := C
  cases hD.symm.trans hD'
  obtain ⟨D2, kD, e1, e2, e3, e4, e5⟩ := E
  cases hD.symm.trans e1
  obtain ⟨c2, k2, i1, i2, i3, -⟩ := Cond.instantiable_spec wi
  cases e2.symm.trans i1
  cases e3.symm.trans i2
  obtain ⟨kU, u1, u2⟩ := al.2.2 _ _ e3
  exact ⟨D, fV, fC, ⟨hD, ⟨knV, fun q hq => by rw [hq] at obV; cases obV⟩, by rw [al.findClass]; exact e2, kU, u1, by rw [u2]; exact i3, by rw [u2]; exact e5 i3⟩, ⟨SBG.found_only al ⟨cfV, kV, iV, gV⟩, stV⟩, ⟨SBG.found_only al ⟨cfC, kC, iC, gC⟩, stC⟩, slV, slC, by simp [RoadKit.slotOf, gV], by simp [RoadKit.slotOf, gC]⟩
theorem sta_is {Z U : State} (al : Z.vm.Alike U.vm) {C n d : String} {v : Value} (S : RoadKit.Sta Z U.heap C n d v) : StaticIs U C n d v := by
  obtain ⟨cfS, iS, kS, fS, st, cS, t1, t2, t3, t4, t5, t6, t7⟩ := S
  exact StaticIs.there (s := { Z with heap := U.heap }) ⟨cfS, iS, kS, fS, st, cS, t1, t2, t3, t4, t5, (fun q => by rw [q] at t6; cases t6), t7⟩ al rfl
/-- **length() OF SUCH A STRING** -/
theorem lenW {p : Program} {l : Launch} {e : Env} {R : Room} {s : State} {args : Array Value} {below : List Frame} {len W : Nat} {Z : State} {a0 : Array Value} {h : Heap} (hZ : Z.Warmed39 s.vm) (hw : ∀ d ∈ wordsLen, d.before a0 Z = true) {kI : Nat} (wi : (Jvm.Cond.instantiable ST kI).before a0 Z = true)
    {x t : Addr} {kb : ClassId} {cs : List Int32} {cd N2 z : Int32} {vs : List Value} (E : RoadKit.Exa Z h x ST) (V : RoadKit.Fld Z h x ST "value" "[B" (.ref t)) (C : RoadKit.Fld Z h x ST "coder" "B" (.int cd)) (K : RoadKit.Arv Z h t kb .byte N2 vs (.int 0)) (hc : CodA cs cd N2 vs) (hb : ∀ c ∈ cs, ¬ c < 0 ∧ ¬ (65535 : Int32) < c)
    (S : RoadKit.Sta Z h ST "COMPACT_STRINGS" "Z" (.int z)) (hz : ¬ z = 0) (l2 : cs.length ≤ 4000) (hfr : 2 ≤ R.frames) (hlo : W + 25 ≤ R.locals) :
    Back l R p e below s args (⟨"java/lang/String", "length", "()I"⟩ : MethodName) len W (fun P a => a = #[.ref x] ∧ P.U.heap = h ∧ P.cells + 0 ≤ R.cells ∧ P.slots + 0 ≤ R.slots)
      (fun P _ v B => ∃ L, (v = some (.int (Int32.ofNat cs.length)) ∧ L = [] ∧ B.U.heap = h) ∧ B.locs = P.locs ++ L ∧ B.cells = P.cells + 0 ∧ B.slots = P.slots + 0) := by
  obtain ⟨A, K1, K2, K3, K4, K5, K6⟩ := K
  have hcod := hc.cod (by omega) K3 K5
  intro m meth c P g ig mk a X hg hsize hdg hW hn hp'
  obtain ⟨rfl, rfl, r1, r2⟩ := hp'
  have al : Z.vm.Alike P.U.vm := hZ.alike.trans X.warmed.alike
  obtain ⟨D, fV, fC, hB, F1, F2, g1, g2, -, -⟩ := strObj wi al E V C
  have hx : Txt x t A cd cs.length (fun j => cs.getD j 0) P.U := ⟨⟨_, hB.2.2.1, D, hB.1, rfl, by cases q : D.vm <;> first | rfl | exact absurd q (hB.2.1.2 _)⟩, Has.of hB F1 g1, Has.of hB F2 g2, ⟨K1.1, State.isArrayOf_alike al K1.2.1, K1.2.2, by rcases hcod with ⟨-, q, -⟩ | ⟨-, q, -⟩ <;> omega⟩, hcod, fun j hj => by
    have e : cs.getD j 0 = cs[j] := by simp [List.getD_eq_getElem?_getD, hj]
    show ¬ cs.getD j 0 < 0 ∧ ¬ 65535 < cs.getD j 0
    rw [e]; exact hb _ (List.getElem_mem _)⟩
  obtain ⟨v, B, X', ⟨⟨hv, hh⟩, hl, hk, hs⟩, st⟩ := Len.pays x t A cd cs.length (fun j => cs.getD j 0) z (tabLen_of (movedLen hZ hw)) hfr hlo m meth c P g ig mk _ X hg hsize hdg hW hn ⟨r1, r2, rfl, hx, sta_is al S, hz⟩
  exact ⟨v, B, X', ⟨[], ⟨hv, rfl, hh⟩, hl, hk, hs⟩, st⟩
end StrChars.Road
namespace StrChars
open Jvm Sem ClassFile Op Lib Jvm.Stand Jvm.Free.XT Jvm.Free.ALB Jvm.Free.JM Jvm.Free
open Jvm.Lib.Cold (StaticIs)
namespace Emp
def yN : MethodName := ⟨"java/lang/String", "isEmpty", "()Z"⟩
abbrev yB : ByteArray := jdk_42_method_55_code
theorem d0 : decode yB 0 = .ok (.aload_n 0, 1) := by decide +kernel
theorem d1 : decode yB 1 = .ok (.getfield 9, 3) := by decide +kernel
theorem d4 : decode yB 4 = .ok (.arraylength, 1) := by decide +kernel
theorem d5 : decode yB 5 = .ok (.ifCond (.ne) 7, 3) := by decide +kernel
theorem d8 : decode yB 8 = .ok (.iconst 1, 1) := by decide +kernel
theorem d9 : decode yB 9 = .ok (.goto 4, 3) := by decide +kernel
theorem d12 : decode yB 12 = .ok (.iconst 0, 1) := by decide +kernel
theorem d13 : decode yB 13 = .ok (.ireturn, 1) := by decide +kernel
def site : List Cond := [.fieldLink "java/lang/String" 9 "java/lang/String" "value" "[B"]
def tab : Cond := tabOf yN yB 1 (some .boolean) site
def P (x t : Addr) (V : Cell) (cd : Int32) (n : Nat) (f : Nat → Int32) (args : Array Value) (s : State) : Prop := args = #[.ref x] ∧ Txt x t V cd n f s
def E (n : Nat) (r : Option Value) (s u : State) : Prop := XT.PureE (some (.int (if n = 0 then 1 else 0))) r s u
/-- isEmpty() of a String of n chars -/
theorem law (l : Launch) (x t : Addr) (V : Cell) (cd : Int32) (n : Nat) (f : Nat → Int32) : Law l yN 1 0 0 0 yB 1 (some .boolean) site (P x t V cd n f) (E n) [] 0 0 := by
  refine Law.of_walk (plainFor_of_name (by decide +kernel)) (by decide +kernel) (by decide +kernel) (by decide) (fun _ _ h => by rw [h.1]; rfl) (fun _ U U' hal hh h => ⟨h.1, h.2.mv hal hh⟩) (fun r U U' V V' h1 hal h2 h => XT.PureE.mv r U U' V V' h1 hal h2 h) ?_
  intro p e s m args below meth c s₁ X0 hexec hbytes hml hret hlk hnm hown hh0 W hP
  obtain ⟨rfl, hx⟩ := hP
  have v31 := hx.2.2.2.1.2.2.2
  have c1 : Steps p.tables e below (s₁.setTop (entryFrame m #[.ref x] 1)) (s₁.setTop (mkF m 1 #[.val (.ref x)] [.ref x])) := Steps.trans (entry rfl) (by
    show Steps p.tables e below (s₁.setTop (mkF m 0 #[.val (.ref x)] [])) _
    refine XS.aloadN X0.here hexec rfl (hb hbytes d0) rfl rfl ?_
    exact Steps.refl _)
  obtain ⟨T2, X2, q2, st2⟩ := X0.hget hexec hown (wk W (.fieldLink "java/lang/String" 9 "java/lang/String" "value" "[B")) (hx.mv X0.warmed.alike hh0).2.1 (g := (mkF m 1 #[.val (.ref x)] [.ref x])) rfl (rest := []) rfl (hb hbytes d1)
  have hh2 := q2.trans hh0
  have hx2 := hx.mv X2.warmed.alike hh2
  have c3 : Steps p.tables e below (s₁.setTop (entryFrame m #[.ref x] 1)) (T2.setTop (mkF m 5 #[.val (.ref x)] [.int (Int32.ofNat V.slots.size)])) := (c1.trans (st2 _ (Steps.refl _))).trans (by
    refine X2.alen hexec hx2.2.2.2.1 rfl rfl (hb hbytes d4) ?_
    exact Steps.refl _)
  have hz : V.slots.size = 0 ↔ n = 0 := by
    rcases hx.2.2.2.2.1 with ⟨-, q, -⟩ | ⟨-, q, -⟩ <;> omega
  by_cases h0 : n = 0
  · have c4 : Steps p.tables e below (s₁.setTop (entryFrame m #[.ref x] 1)) (T2.setTop (mkF m 13 #[.val (.ref x)] [.int 1])) := c3.trans (by
      refine XS.ifNo X2.here hexec rfl (hb hbytes d5) rfl (i0_ne_f (by rw [hz.mpr h0]; rfl)) ?_
      refine iconstV X2.here hexec rfl 1 (hb hbytes d8) (by decide) ?_
      refine XS.goto X2.here hexec rfl (pc0 := 9) rfl (hb hbytes d9) (by decide) rfl ?_
      exact Steps.refl _)
    exact ⟨T2, some (.int 1), _, _, _, X2, rfl, rfl, rfl, (fun h => by cases h), ⟨by rw [if_pos h0], hh2⟩, fun fs hl => c4.trans (X2.ireturnOut hexec hret rfl (Or.inr (Or.inl rfl)) (hb hbytes d13) hl)⟩
  · have c4 : Steps p.tables e below (s₁.setTop (entryFrame m #[.ref x] 1)) (T2.setTop (mkF m 13 #[.val (.ref x)] [.int 0])) := c3.trans (by
      refine XS.ifYes X2.here hexec rfl (pc0 := 5) rfl (hb hbytes d5) rfl (i0_ne_t (nz32 v31 (by omega))) (by decide) rfl ?_
      refine iconstV X2.here hexec rfl 0 (hb hbytes d12) (by decide) ?_
      exact Steps.refl _)
    exact ⟨T2, some (.int 0), _, _, _, X2, rfl, rfl, rfl, (fun h => by cases h), ⟨by rw [if_neg h0], hh2⟩, fun fs hl => c4.trans (X2.ireturnOut hexec hret rfl (Or.inr (Or.inl rfl)) (hb hbytes d13) hl)⟩
theorem pays {l : Launch} {R : Room} {p : Program} {e : Env} {below : List Frame} {s : State} {sargs : Array Value} {len W : Nat} (x t : Addr) (V : Cell) (cd : Int32) (n : Nat) (f : Nat → Int32) (htab : tab.before sargs s = true) (hfr : 1 ≤ R.frames) (hlo : W + 12 ≤ R.locals) :
    Back l R p e below s sargs yN len W (fun A₁ a₁ => A₁.cells + 0 ≤ R.cells ∧ A₁.slots + 0 ≤ R.slots ∧ P x t V cd n f a₁ A₁.U) (fun A₁ _ v₁ B₁ => E n v₁ A₁.U B₁.U ∧ B₁.locs = A₁.locs ++ [] ∧ B₁.cells = A₁.cells + 0 ∧ B₁.slots = A₁.slots + 0) :=
  (law l x t V cd n f).pays htab hfr (by omega)
end Emp
end StrChars
namespace StrChars.Road
open Jvm Sem ClassFile Op Lib Jvm.Stand Jvm.Free Jvm.Free.XT
open Jvm.Lib.Cold (StaticIs)
/-- the words of String.isEmpty() -/
abbrev wordsEmp : List Jvm.Cond := [.code Emp.yN Emp.yB 1 (some .boolean), .initialized ST, .fieldLink ST 9 ST "value" "[B"]
theorem tabEmp_of {a : Array Value} {s : State} (h : ∀ w ∈ wordsEmp, w.before a s = true) : Emp.tab.before a s = true := unparts (wk h (.code Emp.yN Emp.yB 1 (some .boolean))) (wks h (.initialized Emp.yN.cls :: Emp.site))
theorem movedEmp {Z s : State} {a0 args : Array Value} (hZ : Z.Warmed39 s.vm) (hw : ∀ d ∈ wordsEmp, d.before a0 Z = true) : ∀ d ∈ wordsEmp, d.before args s = true := fun d hd => by
  have t : ∀ d ∈ wordsEmp, (d.onTables && d.keepsFace) = true := by decide +kernel
  exact RoadKit.mv hZ (hw d hd) (t d hd)
/-- the road's facts of a String, as the laws ask it -/
theorem txt_of {Z U : State} {a0 : Array Value} {kI : Nat} (wi : (Jvm.Cond.instantiable ST kI).before a0 Z = true) (al : Z.vm.Alike U.vm) {x t : Addr} {kb : ClassId} {cs : List Int32} {cd N2 : Int32} {vs : List Value} (E : RoadKit.Exa Z U.heap x ST) (V : RoadKit.Fld Z U.heap x ST "value" "[B" (.ref t)) (C : RoadKit.Fld Z U.heap x ST "coder" "B" (.int cd)) (K : RoadKit.Arv Z U.heap t kb .byte N2 vs (.int 0)) (hc : CodA cs cd N2 vs) (hb : ∀ c ∈ cs, ¬ c < 0 ∧ ¬ (65535 : Int32) < c) (l2 : cs.length ≤ 4000) :
    ∃ A, Txt x t A cd cs.length (fun j => cs.getD j 0) U := by
  obtain ⟨A, K1, K2, K3, K4, K5, K6⟩ := K
  have hcod := hc.cod (by omega) K3 K5
  obtain ⟨D, fV, fC, hB, F1, F2, g1, g2, -, -⟩ := strObj wi al E V C
  exact ⟨A, ⟨_, hB.2.2.1, D, hB.1, rfl, by cases q : D.vm <;> first | rfl | exact absurd q (hB.2.1.2 _)⟩, Has.of hB F1 g1, Has.of hB F2 g2, ⟨K1.1, State.isArrayOf_alike al K1.2.1, K1.2.2, by rcases hcod with ⟨-, q, -⟩ | ⟨-, q, -⟩ <;> omega⟩, hcod, fun j hj => by
    have e : cs.getD j 0 = cs[j] := by simp [List.getD_eq_getElem?_getD, hj]
    show ¬ cs.getD j 0 < 0 ∧ ¬ 65535 < cs.getD j 0
    rw [e]; exact hb _ (List.getElem_mem _)⟩
/-- **isEmpty() OF SUCH A STRING** -/
theorem empW {p : Program} {l : Launch} {e : Env} {R : Room} {s : State} {args : Array Value} {below : List Frame} {len W : Nat} {Z : State} {a0 : Array Value} {h : Heap} (hZ : Z.Warmed39 s.vm) (hw : ∀ d ∈ wordsEmp, d.before a0 Z = true) {kI : Nat} (wi : (Jvm.Cond.instantiable ST kI).before a0 Z = true)
    {x t : Addr} {kb : ClassId} {cs : List Int32} {cd N2 : Int32} {vs : List Value} (E : RoadKit.Exa Z h x ST) (V : RoadKit.Fld Z h x ST "value" "[B" (.ref t)) (C : RoadKit.Fld Z h x ST "coder" "B" (.int cd)) (K : RoadKit.Arv Z h t kb .byte N2 vs (.int 0)) (hc : CodA cs cd N2 vs) (hb : ∀ c ∈ cs, ¬ c < 0 ∧ ¬ (65535 : Int32) < c) (l2 : cs.length ≤ 4000) (hfr : 1 ≤ R.frames) (hlo : W + 12 ≤ R.locals) :
    Back l R p e below s args (⟨"java/lang/String", "isEmpty", "()Z"⟩ : MethodName) len W (fun P a => a = #[.ref x] ∧ P.U.heap = h ∧ P.cells + 0 ≤ R.cells ∧ P.slots + 0 ≤ R.slots)
      (fun P _ v B => ∃ L, (v = some (.int (if cs.length = 0 then 1 else 0)) ∧ L = [] ∧ B.U.heap = h) ∧ B.locs = P.locs ++ L ∧ B.cells = P.cells + 0 ∧ B.slots = P.slots + 0) := by
  intro m meth c P g ig mk a X hg hsize hdg hW hn hp'
  obtain ⟨rfl, rfl, r1, r2⟩ := hp'
  have al : Z.vm.Alike P.U.vm := hZ.alike.trans X.warmed.alike
  obtain ⟨A, hx⟩ := txt_of wi al E V C K hc hb l2
  obtain ⟨v, B, X', ⟨⟨hv, hh⟩, hl, hk, hs⟩, st⟩ := Emp.pays x t A cd cs.length (fun j => cs.getD j 0) (tabEmp_of (movedEmp hZ hw)) hfr hlo m meth c P g ig mk _ X hg hsize hdg hW hn ⟨r1, r2, rfl, hx⟩
  exact ⟨v, B, X', ⟨[], ⟨hv, rfl, hh⟩, hl, hk, hs⟩, st⟩
end StrChars.Road
namespace StrChars
open Jvm Sem ClassFile Op Lib Jvm.Stand Jvm.Free.XT Jvm.Free.ALB Jvm.Free.JM Jvm.Free
open Jvm.Lib.Cold (StaticIs)
namespace ChN
def yN : MethodName := ⟨"java/lang/String", "charAt", "(I)C"⟩
abbrev yB : ByteArray := jdk_42_method_56_code
theorem d0 : decode yB 0 = .ok (.aload_n 0, 1) := by decide +kernel
theorem d1 : decode yB 1 = .ok (.invokevirtual 492, 3) := by decide +kernel
theorem d4 : decode yB 4 = .ok (.ifCond (.eq) 12, 3) := by decide +kernel
theorem d7 : decode yB 7 = .ok (.aload_n 0, 1) := by decide +kernel
theorem d8 : decode yB 8 = .ok (.getfield 9, 3) := by decide +kernel
theorem d11 : decode yB 11 = .ok (.iload_n 1, 1) := by decide +kernel
theorem d12 : decode yB 12 = .ok (.invokestatic 495, 3) := by decide +kernel
theorem d15 : decode yB 15 = .ok (.ireturn, 1) := by decide +kernel
def site : List Cond := [.fieldLink "java/lang/String" 9 "java/lang/String" "value" "[B", IsL.tab, LChA.tab] ++ virtW "java/lang/String" 492 "java/lang/String" IsL.yN IsL.yN ++ staticW "java/lang/String" 495 LChA.yN
def tab : Cond := tabOf yN yB 2 (some .char) site
def P (x t : Addr) (V : Cell) (n : Nat) (f : Nat → Int32) (z : Int32) (fm : Value) (i : Nat) (args : Array Value) (s : State) : Prop := args = #[.ref x, .int (Int32.ofNat i)] ∧ Txt x t V 0 n f s ∧ i < n ∧ StaticIs s "java/lang/String" "COMPACT_STRINGS" "Z" (.int z) ∧ ¬ z = 0 ∧ StaticIs s "jdk/internal/util/Preconditions" "SIOOBE_FORMATTER" "Ljava/util/function/BiFunction;" fm ∧ fm.isRef = true
def E (f : Nat → Int32) (i : Nat) (r : Option Value) (s u : State) : Prop := XT.PureE (some (.int (f i))) r s u
/-- charAt(i) of a Latin-1 String of n chars, i < n: f i -/
theorem law (l : Launch) (x t : Addr) (V : Cell) (n : Nat) (f : Nat → Int32) (z : Int32) (fm : Value) (i : Nat) : Law l yN 2 1 3 40 yB 2 (some .char) site (P x t V n f z fm i) (E f i) [] 0 0 := by
  refine Law.of_walk (plainFor_of_name (by decide +kernel)) (by decide +kernel) (by decide +kernel) (by decide) (fun _ _ h => by rw [h.1]; rfl) (fun _ U U' hal hh h => ⟨h.1, h.2.1.mv hal hh, h.2.2.1, h.2.2.2.1.there hal hh, h.2.2.2.2.1, h.2.2.2.2.2.1.there hal hh, h.2.2.2.2.2.2⟩) (fun r U U' V V' h1 hal h2 h => XT.PureE.mv r U U' V V' h1 hal h2 h) ?_
  intro p e s m args below meth c s₁ X0 hexec hbytes hml hret hlk hnm hown hh0 W hP
  obtain ⟨rfl, hx, hi, s1, hz, s3, rf⟩ := hP
  have v31 := hx.2.2.2.1.2.2.2
  have hr := hx.2.2.2.2.2 i hi
  have hx0 := hx.mv X0.warmed.alike hh0
  have c1 : Steps p.tables e below (s₁.setTop (entryFrame m #[.ref x, .int (Int32.ofNat i)] 2)) (s₁.setTop (mkF m 1 #[.val (.ref x), .val (.int (Int32.ofNat i))] [.ref x])) := Steps.trans (entry rfl) (by
    show Steps p.tables e below (s₁.setTop (mkF m 0 #[.val (.ref x), .val (.int (Int32.ofNat i))] [])) _
    refine XS.aloadN X0.here hexec rfl (hb hbytes d0) rfl rfl ?_
    exact Steps.refl _)
  obtain ⟨v2, T2, X2, E2, g2⟩ := X0.callV hexec (IsL.law l x 0 z) hown (wks W (virtW "java/lang/String" 492 "java/lang/String" IsL.yN IsL.yN)) rfl (by decide) (wk W IsL.tab) (W := 0) (Nat.le_of_ble_eq_true rfl) (Nat.le_of_ble_eq_true rfl) (Nat.le_refl _) (Nat.le_refl _) (hx0.1.fc X0.warmed.alike) hx0.1.is (g := (mkF m 1 #[.val (.ref x), .val (.int (Int32.ofNat i))] [.ref x])) rfl (by rw [hml]; rfl) c1 (argsL := []) (rest := []) rfl rfl (by show 2 * 0 + 0 ≤ _; decide) (hb hbytes d1) (⟨rfl, hx0.2.2.1, hx.2.2.2.2.1.cd, s1.there X0.warmed.alike hh0, hz⟩)
  obtain ⟨rfl, q2⟩ := E2
  have hh2 := q2.trans hh0
  have hx2 := hx.mv X2.warmed.alike hh2
  obtain ⟨-, k1, k2⟩ | ⟨k0, -⟩ := hx.2.2.2.2.1
  · have c3 : Steps p.tables e below (s₁.setTop (entryFrame m #[.ref x, .int (Int32.ofNat i)] 2)) (T2.setTop (mkF m 8 #[.val (.ref x), .val (.int (Int32.ofNat i))] [.ref x])) := Steps.trans g2 (by
      refine XS.ifNo X2.here hexec rfl (hb hbytes d4) rfl (i0_eq_f (by decide)) ?_
      refine XS.aloadN X2.here hexec rfl (hb hbytes d7) rfl rfl ?_
      exact Steps.refl _)
    obtain ⟨T4, X4, q4, st4⟩ := X2.hget hexec hown (wk W (.fieldLink "java/lang/String" 9 "java/lang/String" "value" "[B")) hx2.2.1 (g := (mkF m 8 #[.val (.ref x), .val (.int (Int32.ofNat i))] [.ref x])) rfl (rest := []) rfl (hb hbytes d8)
    have hh4 := q4.trans hh2
    have c5 : Steps p.tables e below (s₁.setTop (entryFrame m #[.ref x, .int (Int32.ofNat i)] 2)) (T4.setTop (mkF m 12 #[.val (.ref x), .val (.int (Int32.ofNat i))] [.int (Int32.ofNat i), .ref t])) := (c3.trans (st4 _ (Steps.refl _))).trans (by
      refine XS.iloadN X4.here hexec rfl (hb hbytes d11) rfl ?_
      exact Steps.refl _)
    obtain ⟨v6, T6, X6, E6, g6⟩ := X4.callS hexec (LChA.law l t V i (lo8 (f i)) fm) hown (wks W (staticW "java/lang/String" 495 LChA.yN)) (wk W LChA.tab) (W := 0) (Nat.le_of_ble_eq_true rfl) (Nat.le_of_ble_eq_true rfl) (Nat.le_refl _) (Nat.le_refl _) (g := (mkF m 12 #[.val (.ref x), .val (.int (Int32.ofNat i))] [.int (Int32.ofNat i), .ref t])) rfl (by rw [hml]; rfl) c5 (argsL := [.ref t, .int (Int32.ofNat i)]) (rest := []) rfl rfl (by show 2 * 0 + 0 ≤ _; decide) (hb hbytes d12) (⟨rfl, hx.2.2.2.1.mv X4.warmed.alike hh4, (k2 i hi).1, s3.there X4.warmed.alike hh4, rf⟩)
    obtain ⟨rfl, q6⟩ := E6
    rw [chr8_lo8 hr.1 (k2 i hi).2] at g6
    exact ⟨T6, some (.int (f i)), _, _, _, X6, rfl, rfl, rfl, (fun h => by cases h), ⟨rfl, q6.trans hh4⟩, fun fs hl => Steps.trans g6 (X6.ireturnOut hexec hret (narrow_ch hr.1 hr.2) (Or.inr (Or.inr (Or.inr (Or.inl rfl)))) (hb hbytes d15) hl)⟩
  · exact absurd k0 (by decide)
theorem pays {l : Launch} {R : Room} {p : Program} {e : Env} {below : List Frame} {s : State} {sargs : Array Value} {len W : Nat} (x t : Addr) (V : Cell) (n : Nat) (f : Nat → Int32) (z : Int32) (fm : Value) (i : Nat) (htab : tab.before sargs s = true) (hfr : 4 ≤ R.frames) (hlo : W + 53 ≤ R.locals) :
    Back l R p e below s sargs yN len W (fun A₁ a₁ => A₁.cells + 0 ≤ R.cells ∧ A₁.slots + 0 ≤ R.slots ∧ P x t V n f z fm i a₁ A₁.U) (fun A₁ _ v₁ B₁ => E f i v₁ A₁.U B₁.U ∧ B₁.locs = A₁.locs ++ [] ∧ B₁.cells = A₁.cells + 0 ∧ B₁.slots = A₁.slots + 0) :=
  (law l x t V n f z fm i).pays htab hfr (by omega)
end ChN
end StrChars
namespace StrChars.Road
open Jvm Sem ClassFile Op Lib Jvm.Stand Jvm.Free Jvm.Free.XT
open Jvm.Lib.Cold (StaticIs)
/-- the words of String.charAt(int), the Latin-1 road alone -/
abbrev wordsChN : List Jvm.Cond := [.code ChN.yN ChN.yB 2 (some .char), .initialized ST, .fieldLink ST 9 ST "value" "[B", .fieldLink ST 38 ST "COMPACT_STRINGS" "Z", .fieldLink ST 15 ST "coder" "B", .code IsL.yN IsL.yB 1 (some .boolean), .methodLink ST 492 IsL.yN, .declares IsL.yN, .selects ST IsL.yN IsL.yN, .instanceMethod IsL.yN,
  .methodLink ST 495 LChA.yN, .static LChA.yN, .code LChA.yN LChA.yB 2 (some .char), .initialized "java/lang/StringLatin1", .methodLink "java/lang/StringLatin1" 9 JO.Str_checkIndex.yN, .static JO.Str_checkIndex.yN, .code JO.Str_checkIndex.yN JO.Str_checkIndex.yB 2 none,
  .fieldLink ST 1053 "jdk/internal/util/Preconditions" "SIOOBE_FORMATTER" "Ljava/util/function/BiFunction;", .methodLink ST 1059 JC.PreCheck.yN, .static JC.PreCheck.yN, .code JC.PreCheck.yN JC.PreCheck.yB 3 (some .int), .initialized "jdk/internal/util/Preconditions"]
theorem tabChN_of {a : Array Value} {s : State} (h : ∀ w ∈ wordsChN, w.before a s = true) : ChN.tab.before a s = true := by
  have hp : JC.PreCheck.tab.before a s = true := unparts (wk h (.code JC.PreCheck.yN JC.PreCheck.yB 3 (some .int))) (wks h (.initialized JC.PreCheck.yN.cls :: JC.PreCheck.site))
  have qk := consq hp h
  have hk : JO.Str_checkIndex.tab.before a s = true := unparts (wk qk (.code JO.Str_checkIndex.yN JO.Str_checkIndex.yB 2 none)) (wks qk (.initialized JO.Str_checkIndex.yN.cls :: JO.Str_checkIndex.site))
  have ql := consq hk h
  have hl : LChA.tab.before a s = true := unparts (wk ql (.code LChA.yN LChA.yB 2 (some .char))) (wks ql (.initialized LChA.yN.cls :: LChA.site))
  have hi : IsL.tab.before a s = true := unparts (wk h (.code IsL.yN IsL.yB 1 (some .boolean))) (wks h (.initialized IsL.yN.cls :: IsL.site))
  have q := consq hi (consq hl h)
  exact unparts (wk q (.code ChN.yN ChN.yB 2 (some .char))) (wks q (.initialized ChN.yN.cls :: ChN.site))
theorem movedChN {Z s : State} {a0 args : Array Value} (hZ : Z.Warmed39 s.vm) (hw : ∀ d ∈ wordsChN, d.before a0 Z = true) : ∀ d ∈ wordsChN, d.before args s = true := fun d hd => by
  have t : ∀ d ∈ wordsChN, (d.onTables && d.keepsFace) = true := by decide +kernel
  exact RoadKit.mv hZ (hw d hd) (t d hd)
/-- **charAt(i) OF A LATIN-1 STRING**, i < n: the char -/
theorem chN {p : Program} {l : Launch} {e : Env} {R : Room} {s : State} {args : Array Value} {below : List Frame} {len W : Nat} {Z : State} {a0 : Array Value} {h : Heap} (hZ : Z.Warmed39 s.vm) (hw : ∀ d ∈ wordsChN, d.before a0 Z = true) {kI : Nat} (wi : (Jvm.Cond.instantiable ST kI).before a0 Z = true)
    {x t : Addr} {kb : ClassId} {cs : List Int32} {N2 z : Int32} {vs : List Value} {fm : Value} {i : Nat} {j : Int32} (E : RoadKit.Exa Z h x ST) (V : RoadKit.Fld Z h x ST "value" "[B" (.ref t)) (C : RoadKit.Fld Z h x ST "coder" "B" (.int 0)) (K : RoadKit.Arv Z h t kb .byte N2 vs (.int 0)) (hc : CodA cs 0 N2 vs) (hb : ∀ c ∈ cs, ¬ c < 0 ∧ ¬ (65535 : Int32) < c)
    (S : RoadKit.Sta Z h ST "COMPACT_STRINGS" "Z" (.int z)) (hz : ¬ z = 0) (F : RoadKit.Sta Z h "jdk/internal/util/Preconditions" "SIOOBE_FORMATTER" "Ljava/util/function/BiFunction;" fm) (rf : fm.isRef = true) (l2 : cs.length ≤ 4000) (hi : i < cs.length) (hj : j = Int32.ofNat i) (hfr : 4 ≤ R.frames) (hlo : W + 53 ≤ R.locals) :
    Back l R p e below s args (⟨"java/lang/String", "charAt", "(I)C"⟩ : MethodName) len W (fun P a => a = #[.ref x, .int j] ∧ P.U.heap = h ∧ P.cells + 0 ≤ R.cells ∧ P.slots + 0 ≤ R.slots)
      (fun P _ v B => ∃ L, (v = some (.int (cs.getD i 0)) ∧ L = [] ∧ B.U.heap = h) ∧ B.locs = P.locs ++ L ∧ B.cells = P.cells + 0 ∧ B.slots = P.slots + 0) := by
  subst hj
  intro m meth c P g ig mk a X hg hsize hdg hW hn hp'
  obtain ⟨rfl, rfl, r1, r2⟩ := hp'
  have al : Z.vm.Alike P.U.vm := hZ.alike.trans X.warmed.alike
  obtain ⟨A, hx⟩ := txt_of wi al E V C K hc hb l2
  obtain ⟨v, B, X', ⟨⟨hv, hh⟩, hl, hk, hs⟩, st⟩ := ChN.pays x t A cs.length (fun j => cs.getD j 0) z fm i (tabChN_of (movedChN hZ hw)) hfr hlo m meth c P g ig mk _ X hg hsize hdg hW hn ⟨r1, r2, rfl, hx, hi, sta_is al S, hz, sta_is al F, rf⟩
  exact ⟨v, B, X', ⟨[], ⟨hv, rfl, hh⟩, hl, hk, hs⟩, st⟩
end StrChars.Road
end Jvm.Pilot.@@N@@

namespace Jvm.Pilot.@@N@@.Own
open Jvm Jvm.ClassFile Sem Op Lib Jvm.Free Jvm.Stand Jvm.LawKit Jvm.RoadKit Bundle
section S
variable {b : Bool} {p : Program} {l : Launch} {e : Env} {R : Room} {s : State} {m : MethodId} {args : Array Value} {below : List Frame} {meth : Method} {c : Code} {Z : State} {EL : List (String × Nat)} {own : String}
  {Q : Option Value → Heap → List Loc → List Addr → Prop} {SL : List Addr} {h : Heap} {locs : List Loc} {cells slots : Nat} {bytes : ByteArray} {mx : Nat} {ret : Option FieldType} {nm : String} {a0 : Array Value}
theorem Old.le {n0 : Nat} (X : Old Z n0 h) : n0 ≤ h.size := X.1 ▸ X.2.1
theorem Old.base {n0 : Nat} (X : Old Z n0 h) : n0 = Z.heap.size := X.1.symm
theorem strD : parseMethodDescriptor "([C)V" = some ⟨[.array .char], none⟩ := by decide +kernel
/-- new String(char[]) behind 'new', 'dup', 'aload': 1 to 4,000 chars, each 0 to 255 -/
theorem Go.strInit (K : Kx p c meth bytes mx ret nm) {pc pc' index : Nat} {Ls : Array Slot} {S : List Value} (w1 : (Jvm.Cond.methodLink own index ⟨"java/lang/String", "<init>", "([C)V"⟩).before a0 Z = true) (w2 : (Jvm.Cond.instanceMethod ⟨"java/lang/String", "<init>", "([C)V"⟩).before a0 Z = true)
    (hws : ∀ d ∈ StrChars.Road.words, d.before a0 Z = true) {kI : Nat} (wi : (Jvm.Cond.instantiable "java/lang/String" kI).before a0 Z = true) {x bA : Addr} {kC : ClassId} {cs : List Int32} {dv v0 c0 : Value} {z N : Int32} {n n0 : Nat} (X : Old Z n0 h) (hx0 : n0 ≤ x)
    (E : Exa Z h x "java/lang/String") (V : Fld Z h x "java/lang/String" "value" "[B" v0) (C : Fld Z h x "java/lang/String" "coder" "B" c0) (A : Arv Z h bA kC .char N (cs.map Value.int) dv) (St : Sta Z Z.heap "java/lang/String" "COMPACT_STRINGS" "Z" (.int z)) (hz : ¬ z = 0)
    (hn : cs.length = n) (hN : N = Int32.ofNat n) (l0 : 0 < n) (l2 : n ≤ 4000) (hp : ∀ c ∈ cs, ¬ c < 0 ∧ ¬ (255 : Int32) < c) (hs : x ∈ SL) (d : Dec bytes pc (.invokespecial index) 3 pc') (hsz : Ls.size = mx) (hf : 4 ≤ R.frames) (hl : (S.map fun v => v.category).sum + 65 ≤ R.locals) (hcl : cells + 1 ≤ R.cells) (hsl : slots + n ≤ R.slots)
    (r : ∀ (h' : Heap) (L : List Loc) (t : Addr) (kb : ClassId), Fr n0 L → Keep h h' [x] → Old Z n0 h' → Exa Z h' x "java/lang/String" → Fld Z h' x "java/lang/String" "coder" "B" (.int 0) → n0 ≤ t → h.size ≤ t → Fld Z h' x "java/lang/String" "value" "[B" (.ref t) → Arv Z h' t kb .byte N ((cs.map (fun c => c.toInt8.toInt32)).map Value.int) (.int 0) →
      Go b p l e R s m args below meth c Z EL own Q SL (mkF m pc' Ls S) h' (locs ++ L) (cells + 1) (slots + n)) :
    Go b p l e R s m args below meth c Z EL own Q SL (mkF m pc Ls (.ref bA :: .ref x :: S)) h locs cells slots := by
  obtain ⟨d1, rfl⟩ := d
  refine Go.callB (as' := #[.ref x, .ref bA]) (y := ⟨"java/lang/String", "<init>", "([C)V"⟩) (kc := 1) (ks := n) (W := (S.map fun v => v.category).sum) (Qc := fun v h' L => StrChars.Road.QV Z x N (cs.map (fun c => c.toInt8.toInt32)) h n0 v h' L) (ws := [x]) K
    (Inv.special (argsL := [.ref bA]) (bytesY := StrChars.New1.yB) (maxL := 2) K.1 rfl w1 w2 (hws _ (List.mem_cons_self ..)) (by decide) (lenOf strD rfl) (hb K.2.1 d1))
    (fun s' hZ => StrChars.Road.backV hZ hws wi hx0 (Old.le X) E V C A (St.ext X.2) hz hn hN l0 l2 hp rfl hf hl) d1 hsz (Nat.le_refl _) hcl hsl (fun v h' L q => q.2.2.1) (fun y q => by cases List.mem_singleton.mp q; exact Sf.mem hs) ?_
  rintro v h' L ⟨rfl, q2, q3, q4, q5, t, kb, q6, q7, q8, q9, q10⟩
  exact r h' L t kb q2 q3 (X.keep q3 fun y q => by cases List.mem_singleton.mp q; exact hx0) q4 q5 q6 q7 q9 q10
end S
end Jvm.Pilot.@@N@@.Own
namespace Jvm.Pilot.@@N@@.Own
open Jvm Jvm.ClassFile Sem Op Lib Jvm.Free Jvm.Stand Jvm.LawKit Jvm.RoadKit Bundle
theorem pad_rep' (n : Nat) {dv : Value} : ∀ i, (List.replicate n dv).getD i dv = ([] : List Value).getD i dv := fun i => by
  have q := pad_rep [] dv n i
  simpa using q
theorem Fr.s {k : Nat} {L : List Loc} {a : Addr} {i : Nat} (N : Fr k L) (q : k ≤ a) : Fr k (L ++ [⟨a, i⟩]) := N.app fun y hy => by cases List.mem_singleton.mp hy; exact q
theorem nar_c8 (t : Int32) : nar .char ((Int32.toUInt32 (t &&& 255)).toUInt16.toUInt32.toInt32) = t &&& 255 := by simp only [nar, i2c_mask]
theorem c8 (t : Int32) : (Int32.toUInt32 (t &&& 255)).toUInt16.toUInt32.toInt32 = t &&& 255 := i2c_mask t
theorem and255 (x : Int32) : ¬ (x &&& 255) < 0 ∧ ¬ (255 : Int32) < (x &&& 255) := by
  have h := c_and x 255 (by decide)
  have e : (255 : Int32).toInt = 255 := by decide
  have e0 : (0 : Int32).toInt = 0 := by decide
  rw [Int32.lt_iff_toInt_lt, Int32.lt_iff_toInt_lt]
  omega
theorem Keep.nil_trans {h0 h h' : Heap} (K : Keep h0 h []) (K' : Keep h h' []) : Keep h0 h' [] := K.trans K' fun _ q => nomatch q
theorem Keep.of_ext {h h' : Heap} (E : Ext h h') : Keep h h' [] := (Keep.refl h []).ext E
section S2
variable {b : Bool} {p : Program} {l : Launch} {e : Env} {R : Room} {s : State} {m : MethodId} {args : Array Value} {below : List Frame} {meth : Method} {c : Code} {Z : State} {EL : List (String × Nat)} {own : String}
  {Q : Option Value → Heap → List Loc → List Addr → Prop} {SL : List Addr} {h : Heap} {locs : List Loc} {cells slots : Nat} {bytes : ByteArray} {mx : Nat} {ret : Option FieldType} {nm : String} {a0 : Array Value}
theorem Go.alen (K : Kx p c meth bytes mx ret nm) {pc pc' : Nat} {Ls : Array Slot} {S : List Value} {a : Addr} {k : ClassId} {ty : FieldType} {z : Int32} {vs : List Value} {dv : Value} (A : Arv Z h a k ty z vs dv) (d : Dec bytes pc .arraylength 1 pc') (r : Go b p l e R s m args below meth c Z EL own Q SL (mkF m pc' Ls (.int z :: S)) h locs cells slots) :
    Go b p l e R s m args below meth c Z EL own Q SL (mkF m pc Ls (.ref a :: S)) h locs cells slots := by
  obtain ⟨d1, rfl⟩ := d
  obtain ⟨cl, A1, A2, A3, A4, A5, A6⟩ := A
  have hz := len_of A3 A4
  refine Go.step (fun T vm0 X eT hZ ho t k => X.arraylength K.1 (by rw [eT]; exact A1.1) (State.isArrayOf_alike hZ.alike A1.2.1) (g := mkF m pc Ls (.ref a :: S)) rfl rfl (hb K.2.1 d1) t ?_) r
  rw [hz]; exact k
end S2
end Jvm.Pilot.@@N@@.Own
namespace Jvm.Pilot.@@N@@.Own
open Jvm Jvm.ClassFile Sem Op Lib Jvm.Free Jvm.Stand Jvm.LawKit Jvm.RoadKit Bundle
section H2
variable {b : Bool} {p : Program} {l : Launch} {e : Env} {R : Room} {s : State} {m : MethodId} {args : Array Value} {below : List Frame} {meth : Method} {c : Code} {Z : State} {EL : List (String × Nat)} {own : String}
  {Q : Option Value → Heap → List Loc → List Addr → Prop} {SL : List Addr} {h : Heap} {locs : List Loc} {cells slots : Nat} {bytes : ByteArray} {mx : Nat} {ret : Option FieldType} {nm : String} {a0 : Array Value}
theorem arv_in {a : Addr} {k : ClassId} {ty : FieldType} {z j : Int32} {vs : List Value} {dv v : Value} (A : Arv Z h a k ty z vs dv) (hj0 : ¬ j < 0) (hz : j.toNatClampNeg < z.toNatClampNeg) (hv : vs.getD j.toNatClampNeg dv = v) :
    ∃ cl, Arr Z h a cl ty ∧ ¬ (j < 0 ∨ cl.slots.size ≤ j.toNatClampNeg) ∧ cl.slots[j.toNatClampNeg]? = some v := by
  obtain ⟨cl, A1, A2, A3, A4, A5, A6⟩ := A
  have q : ¬ (j < 0 ∨ cl.slots.size ≤ j.toNatClampNeg) := fun q => q.elim hj0 fun r => by rw [A3] at r; omega
  exact ⟨cl, A1, q, A5.at q hv⟩
theorem Go.aaload (K : Kx p c meth bytes mx ret nm) {pc pc' : Nat} {Ls : Array Slot} {S : List Value} {a : Addr} {k : ClassId} {ty : FieldType} {z j : Int32} {vs : List Value} {dv v : Value} (A : Arv Z h a k ty z vs dv) (hty : ty.isReference = true) (hj0 : ¬ j < 0) (hz : j.toNatClampNeg < z.toNatClampNeg) (hv : vs.getD j.toNatClampNeg dv = v) (d : Dec bytes pc .aaload 1 pc')
    (r : Go b p l e R s m args below meth c Z EL own Q SL (mkF m pc' Ls (v :: S)) h locs cells slots) : Go b p l e R s m args below meth c Z EL own Q SL (mkF m pc Ls (.int j :: .ref a :: S)) h locs cells slots := by
  obtain ⟨d1, rfl⟩ := d
  obtain ⟨cl, A1, q1, q2⟩ := arv_in A hj0 hz hv
  exact Go.step (fun T vm0 X eT hZ ho t k => X.aaload K.1 (by rw [eT]; exact A1.1) (State.isArrayOf_alike hZ.alike A1.2.1) hty A1.2.2 q1 q2 (g := mkF m pc Ls (.int j :: .ref a :: S)) rfl rfl (hb K.2.1 d1) t k) r
theorem Go.caload (K : Kx p c meth bytes mx ret nm) {pc pc' : Nat} {Ls : Array Slot} {S : List Value} {a : Addr} {k : ClassId} {z j : Int32} {vs : List Value} {dv v : Value} (A : Arv Z h a k .char z vs dv) (hj0 : ¬ j < 0) (hz : j.toNatClampNeg < z.toNatClampNeg) (hv : vs.getD j.toNatClampNeg dv = v) (d : Dec bytes pc .caload 1 pc')
    (r : Go b p l e R s m args below meth c Z EL own Q SL (mkF m pc' Ls (v :: S)) h locs cells slots) : Go b p l e R s m args below meth c Z EL own Q SL (mkF m pc Ls (.int j :: .ref a :: S)) h locs cells slots := by
  obtain ⟨d1, rfl⟩ := d
  obtain ⟨cl, A1, q1, q2⟩ := arv_in A hj0 hz hv
  exact Go.step (fun T vm0 X eT hZ ho t k => X.caload K.1 (by rw [eT]; exact A1.1) (State.isArrayOf_alike hZ.alike A1.2.1) A1.2.2 q1 q2 (g := mkF m pc Ls (.int j :: .ref a :: S)) rfl rfl (hb K.2.1 d1) t k) r
theorem Go.baload (K : Kx p c meth bytes mx ret nm) {pc pc' : Nat} {Ls : Array Slot} {S : List Value} {a : Addr} {k : ClassId} {z j : Int32} {vs : List Value} {dv v : Value} (A : Arv Z h a k .byte z vs dv) (hj0 : ¬ j < 0) (hz : j.toNatClampNeg < z.toNatClampNeg) (hv : vs.getD j.toNatClampNeg dv = v) (d : Dec bytes pc .baload 1 pc')
    (r : Go b p l e R s m args below meth c Z EL own Q SL (mkF m pc' Ls (v :: S)) h locs cells slots) : Go b p l e R s m args below meth c Z EL own Q SL (mkF m pc Ls (.int j :: .ref a :: S)) h locs cells slots := by
  obtain ⟨d1, rfl⟩ := d
  obtain ⟨cl, A1, q1, q2⟩ := arv_in A hj0 hz hv
  exact Go.step (fun T vm0 X eT hZ ho t k => X.baloadBytes K.1 (by rw [eT]; exact A1.1) (State.isArrayOf_alike hZ.alike A1.2.1) A1.2.2 q1 q2 (g := mkF m pc Ls (.int j :: .ref a :: S)) rfl rfl (hb K.2.1 d1) t k) r
theorem Go.iaload (K : Kx p c meth bytes mx ret nm) {pc pc' : Nat} {Ls : Array Slot} {S : List Value} {a : Addr} {k : ClassId} {z j : Int32} {vs : List Value} {dv v : Value} (A : Arv Z h a k .int z vs dv) (hj0 : ¬ j < 0) (hz : j.toNatClampNeg < z.toNatClampNeg) (hv : vs.getD j.toNatClampNeg dv = v) (d : Dec bytes pc .iaload 1 pc')
    (r : Go b p l e R s m args below meth c Z EL own Q SL (mkF m pc' Ls (v :: S)) h locs cells slots) : Go b p l e R s m args below meth c Z EL own Q SL (mkF m pc Ls (.int j :: .ref a :: S)) h locs cells slots := by
  obtain ⟨d1, rfl⟩ := d
  obtain ⟨cl, A1, q1, q2⟩ := arv_in A hj0 hz hv
  exact Go.step (fun T vm0 X eT hZ ho t k => X.iaload K.1 (by rw [eT]; exact A1.1) (State.isArrayOf_alike hZ.alike A1.2.1) A1.2.2 q1 q2 (g := mkF m pc Ls (.int j :: .ref a :: S)) rfl rfl (hb K.2.1 d1) t k) r
theorem Go.castY (K : Kx p c meth bytes mx ret nm) {pc pc' : Nat} {Ls : Array Slot} {S : List Value} {index : Nat} {C : String} {a : Addr} (w : (Jvm.Cond.classLink own index C).before a0 Z = true) (F : Ins Z h a C true) (d : Dec bytes pc (.checkcast index) 3 pc')
    (r : Go b p l e R s m args below meth c Z EL own Q SL (mkF m pc' Ls (.ref a :: S)) h locs cells slots) : Go b p l e R s m args below meth c Z EL own Q SL (mkF m pc Ls (.ref a :: S)) h locs cells slots := by
  obtain ⟨d1, rfl⟩ := d
  exact Go.warm (fun T vm0 X eT hZ ho => Jvm.RoadKit.castY X K.1 hZ ho w eT F (g := mkF m pc Ls (.ref a :: S)) rfl rfl (hb K.2.1 d1)) r
theorem Go.instY (K : Kx p c meth bytes mx ret nm) {pc pc' : Nat} {Ls : Array Slot} {S : List Value} {index : Nat} {C : String} {a : Addr} (w : (Jvm.Cond.classLink own index C).before a0 Z = true) (F : Ins Z h a C true) (d : Dec bytes pc (.instanceof index) 3 pc')
    (r : Go b p l e R s m args below meth c Z EL own Q SL (mkF m pc' Ls (.int 1 :: S)) h locs cells slots) : Go b p l e R s m args below meth c Z EL own Q SL (mkF m pc Ls (.ref a :: S)) h locs cells slots := by
  obtain ⟨d1, rfl⟩ := d
  exact Go.warm (fun T vm0 X eT hZ ho => Jvm.RoadKit.instY X K.1 hZ ho w eT F (g := mkF m pc Ls (.ref a :: S)) rfl rfl (hb K.2.1 d1)) r
theorem Go.instNo (K : Kx p c meth bytes mx ret nm) {pc pc' : Nat} {Ls : Array Slot} {S : List Value} {index : Nat} {C K0 : String} {a : Addr} (w : (Jvm.Cond.classLink own index K0).before a0 Z = true) (E : Exa Z h a C) (F : ∃ c t, Z.vm.findClass C = some c ∧ Z.vm.findClass K0 = some t ∧ Z.vm.assignable c t = false) (d : Dec bytes pc (.instanceof index) 3 pc')
    (r : Go b p l e R s m args below meth c Z EL own Q SL (mkF m pc' Ls (.int 0 :: S)) h locs cells slots) : Go b p l e R s m args below meth c Z EL own Q SL (mkF m pc Ls (.ref a :: S)) h locs cells slots := by
  obtain ⟨d1, rfl⟩ := d
  exact Go.warm (fun T vm0 X eT hZ ho => Jvm.RoadKit.instNo X K.1 hZ ho w eT E F (g := mkF m pc Ls (.ref a :: S)) rfl rfl (hb K.2.1 d1)) r
theorem Go.cloneA (K : Kx p c meth bytes mx ret nm) {pc pc' : Nat} {Ls : Array Slot} {S : List Value} {index : Nat} {ad : String} {a : Addr} {cl : Cell} {ty : FieldType} (w1 : (Jvm.Cond.methodLink own index ⟨ad, "clone", "()Ljava/lang/Object;"⟩).before a0 Z = true) (w2 : (Jvm.Cond.sameMethod ad "java/lang/Object" "clone" "()Ljava/lang/Object;").before a0 Z = true) (w3 : (Jvm.Cond.native ⟨"java/lang/Object", "clone", "()Ljava/lang/Object;"⟩).before a0 Z = true)
    (w4 : (Jvm.Cond.instanceMethod ⟨"java/lang/Object", "clone", "()Ljava/lang/Object;"⟩).before a0 Z = true) (w5 : (Jvm.Cond.selects ad ⟨ad, "clone", "()Ljava/lang/Object;"⟩ ⟨"java/lang/Object", "clone", "()Ljava/lang/Object;"⟩).before a0 Z = true) (w6 : (Jvm.Cond.castable ad "java/lang/Cloneable").before a0 Z = true)
    (A : Arr Z h a cl ty) (E : Exa Z h a ad) (F : FitC Z cl) (d : Dec bytes pc (.invokevirtual index) 3 pc') (hsz : Ls.size = mx) (hf : 1 ≤ R.frames) (hl : (S.map fun v => v.category).sum + 14 ≤ R.locals) (cap : Nat) (hcap : cl.slots.size ≤ cap) (hc : cells + 1 ≤ R.cells) (hsl : slots + cap ≤ R.slots)
    (r : ∀ h', Ext h h' → (Arr Z h' h.size (cloneOf cl) ty ∧ Exa Z h' h.size ad) → Go b p l e R s m args below meth c Z EL own Q (h.size :: SL) (mkF m pc' Ls (.ref h.size :: S)) h' locs (cells + 1) (slots + cap)) : Go b p l e R s m args below meth c Z EL own Q SL (mkF m pc Ls (.ref a :: S)) h locs cells slots := by
  obtain ⟨d1, rfl⟩ := d
  refine Go.grew (fun T vm0 X eT hZ ho => ?_) r
  obtain ⟨T', h', X', e', Ex, A', E', st⟩ := Jvm.RoadKit.cloneA X K.1 hZ ho w1 w2 w3 w4 w5 w6 eT A E F (g := mkF m pc Ls (.ref a :: S)) rfl (hsz.trans K.2.2.1.symm) rfl (hb K.2.1 d1) hf (W := (S.map fun v => v.category).sum) (by show 2 * 0 + _ ≤ _; omega) hl hcap hc hsl
  exact ⟨T', h', X', e', Ex, A'.lt, ⟨A', E'⟩, st⟩
theorem Go.newR (K : Kx p c meth bytes mx ret nm) {pc pc' : Nat} {Ls : Array Slot} {S : List Value} {index : Nat} {C ad : String} {n : Int32} (w1 : (Jvm.Cond.classLink own index C).before a0 Z = true) (w2 : (Jvm.Cond.arrayOver (.object C)).before a0 Z = true) (had : "[" ++ (FieldType.object C).toString = ad) (d : Dec bytes pc (.anewarray index) 3 pc') (hn : ¬ n < 0) (cap : Nat) (hcap : n.toNatClampNeg ≤ cap) (hb8 : cap * 8 ≤ 536870912) (hc : cells + 1 ≤ R.cells) (hl : slots + cap ≤ R.slots)
    (r : ∀ h', Ext h h' → (Exa Z h' h.size ad ∧ ∃ k, Arv Z h' h.size k (.object C) n [] .null ∧ Ovr Z k C) → Go b p l e R s m args below meth c Z EL own Q (h.size :: SL) (mkF m pc' Ls (.ref h.size :: S)) h' locs (cells + 1) (slots + cap)) :
    Go b p l e R s m args below meth c Z EL own Q SL (mkF m pc Ls (.int n :: S)) h locs cells slots := by
  obtain ⟨d1, rfl⟩ := d
  refine Go.grew (fun T vm0 X eT hZ ho => ?_) r
  obtain ⟨T', h', cA, X', e', E, A, Ex, O, st⟩ := Jvm.RoadKit.newRE X K.1 hZ ho w1 w2 eT (g := mkF m pc Ls (.int n :: S)) rfl (hb K.2.1 d1) rfl hn hcap hb8 hc hl had
  exact ⟨T', h', X', e', E, A.lt, ⟨Ex, cA, Arv.new A hn, O⟩, st⟩
theorem Go.aastore (K : Kx p c meth bytes mx ret nm) {pc pc' : Nat} {Ls : Array Slot} {S : List Value} {a : Addr} {k : ClassId} {ty : FieldType} {z j : Int32} {vs : List Value} {dv v : Value} (A : Arv Z h a k ty z vs dv) (hty : ty.isReference = true) (F : Sto Z h a v) (hfit : fits ty v = true) (i : Nat) (hj : j.toNatClampNeg = i) (hj0 : ¬ j < 0) (hi : i < vs.length) (hz : i < z.toNatClampNeg) (hs : Sf Z EL SL h a) (d : Dec bytes pc .aastore 1 pc')
    (r : ∀ h', Wr h h' a i v → Arv Z h' a k ty z (vs.set i v) dv → Go b p l e R s m args below meth c Z EL own Q SL (mkF m pc' Ls S) h' (locs ++ [⟨a, i⟩]) cells slots) :
    Go b p l e R s m args below meth c Z EL own Q SL (mkF m pc Ls (v :: .int j :: .ref a :: S)) h locs cells slots := by
  obtain ⟨d1, rfl⟩ := d
  subst hj
  obtain ⟨cl, A1, A2, A3, A4, A5, A6⟩ := A
  exact Go.wrote hs (fun T vm0 X eT hZ ho => Jvm.RoadKit.stR X K.1 hZ eT A1 (fun q => q.elim hj0 fun r => by rw [A3] at r; omega) hty F (g := mkF m pc Ls (v :: .int j :: .ref a :: S)) rfl rfl (hb K.2.1 d1)) (fun h' W => r h' W (Arv.set A1 A2 A3 A4 A5 A6 hfit W _ rfl hi))
theorem Inv.iface (hx : p.tables.exec = Jvm.exec) {index count : Nat} {C : String} {xi y : MethodName} (w1 : (Jvm.Cond.methodLink own index xi).before a0 Z = true) (w2 : (Jvm.Cond.declares xi).before a0 Z = true) (w3 : (Jvm.Cond.interfaceMethod xi.cls xi.cls xi.name xi.desc).before a0 Z = true) (hd3 : ((Jvm.Cond.interfaceMethod xi.cls xi.cls xi.name xi.desc).onTables && (Jvm.Cond.interfaceMethod xi.cls xi.cls xi.name xi.desc).keepsFace) = true) (w4 : (Jvm.Cond.selects C xi y).before a0 Z = true) (w5 : (Jvm.Cond.instanceMethod y).before a0 Z = true)
    (w6 : (Jvm.Cond.publicMethod y).before a0 Z = true) (w7 : (Jvm.Cond.unhidden C xi.name xi.desc).before a0 Z = true) (w8 : (Jvm.Cond.castable C xi.cls).before a0 Z = true) (hy : xi.cls ≠ "java/lang/invoke/MethodHandle" ∧ xi.cls ≠ "java/lang/invoke/VarHandle") {a : Addr} (E : Exa Z h a C) {argsL S : List Value} {pc : Nat} {Ls : Array Slot} (hlen : ∀ sig, parseMethodDescriptor xi.desc = some sig → argsL.length = sig.parameters.length) (hd : decode c.code pc = .ok (.invokeinterface index count, 5)) :
    Inv p l e R s m args below meth c Z own y (.ref a :: argsL).toArray (mkF m pc Ls (argsL.reverse ++ .ref a :: S)) (mkF m pc Ls S) h locs cells slots := fun T vm0 X eT hZ ho => by
  obtain ⟨cB, kB, hcB, hkB, hrecv⟩ := isOf (s := s.setVm vm0) (T := T) hZ eT E
  obtain ⟨cellB, hcellT, hclsB, hstatB⟩ := hrecv
  obtain ⟨r0, r, hn, hrm, hstR, hsigR⟩ := Cond.declares_spec (mvT (s := s.setVm vm0) (args := args) hZ w2)
  obtain ⟨cL, kL, r1, hcL, hkL, hiL, hfoundL, hn1⟩ := Cond.interfaceMethod_spec (mvT (s := s.setVm vm0) (args := args) hZ w3 hd3)
  cases hn.symm.trans hn1
  have hr0cls : r0.cls = cL := Option.some.inj ((findClass_of_methodNamed hn).symm.trans hcL)
  obtain ⟨hnameR, hdescR⟩ := name_of_methodNamed hn hrm
  obtain ⟨mk, methM, hnamed, hmethM, -, habM⟩ := Cond.instanceMethod_spec (mvT (s := s.setVm vm0) (args := args) hZ w5)
  obtain ⟨c2, r2, m2, q1, q2, q3, q4, -⟩ := Cond.selects_spec (mvT (s := s.setVm vm0) (args := args) hZ w4)
  cases hcB.symm.trans q1
  cases hfoundL.symm.trans q2
  cases hnamed.symm.trans q3
  have hselP : selectMethod e.platform (s.setVm vm0).vm cellB.cls r0 = .method mk := by rw [Launch.admits_selectMethod X.admits, hclsB]; exact q4
  have hpubM : hasFlag methM.accessFlags Acc.public_ = true := Cond.publicMethod_spec hnamed hmethM (mvT (s := s.setVm vm0) (args := args) hZ w6)
  have hway : ((cellB.cls :: (s.setVm vm0).vm.superclasses cellB.cls).any fun k => (declaredIn (s.setVm vm0).vm r.name r.desc k).any fun (_, z) => z.isPrivate || z.isStatic) = false := by
    rw [hnameR, hdescR, hclsB]; exact Cond.unhidden_spec hcB (mvT (s := s.setVm vm0) (args := args) hZ w7)
  obtain ⟨c3, t3, u1, u2, u3⟩ := Cond.castable_spec (mvT (s := s.setVm vm0) (args := args) hZ w8)
  cases hcB.symm.trans u1
  cases hcL.symm.trans u2
  obtain ⟨vm₁, X₁, hstep₁⟩ := X.invokeinterface hx ho (mvT (s := s.setVm vm0) (args := args) hZ w1) hn hrm hstR (by rw [hr0cls]; exact hkL) hiL hy (a := a) (cell := cellB) (kcell := kB) hcellT
    (fun z h => by rw [h] at hstatB; cases hstatB) (by rw [hclsB]; exact hkB) (by rw [hclsB, hr0cls]; exact u3) hselP hmethM hway hpubM habM (g := mkF m pc Ls (argsL.reverse ++ .ref a :: S)) rfl (argsL := argsL) (rest := S) (hlen _ hsigR) rfl hd
  exact ⟨mk, vm₁, X₁, X₁.named hnamed, hstep₁ _ fun acts => by rw [doInvoke_state]; exact Steps.refl _⟩
end H2
end Jvm.Pilot.@@N@@.Own
namespace Jvm.Pilot.@@N@@.Own
open Jvm Jvm.ClassFile Sem Op Lib Jvm.Free Jvm.Stand Jvm.LawKit Jvm.RoadKit Bundle
section H3
variable {b : Bool} {p : Program} {l : Launch} {e : Env} {R : Room} {s : State} {m : MethodId} {args : Array Value} {below : List Frame} {meth : Method} {c : Code} {Z : State} {EL : List (String × Nat)} {own : String}
  {Q : Option Value → Heap → List Loc → List Addr → Prop} {SL SL' : List Addr} {g : JFrame} {h : Heap} {locs : List Loc} {cells slots cells' slots' : Nat} {bytes : ByteArray} {mx : Nat} {ret : Option FieldType} {nm : String} {a0 : Array Value}
theorem Go.mono (hc : cells ≤ cells') (hs : slots ≤ slots') (r : Go b p l e R s m args below meth c Z EL own Q SL g h locs cells' slots') : Go b p l e R s m args below meth c Z EL own Q SL g h locs cells slots := fun T vm0 X eT cx hZ ho ch sl => r T vm0 (X.mono hc hs) eT cx hZ ho ch sl
theorem Go.sub (q : ∀ x ∈ SL', x ∈ SL) (r : Go b p l e R s m args below meth c Z EL own Q SL' g h locs cells slots) : Go b p l e R s m args below meth c Z EL own Q SL g h locs cells slots := fun T vm0 X eT cx hZ ho ch sl => r T vm0 X eT cx hZ ho ch fun x k => sl x (q x k)
theorem Go.newPE (K : Kx p c meth bytes mx ret nm) {pc pc' : Nat} {Ls : Array Slot} {S : List Value} {aty : ArrayType} {n : Int32} {ad : String} (w : (Jvm.Cond.arrayClass (newarray.typeOf aty)).before a0 Z = true) (had : "[" ++ (newarray.typeOf aty).toString = ad) (d : Dec bytes pc (.newarray aty) 2 pc') (hn : ¬ n < 0) (cap : Nat) (hcap : n.toNatClampNeg ≤ cap) (hb8 : cap * 8 ≤ 536870912) (hc : cells + 1 ≤ R.cells) (hl : slots + cap ≤ R.slots)
    (r : ∀ h', Ext h h' → (Exa Z h' h.size ad ∧ ∃ k, Arv Z h' h.size k (newarray.typeOf aty) n [] (defaultValue (newarray.typeOf aty))) → Go b p l e R s m args below meth c Z EL own Q (h.size :: SL) (mkF m pc' Ls (.ref h.size :: S)) h' locs (cells + 1) (slots + cap)) :
    Go b p l e R s m args below meth c Z EL own Q SL (mkF m pc Ls (.int n :: S)) h locs cells slots := by
  obtain ⟨d1, rfl⟩ := d
  refine Go.grew (fun T vm0 X eT hZ ho => ?_) r
  obtain ⟨T', h', cA, X', e', E, A, Ex, st⟩ := Jvm.RoadKit.newPE X K.1 hZ w eT (g := mkF m pc Ls (.int n :: S)) rfl (hb K.2.1 d1) rfl hn hcap hb8 hc hl had
  exact ⟨T', h', X', e', E, A.lt, ⟨Ex, cA, Arv.new A hn⟩, st⟩
theorem Arv.fitC {a : Addr} {k : ClassId} {ty : FieldType} {z : Int32} {vs : List Value} {dv : Value} (A : Arv Z h a k ty z vs dv) : ∃ cl, Arr Z h a cl ty ∧ FitC Z cl ∧ cl.slots.size = z.toNatClampNeg := by
  obtain ⟨cl, A1, A2, A3, A4, A5, A6⟩ := A
  exact ⟨cl, A1, fitC_of A1 fun i hi v hv => by rw [A5 i hi] at hv; cases hv; exact A6 i hi, A3⟩
end H3
end Jvm.Pilot.@@N@@.Own
namespace Jvm.Pilot.@@N@@.Own
open Jvm Jvm.ClassFile Sem Op Lib Jvm.Free Jvm.Stand Jvm.LawKit Jvm.RoadKit Bundle
/-- a String of these chars, Latin-1 or UTF-16 -/
def StrW (Z : State) (h : Heap) (x t : Addr) (kb : ClassId) (cd N2 : Int32) (vs : List Value) (cs : List Int32) : Prop :=
  Exa Z h x "java/lang/String" ∧ Fld Z h x "java/lang/String" "value" "[B" (.ref t) ∧ Fld Z h x "java/lang/String" "coder" "B" (.int cd) ∧ Arv Z h t kb .byte N2 vs (.int 0) ∧ StrChars.Road.CodA cs cd N2 vs ∧ (∀ c ∈ cs, ¬ c < 0 ∧ ¬ (65535 : Int32) < c) ∧ cs.length ≤ 4000
section S4
variable {b : Bool} {p : Program} {l : Launch} {e : Env} {R : Room} {s : State} {m : MethodId} {args : Array Value} {below : List Frame} {meth : Method} {c : Code} {Z : State} {EL : List (String × Nat)} {own : String}
  {Q : Option Value → Heap → List Loc → List Addr → Prop} {SL : List Addr} {h : Heap} {locs : List Loc} {cells slots : Nat} {bytes : ByteArray} {mx : Nat} {ret : Option FieldType} {nm : String} {a0 : Array Value}
theorem lenD : parseMethodDescriptor "()I" = some ⟨[], some .int⟩ := by decide +kernel
theorem empD : parseMethodDescriptor "()Z" = some ⟨[], some .boolean⟩ := by decide +kernel
theorem chD : parseMethodDescriptor "(I)C" = some ⟨[.int], some .char⟩ := by decide +kernel
theorem Go.strLen (K : Kx p c meth bytes mx ret nm) {pc pc' index : Nat} {Ls : Array Slot} {S : List Value} (w1 : (Jvm.Cond.methodLink own index ⟨"java/lang/String", "length", "()I"⟩).before a0 Z = true) (w2 : (Jvm.Cond.declares ⟨"java/lang/String", "length", "()I"⟩).before a0 Z = true) (w3 : (Jvm.Cond.selects "java/lang/String" ⟨"java/lang/String", "length", "()I"⟩ ⟨"java/lang/String", "length", "()I"⟩).before a0 Z = true) (w4 : (Jvm.Cond.instanceMethod ⟨"java/lang/String", "length", "()I"⟩).before a0 Z = true)
    (hws : ∀ d ∈ StrChars.Road.wordsLen, d.before a0 Z = true) {kI : Nat} (wi : (Jvm.Cond.instantiable "java/lang/String" kI).before a0 Z = true) {x t : Addr} {kb : ClassId} {cd N2 : Int32} {vs : List Value} {cs : List Int32} (X : StrW Z h x t kb cd N2 vs cs) {z : Int32} (St : Sta Z h "java/lang/String" "COMPACT_STRINGS" "Z" (.int z)) (hz : ¬ z = 0)
    (d : Dec bytes pc (.invokevirtual index) 3 pc') (hsz : Ls.size = mx) (hf : 2 ≤ R.frames) (hl : (S.map fun v => v.category).sum + 25 ≤ R.locals) (hcl : cells ≤ R.cells) (hsl : slots ≤ R.slots)
    (r : Go b p l e R s m args below meth c Z EL own Q SL (mkF m pc' Ls (.int (Int32.ofNat cs.length) :: S)) h locs cells slots) :
    Go b p l e R s m args below meth c Z EL own Q SL (mkF m pc Ls (.ref x :: S)) h locs cells slots := by
  obtain ⟨d1, rfl⟩ := d
  refine Go.callB (as' := #[.ref x]) (y := ⟨"java/lang/String", "length", "()I"⟩) (kc := 0) (ks := 0) (W := (S.map fun v => v.category).sum) (Qc := fun v h' L => v = some (.int (Int32.ofNat cs.length)) ∧ L = [] ∧ h' = h) (ws := []) K
    (Inv.virtual (argsL := []) K.1 w1 w2 (Inv.nf w3) w3 w4 (by decide) X.1 (lenOf lenD rfl) (hb K.2.1 d1))
    (fun s' hZ => StrChars.Road.lenW hZ hws wi X.1 X.2.1 X.2.2.1 X.2.2.2.1 X.2.2.2.2.1 X.2.2.2.2.2.1 St hz X.2.2.2.2.2.2 hf hl) d1 hsz (Nat.le_refl _) hcl hsl (fun v h' L q => by rw [q.2.2]; exact Keep.refl h []) (fun y q => nomatch q) ?_
  rintro v h' L ⟨rfl, rfl, rfl⟩
  rw [List.append_nil]
  exact r
theorem Go.strEmp (K : Kx p c meth bytes mx ret nm) {pc pc' index : Nat} {Ls : Array Slot} {S : List Value} (w1 : (Jvm.Cond.methodLink own index ⟨"java/lang/String", "isEmpty", "()Z"⟩).before a0 Z = true) (w2 : (Jvm.Cond.declares ⟨"java/lang/String", "isEmpty", "()Z"⟩).before a0 Z = true) (w3 : (Jvm.Cond.selects "java/lang/String" ⟨"java/lang/String", "isEmpty", "()Z"⟩ ⟨"java/lang/String", "isEmpty", "()Z"⟩).before a0 Z = true) (w4 : (Jvm.Cond.instanceMethod ⟨"java/lang/String", "isEmpty", "()Z"⟩).before a0 Z = true)
    (hws : ∀ d ∈ StrChars.Road.wordsEmp, d.before a0 Z = true) {kI : Nat} (wi : (Jvm.Cond.instantiable "java/lang/String" kI).before a0 Z = true) {x t : Addr} {kb : ClassId} {cd N2 : Int32} {vs : List Value} {cs : List Int32} (X : StrW Z h x t kb cd N2 vs cs)
    (d : Dec bytes pc (.invokevirtual index) 3 pc') (hsz : Ls.size = mx) (hf : 1 ≤ R.frames) (hl : (S.map fun v => v.category).sum + 12 ≤ R.locals) (hcl : cells ≤ R.cells) (hsl : slots ≤ R.slots)
    (r1 : cs = [] → Go b p l e R s m args below meth c Z EL own Q SL (mkF m pc' Ls (.int 1 :: S)) h locs cells slots) (r0 : ¬ cs = [] → Go b p l e R s m args below meth c Z EL own Q SL (mkF m pc' Ls (.int 0 :: S)) h locs cells slots) :
    Go b p l e R s m args below meth c Z EL own Q SL (mkF m pc Ls (.ref x :: S)) h locs cells slots := by
  obtain ⟨d1, rfl⟩ := d
  refine Go.callB (as' := #[.ref x]) (y := ⟨"java/lang/String", "isEmpty", "()Z"⟩) (kc := 0) (ks := 0) (W := (S.map fun v => v.category).sum) (Qc := fun v h' L => v = some (.int (if cs.length = 0 then 1 else 0)) ∧ L = [] ∧ h' = h) (ws := []) K
    (Inv.virtual (argsL := []) K.1 w1 w2 (Inv.nf w3) w3 w4 (by decide) X.1 (lenOf empD rfl) (hb K.2.1 d1))
    (fun s' hZ => StrChars.Road.empW hZ hws wi X.1 X.2.1 X.2.2.1 X.2.2.2.1 X.2.2.2.2.1 X.2.2.2.2.2.1 X.2.2.2.2.2.2 hf hl) d1 hsz (Nat.le_refl _) hcl hsl (fun v h' L q => by rw [q.2.2]; exact Keep.refl h []) (fun y q => nomatch q) ?_
  rintro v h' L ⟨rfl, rfl, rfl⟩
  rw [List.append_nil]
  by_cases q : cs = []
  · have e : (if cs.length = 0 then (1 : Int32) else 0) = 1 := by simp [q]
    rw [e]; exact r1 q
  · have e : (if cs.length = 0 then (1 : Int32) else 0) = 0 := by simp [q]
    rw [e]; exact r0 q
theorem Go.strChN (K : Kx p c meth bytes mx ret nm) {pc pc' index : Nat} {Ls : Array Slot} {S : List Value} (w1 : (Jvm.Cond.methodLink own index ⟨"java/lang/String", "charAt", "(I)C"⟩).before a0 Z = true) (w2 : (Jvm.Cond.declares ⟨"java/lang/String", "charAt", "(I)C"⟩).before a0 Z = true) (w3 : (Jvm.Cond.selects "java/lang/String" ⟨"java/lang/String", "charAt", "(I)C"⟩ ⟨"java/lang/String", "charAt", "(I)C"⟩).before a0 Z = true) (w4 : (Jvm.Cond.instanceMethod ⟨"java/lang/String", "charAt", "(I)C"⟩).before a0 Z = true)
    (hws : ∀ d ∈ StrChars.Road.wordsChN, d.before a0 Z = true) {kI : Nat} (wi : (Jvm.Cond.instantiable "java/lang/String" kI).before a0 Z = true) {x t : Addr} {kb : ClassId} {N2 : Int32} {vs : List Value} {cs : List Int32} (X : StrW Z h x t kb 0 N2 vs cs) {z : Int32} (St : Sta Z h "java/lang/String" "COMPACT_STRINGS" "Z" (.int z)) (hz : ¬ z = 0) {fm : Value} (F : Sta Z h "jdk/internal/util/Preconditions" "SIOOBE_FORMATTER" "Ljava/util/function/BiFunction;" fm) (rf : fm.isRef = true) (i : Nat) (hi : i < cs.length) {j : Int32} (hj : j = Int32.ofNat i)
    (d : Dec bytes pc (.invokevirtual index) 3 pc') (hsz : Ls.size = mx) (hf : 4 ≤ R.frames) (hl : (S.map fun v => v.category).sum + 53 ≤ R.locals) (hcl : cells ≤ R.cells) (hsl : slots ≤ R.slots)
    (r : Go b p l e R s m args below meth c Z EL own Q SL (mkF m pc' Ls (.int (cs.getD i 0) :: S)) h locs cells slots) :
    Go b p l e R s m args below meth c Z EL own Q SL (mkF m pc Ls (.int j :: .ref x :: S)) h locs cells slots := by
  obtain ⟨d1, rfl⟩ := d
  refine Go.callB (as' := #[.ref x, .int j]) (y := ⟨"java/lang/String", "charAt", "(I)C"⟩) (kc := 0) (ks := 0) (W := (S.map fun v => v.category).sum) (Qc := fun v h' L => v = some (.int (cs.getD i 0)) ∧ L = [] ∧ h' = h) (ws := []) K
    (Inv.virtual (argsL := [.int j]) K.1 w1 w2 (Inv.nf w3) w3 w4 (by decide) X.1 (lenOf chD rfl) (hb K.2.1 d1))
    (fun s' hZ => StrChars.Road.chN hZ hws wi X.1 X.2.1 X.2.2.1 X.2.2.2.1 X.2.2.2.2.1 X.2.2.2.2.2.1 St hz F rf X.2.2.2.2.2.2 hi hj hf hl) d1 hsz (Nat.le_refl _) hcl hsl (fun v h' L q => by rw [q.2.2]; exact Keep.refl h []) (fun y q => nomatch q) ?_
  rintro v h' L ⟨rfl, rfl, rfl⟩
  rw [List.append_nil]
  exact r
end S4
end Jvm.Pilot.@@N@@.Own
namespace Jvm.Pilot.@@N@@.Own
open Jvm Jvm.ClassFile Sem Op Lib Jvm.Free Jvm.Stand Jvm.LawKit Jvm.RoadKit Bundle
theorem toInt_n {i : Nat} (h : i < 2 ^ 31) : (Int32.ofNat i).toInt = i := toInt_of rfl h
theorem lt_n {i j : Nat} (hi : i < 2 ^ 31) (hj : j < 2 ^ 31) : Int32.ofNat i < Int32.ofNat j ↔ i < j := by rw [Int32.lt_iff_toInt_lt, toInt_n hi, toInt_n hj]; omega
theorem nn_n {i : Nat} (hi : i < 2 ^ 31) : ¬ Int32.ofNat i < 0 := by
  rw [Int32.lt_iff_toInt_lt, toInt_n hi]
  have e0 : (0 : Int32).toInt = 0 := by decide
  omega
theorem cl_n {i : Nat} (hi : i < 2 ^ 31) : (Int32.ofNat i).toNatClampNeg = i := clamp_of rfl hi
theorem inc_n {i : Nat} : Int32.ofNat i + 1 = Int32.ofNat (i + 1) := (inc_ofNat i).symm
theorem eq_n {i j : Nat} (hi : i < 2 ^ 31) (hj : j < 2 ^ 31) : Int32.ofNat i = Int32.ofNat j ↔ i = j := ⟨fun q => by have := congrArg Int32.toInt q; rw [toInt_n hi, toInt_n hj] at this; omega, fun q => by rw [q]⟩
theorem nar_b (x : Int32) : nar .byte (x.toInt8.toInt32) = x.toInt8.toInt32 := by
  show (x.toInt8.toInt32).toInt8.toInt32 = _
  rw [Int8.toInt8_toInt32]
theorem nar_ch {x : Int32} (h0 : ¬ x < 0) (h1 : ¬ (65535 : Int32) < x) : nar .char x = x := by
  show x.toUInt32.toUInt16.toUInt32.toInt32 = x
  have h := c_i2c x
  have e0 : (0 : Int32).toInt = 0 := by decide
  have e1 : (65535 : Int32).toInt = 65535 := by decide
  rw [Int32.lt_iff_toInt_lt] at h0 h1
  have : x.toUInt32.toUInt16.toUInt32.toInt32.toInt = x.toInt := by omega
  exact Int32.toInt_inj.mp this
theorem set_pre {α : Type} (A : List α) (z v : α) (k : Nat) : (A ++ List.replicate (k + 1) z).set A.length v = (A ++ [v]) ++ List.replicate k z := by
  rw [List.set_append_right _ _ (Nat.le_refl _), Nat.sub_self, List.replicate_succ, List.set_cons_zero, List.append_assoc]; rfl
theorem take_snoc (cs : List Int32) (i : Nat) (hi : i < cs.length) : cs.take (i + 1) = cs.take i ++ [cs.getD i 0] := by
  rw [List.take_succ_eq_append_getElem hi]; simp [List.getD_eq_getElem?_getD, hi]
theorem drop_cons' (cs : List Int32) (i : Nat) (hi : i < cs.length) : cs.drop i = cs.getD i 0 :: cs.drop (i + 1) := by
  rw [List.drop_eq_getElem_cons hi]; simp [List.getD_eq_getElem?_getD, hi]
theorem mem_getD {cs : List Int32} {i : Nat} (hi : i < cs.length) : cs.getD i 0 ∈ cs := by
  have e : cs.getD i 0 = cs[i] := by simp [List.getD_eq_getElem?_getD, hi]
  rw [e]; exact List.getElem_mem hi
theorem map_getD {cs : List Int32} {i : Nat} (hi : i < cs.length) {d : Value} : (cs.map Value.int).getD i d = .int (cs.getD i 0) := by simp [List.getD_eq_getElem?_getD, hi]
end Jvm.Pilot.@@N@@.Own
namespace Jvm.Pilot.@@N@@.Own
open Jvm Jvm.ClassFile Sem Op Lib Jvm.Free Jvm.Stand Jvm.LawKit Jvm.RoadKit Bundle
theorem shl1_n {i : Nat} : Int32.ofNat i <<< ((1 : Int32) &&& 31) = Int32.ofNat (2 * i) := by
  rw [shlm (k := 1) (m := 2) (by decide)]
  apply Int32.toInt_inj.mp
  rw [Nat.two_mul, Int32.ofNat_add]
  have e : Int32.ofNat i * 2 = Int32.ofNat i + Int32.ofNat i := by rw [show (2 : Int32) = 1 + 1 by decide, Int32.mul_add, Int32.mul_one]
  rw [e]
theorem set2_pre {α : Type} (A R : List α) (z1 z2 v1 v2 : α) : ((A ++ z1 :: z2 :: R).set A.length v1).set (A.length + 1) v2 = A ++ v1 :: v2 :: R := by
  rw [List.set_append_right _ _ (Nat.le_refl _), Nat.sub_self, List.set_cons_zero, List.set_append_right _ _ (Nat.le_add_right _ _), Nat.add_sub_cancel_left]; rfl
theorem wide_app (a c : List Int32) : StrChars.Road.wideBytes (a ++ c) = StrChars.Road.wideBytes a ++ StrChars.Road.wideBytes c := by
  induction a with
  | nil => rfl
  | cons x r ih => show _ :: _ :: StrChars.Road.wideBytes (r ++ c) = _; rw [ih]; rfl
theorem wide_len (a : List Int32) : (StrChars.Road.wideBytes a).length = 2 * a.length := by
  induction a with
  | nil => rfl
  | cons x r ih => show (StrChars.Road.wideBytes r).length + 1 + 1 = 2 * (r.length + 1); omega
theorem nar_c_pair (u v : Int32) : nar .char (StrChars.pairCh u v) = StrChars.pairCh u v := by
  have h := c_i2c (((u &&& 255) <<< ((0 : Int32) &&& 31)) ||| ((v &&& 255) <<< ((8 : Int32) &&& 31)))
  refine nar_ch ?_ ?_
  · rw [Int32.lt_iff_toInt_lt]; have e0 : (0 : Int32).toInt = 0 := by decide
    show ¬ (Int32.toInt _ < _); unfold StrChars.pairCh; omega
  · rw [Int32.lt_iff_toInt_lt]; have e0 : (65535 : Int32).toInt = 65535 := by decide
    show ¬ (_ < Int32.toInt _); unfold StrChars.pairCh; omega
end Jvm.Pilot.@@N@@.Own
namespace Jvm.Pilot.@@N@@.Own
open Jvm Jvm.ClassFile Sem Op Lib Jvm.Free Jvm.Stand Jvm.LawKit Jvm.RoadKit Bundle
section T5
variable {b : Bool} {p : Program} {l : Launch} {e : Env} {R : Room} {s : State} {m : MethodId} {args : Array Value} {below : List Frame} {meth : Method} {c : Code} {Z : State} {EL : List (String × Nat)} {own : String}
  {Q : Option Value → Heap → List Loc → List Addr → Prop} {SL : List Addr} {h : Heap} {locs : List Loc} {cells slots : Nat} {bytes : ByteArray} {mx : Nat} {ret : Option FieldType} {nm : String} {a0 : Array Value}
theorem Go.tswIn (K : Kx p c meth bytes mx ret nm) {pc pc' len pcT : Nat} {Ls : Array Slot} {S : List Value} {k : Int32} {dflt low high off : Int} {offs : Array Int} (d : Dec bytes pc (.tableswitch dflt low high offs) len pc') (hin : ¬ (k.toInt < low ∨ k.toInt > high)) (hoffs : offs[(k.toInt - low).toNat]? = some off) (hT : (pc : Int) + off = pcT)
    (r : Go b p l e R s m args below meth c Z EL own Q SL (mkF m pcT Ls S) h locs cells slots) : Go b p l e R s m args below meth c Z EL own Q SL (mkF m pc Ls (.int k :: S)) h locs cells slots := by
  refine Go.step (fun T vm0 X eT hZ ho t k' => X.tableswitchIn K.1 (g := mkF m pc Ls (.int k :: S)) rfl rfl (hb K.2.1 d.1) hin hoffs (by show 0 ≤ (pc : Int) + off; omega) t ?_) r
  show Steps _ _ _ (T.setTop (mkF m ((pc : Int) + off).toNat Ls S)) t
  rw [show ((pc : Int) + off).toNat = pcT by omega]; exact k'
theorem Go.tswOut (K : Kx p c meth bytes mx ret nm) {pc pc' len pcT : Nat} {Ls : Array Slot} {S : List Value} {k : Int32} {dflt low high : Int} {offs : Array Int} (d : Dec bytes pc (.tableswitch dflt low high offs) len pc') (hin : k.toInt < low ∨ k.toInt > high) (hT : (pc : Int) + dflt = pcT)
    (r : Go b p l e R s m args below meth c Z EL own Q SL (mkF m pcT Ls S) h locs cells slots) : Go b p l e R s m args below meth c Z EL own Q SL (mkF m pc Ls (.int k :: S)) h locs cells slots := by
  refine Go.step (fun T vm0 X eT hZ ho t k' => X.tableswitchOut K.1 (g := mkF m pc Ls (.int k :: S)) rfl rfl (hb K.2.1 d.1) hin (by show 0 ≤ (pc : Int) + dflt; omega) t ?_) r
  show Steps _ _ _ (T.setTop (mkF m ((pc : Int) + dflt).toNat Ls S)) t
  rw [show ((pc : Int) + dflt).toNat = pcT by omega]; exact k'
end T5
theorem dec_n {n : Nat} (h : 1 ≤ n) : Int32.ofNat n - 1 = Int32.ofNat (n - 1) := by
  obtain ⟨k, rfl⟩ : ∃ k, n = k + 1 := ⟨n - 1, by omega⟩
  rw [← inc_n, Int32.add_sub_cancel]; rfl
theorem ofNat_of {x : Int32} (h : ¬ x < 0) : x = Int32.ofNat x.toInt.toNat := by
  rw [Int32.lt_iff_toInt_lt] at h
  have e0 : (0 : Int32).toInt = 0 := by decide
  apply Int32.toInt_inj.mp
  have hu := Int32.toInt_lt x
  rw [toInt_n (by omega)]
  omega
theorem l16 (v : Int64) : ¬ Int64.toInt32 (v &&& 65535) < 0 ∧ ¬ (65535 : Int32) < Int64.toInt32 (v &&& 65535) := by
  have h1 := c_maskL v 65535 16 (by decide) (by decide)
  have h2 := c_l2i (v &&& 65535)
  have e0 : (0 : Int32).toInt = 0 := by decide
  have e1 : (65535 : Int32).toInt = 65535 := by decide
  have hb1 := Int32.toInt_lt (Int64.toInt32 (v &&& 65535))
  have hb2 := Int32.le_toInt (Int64.toInt32 (v &&& 65535))
  rw [Int32.lt_iff_toInt_lt, Int32.lt_iff_toInt_lt, e0, e1]
  omega
end Jvm.Pilot.@@N@@.Own
namespace Jvm.Pilot.@@N@@
open Jvm Jvm.ClassFile Sem Op Lib Jvm.Free Jvm.Stand Jvm.LawKit Jvm.RoadKit Bundle Jvm.Pilot.@@N@@.Jvm.D Jvm.Pilot.@@N@@.Own
theorem pn_1 : plainName "java/lang/StringUTF16" = true := by first | (simp [plainName, overriddenIn]; done) | decide +kernel
theorem pn_2 : plainName "java/lang/String" = true := by first | (simp [plainName, overriddenIn]; done) | decide +kernel
theorem pn_3 : plainName "jdk/internal/util/Preconditions" = true := by first | (simp [plainName, overriddenIn]; done) | decide +kernel
theorem pn_4 : plainName "com/example/grantline/grantline/name/Names" = true := by first | (simp [plainName, overriddenIn]; done) | decide +kernel
theorem pn_5 : plainName "com/example/grantline/grantline/name/NamesIsOperationIdPinLaw" = true := by first | (simp [plainName, overriddenIn]; done) | decide +kernel
theorem pd_1 : parseMethodDescriptor "(I)I" = some ⟨[.int], some (.int)⟩ := by decide +kernel
theorem pd_2 : parseMethodDescriptor "(I)[B" = some ⟨[.int], some (.array (.byte))⟩ := by decide +kernel
theorem pd_3 : parseMethodDescriptor "([BII)V" = some ⟨[.array (.byte), .int, .int], none⟩ := by decide +kernel
theorem pd_4 : parseMethodDescriptor "([CI[BII)I" = some ⟨[.array (.char), .int, .array (.byte), .int, .int], some (.int)⟩ := by decide +kernel
theorem pd_5 : parseMethodDescriptor "([CII)[B" = some ⟨[.array (.char), .int, .int], some (.array (.byte))⟩ := by decide +kernel
theorem pd_6 : parseMethodDescriptor "([BI)C" = some ⟨[.array (.byte), .int], some (.char)⟩ := by decide +kernel
theorem pd_7 : parseMethodDescriptor "([BI)B" = some ⟨[.array (.byte), .int], some (.byte)⟩ := by decide +kernel
theorem pd_8 : parseMethodDescriptor "([CIILjava/lang/Void;)V" = some ⟨[.array (.char), .int, .int, .object "java/lang/Void"], none⟩ := by decide +kernel
theorem pd_9 : parseMethodDescriptor "(IILjava/util/function/BiFunction;)I" = some ⟨[.int, .int, .object "java/util/function/BiFunction"], some (.int)⟩ := by decide +kernel
theorem pd_10 : parseMethodDescriptor "([B)I" = some ⟨[.array (.byte)], some (.int)⟩ := by decide +kernel
theorem pd_11 : parseMethodDescriptor "(II)V" = some ⟨[.int, .int], none⟩ := by decide +kernel
theorem pd_12 : parseMethodDescriptor "(I[B)V" = some ⟨[.int, .array (.byte)], none⟩ := by decide +kernel
theorem pd_13 : parseMethodDescriptor "()Z" = some ⟨[], some (.boolean)⟩ := by decide +kernel
theorem pd_14 : parseMethodDescriptor "(C)Z" = some ⟨[.char], some (.boolean)⟩ := by decide +kernel
theorem pd_15 : parseMethodDescriptor "(I)C" = some ⟨[.int], some (.char)⟩ := by decide +kernel
theorem pd_16 : parseMethodDescriptor "(IZ)C" = some ⟨[.int, .boolean], some (.char)⟩ := by decide +kernel
theorem pd_17 : parseMethodDescriptor "([CI)[C" = some ⟨[.array (.char), .int], some (.array (.char))⟩ := by decide +kernel
theorem pd_18 : parseMethodDescriptor "(Ljava/lang/String;)Z" = some ⟨[.object "java/lang/String"], some (.boolean)⟩ := by decide +kernel
theorem pd_19 : parseMethodDescriptor "([CII)Z" = some ⟨[.array (.char), .int, .int], some (.boolean)⟩ := by decide +kernel
theorem pd_20 : parseMethodDescriptor "([C)V" = some ⟨[.array (.char)], none⟩ := by decide +kernel
theorem c5_0 : Dec jdk_52_method_21_code 0 (.iconst 0) 1 1 := ⟨by decide +kernel, rfl⟩
theorem c5_1 : Dec jdk_52_method_21_code 1 (.istore 5) 2 3 := ⟨by decide +kernel, rfl⟩
theorem c5_3 : Dec jdk_52_method_21_code 3 (.iload 5) 2 5 := ⟨by decide +kernel, rfl⟩
theorem c5_5 : Dec jdk_52_method_21_code 5 (.iload 4) 2 7 := ⟨by decide +kernel, rfl⟩
theorem c5_7 : Dec jdk_52_method_21_code 7 (.if_icmp .ge (((44 : Nat) : Int) - ((7 : Nat) : Int))) 3 10 := ⟨by decide +kernel, rfl⟩
theorem c5_10 : Dec jdk_52_method_21_code 10 (.aload_n 0) 1 11 := ⟨by decide +kernel, rfl⟩
theorem c5_11 : Dec jdk_52_method_21_code 11 (.iload_n 1) 1 12 := ⟨by decide +kernel, rfl⟩
theorem c5_12 : Dec jdk_52_method_21_code 12 (.caload) 1 13 := ⟨by decide +kernel, rfl⟩
theorem c5_13 : Dec jdk_52_method_21_code 13 (.istore 6) 2 15 := ⟨by decide +kernel, rfl⟩
theorem c5_15 : Dec jdk_52_method_21_code 15 (.iload 6) 2 17 := ⟨by decide +kernel, rfl⟩
theorem c5_17 : Dec jdk_52_method_21_code 17 (.sipush 255) 3 20 := ⟨by decide +kernel, rfl⟩
theorem c5_20 : Dec jdk_52_method_21_code 20 (.if_icmp .le (((26 : Nat) : Int) - ((20 : Nat) : Int))) 3 23 := ⟨by decide +kernel, rfl⟩
theorem c5_23 : Dec jdk_52_method_21_code 23 (.iload 5) 2 25 := ⟨by decide +kernel, rfl⟩
theorem c5_25 : Dec jdk_52_method_21_code 25 (.ireturn) 1 26 := ⟨by decide +kernel, rfl⟩
theorem c5_26 : Dec jdk_52_method_21_code 26 (.aload_n 2) 1 27 := ⟨by decide +kernel, rfl⟩
theorem c5_27 : Dec jdk_52_method_21_code 27 (.iload_n 3) 1 28 := ⟨by decide +kernel, rfl⟩
theorem c5_28 : Dec jdk_52_method_21_code 28 (.iload 6) 2 30 := ⟨by decide +kernel, rfl⟩
theorem c5_30 : Dec jdk_52_method_21_code 30 (.i2b) 1 31 := ⟨by decide +kernel, rfl⟩
theorem c5_31 : Dec jdk_52_method_21_code 31 (.bastore) 1 32 := ⟨by decide +kernel, rfl⟩
theorem c5_32 : Dec jdk_52_method_21_code 32 (.iinc 1 1) 3 35 := ⟨by decide +kernel, rfl⟩
theorem c5_35 : Dec jdk_52_method_21_code 35 (.iinc 3 1) 3 38 := ⟨by decide +kernel, rfl⟩
theorem c5_38 : Dec jdk_52_method_21_code 38 (.iinc 5 1) 3 41 := ⟨by decide +kernel, rfl⟩
theorem c5_41 : Dec jdk_52_method_21_code 41 (.goto (((3 : Nat) : Int) - ((41 : Nat) : Int))) 3 44 := ⟨by decide +kernel, rfl⟩
theorem c5_44 : Dec jdk_52_method_21_code 44 (.iload 4) 2 46 := ⟨by decide +kernel, rfl⟩
theorem c5_46 : Dec jdk_52_method_21_code 46 (.ireturn) 1 47 := ⟨by decide +kernel, rfl⟩
theorem nbl_0 : Dec jdk_52_method_3_code 0 (.iload_n 0) 1 1 := ⟨by decide +kernel, rfl⟩
theorem nbl_1 : Dec jdk_52_method_3_code 1 (.ifCond .ge (((12 : Nat) : Int) - ((1 : Nat) : Int))) 3 4 := ⟨by decide +kernel, rfl⟩
theorem nbl_12 : Dec jdk_52_method_3_code 12 (.iload_n 0) 1 13 := ⟨by decide +kernel, rfl⟩
theorem nbl_13 : Dec jdk_52_method_3_code 13 (.ldc 20) 2 15 := ⟨by decide +kernel, rfl⟩
theorem nbl_15 : Dec jdk_52_method_3_code 15 (.if_icmp .lt (((55 : Nat) : Int) - ((15 : Nat) : Int))) 3 18 := ⟨by decide +kernel, rfl⟩
theorem nbl_55 : Dec jdk_52_method_3_code 55 (.iload_n 0) 1 56 := ⟨by decide +kernel, rfl⟩
theorem nbl_56 : Dec jdk_52_method_3_code 56 (.iconst 1) 1 57 := ⟨by decide +kernel, rfl⟩
theorem nbl_57 : Dec jdk_52_method_3_code 57 (.ishl) 1 58 := ⟨by decide +kernel, rfl⟩
theorem nbl_58 : Dec jdk_52_method_3_code 58 (.ireturn) 1 59 := ⟨by decide +kernel, rfl⟩
theorem nbf_0 : Dec jdk_52_method_2_code 0 (.iload_n 0) 1 1 := ⟨by decide +kernel, rfl⟩
theorem nbf_1 : Dec jdk_52_method_2_code 1 (.invokestatic 11) 3 4 := ⟨by decide +kernel, rfl⟩
theorem nbf_4 : Dec jdk_52_method_2_code 4 (.newarray .byte) 2 6 := ⟨by decide +kernel, rfl⟩
theorem nbf_6 : Dec jdk_52_method_2_code 6 (.areturn) 1 7 := ⟨by decide +kernel, rfl⟩
theorem ptc_0 : Dec jdk_52_method_4_code 0 (.getstatic 44) 3 3 := ⟨by decide +kernel, rfl⟩
theorem ptc_3 : Dec jdk_52_method_4_code 3 (.ifCond .ne (((28 : Nat) : Int) - ((3 : Nat) : Int))) 3 6 := ⟨by decide +kernel, rfl⟩
theorem ptc_28 : Dec jdk_52_method_4_code 28 (.iload_n 1) 1 29 := ⟨by decide +kernel, rfl⟩
theorem ptc_29 : Dec jdk_52_method_4_code 29 (.iconst 1) 1 30 := ⟨by decide +kernel, rfl⟩
theorem ptc_30 : Dec jdk_52_method_4_code 30 (.ishl) 1 31 := ⟨by decide +kernel, rfl⟩
theorem ptc_31 : Dec jdk_52_method_4_code 31 (.istore_n 1) 1 32 := ⟨by decide +kernel, rfl⟩
theorem ptc_32 : Dec jdk_52_method_4_code 32 (.aload_n 0) 1 33 := ⟨by decide +kernel, rfl⟩
theorem ptc_33 : Dec jdk_52_method_4_code 33 (.iload_n 1) 1 34 := ⟨by decide +kernel, rfl⟩
theorem ptc_34 : Dec jdk_52_method_4_code 34 (.iinc 1 1) 3 37 := ⟨by decide +kernel, rfl⟩
theorem ptc_37 : Dec jdk_52_method_4_code 37 (.iload_n 2) 1 38 := ⟨by decide +kernel, rfl⟩
theorem ptc_38 : Dec jdk_52_method_4_code 38 (.getstatic 59) 3 41 := ⟨by decide +kernel, rfl⟩
theorem ptc_41 : Dec jdk_52_method_4_code 41 (.ishr) 1 42 := ⟨by decide +kernel, rfl⟩
theorem ptc_42 : Dec jdk_52_method_4_code 42 (.i2b) 1 43 := ⟨by decide +kernel, rfl⟩
theorem ptc_43 : Dec jdk_52_method_4_code 43 (.bastore) 1 44 := ⟨by decide +kernel, rfl⟩
theorem ptc_44 : Dec jdk_52_method_4_code 44 (.aload_n 0) 1 45 := ⟨by decide +kernel, rfl⟩
theorem ptc_45 : Dec jdk_52_method_4_code 45 (.iload_n 1) 1 46 := ⟨by decide +kernel, rfl⟩
theorem ptc_46 : Dec jdk_52_method_4_code 46 (.iload_n 2) 1 47 := ⟨by decide +kernel, rfl⟩
theorem ptc_47 : Dec jdk_52_method_4_code 47 (.getstatic 63) 3 50 := ⟨by decide +kernel, rfl⟩
theorem ptc_50 : Dec jdk_52_method_4_code 50 (.ishr) 1 51 := ⟨by decide +kernel, rfl⟩
theorem ptc_51 : Dec jdk_52_method_4_code 51 (.i2b) 1 52 := ⟨by decide +kernel, rfl⟩
theorem ptc_52 : Dec jdk_52_method_4_code 52 (.bastore) 1 53 := ⟨by decide +kernel, rfl⟩
theorem ptc_53 : Dec jdk_52_method_4_code 53 (.return_) 1 54 := ⟨by decide +kernel, rfl⟩
theorem gtc_0 : Dec jdk_52_method_5_code 0 (.getstatic 44) 3 3 := ⟨by decide +kernel, rfl⟩
theorem gtc_3 : Dec jdk_52_method_5_code 3 (.ifCond .ne (((28 : Nat) : Int) - ((3 : Nat) : Int))) 3 6 := ⟨by decide +kernel, rfl⟩
theorem gtc_28 : Dec jdk_52_method_5_code 28 (.iload_n 1) 1 29 := ⟨by decide +kernel, rfl⟩
theorem gtc_29 : Dec jdk_52_method_5_code 29 (.iconst 1) 1 30 := ⟨by decide +kernel, rfl⟩
theorem gtc_30 : Dec jdk_52_method_5_code 30 (.ishl) 1 31 := ⟨by decide +kernel, rfl⟩
theorem gtc_31 : Dec jdk_52_method_5_code 31 (.istore_n 1) 1 32 := ⟨by decide +kernel, rfl⟩
theorem gtc_32 : Dec jdk_52_method_5_code 32 (.aload_n 0) 1 33 := ⟨by decide +kernel, rfl⟩
theorem gtc_33 : Dec jdk_52_method_5_code 33 (.iload_n 1) 1 34 := ⟨by decide +kernel, rfl⟩
theorem gtc_34 : Dec jdk_52_method_5_code 34 (.iinc 1 1) 3 37 := ⟨by decide +kernel, rfl⟩
theorem gtc_37 : Dec jdk_52_method_5_code 37 (.baload) 1 38 := ⟨by decide +kernel, rfl⟩
theorem gtc_38 : Dec jdk_52_method_5_code 38 (.sipush 255) 3 41 := ⟨by decide +kernel, rfl⟩
theorem gtc_41 : Dec jdk_52_method_5_code 41 (.iand) 1 42 := ⟨by decide +kernel, rfl⟩
theorem gtc_42 : Dec jdk_52_method_5_code 42 (.getstatic 59) 3 45 := ⟨by decide +kernel, rfl⟩
theorem gtc_45 : Dec jdk_52_method_5_code 45 (.ishl) 1 46 := ⟨by decide +kernel, rfl⟩
theorem gtc_46 : Dec jdk_52_method_5_code 46 (.aload_n 0) 1 47 := ⟨by decide +kernel, rfl⟩
theorem gtc_47 : Dec jdk_52_method_5_code 47 (.iload_n 1) 1 48 := ⟨by decide +kernel, rfl⟩
theorem gtc_48 : Dec jdk_52_method_5_code 48 (.baload) 1 49 := ⟨by decide +kernel, rfl⟩
theorem gtc_49 : Dec jdk_52_method_5_code 49 (.sipush 255) 3 52 := ⟨by decide +kernel, rfl⟩
theorem gtc_52 : Dec jdk_52_method_5_code 52 (.iand) 1 53 := ⟨by decide +kernel, rfl⟩
theorem gtc_53 : Dec jdk_52_method_5_code 53 (.getstatic 63) 3 56 := ⟨by decide +kernel, rfl⟩
theorem gtc_56 : Dec jdk_52_method_5_code 56 (.ishl) 1 57 := ⟨by decide +kernel, rfl⟩
theorem gtc_57 : Dec jdk_52_method_5_code 57 (.ior) 1 58 := ⟨by decide +kernel, rfl⟩
theorem gtc_58 : Dec jdk_52_method_5_code 58 (.i2c) 1 59 := ⟨by decide +kernel, rfl⟩
theorem gtc_59 : Dec jdk_52_method_5_code 59 (.ireturn) 1 60 := ⟨by decide +kernel, rfl⟩
theorem tby_0 : Dec jdk_52_method_14_code 0 (.iload_n 2) 1 1 := ⟨by decide +kernel, rfl⟩
theorem tby_1 : Dec jdk_52_method_14_code 1 (.invokestatic 107) 3 4 := ⟨by decide +kernel, rfl⟩
theorem tby_4 : Dec jdk_52_method_14_code 4 (.astore_n 3) 1 5 := ⟨by decide +kernel, rfl⟩
theorem tby_5 : Dec jdk_52_method_14_code 5 (.iconst 0) 1 6 := ⟨by decide +kernel, rfl⟩
theorem tby_6 : Dec jdk_52_method_14_code 6 (.istore 4) 2 8 := ⟨by decide +kernel, rfl⟩
theorem tby_8 : Dec jdk_52_method_14_code 8 (.iload 4) 2 10 := ⟨by decide +kernel, rfl⟩
theorem tby_10 : Dec jdk_52_method_14_code 10 (.iload_n 2) 1 11 := ⟨by decide +kernel, rfl⟩
theorem tby_11 : Dec jdk_52_method_14_code 11 (.if_icmp .ge (((32 : Nat) : Int) - ((11 : Nat) : Int))) 3 14 := ⟨by decide +kernel, rfl⟩
theorem tby_14 : Dec jdk_52_method_14_code 14 (.aload_n 3) 1 15 := ⟨by decide +kernel, rfl⟩
theorem tby_15 : Dec jdk_52_method_14_code 15 (.iload 4) 2 17 := ⟨by decide +kernel, rfl⟩
theorem tby_17 : Dec jdk_52_method_14_code 17 (.aload_n 0) 1 18 := ⟨by decide +kernel, rfl⟩
theorem tby_18 : Dec jdk_52_method_14_code 18 (.iload_n 1) 1 19 := ⟨by decide +kernel, rfl⟩
theorem tby_19 : Dec jdk_52_method_14_code 19 (.caload) 1 20 := ⟨by decide +kernel, rfl⟩
theorem tby_20 : Dec jdk_52_method_14_code 20 (.invokestatic 111) 3 23 := ⟨by decide +kernel, rfl⟩
theorem tby_23 : Dec jdk_52_method_14_code 23 (.iinc 1 1) 3 26 := ⟨by decide +kernel, rfl⟩
theorem tby_26 : Dec jdk_52_method_14_code 26 (.iinc 4 1) 3 29 := ⟨by decide +kernel, rfl⟩
theorem tby_29 : Dec jdk_52_method_14_code 29 (.goto (((8 : Nat) : Int) - ((29 : Nat) : Int))) 3 32 := ⟨by decide +kernel, rfl⟩
theorem tby_32 : Dec jdk_52_method_14_code 32 (.aload_n 3) 1 33 := ⟨by decide +kernel, rfl⟩
theorem tby_33 : Dec jdk_52_method_14_code 33 (.areturn) 1 34 := ⟨by decide +kernel, rfl⟩
theorem c3_0 : Dec jdk_52_method_16_code 0 (.iload_n 2) 1 1 := ⟨by decide +kernel, rfl⟩
theorem c3_1 : Dec jdk_52_method_16_code 1 (.newarray .byte) 2 3 := ⟨by decide +kernel, rfl⟩
theorem c3_3 : Dec jdk_52_method_16_code 3 (.astore_n 3) 1 4 := ⟨by decide +kernel, rfl⟩
theorem c3_4 : Dec jdk_52_method_16_code 4 (.aload_n 0) 1 5 := ⟨by decide +kernel, rfl⟩
theorem c3_5 : Dec jdk_52_method_16_code 5 (.iload_n 1) 1 6 := ⟨by decide +kernel, rfl⟩
theorem c3_6 : Dec jdk_52_method_16_code 6 (.aload_n 3) 1 7 := ⟨by decide +kernel, rfl⟩
theorem c3_7 : Dec jdk_52_method_16_code 7 (.iconst 0) 1 8 := ⟨by decide +kernel, rfl⟩
theorem c3_8 : Dec jdk_52_method_16_code 8 (.iload_n 2) 1 9 := ⟨by decide +kernel, rfl⟩
theorem c3_9 : Dec jdk_52_method_16_code 9 (.invokestatic 115) 3 12 := ⟨by decide +kernel, rfl⟩
theorem c3_12 : Dec jdk_52_method_16_code 12 (.istore 4) 2 14 := ⟨by decide +kernel, rfl⟩
theorem c3_14 : Dec jdk_52_method_16_code 14 (.iload 4) 2 16 := ⟨by decide +kernel, rfl⟩
theorem c3_16 : Dec jdk_52_method_16_code 16 (.iload_n 2) 1 17 := ⟨by decide +kernel, rfl⟩
theorem c3_17 : Dec jdk_52_method_16_code 17 (.if_icmp .eq (((57 : Nat) : Int) - ((17 : Nat) : Int))) 3 20 := ⟨by decide +kernel, rfl⟩
theorem c3_20 : Dec jdk_52_method_16_code 20 (.aload_n 0) 1 21 := ⟨by decide +kernel, rfl⟩
theorem c3_21 : Dec jdk_52_method_16_code 21 (.iload_n 1) 1 22 := ⟨by decide +kernel, rfl⟩
theorem c3_22 : Dec jdk_52_method_16_code 22 (.iload_n 2) 1 23 := ⟨by decide +kernel, rfl⟩
theorem c3_23 : Dec jdk_52_method_16_code 23 (.invokestatic 119) 3 26 := ⟨by decide +kernel, rfl⟩
theorem c3_26 : Dec jdk_52_method_16_code 26 (.astore 5) 2 28 := ⟨by decide +kernel, rfl⟩
theorem c3_28 : Dec jdk_52_method_16_code 28 (.aload 5) 2 30 := ⟨by decide +kernel, rfl⟩
theorem c3_30 : Dec jdk_52_method_16_code 30 (.iload 4) 2 32 := ⟨by decide +kernel, rfl⟩
theorem c3_32 : Dec jdk_52_method_16_code 32 (.invokestatic 71) 3 35 := ⟨by decide +kernel, rfl⟩
theorem c3_35 : Dec jdk_52_method_16_code 35 (.sipush 255) 3 38 := ⟨by decide +kernel, rfl⟩
theorem c3_38 : Dec jdk_52_method_16_code 38 (.if_icmp .gt (((54 : Nat) : Int) - ((38 : Nat) : Int))) 3 41 := ⟨by decide +kernel, rfl⟩
theorem c3_54 : Dec jdk_52_method_16_code 54 (.aload 5) 2 56 := ⟨by decide +kernel, rfl⟩
theorem c3_56 : Dec jdk_52_method_16_code 56 (.areturn) 1 57 := ⟨by decide +kernel, rfl⟩
theorem c3_57 : Dec jdk_52_method_16_code 57 (.aload_n 3) 1 58 := ⟨by decide +kernel, rfl⟩
theorem c3_58 : Dec jdk_52_method_16_code 58 (.areturn) 1 59 := ⟨by decide +kernel, rfl⟩
theorem cfa_0 : Dec jdk_52_method_15_code 0 (.iload_n 1) 1 1 := ⟨by decide +kernel, rfl⟩
theorem cfa_1 : Dec jdk_52_method_15_code 1 (.aload_n 0) 1 2 := ⟨by decide +kernel, rfl⟩
theorem cfa_2 : Dec jdk_52_method_15_code 2 (.arraylength) 1 3 := ⟨by decide +kernel, rfl⟩
theorem cfa_3 : Dec jdk_52_method_15_code 3 (.isub) 1 4 := ⟨by decide +kernel, rfl⟩
theorem cfa_4 : Dec jdk_52_method_15_code 4 (.bipush 31) 2 6 := ⟨by decide +kernel, rfl⟩
theorem cfa_6 : Dec jdk_52_method_15_code 6 (.iushr) 1 7 := ⟨by decide +kernel, rfl⟩
theorem cfa_7 : Dec jdk_52_method_15_code 7 (.i2b) 1 8 := ⟨by decide +kernel, rfl⟩
theorem cfa_8 : Dec jdk_52_method_15_code 8 (.ireturn) 1 9 := ⟨by decide +kernel, rfl⟩
theorem n4_0 : Dec jdk_42_method_149_code 0 (.aload_n 0) 1 1 := ⟨by decide +kernel, rfl⟩
theorem n4_1 : Dec jdk_42_method_149_code 1 (.invokespecial 1) 3 4 := ⟨by decide +kernel, rfl⟩
theorem n4_4 : Dec jdk_42_method_149_code 4 (.iload_n 3) 1 5 := ⟨by decide +kernel, rfl⟩
theorem n4_5 : Dec jdk_42_method_149_code 5 (.ifCond .ne (((27 : Nat) : Int) - ((5 : Nat) : Int))) 3 8 := ⟨by decide +kernel, rfl⟩
theorem n4_27 : Dec jdk_42_method_149_code 27 (.getstatic 38) 3 30 := ⟨by decide +kernel, rfl⟩
theorem n4_30 : Dec jdk_42_method_149_code 30 (.ifCond .eq (((58 : Nat) : Int) - ((30 : Nat) : Int))) 3 33 := ⟨by decide +kernel, rfl⟩
theorem n4_33 : Dec jdk_42_method_149_code 33 (.aload_n 1) 1 34 := ⟨by decide +kernel, rfl⟩
theorem n4_34 : Dec jdk_42_method_149_code 34 (.iload_n 2) 1 35 := ⟨by decide +kernel, rfl⟩
theorem n4_35 : Dec jdk_42_method_149_code 35 (.iload_n 3) 1 36 := ⟨by decide +kernel, rfl⟩
theorem n4_36 : Dec jdk_42_method_149_code 36 (.invokestatic 177) 3 39 := ⟨by decide +kernel, rfl⟩
theorem n4_39 : Dec jdk_42_method_149_code 39 (.astore 5) 2 41 := ⟨by decide +kernel, rfl⟩
theorem n4_41 : Dec jdk_42_method_149_code 41 (.aload_n 0) 1 42 := ⟨by decide +kernel, rfl⟩
theorem n4_42 : Dec jdk_42_method_149_code 42 (.aload 5) 2 44 := ⟨by decide +kernel, rfl⟩
theorem n4_44 : Dec jdk_42_method_149_code 44 (.iload_n 3) 1 45 := ⟨by decide +kernel, rfl⟩
theorem n4_45 : Dec jdk_42_method_149_code 45 (.invokestatic 47) 3 48 := ⟨by decide +kernel, rfl⟩
theorem n4_48 : Dec jdk_42_method_149_code 48 (.putfield 15) 3 51 := ⟨by decide +kernel, rfl⟩
theorem n4_51 : Dec jdk_42_method_149_code 51 (.aload_n 0) 1 52 := ⟨by decide +kernel, rfl⟩
theorem n4_52 : Dec jdk_42_method_149_code 52 (.aload 5) 2 54 := ⟨by decide +kernel, rfl⟩
theorem n4_54 : Dec jdk_42_method_149_code 54 (.putfield 9) 3 57 := ⟨by decide +kernel, rfl⟩
theorem n4_57 : Dec jdk_42_method_149_code 57 (.return_) 1 58 := ⟨by decide +kernel, rfl⟩
theorem n1_0 : Dec jdk_42_method_3_code 0 (.aload_n 0) 1 1 := ⟨by decide +kernel, rfl⟩
theorem n1_1 : Dec jdk_42_method_3_code 1 (.aload_n 1) 1 2 := ⟨by decide +kernel, rfl⟩
theorem n1_2 : Dec jdk_42_method_3_code 2 (.iconst 0) 1 3 := ⟨by decide +kernel, rfl⟩
theorem n1_3 : Dec jdk_42_method_3_code 3 (.aload_n 1) 1 4 := ⟨by decide +kernel, rfl⟩
theorem n1_4 : Dec jdk_42_method_3_code 4 (.arraylength) 1 5 := ⟨by decide +kernel, rfl⟩
theorem n1_5 : Dec jdk_42_method_3_code 5 (.aconst_null) 1 6 := ⟨by decide +kernel, rfl⟩
theorem n1_6 : Dec jdk_42_method_3_code 6 (.invokespecial 27) 3 9 := ⟨by decide +kernel, rfl⟩
theorem n1_9 : Dec jdk_42_method_3_code 9 (.return_) 1 10 := ⟨by decide +kernel, rfl⟩
theorem pci_0 : Dec jdk_41_method_11_code 0 (.iload_n 0) 1 1 := ⟨by decide +kernel, rfl⟩
theorem pci_1 : Dec jdk_41_method_11_code 1 (.ifCond .lt (((9 : Nat) : Int) - ((1 : Nat) : Int))) 3 4 := ⟨by decide +kernel, rfl⟩
theorem pci_4 : Dec jdk_41_method_11_code 4 (.iload_n 0) 1 5 := ⟨by decide +kernel, rfl⟩
theorem pci_5 : Dec jdk_41_method_11_code 5 (.iload_n 1) 1 6 := ⟨by decide +kernel, rfl⟩
theorem pci_6 : Dec jdk_41_method_11_code 6 (.if_icmp .lt (((16 : Nat) : Int) - ((6 : Nat) : Int))) 3 9 := ⟨by decide +kernel, rfl⟩
theorem pci_16 : Dec jdk_41_method_11_code 16 (.iload_n 0) 1 17 := ⟨by decide +kernel, rfl⟩
theorem pci_17 : Dec jdk_41_method_11_code 17 (.ireturn) 1 18 := ⟨by decide +kernel, rfl⟩
theorem sci_0 : Dec jdk_42_method_155_code 0 (.iload_n 0) 1 1 := ⟨by decide +kernel, rfl⟩
theorem sci_1 : Dec jdk_42_method_155_code 1 (.iload_n 1) 1 2 := ⟨by decide +kernel, rfl⟩
theorem sci_2 : Dec jdk_42_method_155_code 2 (.getstatic 1053) 3 5 := ⟨by decide +kernel, rfl⟩
theorem sci_5 : Dec jdk_42_method_155_code 5 (.invokestatic 1059) 3 8 := ⟨by decide +kernel, rfl⟩
theorem sci_8 : Dec jdk_42_method_155_code 8 (.pop) 1 9 := ⟨by decide +kernel, rfl⟩
theorem sci_9 : Dec jdk_42_method_155_code 9 (.return_) 1 10 := ⟨by decide +kernel, rfl⟩
theorem ule_0 : Dec jdk_52_method_6_code 0 (.aload_n 0) 1 1 := ⟨by decide +kernel, rfl⟩
theorem ule_1 : Dec jdk_52_method_6_code 1 (.arraylength) 1 2 := ⟨by decide +kernel, rfl⟩
theorem ule_2 : Dec jdk_52_method_6_code 2 (.iconst 1) 1 3 := ⟨by decide +kernel, rfl⟩
theorem ule_3 : Dec jdk_52_method_6_code 3 (.ishr) 1 4 := ⟨by decide +kernel, rfl⟩
theorem ule_4 : Dec jdk_52_method_6_code 4 (.ireturn) 1 5 := ⟨by decide +kernel, rfl⟩
theorem uci_0 : Dec jdk_52_method_91_code 0 (.iload_n 0) 1 1 := ⟨by decide +kernel, rfl⟩
theorem uci_1 : Dec jdk_52_method_91_code 1 (.aload_n 1) 1 2 := ⟨by decide +kernel, rfl⟩
theorem uci_2 : Dec jdk_52_method_91_code 2 (.invokestatic 48) 3 5 := ⟨by decide +kernel, rfl⟩
theorem uci_5 : Dec jdk_52_method_91_code 5 (.invokestatic 414) 3 8 := ⟨by decide +kernel, rfl⟩
theorem uci_8 : Dec jdk_52_method_91_code 8 (.return_) 1 9 := ⟨by decide +kernel, rfl⟩
theorem uca_0 : Dec jdk_52_method_83_code 0 (.iload_n 1) 1 1 := ⟨by decide +kernel, rfl⟩
theorem uca_1 : Dec jdk_52_method_83_code 1 (.aload_n 0) 1 2 := ⟨by decide +kernel, rfl⟩
theorem uca_2 : Dec jdk_52_method_83_code 2 (.invokestatic 67) 3 5 := ⟨by decide +kernel, rfl⟩
theorem uca_5 : Dec jdk_52_method_83_code 5 (.aload_n 0) 1 6 := ⟨by decide +kernel, rfl⟩
theorem uca_6 : Dec jdk_52_method_83_code 6 (.iload_n 1) 1 7 := ⟨by decide +kernel, rfl⟩
theorem uca_7 : Dec jdk_52_method_83_code 7 (.invokestatic 71) 3 10 := ⟨by decide +kernel, rfl⟩
theorem uca_10 : Dec jdk_52_method_83_code 10 (.ireturn) 1 11 := ⟨by decide +kernel, rfl⟩
theorem isl_0 : Dec jdk_42_method_154_code 0 (.getstatic 38) 3 3 := ⟨by decide +kernel, rfl⟩
theorem isl_3 : Dec jdk_42_method_154_code 3 (.ifCond .eq (((17 : Nat) : Int) - ((3 : Nat) : Int))) 3 6 := ⟨by decide +kernel, rfl⟩
theorem isl_6 : Dec jdk_42_method_154_code 6 (.aload_n 0) 1 7 := ⟨by decide +kernel, rfl⟩
theorem isl_7 : Dec jdk_42_method_154_code 7 (.getfield 15) 3 10 := ⟨by decide +kernel, rfl⟩
theorem isl_10 : Dec jdk_42_method_154_code 10 (.ifCond .ne (((17 : Nat) : Int) - ((10 : Nat) : Int))) 3 13 := ⟨by decide +kernel, rfl⟩
theorem isl_17 : Dec jdk_42_method_154_code 17 (.iconst 0) 1 18 := ⟨by decide +kernel, rfl⟩
theorem isl_18 : Dec jdk_42_method_154_code 18 (.ireturn) 1 19 := ⟨by decide +kernel, rfl⟩
theorem cha_0 : Dec jdk_42_method_56_code 0 (.aload_n 0) 1 1 := ⟨by decide +kernel, rfl⟩
theorem cha_1 : Dec jdk_42_method_56_code 1 (.invokevirtual 492) 3 4 := ⟨by decide +kernel, rfl⟩
theorem cha_4 : Dec jdk_42_method_56_code 4 (.ifCond .eq (((16 : Nat) : Int) - ((4 : Nat) : Int))) 3 7 := ⟨by decide +kernel, rfl⟩
theorem cha_16 : Dec jdk_42_method_56_code 16 (.aload_n 0) 1 17 := ⟨by decide +kernel, rfl⟩
theorem cha_17 : Dec jdk_42_method_56_code 17 (.getfield 9) 3 20 := ⟨by decide +kernel, rfl⟩
theorem cha_20 : Dec jdk_42_method_56_code 20 (.iload_n 1) 1 21 := ⟨by decide +kernel, rfl⟩
theorem cha_21 : Dec jdk_42_method_56_code 21 (.invokestatic 498) 3 24 := ⟨by decide +kernel, rfl⟩
theorem cha_24 : Dec jdk_42_method_56_code 24 (.ireturn) 1 25 := ⟨by decide +kernel, rfl⟩
theorem isLower_0 : Dec prog_6_method_11_code 0 (.iload_n 0) 1 1 := ⟨by decide +kernel, rfl⟩
theorem isLower_1 : Dec prog_6_method_11_code 1 (.bipush 97) 2 3 := ⟨by decide +kernel, rfl⟩
theorem isLower_3 : Dec prog_6_method_11_code 3 (.if_icmp .lt (((16 : Nat) : Int) - ((3 : Nat) : Int))) 3 6 := ⟨by decide +kernel, rfl⟩
theorem isLower_6 : Dec prog_6_method_11_code 6 (.iload_n 0) 1 7 := ⟨by decide +kernel, rfl⟩
theorem isLower_7 : Dec prog_6_method_11_code 7 (.bipush 122) 2 9 := ⟨by decide +kernel, rfl⟩
theorem isLower_9 : Dec prog_6_method_11_code 9 (.if_icmp .gt (((16 : Nat) : Int) - ((9 : Nat) : Int))) 3 12 := ⟨by decide +kernel, rfl⟩
theorem isLower_12 : Dec prog_6_method_11_code 12 (.iconst 1) 1 13 := ⟨by decide +kernel, rfl⟩
theorem isLower_13 : Dec prog_6_method_11_code 13 (.goto (((17 : Nat) : Int) - ((13 : Nat) : Int))) 3 16 := ⟨by decide +kernel, rfl⟩
theorem isLower_16 : Dec prog_6_method_11_code 16 (.iconst 0) 1 17 := ⟨by decide +kernel, rfl⟩
theorem isLower_17 : Dec prog_6_method_11_code 17 (.ireturn) 1 18 := ⟨by decide +kernel, rfl⟩
theorem isDigit_0 : Dec prog_6_method_13_code 0 (.iload_n 0) 1 1 := ⟨by decide +kernel, rfl⟩
theorem isDigit_1 : Dec prog_6_method_13_code 1 (.bipush 48) 2 3 := ⟨by decide +kernel, rfl⟩
theorem isDigit_3 : Dec prog_6_method_13_code 3 (.if_icmp .lt (((16 : Nat) : Int) - ((3 : Nat) : Int))) 3 6 := ⟨by decide +kernel, rfl⟩
theorem isDigit_6 : Dec prog_6_method_13_code 6 (.iload_n 0) 1 7 := ⟨by decide +kernel, rfl⟩
theorem isDigit_7 : Dec prog_6_method_13_code 7 (.bipush 57) 2 9 := ⟨by decide +kernel, rfl⟩
theorem isDigit_9 : Dec prog_6_method_13_code 9 (.if_icmp .gt (((16 : Nat) : Int) - ((9 : Nat) : Int))) 3 12 := ⟨by decide +kernel, rfl⟩
theorem isDigit_12 : Dec prog_6_method_13_code 12 (.iconst 1) 1 13 := ⟨by decide +kernel, rfl⟩
theorem isDigit_13 : Dec prog_6_method_13_code 13 (.goto (((17 : Nat) : Int) - ((13 : Nat) : Int))) 3 16 := ⟨by decide +kernel, rfl⟩
theorem isDigit_16 : Dec prog_6_method_13_code 16 (.iconst 0) 1 17 := ⟨by decide +kernel, rfl⟩
theorem isDigit_17 : Dec prog_6_method_13_code 17 (.ireturn) 1 18 := ⟨by decide +kernel, rfl⟩
theorem opi_0 : Dec prog_6_method_5_code 0 (.aload_n 0) 1 1 := ⟨by decide +kernel, rfl⟩
theorem opi_1 : Dec prog_6_method_5_code 1 (.invokevirtual 21) 3 4 := ⟨by decide +kernel, rfl⟩
theorem opi_4 : Dec prog_6_method_5_code 4 (.ifCond .ne (((17 : Nat) : Int) - ((4 : Nat) : Int))) 3 7 := ⟨by decide +kernel, rfl⟩
theorem opi_7 : Dec prog_6_method_5_code 7 (.aload_n 0) 1 8 := ⟨by decide +kernel, rfl⟩
theorem opi_8 : Dec prog_6_method_5_code 8 (.invokevirtual 27) 3 11 := ⟨by decide +kernel, rfl⟩
theorem opi_11 : Dec prog_6_method_5_code 11 (.sipush 128) 3 14 := ⟨by decide +kernel, rfl⟩
theorem opi_14 : Dec prog_6_method_5_code 14 (.if_icmp .le (((19 : Nat) : Int) - ((14 : Nat) : Int))) 3 17 := ⟨by decide +kernel, rfl⟩
theorem opi_17 : Dec prog_6_method_5_code 17 (.iconst 0) 1 18 := ⟨by decide +kernel, rfl⟩
theorem opi_18 : Dec prog_6_method_5_code 18 (.ireturn) 1 19 := ⟨by decide +kernel, rfl⟩
theorem opi_19 : Dec prog_6_method_5_code 19 (.iconst 1) 1 20 := ⟨by decide +kernel, rfl⟩
theorem opi_20 : Dec prog_6_method_5_code 20 (.istore_n 1) 1 21 := ⟨by decide +kernel, rfl⟩
theorem opi_21 : Dec prog_6_method_5_code 21 (.iconst 0) 1 22 := ⟨by decide +kernel, rfl⟩
theorem opi_22 : Dec prog_6_method_5_code 22 (.istore_n 2) 1 23 := ⟨by decide +kernel, rfl⟩
theorem opi_23 : Dec prog_6_method_5_code 23 (.iload_n 2) 1 24 := ⟨by decide +kernel, rfl⟩
theorem opi_24 : Dec prog_6_method_5_code 24 (.aload_n 0) 1 25 := ⟨by decide +kernel, rfl⟩
theorem opi_25 : Dec prog_6_method_5_code 25 (.invokevirtual 27) 3 28 := ⟨by decide +kernel, rfl⟩
theorem opi_28 : Dec prog_6_method_5_code 28 (.if_icmp .ge (((79 : Nat) : Int) - ((28 : Nat) : Int))) 3 31 := ⟨by decide +kernel, rfl⟩
theorem opi_31 : Dec prog_6_method_5_code 31 (.aload_n 0) 1 32 := ⟨by decide +kernel, rfl⟩
theorem opi_32 : Dec prog_6_method_5_code 32 (.iload_n 2) 1 33 := ⟨by decide +kernel, rfl⟩
theorem opi_33 : Dec prog_6_method_5_code 33 (.invokevirtual 31) 3 36 := ⟨by decide +kernel, rfl⟩
theorem opi_36 : Dec prog_6_method_5_code 36 (.istore_n 3) 1 37 := ⟨by decide +kernel, rfl⟩
theorem opi_37 : Dec prog_6_method_5_code 37 (.iload_n 3) 1 38 := ⟨by decide +kernel, rfl⟩
theorem opi_38 : Dec prog_6_method_5_code 38 (.bipush 45) 2 40 := ⟨by decide +kernel, rfl⟩
theorem opi_40 : Dec prog_6_method_5_code 40 (.if_icmp .ne (((52 : Nat) : Int) - ((40 : Nat) : Int))) 3 43 := ⟨by decide +kernel, rfl⟩
theorem opi_43 : Dec prog_6_method_5_code 43 (.iload_n 1) 1 44 := ⟨by decide +kernel, rfl⟩
theorem opi_44 : Dec prog_6_method_5_code 44 (.ifCond .ne (((52 : Nat) : Int) - ((44 : Nat) : Int))) 3 47 := ⟨by decide +kernel, rfl⟩
theorem opi_47 : Dec prog_6_method_5_code 47 (.iconst 1) 1 48 := ⟨by decide +kernel, rfl⟩
theorem opi_48 : Dec prog_6_method_5_code 48 (.istore_n 1) 1 49 := ⟨by decide +kernel, rfl⟩
theorem opi_49 : Dec prog_6_method_5_code 49 (.goto (((73 : Nat) : Int) - ((49 : Nat) : Int))) 3 52 := ⟨by decide +kernel, rfl⟩
theorem opi_52 : Dec prog_6_method_5_code 52 (.iload_n 3) 1 53 := ⟨by decide +kernel, rfl⟩
theorem opi_53 : Dec prog_6_method_5_code 53 (.invokestatic 35) 3 56 := ⟨by decide +kernel, rfl⟩
theorem opi_56 : Dec prog_6_method_5_code 56 (.ifCond .ne (((66 : Nat) : Int) - ((56 : Nat) : Int))) 3 59 := ⟨by decide +kernel, rfl⟩
theorem opi_59 : Dec prog_6_method_5_code 59 (.iload_n 3) 1 60 := ⟨by decide +kernel, rfl⟩
theorem opi_60 : Dec prog_6_method_5_code 60 (.invokestatic 39) 3 63 := ⟨by decide +kernel, rfl⟩
theorem opi_63 : Dec prog_6_method_5_code 63 (.ifCond .eq (((71 : Nat) : Int) - ((63 : Nat) : Int))) 3 66 := ⟨by decide +kernel, rfl⟩
theorem opi_66 : Dec prog_6_method_5_code 66 (.iconst 0) 1 67 := ⟨by decide +kernel, rfl⟩
theorem opi_67 : Dec prog_6_method_5_code 67 (.istore_n 1) 1 68 := ⟨by decide +kernel, rfl⟩
theorem opi_68 : Dec prog_6_method_5_code 68 (.goto (((73 : Nat) : Int) - ((68 : Nat) : Int))) 3 71 := ⟨by decide +kernel, rfl⟩
theorem opi_71 : Dec prog_6_method_5_code 71 (.iconst 0) 1 72 := ⟨by decide +kernel, rfl⟩
theorem opi_72 : Dec prog_6_method_5_code 72 (.ireturn) 1 73 := ⟨by decide +kernel, rfl⟩
theorem opi_73 : Dec prog_6_method_5_code 73 (.iinc 2 1) 3 76 := ⟨by decide +kernel, rfl⟩
theorem opi_76 : Dec prog_6_method_5_code 76 (.goto (((23 : Nat) : Int) - ((76 : Nat) : Int))) 3 79 := ⟨by decide +kernel, rfl⟩
theorem opi_79 : Dec prog_6_method_5_code 79 (.iload_n 1) 1 80 := ⟨by decide +kernel, rfl⟩
theorem opi_80 : Dec prog_6_method_5_code 80 (.ifCond .ne (((87 : Nat) : Int) - ((80 : Nat) : Int))) 3 83 := ⟨by decide +kernel, rfl⟩
theorem opi_83 : Dec prog_6_method_5_code 83 (.iconst 1) 1 84 := ⟨by decide +kernel, rfl⟩
theorem opi_84 : Dec prog_6_method_5_code 84 (.goto (((88 : Nat) : Int) - ((84 : Nat) : Int))) 3 87 := ⟨by decide +kernel, rfl⟩
theorem opi_87 : Dec prog_6_method_5_code 87 (.iconst 0) 1 88 := ⟨by decide +kernel, rfl⟩
theorem opi_88 : Dec prog_6_method_5_code 88 (.ireturn) 1 89 := ⟨by decide +kernel, rfl⟩
theorem ne4_0 : Dec jdk_42_method_149_code 0 (.aload_n 0) 1 1 := ⟨by decide +kernel, rfl⟩
theorem ne4_1 : Dec jdk_42_method_149_code 1 (.invokespecial 1) 3 4 := ⟨by decide +kernel, rfl⟩
theorem ne4_4 : Dec jdk_42_method_149_code 4 (.iload_n 3) 1 5 := ⟨by decide +kernel, rfl⟩
theorem ne4_5 : Dec jdk_42_method_149_code 5 (.ifCond .ne (((27 : Nat) : Int) - ((5 : Nat) : Int))) 3 8 := ⟨by decide +kernel, rfl⟩
theorem ne4_8 : Dec jdk_42_method_149_code 8 (.aload_n 0) 1 9 := ⟨by decide +kernel, rfl⟩
theorem ne4_9 : Dec jdk_42_method_149_code 9 (.ldc 7) 2 11 := ⟨by decide +kernel, rfl⟩
theorem ne4_11 : Dec jdk_42_method_149_code 11 (.getfield 9) 3 14 := ⟨by decide +kernel, rfl⟩
theorem ne4_14 : Dec jdk_42_method_149_code 14 (.putfield 9) 3 17 := ⟨by decide +kernel, rfl⟩
theorem ne4_17 : Dec jdk_42_method_149_code 17 (.aload_n 0) 1 18 := ⟨by decide +kernel, rfl⟩
theorem ne4_18 : Dec jdk_42_method_149_code 18 (.ldc 7) 2 20 := ⟨by decide +kernel, rfl⟩
theorem ne4_20 : Dec jdk_42_method_149_code 20 (.getfield 15) 3 23 := ⟨by decide +kernel, rfl⟩
theorem ne4_23 : Dec jdk_42_method_149_code 23 (.putfield 15) 3 26 := ⟨by decide +kernel, rfl⟩
theorem ne4_26 : Dec jdk_42_method_149_code 26 (.return_) 1 27 := ⟨by decide +kernel, rfl⟩
theorem ne1_0 : Dec jdk_42_method_3_code 0 (.aload_n 0) 1 1 := ⟨by decide +kernel, rfl⟩
theorem ne1_1 : Dec jdk_42_method_3_code 1 (.aload_n 1) 1 2 := ⟨by decide +kernel, rfl⟩
theorem ne1_2 : Dec jdk_42_method_3_code 2 (.iconst 0) 1 3 := ⟨by decide +kernel, rfl⟩
theorem ne1_3 : Dec jdk_42_method_3_code 3 (.aload_n 1) 1 4 := ⟨by decide +kernel, rfl⟩
theorem ne1_4 : Dec jdk_42_method_3_code 4 (.arraylength) 1 5 := ⟨by decide +kernel, rfl⟩
theorem ne1_5 : Dec jdk_42_method_3_code 5 (.aconst_null) 1 6 := ⟨by decide +kernel, rfl⟩
theorem ne1_6 : Dec jdk_42_method_3_code 6 (.invokespecial 27) 3 9 := ⟨by decide +kernel, rfl⟩
theorem ne1_9 : Dec jdk_42_method_3_code 9 (.return_) 1 10 := ⟨by decide +kernel, rfl⟩
theorem ch_0 : Dec method_3_code 0 (.iload_n 1) 1 1 := ⟨by decide +kernel, rfl⟩
theorem ch_1 : Dec method_3_code 1 (.ifCond .eq (((14 : Nat) : Int) - ((1 : Nat) : Int))) 3 4 := ⟨by decide +kernel, rfl⟩
theorem ch_4 : Dec method_3_code 4 (.ldc 39) 2 6 := ⟨by decide +kernel, rfl⟩
theorem ch_6 : Dec method_3_code 6 (.iload_n 0) 1 7 := ⟨by decide +kernel, rfl⟩
theorem ch_7 : Dec method_3_code 7 (.bipush 10) 2 9 := ⟨by decide +kernel, rfl⟩
theorem ch_9 : Dec method_3_code 9 (.irem) 1 10 := ⟨by decide +kernel, rfl⟩
theorem ch_10 : Dec method_3_code 10 (.invokevirtual 41) 3 13 := ⟨by decide +kernel, rfl⟩
theorem ch_13 : Dec method_3_code 13 (.ireturn) 1 14 := ⟨by decide +kernel, rfl⟩
theorem ch_14 : Dec method_3_code 14 (.iload_n 0) 1 15 := ⟨by decide +kernel, rfl⟩
theorem ch_15 : Dec method_3_code 15 (.i2c) 1 16 := ⟨by decide +kernel, rfl⟩
theorem ch_16 : Dec method_3_code 16 (.ireturn) 1 17 := ⟨by decide +kernel, rfl⟩
theorem pk_0 : Dec method_5_code 0 (.iload_n 1) 1 1 := ⟨by decide +kernel, rfl⟩
theorem pk_1 : Dec method_5_code 1 (.tableswitch 251 0 7 #[47, 51, 61, 77, 99, 127, 161, 202]) 47 48 := ⟨by decide +kernel, rfl⟩
theorem pk_48 : Dec method_5_code 48 (.iconst 0) 1 49 := ⟨by decide +kernel, rfl⟩
theorem pk_49 : Dec method_5_code 49 (.newarray .char) 2 51 := ⟨by decide +kernel, rfl⟩
theorem pk_51 : Dec method_5_code 51 (.areturn) 1 52 := ⟨by decide +kernel, rfl⟩
theorem pk_52 : Dec method_5_code 52 (.iconst 1) 1 53 := ⟨by decide +kernel, rfl⟩
theorem pk_53 : Dec method_5_code 53 (.newarray .char) 2 55 := ⟨by decide +kernel, rfl⟩
theorem pk_55 : Dec method_5_code 55 (.dup) 1 56 := ⟨by decide +kernel, rfl⟩
theorem pk_56 : Dec method_5_code 56 (.iconst 0) 1 57 := ⟨by decide +kernel, rfl⟩
theorem pk_57 : Dec method_5_code 57 (.aload_n 0) 1 58 := ⟨by decide +kernel, rfl⟩
theorem pk_58 : Dec method_5_code 58 (.iconst 0) 1 59 := ⟨by decide +kernel, rfl⟩
theorem pk_59 : Dec method_5_code 59 (.caload) 1 60 := ⟨by decide +kernel, rfl⟩
theorem pk_60 : Dec method_5_code 60 (.castore) 1 61 := ⟨by decide +kernel, rfl⟩
theorem pk_61 : Dec method_5_code 61 (.areturn) 1 62 := ⟨by decide +kernel, rfl⟩
theorem pk_62 : Dec method_5_code 62 (.iconst 2) 1 63 := ⟨by decide +kernel, rfl⟩
theorem pk_63 : Dec method_5_code 63 (.newarray .char) 2 65 := ⟨by decide +kernel, rfl⟩
theorem pk_65 : Dec method_5_code 65 (.dup) 1 66 := ⟨by decide +kernel, rfl⟩
theorem pk_66 : Dec method_5_code 66 (.iconst 0) 1 67 := ⟨by decide +kernel, rfl⟩
theorem pk_67 : Dec method_5_code 67 (.aload_n 0) 1 68 := ⟨by decide +kernel, rfl⟩
theorem pk_68 : Dec method_5_code 68 (.iconst 0) 1 69 := ⟨by decide +kernel, rfl⟩
theorem pk_69 : Dec method_5_code 69 (.caload) 1 70 := ⟨by decide +kernel, rfl⟩
theorem pk_70 : Dec method_5_code 70 (.castore) 1 71 := ⟨by decide +kernel, rfl⟩
theorem pk_71 : Dec method_5_code 71 (.dup) 1 72 := ⟨by decide +kernel, rfl⟩
theorem pk_72 : Dec method_5_code 72 (.iconst 1) 1 73 := ⟨by decide +kernel, rfl⟩
theorem pk_73 : Dec method_5_code 73 (.aload_n 0) 1 74 := ⟨by decide +kernel, rfl⟩
theorem pk_74 : Dec method_5_code 74 (.iconst 1) 1 75 := ⟨by decide +kernel, rfl⟩
theorem pk_75 : Dec method_5_code 75 (.caload) 1 76 := ⟨by decide +kernel, rfl⟩
theorem pk_76 : Dec method_5_code 76 (.castore) 1 77 := ⟨by decide +kernel, rfl⟩
theorem pk_77 : Dec method_5_code 77 (.areturn) 1 78 := ⟨by decide +kernel, rfl⟩
theorem pk_78 : Dec method_5_code 78 (.iconst 3) 1 79 := ⟨by decide +kernel, rfl⟩
theorem pk_79 : Dec method_5_code 79 (.newarray .char) 2 81 := ⟨by decide +kernel, rfl⟩
theorem pk_81 : Dec method_5_code 81 (.dup) 1 82 := ⟨by decide +kernel, rfl⟩
theorem pk_82 : Dec method_5_code 82 (.iconst 0) 1 83 := ⟨by decide +kernel, rfl⟩
theorem pk_83 : Dec method_5_code 83 (.aload_n 0) 1 84 := ⟨by decide +kernel, rfl⟩
theorem pk_84 : Dec method_5_code 84 (.iconst 0) 1 85 := ⟨by decide +kernel, rfl⟩
theorem pk_85 : Dec method_5_code 85 (.caload) 1 86 := ⟨by decide +kernel, rfl⟩
theorem pk_86 : Dec method_5_code 86 (.castore) 1 87 := ⟨by decide +kernel, rfl⟩
theorem pk_87 : Dec method_5_code 87 (.dup) 1 88 := ⟨by decide +kernel, rfl⟩
theorem pk_88 : Dec method_5_code 88 (.iconst 1) 1 89 := ⟨by decide +kernel, rfl⟩
theorem pk_89 : Dec method_5_code 89 (.aload_n 0) 1 90 := ⟨by decide +kernel, rfl⟩
theorem pk_90 : Dec method_5_code 90 (.iconst 1) 1 91 := ⟨by decide +kernel, rfl⟩
theorem pk_91 : Dec method_5_code 91 (.caload) 1 92 := ⟨by decide +kernel, rfl⟩
theorem pk_92 : Dec method_5_code 92 (.castore) 1 93 := ⟨by decide +kernel, rfl⟩
theorem pk_93 : Dec method_5_code 93 (.dup) 1 94 := ⟨by decide +kernel, rfl⟩
theorem pk_94 : Dec method_5_code 94 (.iconst 2) 1 95 := ⟨by decide +kernel, rfl⟩
theorem pk_95 : Dec method_5_code 95 (.aload_n 0) 1 96 := ⟨by decide +kernel, rfl⟩
theorem pk_96 : Dec method_5_code 96 (.iconst 2) 1 97 := ⟨by decide +kernel, rfl⟩
theorem pk_97 : Dec method_5_code 97 (.caload) 1 98 := ⟨by decide +kernel, rfl⟩
theorem pk_98 : Dec method_5_code 98 (.castore) 1 99 := ⟨by decide +kernel, rfl⟩
theorem pk_99 : Dec method_5_code 99 (.areturn) 1 100 := ⟨by decide +kernel, rfl⟩
theorem pk_100 : Dec method_5_code 100 (.iconst 4) 1 101 := ⟨by decide +kernel, rfl⟩
theorem pk_101 : Dec method_5_code 101 (.newarray .char) 2 103 := ⟨by decide +kernel, rfl⟩
theorem pk_103 : Dec method_5_code 103 (.dup) 1 104 := ⟨by decide +kernel, rfl⟩
theorem pk_104 : Dec method_5_code 104 (.iconst 0) 1 105 := ⟨by decide +kernel, rfl⟩
theorem pk_105 : Dec method_5_code 105 (.aload_n 0) 1 106 := ⟨by decide +kernel, rfl⟩
theorem pk_106 : Dec method_5_code 106 (.iconst 0) 1 107 := ⟨by decide +kernel, rfl⟩
theorem pk_107 : Dec method_5_code 107 (.caload) 1 108 := ⟨by decide +kernel, rfl⟩
theorem pk_108 : Dec method_5_code 108 (.castore) 1 109 := ⟨by decide +kernel, rfl⟩
theorem pk_109 : Dec method_5_code 109 (.dup) 1 110 := ⟨by decide +kernel, rfl⟩
theorem pk_110 : Dec method_5_code 110 (.iconst 1) 1 111 := ⟨by decide +kernel, rfl⟩
theorem pk_111 : Dec method_5_code 111 (.aload_n 0) 1 112 := ⟨by decide +kernel, rfl⟩
theorem pk_112 : Dec method_5_code 112 (.iconst 1) 1 113 := ⟨by decide +kernel, rfl⟩
theorem pk_113 : Dec method_5_code 113 (.caload) 1 114 := ⟨by decide +kernel, rfl⟩
theorem pk_114 : Dec method_5_code 114 (.castore) 1 115 := ⟨by decide +kernel, rfl⟩
theorem pk_115 : Dec method_5_code 115 (.dup) 1 116 := ⟨by decide +kernel, rfl⟩
theorem pk_116 : Dec method_5_code 116 (.iconst 2) 1 117 := ⟨by decide +kernel, rfl⟩
theorem pk_117 : Dec method_5_code 117 (.aload_n 0) 1 118 := ⟨by decide +kernel, rfl⟩
theorem pk_118 : Dec method_5_code 118 (.iconst 2) 1 119 := ⟨by decide +kernel, rfl⟩
theorem pk_119 : Dec method_5_code 119 (.caload) 1 120 := ⟨by decide +kernel, rfl⟩
theorem pk_120 : Dec method_5_code 120 (.castore) 1 121 := ⟨by decide +kernel, rfl⟩
theorem pk_121 : Dec method_5_code 121 (.dup) 1 122 := ⟨by decide +kernel, rfl⟩
theorem pk_122 : Dec method_5_code 122 (.iconst 3) 1 123 := ⟨by decide +kernel, rfl⟩
theorem pk_123 : Dec method_5_code 123 (.aload_n 0) 1 124 := ⟨by decide +kernel, rfl⟩
theorem pk_124 : Dec method_5_code 124 (.iconst 3) 1 125 := ⟨by decide +kernel, rfl⟩
theorem pk_125 : Dec method_5_code 125 (.caload) 1 126 := ⟨by decide +kernel, rfl⟩
theorem pk_126 : Dec method_5_code 126 (.castore) 1 127 := ⟨by decide +kernel, rfl⟩
theorem pk_127 : Dec method_5_code 127 (.areturn) 1 128 := ⟨by decide +kernel, rfl⟩
theorem pk_128 : Dec method_5_code 128 (.iconst 5) 1 129 := ⟨by decide +kernel, rfl⟩
theorem pk_129 : Dec method_5_code 129 (.newarray .char) 2 131 := ⟨by decide +kernel, rfl⟩
theorem pk_131 : Dec method_5_code 131 (.dup) 1 132 := ⟨by decide +kernel, rfl⟩
theorem pk_132 : Dec method_5_code 132 (.iconst 0) 1 133 := ⟨by decide +kernel, rfl⟩
theorem pk_133 : Dec method_5_code 133 (.aload_n 0) 1 134 := ⟨by decide +kernel, rfl⟩
theorem pk_134 : Dec method_5_code 134 (.iconst 0) 1 135 := ⟨by decide +kernel, rfl⟩
theorem pk_135 : Dec method_5_code 135 (.caload) 1 136 := ⟨by decide +kernel, rfl⟩
theorem pk_136 : Dec method_5_code 136 (.castore) 1 137 := ⟨by decide +kernel, rfl⟩
theorem pk_137 : Dec method_5_code 137 (.dup) 1 138 := ⟨by decide +kernel, rfl⟩
theorem pk_138 : Dec method_5_code 138 (.iconst 1) 1 139 := ⟨by decide +kernel, rfl⟩
theorem pk_139 : Dec method_5_code 139 (.aload_n 0) 1 140 := ⟨by decide +kernel, rfl⟩
theorem pk_140 : Dec method_5_code 140 (.iconst 1) 1 141 := ⟨by decide +kernel, rfl⟩
theorem pk_141 : Dec method_5_code 141 (.caload) 1 142 := ⟨by decide +kernel, rfl⟩
theorem pk_142 : Dec method_5_code 142 (.castore) 1 143 := ⟨by decide +kernel, rfl⟩
theorem pk_143 : Dec method_5_code 143 (.dup) 1 144 := ⟨by decide +kernel, rfl⟩
theorem pk_144 : Dec method_5_code 144 (.iconst 2) 1 145 := ⟨by decide +kernel, rfl⟩
theorem pk_145 : Dec method_5_code 145 (.aload_n 0) 1 146 := ⟨by decide +kernel, rfl⟩
theorem pk_146 : Dec method_5_code 146 (.iconst 2) 1 147 := ⟨by decide +kernel, rfl⟩
theorem pk_147 : Dec method_5_code 147 (.caload) 1 148 := ⟨by decide +kernel, rfl⟩
theorem pk_148 : Dec method_5_code 148 (.castore) 1 149 := ⟨by decide +kernel, rfl⟩
theorem pk_149 : Dec method_5_code 149 (.dup) 1 150 := ⟨by decide +kernel, rfl⟩
theorem pk_150 : Dec method_5_code 150 (.iconst 3) 1 151 := ⟨by decide +kernel, rfl⟩
theorem pk_151 : Dec method_5_code 151 (.aload_n 0) 1 152 := ⟨by decide +kernel, rfl⟩
theorem pk_152 : Dec method_5_code 152 (.iconst 3) 1 153 := ⟨by decide +kernel, rfl⟩
theorem pk_153 : Dec method_5_code 153 (.caload) 1 154 := ⟨by decide +kernel, rfl⟩
theorem pk_154 : Dec method_5_code 154 (.castore) 1 155 := ⟨by decide +kernel, rfl⟩
theorem pk_155 : Dec method_5_code 155 (.dup) 1 156 := ⟨by decide +kernel, rfl⟩
theorem pk_156 : Dec method_5_code 156 (.iconst 4) 1 157 := ⟨by decide +kernel, rfl⟩
theorem pk_157 : Dec method_5_code 157 (.aload_n 0) 1 158 := ⟨by decide +kernel, rfl⟩
theorem pk_158 : Dec method_5_code 158 (.iconst 4) 1 159 := ⟨by decide +kernel, rfl⟩
theorem pk_159 : Dec method_5_code 159 (.caload) 1 160 := ⟨by decide +kernel, rfl⟩
theorem pk_160 : Dec method_5_code 160 (.castore) 1 161 := ⟨by decide +kernel, rfl⟩
theorem pk_161 : Dec method_5_code 161 (.areturn) 1 162 := ⟨by decide +kernel, rfl⟩
theorem pk_162 : Dec method_5_code 162 (.bipush 6) 2 164 := ⟨by decide +kernel, rfl⟩
theorem pk_164 : Dec method_5_code 164 (.newarray .char) 2 166 := ⟨by decide +kernel, rfl⟩
theorem pk_166 : Dec method_5_code 166 (.dup) 1 167 := ⟨by decide +kernel, rfl⟩
theorem pk_167 : Dec method_5_code 167 (.iconst 0) 1 168 := ⟨by decide +kernel, rfl⟩
theorem pk_168 : Dec method_5_code 168 (.aload_n 0) 1 169 := ⟨by decide +kernel, rfl⟩
theorem pk_169 : Dec method_5_code 169 (.iconst 0) 1 170 := ⟨by decide +kernel, rfl⟩
theorem pk_170 : Dec method_5_code 170 (.caload) 1 171 := ⟨by decide +kernel, rfl⟩
theorem pk_171 : Dec method_5_code 171 (.castore) 1 172 := ⟨by decide +kernel, rfl⟩
theorem pk_172 : Dec method_5_code 172 (.dup) 1 173 := ⟨by decide +kernel, rfl⟩
theorem pk_173 : Dec method_5_code 173 (.iconst 1) 1 174 := ⟨by decide +kernel, rfl⟩
theorem pk_174 : Dec method_5_code 174 (.aload_n 0) 1 175 := ⟨by decide +kernel, rfl⟩
theorem pk_175 : Dec method_5_code 175 (.iconst 1) 1 176 := ⟨by decide +kernel, rfl⟩
theorem pk_176 : Dec method_5_code 176 (.caload) 1 177 := ⟨by decide +kernel, rfl⟩
theorem pk_177 : Dec method_5_code 177 (.castore) 1 178 := ⟨by decide +kernel, rfl⟩
theorem pk_178 : Dec method_5_code 178 (.dup) 1 179 := ⟨by decide +kernel, rfl⟩
theorem pk_179 : Dec method_5_code 179 (.iconst 2) 1 180 := ⟨by decide +kernel, rfl⟩
theorem pk_180 : Dec method_5_code 180 (.aload_n 0) 1 181 := ⟨by decide +kernel, rfl⟩
theorem pk_181 : Dec method_5_code 181 (.iconst 2) 1 182 := ⟨by decide +kernel, rfl⟩
theorem pk_182 : Dec method_5_code 182 (.caload) 1 183 := ⟨by decide +kernel, rfl⟩
theorem pk_183 : Dec method_5_code 183 (.castore) 1 184 := ⟨by decide +kernel, rfl⟩
theorem pk_184 : Dec method_5_code 184 (.dup) 1 185 := ⟨by decide +kernel, rfl⟩
theorem pk_185 : Dec method_5_code 185 (.iconst 3) 1 186 := ⟨by decide +kernel, rfl⟩
theorem pk_186 : Dec method_5_code 186 (.aload_n 0) 1 187 := ⟨by decide +kernel, rfl⟩
theorem pk_187 : Dec method_5_code 187 (.iconst 3) 1 188 := ⟨by decide +kernel, rfl⟩
theorem pk_188 : Dec method_5_code 188 (.caload) 1 189 := ⟨by decide +kernel, rfl⟩
theorem pk_189 : Dec method_5_code 189 (.castore) 1 190 := ⟨by decide +kernel, rfl⟩
theorem pk_190 : Dec method_5_code 190 (.dup) 1 191 := ⟨by decide +kernel, rfl⟩
theorem pk_191 : Dec method_5_code 191 (.iconst 4) 1 192 := ⟨by decide +kernel, rfl⟩
theorem pk_192 : Dec method_5_code 192 (.aload_n 0) 1 193 := ⟨by decide +kernel, rfl⟩
theorem pk_193 : Dec method_5_code 193 (.iconst 4) 1 194 := ⟨by decide +kernel, rfl⟩
theorem pk_194 : Dec method_5_code 194 (.caload) 1 195 := ⟨by decide +kernel, rfl⟩
theorem pk_195 : Dec method_5_code 195 (.castore) 1 196 := ⟨by decide +kernel, rfl⟩
theorem pk_196 : Dec method_5_code 196 (.dup) 1 197 := ⟨by decide +kernel, rfl⟩
theorem pk_197 : Dec method_5_code 197 (.iconst 5) 1 198 := ⟨by decide +kernel, rfl⟩
theorem pk_198 : Dec method_5_code 198 (.aload_n 0) 1 199 := ⟨by decide +kernel, rfl⟩
theorem pk_199 : Dec method_5_code 199 (.iconst 5) 1 200 := ⟨by decide +kernel, rfl⟩
theorem pk_200 : Dec method_5_code 200 (.caload) 1 201 := ⟨by decide +kernel, rfl⟩
theorem pk_201 : Dec method_5_code 201 (.castore) 1 202 := ⟨by decide +kernel, rfl⟩
theorem pk_202 : Dec method_5_code 202 (.areturn) 1 203 := ⟨by decide +kernel, rfl⟩
theorem pk_203 : Dec method_5_code 203 (.bipush 7) 2 205 := ⟨by decide +kernel, rfl⟩
theorem pk_205 : Dec method_5_code 205 (.newarray .char) 2 207 := ⟨by decide +kernel, rfl⟩
theorem pk_207 : Dec method_5_code 207 (.dup) 1 208 := ⟨by decide +kernel, rfl⟩
theorem pk_208 : Dec method_5_code 208 (.iconst 0) 1 209 := ⟨by decide +kernel, rfl⟩
theorem pk_209 : Dec method_5_code 209 (.aload_n 0) 1 210 := ⟨by decide +kernel, rfl⟩
theorem pk_210 : Dec method_5_code 210 (.iconst 0) 1 211 := ⟨by decide +kernel, rfl⟩
theorem pk_211 : Dec method_5_code 211 (.caload) 1 212 := ⟨by decide +kernel, rfl⟩
theorem pk_212 : Dec method_5_code 212 (.castore) 1 213 := ⟨by decide +kernel, rfl⟩
theorem pk_213 : Dec method_5_code 213 (.dup) 1 214 := ⟨by decide +kernel, rfl⟩
theorem pk_214 : Dec method_5_code 214 (.iconst 1) 1 215 := ⟨by decide +kernel, rfl⟩
theorem pk_215 : Dec method_5_code 215 (.aload_n 0) 1 216 := ⟨by decide +kernel, rfl⟩
theorem pk_216 : Dec method_5_code 216 (.iconst 1) 1 217 := ⟨by decide +kernel, rfl⟩
theorem pk_217 : Dec method_5_code 217 (.caload) 1 218 := ⟨by decide +kernel, rfl⟩
theorem pk_218 : Dec method_5_code 218 (.castore) 1 219 := ⟨by decide +kernel, rfl⟩
theorem pk_219 : Dec method_5_code 219 (.dup) 1 220 := ⟨by decide +kernel, rfl⟩
theorem pk_220 : Dec method_5_code 220 (.iconst 2) 1 221 := ⟨by decide +kernel, rfl⟩
theorem pk_221 : Dec method_5_code 221 (.aload_n 0) 1 222 := ⟨by decide +kernel, rfl⟩
theorem pk_222 : Dec method_5_code 222 (.iconst 2) 1 223 := ⟨by decide +kernel, rfl⟩
theorem pk_223 : Dec method_5_code 223 (.caload) 1 224 := ⟨by decide +kernel, rfl⟩
theorem pk_224 : Dec method_5_code 224 (.castore) 1 225 := ⟨by decide +kernel, rfl⟩
theorem pk_225 : Dec method_5_code 225 (.dup) 1 226 := ⟨by decide +kernel, rfl⟩
theorem pk_226 : Dec method_5_code 226 (.iconst 3) 1 227 := ⟨by decide +kernel, rfl⟩
theorem pk_227 : Dec method_5_code 227 (.aload_n 0) 1 228 := ⟨by decide +kernel, rfl⟩
theorem pk_228 : Dec method_5_code 228 (.iconst 3) 1 229 := ⟨by decide +kernel, rfl⟩
theorem pk_229 : Dec method_5_code 229 (.caload) 1 230 := ⟨by decide +kernel, rfl⟩
theorem pk_230 : Dec method_5_code 230 (.castore) 1 231 := ⟨by decide +kernel, rfl⟩
theorem pk_231 : Dec method_5_code 231 (.dup) 1 232 := ⟨by decide +kernel, rfl⟩
theorem pk_232 : Dec method_5_code 232 (.iconst 4) 1 233 := ⟨by decide +kernel, rfl⟩
theorem pk_233 : Dec method_5_code 233 (.aload_n 0) 1 234 := ⟨by decide +kernel, rfl⟩
theorem pk_234 : Dec method_5_code 234 (.iconst 4) 1 235 := ⟨by decide +kernel, rfl⟩
theorem pk_235 : Dec method_5_code 235 (.caload) 1 236 := ⟨by decide +kernel, rfl⟩
theorem pk_236 : Dec method_5_code 236 (.castore) 1 237 := ⟨by decide +kernel, rfl⟩
theorem pk_237 : Dec method_5_code 237 (.dup) 1 238 := ⟨by decide +kernel, rfl⟩
theorem pk_238 : Dec method_5_code 238 (.iconst 5) 1 239 := ⟨by decide +kernel, rfl⟩
theorem pk_239 : Dec method_5_code 239 (.aload_n 0) 1 240 := ⟨by decide +kernel, rfl⟩
theorem pk_240 : Dec method_5_code 240 (.iconst 5) 1 241 := ⟨by decide +kernel, rfl⟩
theorem pk_241 : Dec method_5_code 241 (.caload) 1 242 := ⟨by decide +kernel, rfl⟩
theorem pk_242 : Dec method_5_code 242 (.castore) 1 243 := ⟨by decide +kernel, rfl⟩
theorem pk_243 : Dec method_5_code 243 (.dup) 1 244 := ⟨by decide +kernel, rfl⟩
theorem pk_244 : Dec method_5_code 244 (.bipush 6) 2 246 := ⟨by decide +kernel, rfl⟩
theorem pk_246 : Dec method_5_code 246 (.aload_n 0) 1 247 := ⟨by decide +kernel, rfl⟩
theorem pk_247 : Dec method_5_code 247 (.bipush 6) 2 249 := ⟨by decide +kernel, rfl⟩
theorem pk_249 : Dec method_5_code 249 (.caload) 1 250 := ⟨by decide +kernel, rfl⟩
theorem pk_250 : Dec method_5_code 250 (.castore) 1 251 := ⟨by decide +kernel, rfl⟩
theorem pk_251 : Dec method_5_code 251 (.areturn) 1 252 := ⟨by decide +kernel, rfl⟩
theorem pk_252 : Dec method_5_code 252 (.bipush 8) 2 254 := ⟨by decide +kernel, rfl⟩
theorem pk_254 : Dec method_5_code 254 (.newarray .char) 2 256 := ⟨by decide +kernel, rfl⟩
theorem pk_256 : Dec method_5_code 256 (.dup) 1 257 := ⟨by decide +kernel, rfl⟩
theorem pk_257 : Dec method_5_code 257 (.iconst 0) 1 258 := ⟨by decide +kernel, rfl⟩
theorem pk_258 : Dec method_5_code 258 (.aload_n 0) 1 259 := ⟨by decide +kernel, rfl⟩
theorem pk_259 : Dec method_5_code 259 (.iconst 0) 1 260 := ⟨by decide +kernel, rfl⟩
theorem pk_260 : Dec method_5_code 260 (.caload) 1 261 := ⟨by decide +kernel, rfl⟩
theorem pk_261 : Dec method_5_code 261 (.castore) 1 262 := ⟨by decide +kernel, rfl⟩
theorem pk_262 : Dec method_5_code 262 (.dup) 1 263 := ⟨by decide +kernel, rfl⟩
theorem pk_263 : Dec method_5_code 263 (.iconst 1) 1 264 := ⟨by decide +kernel, rfl⟩
theorem pk_264 : Dec method_5_code 264 (.aload_n 0) 1 265 := ⟨by decide +kernel, rfl⟩
theorem pk_265 : Dec method_5_code 265 (.iconst 1) 1 266 := ⟨by decide +kernel, rfl⟩
theorem pk_266 : Dec method_5_code 266 (.caload) 1 267 := ⟨by decide +kernel, rfl⟩
theorem pk_267 : Dec method_5_code 267 (.castore) 1 268 := ⟨by decide +kernel, rfl⟩
theorem pk_268 : Dec method_5_code 268 (.dup) 1 269 := ⟨by decide +kernel, rfl⟩
theorem pk_269 : Dec method_5_code 269 (.iconst 2) 1 270 := ⟨by decide +kernel, rfl⟩
theorem pk_270 : Dec method_5_code 270 (.aload_n 0) 1 271 := ⟨by decide +kernel, rfl⟩
theorem pk_271 : Dec method_5_code 271 (.iconst 2) 1 272 := ⟨by decide +kernel, rfl⟩
theorem pk_272 : Dec method_5_code 272 (.caload) 1 273 := ⟨by decide +kernel, rfl⟩
theorem pk_273 : Dec method_5_code 273 (.castore) 1 274 := ⟨by decide +kernel, rfl⟩
theorem pk_274 : Dec method_5_code 274 (.dup) 1 275 := ⟨by decide +kernel, rfl⟩
theorem pk_275 : Dec method_5_code 275 (.iconst 3) 1 276 := ⟨by decide +kernel, rfl⟩
theorem pk_276 : Dec method_5_code 276 (.aload_n 0) 1 277 := ⟨by decide +kernel, rfl⟩
theorem pk_277 : Dec method_5_code 277 (.iconst 3) 1 278 := ⟨by decide +kernel, rfl⟩
theorem pk_278 : Dec method_5_code 278 (.caload) 1 279 := ⟨by decide +kernel, rfl⟩
theorem pk_279 : Dec method_5_code 279 (.castore) 1 280 := ⟨by decide +kernel, rfl⟩
theorem pk_280 : Dec method_5_code 280 (.dup) 1 281 := ⟨by decide +kernel, rfl⟩
theorem pk_281 : Dec method_5_code 281 (.iconst 4) 1 282 := ⟨by decide +kernel, rfl⟩
theorem pk_282 : Dec method_5_code 282 (.aload_n 0) 1 283 := ⟨by decide +kernel, rfl⟩
theorem pk_283 : Dec method_5_code 283 (.iconst 4) 1 284 := ⟨by decide +kernel, rfl⟩
theorem pk_284 : Dec method_5_code 284 (.caload) 1 285 := ⟨by decide +kernel, rfl⟩
theorem pk_285 : Dec method_5_code 285 (.castore) 1 286 := ⟨by decide +kernel, rfl⟩
theorem pk_286 : Dec method_5_code 286 (.dup) 1 287 := ⟨by decide +kernel, rfl⟩
theorem pk_287 : Dec method_5_code 287 (.iconst 5) 1 288 := ⟨by decide +kernel, rfl⟩
theorem pk_288 : Dec method_5_code 288 (.aload_n 0) 1 289 := ⟨by decide +kernel, rfl⟩
theorem pk_289 : Dec method_5_code 289 (.iconst 5) 1 290 := ⟨by decide +kernel, rfl⟩
theorem pk_290 : Dec method_5_code 290 (.caload) 1 291 := ⟨by decide +kernel, rfl⟩
theorem pk_291 : Dec method_5_code 291 (.castore) 1 292 := ⟨by decide +kernel, rfl⟩
theorem pk_292 : Dec method_5_code 292 (.dup) 1 293 := ⟨by decide +kernel, rfl⟩
theorem pk_293 : Dec method_5_code 293 (.bipush 6) 2 295 := ⟨by decide +kernel, rfl⟩
theorem pk_295 : Dec method_5_code 295 (.aload_n 0) 1 296 := ⟨by decide +kernel, rfl⟩
theorem pk_296 : Dec method_5_code 296 (.bipush 6) 2 298 := ⟨by decide +kernel, rfl⟩
theorem pk_298 : Dec method_5_code 298 (.caload) 1 299 := ⟨by decide +kernel, rfl⟩
theorem pk_299 : Dec method_5_code 299 (.castore) 1 300 := ⟨by decide +kernel, rfl⟩
theorem pk_300 : Dec method_5_code 300 (.dup) 1 301 := ⟨by decide +kernel, rfl⟩
theorem pk_301 : Dec method_5_code 301 (.bipush 7) 2 303 := ⟨by decide +kernel, rfl⟩
theorem pk_303 : Dec method_5_code 303 (.aload_n 0) 1 304 := ⟨by decide +kernel, rfl⟩
theorem pk_304 : Dec method_5_code 304 (.bipush 7) 2 306 := ⟨by decide +kernel, rfl⟩
theorem pk_306 : Dec method_5_code 306 (.caload) 1 307 := ⟨by decide +kernel, rfl⟩
theorem pk_307 : Dec method_5_code 307 (.castore) 1 308 := ⟨by decide +kernel, rfl⟩
theorem pk_308 : Dec method_5_code 308 (.areturn) 1 309 := ⟨by decide +kernel, rfl⟩
theorem okk_0 : Dec method_4_code 0 (.iload_n 2) 1 1 := ⟨by decide +kernel, rfl⟩
theorem okk_1 : Dec method_4_code 1 (.iload_n 1) 1 2 := ⟨by decide +kernel, rfl⟩
theorem okk_2 : Dec method_4_code 2 (.if_icmp .lt (((7 : Nat) : Int) - ((2 : Nat) : Int))) 3 5 := ⟨by decide +kernel, rfl⟩
theorem okk_5 : Dec method_4_code 5 (.iconst 1) 1 6 := ⟨by decide +kernel, rfl⟩
theorem okk_6 : Dec method_4_code 6 (.ireturn) 1 7 := ⟨by decide +kernel, rfl⟩
theorem okk_7 : Dec method_4_code 7 (.aload_n 0) 1 8 := ⟨by decide +kernel, rfl⟩
theorem okk_8 : Dec method_4_code 8 (.iload_n 2) 1 9 := ⟨by decide +kernel, rfl⟩
theorem okk_9 : Dec method_4_code 9 (.caload) 1 10 := ⟨by decide +kernel, rfl⟩
theorem okk_10 : Dec method_4_code 10 (.istore_n 3) 1 11 := ⟨by decide +kernel, rfl⟩
theorem okk_11 : Dec method_4_code 11 (.iload_n 3) 1 12 := ⟨by decide +kernel, rfl⟩
theorem okk_12 : Dec method_4_code 12 (.bipush 97) 2 14 := ⟨by decide +kernel, rfl⟩
theorem okk_14 : Dec method_4_code 14 (.if_icmp .lt (((23 : Nat) : Int) - ((14 : Nat) : Int))) 3 17 := ⟨by decide +kernel, rfl⟩
theorem okk_17 : Dec method_4_code 17 (.iload_n 3) 1 18 := ⟨by decide +kernel, rfl⟩
theorem okk_18 : Dec method_4_code 18 (.bipush 122) 2 20 := ⟨by decide +kernel, rfl⟩
theorem okk_20 : Dec method_4_code 20 (.if_icmp .le (((35 : Nat) : Int) - ((20 : Nat) : Int))) 3 23 := ⟨by decide +kernel, rfl⟩
theorem okk_23 : Dec method_4_code 23 (.iload_n 3) 1 24 := ⟨by decide +kernel, rfl⟩
theorem okk_24 : Dec method_4_code 24 (.bipush 48) 2 26 := ⟨by decide +kernel, rfl⟩
theorem okk_26 : Dec method_4_code 26 (.if_icmp .lt (((37 : Nat) : Int) - ((26 : Nat) : Int))) 3 29 := ⟨by decide +kernel, rfl⟩
theorem okk_29 : Dec method_4_code 29 (.iload_n 3) 1 30 := ⟨by decide +kernel, rfl⟩
theorem okk_30 : Dec method_4_code 30 (.bipush 57) 2 32 := ⟨by decide +kernel, rfl⟩
theorem okk_32 : Dec method_4_code 32 (.if_icmp .gt (((37 : Nat) : Int) - ((32 : Nat) : Int))) 3 35 := ⟨by decide +kernel, rfl⟩
theorem okk_35 : Dec method_4_code 35 (.iconst 1) 1 36 := ⟨by decide +kernel, rfl⟩
theorem okk_36 : Dec method_4_code 36 (.ireturn) 1 37 := ⟨by decide +kernel, rfl⟩
theorem okk_37 : Dec method_4_code 37 (.iload_n 3) 1 38 := ⟨by decide +kernel, rfl⟩
theorem okk_38 : Dec method_4_code 38 (.bipush 45) 2 40 := ⟨by decide +kernel, rfl⟩
theorem okk_40 : Dec method_4_code 40 (.if_icmp .ne (((68 : Nat) : Int) - ((40 : Nat) : Int))) 3 43 := ⟨by decide +kernel, rfl⟩
theorem okk_43 : Dec method_4_code 43 (.iload_n 2) 1 44 := ⟨by decide +kernel, rfl⟩
theorem okk_44 : Dec method_4_code 44 (.ifCond .le (((68 : Nat) : Int) - ((44 : Nat) : Int))) 3 47 := ⟨by decide +kernel, rfl⟩
theorem okk_47 : Dec method_4_code 47 (.iload_n 2) 1 48 := ⟨by decide +kernel, rfl⟩
theorem okk_48 : Dec method_4_code 48 (.iload_n 1) 1 49 := ⟨by decide +kernel, rfl⟩
theorem okk_49 : Dec method_4_code 49 (.iconst 1) 1 50 := ⟨by decide +kernel, rfl⟩
theorem okk_50 : Dec method_4_code 50 (.isub) 1 51 := ⟨by decide +kernel, rfl⟩
theorem okk_51 : Dec method_4_code 51 (.if_icmp .ge (((68 : Nat) : Int) - ((51 : Nat) : Int))) 3 54 := ⟨by decide +kernel, rfl⟩
theorem okk_54 : Dec method_4_code 54 (.aload_n 0) 1 55 := ⟨by decide +kernel, rfl⟩
theorem okk_55 : Dec method_4_code 55 (.iload_n 2) 1 56 := ⟨by decide +kernel, rfl⟩
theorem okk_56 : Dec method_4_code 56 (.iconst 1) 1 57 := ⟨by decide +kernel, rfl⟩
theorem okk_57 : Dec method_4_code 57 (.isub) 1 58 := ⟨by decide +kernel, rfl⟩
theorem okk_58 : Dec method_4_code 58 (.caload) 1 59 := ⟨by decide +kernel, rfl⟩
theorem okk_59 : Dec method_4_code 59 (.bipush 45) 2 61 := ⟨by decide +kernel, rfl⟩
theorem okk_61 : Dec method_4_code 61 (.if_icmp .eq (((68 : Nat) : Int) - ((61 : Nat) : Int))) 3 64 := ⟨by decide +kernel, rfl⟩
theorem okk_64 : Dec method_4_code 64 (.iconst 1) 1 65 := ⟨by decide +kernel, rfl⟩
theorem okk_65 : Dec method_4_code 65 (.goto (((69 : Nat) : Int) - ((65 : Nat) : Int))) 3 68 := ⟨by decide +kernel, rfl⟩
theorem okk_68 : Dec method_4_code 68 (.iconst 0) 1 69 := ⟨by decide +kernel, rfl⟩
theorem okk_69 : Dec method_4_code 69 (.ireturn) 1 70 := ⟨by decide +kernel, rfl⟩
theorem e0_0 : Dec code 0 (.iload 4) 2 2 := ⟨at_0, rfl⟩
theorem e0_2 : Dec code 2 (.ldc 7) 2 4 := ⟨at_2, rfl⟩
theorem e0_4 : Dec code 4 (.iand) 1 5 := ⟨at_4, rfl⟩
theorem e0_5 : Dec code 5 (.bipush 9) 2 7 := ⟨at_5, rfl⟩
theorem e0_7 : Dec code 7 (.irem) 1 8 := ⟨at_7, rfl⟩
theorem e0_8 : Dec code 8 (.istore 6) 2 10 := ⟨at_8, rfl⟩
theorem e0_10 : Dec code 10 (.iload 5) 2 12 := ⟨at_10, rfl⟩
theorem e0_12 : Dec code 12 (.iconst 1) 1 13 := ⟨at_12, rfl⟩
theorem e0_13 : Dec code 13 (.iand) 1 14 := ⟨at_13, rfl⟩
theorem e0_14 : Dec code 14 (.ifCond .eq (((21 : Nat) : Int) - ((14 : Nat) : Int))) 3 17 := ⟨at_14, rfl⟩
theorem e0_17 : Dec code 17 (.iconst 1) 1 18 := ⟨at_17, rfl⟩
theorem e0_18 : Dec code 18 (.goto (((22 : Nat) : Int) - ((18 : Nat) : Int))) 3 21 := ⟨at_18, rfl⟩
theorem e0_21 : Dec code 21 (.iconst 0) 1 22 := ⟨at_21, rfl⟩
theorem e0_22 : Dec code 22 (.istore 7) 2 24 := ⟨at_22, rfl⟩
theorem e0_24 : Dec code 24 (.bipush 8) 2 26 := ⟨at_24, rfl⟩
theorem e0_26 : Dec code 26 (.newarray .char) 2 28 := ⟨at_26, rfl⟩
theorem e0_28 : Dec code 28 (.astore 8) 2 30 := ⟨at_28, rfl⟩
theorem e0_30 : Dec code 30 (.aload 8) 2 32 := ⟨at_30, rfl⟩
theorem e0_32 : Dec code 32 (.iconst 0) 1 33 := ⟨at_32, rfl⟩
theorem e0_33 : Dec code 33 (.lload_n 0) 1 34 := ⟨at_33, rfl⟩
theorem e0_34 : Dec code 34 (.ldc2_w 8) 3 37 := ⟨at_34, rfl⟩
theorem e0_37 : Dec code 37 (.land) 1 38 := ⟨at_37, rfl⟩
theorem e0_38 : Dec code 38 (.l2i) 1 39 := ⟨at_38, rfl⟩
theorem e0_39 : Dec code 39 (.iload 7) 2 41 := ⟨at_39, rfl⟩
theorem e0_44 : Dec code 44 (.castore) 1 45 := ⟨at_44, rfl⟩
theorem e0_45 : Dec code 45 (.aload 8) 2 47 := ⟨at_45, rfl⟩
theorem e0_47 : Dec code 47 (.iconst 1) 1 48 := ⟨at_47, rfl⟩
theorem e0_48 : Dec code 48 (.lload_n 0) 1 49 := ⟨at_48, rfl⟩
theorem e0_49 : Dec code 49 (.bipush 16) 2 51 := ⟨at_49, rfl⟩
theorem e0_51 : Dec code 51 (.lushr) 1 52 := ⟨at_51, rfl⟩
theorem e0_52 : Dec code 52 (.ldc2_w 8) 3 55 := ⟨at_52, rfl⟩
theorem e0_55 : Dec code 55 (.land) 1 56 := ⟨at_55, rfl⟩
theorem e0_56 : Dec code 56 (.l2i) 1 57 := ⟨at_56, rfl⟩
theorem e0_57 : Dec code 57 (.iload 7) 2 59 := ⟨at_57, rfl⟩
theorem e0_62 : Dec code 62 (.castore) 1 63 := ⟨at_62, rfl⟩
theorem e0_63 : Dec code 63 (.aload 8) 2 65 := ⟨at_63, rfl⟩
theorem e0_65 : Dec code 65 (.iconst 2) 1 66 := ⟨at_65, rfl⟩
theorem e0_66 : Dec code 66 (.lload_n 0) 1 67 := ⟨at_66, rfl⟩
theorem e0_67 : Dec code 67 (.bipush 32) 2 69 := ⟨at_67, rfl⟩
theorem e0_69 : Dec code 69 (.lushr) 1 70 := ⟨at_69, rfl⟩
theorem e0_70 : Dec code 70 (.ldc2_w 8) 3 73 := ⟨at_70, rfl⟩
theorem e0_73 : Dec code 73 (.land) 1 74 := ⟨at_73, rfl⟩
theorem e0_74 : Dec code 74 (.l2i) 1 75 := ⟨at_74, rfl⟩
theorem e0_75 : Dec code 75 (.iload 7) 2 77 := ⟨at_75, rfl⟩
theorem e0_80 : Dec code 80 (.castore) 1 81 := ⟨at_80, rfl⟩
theorem e0_81 : Dec code 81 (.aload 8) 2 83 := ⟨at_81, rfl⟩
theorem e0_83 : Dec code 83 (.iconst 3) 1 84 := ⟨at_83, rfl⟩
theorem e0_84 : Dec code 84 (.lload_n 0) 1 85 := ⟨at_84, rfl⟩
theorem e0_85 : Dec code 85 (.bipush 48) 2 87 := ⟨at_85, rfl⟩
theorem e0_87 : Dec code 87 (.lushr) 1 88 := ⟨at_87, rfl⟩
theorem e0_88 : Dec code 88 (.ldc2_w 8) 3 91 := ⟨at_88, rfl⟩
theorem e0_91 : Dec code 91 (.land) 1 92 := ⟨at_91, rfl⟩
theorem e0_92 : Dec code 92 (.l2i) 1 93 := ⟨at_92, rfl⟩
theorem e0_93 : Dec code 93 (.iload 7) 2 95 := ⟨at_93, rfl⟩
theorem e0_98 : Dec code 98 (.castore) 1 99 := ⟨at_98, rfl⟩
theorem e0_99 : Dec code 99 (.aload 8) 2 101 := ⟨at_99, rfl⟩
theorem e0_101 : Dec code 101 (.iconst 4) 1 102 := ⟨at_101, rfl⟩
theorem e0_102 : Dec code 102 (.lload_n 2) 1 103 := ⟨at_102, rfl⟩
theorem e0_103 : Dec code 103 (.ldc2_w 8) 3 106 := ⟨at_103, rfl⟩
theorem e0_106 : Dec code 106 (.land) 1 107 := ⟨at_106, rfl⟩
theorem e0_107 : Dec code 107 (.l2i) 1 108 := ⟨at_107, rfl⟩
theorem e0_108 : Dec code 108 (.iload 7) 2 110 := ⟨at_108, rfl⟩
theorem e0_113 : Dec code 113 (.castore) 1 114 := ⟨at_113, rfl⟩
theorem e0_114 : Dec code 114 (.aload 8) 2 116 := ⟨at_114, rfl⟩
theorem e0_116 : Dec code 116 (.iconst 5) 1 117 := ⟨at_116, rfl⟩
theorem e0_117 : Dec code 117 (.lload_n 2) 1 118 := ⟨at_117, rfl⟩
theorem e0_118 : Dec code 118 (.bipush 16) 2 120 := ⟨at_118, rfl⟩
theorem e0_120 : Dec code 120 (.lushr) 1 121 := ⟨at_120, rfl⟩
theorem e0_121 : Dec code 121 (.ldc2_w 8) 3 124 := ⟨at_121, rfl⟩
theorem e0_124 : Dec code 124 (.land) 1 125 := ⟨at_124, rfl⟩
theorem e0_125 : Dec code 125 (.l2i) 1 126 := ⟨at_125, rfl⟩
theorem e0_126 : Dec code 126 (.iload 7) 2 128 := ⟨at_126, rfl⟩
theorem e0_131 : Dec code 131 (.castore) 1 132 := ⟨at_131, rfl⟩
theorem e0_132 : Dec code 132 (.aload 8) 2 134 := ⟨at_132, rfl⟩
theorem e0_134 : Dec code 134 (.bipush 6) 2 136 := ⟨at_134, rfl⟩
theorem e0_136 : Dec code 136 (.lload_n 2) 1 137 := ⟨at_136, rfl⟩
theorem e0_137 : Dec code 137 (.bipush 32) 2 139 := ⟨at_137, rfl⟩
theorem e0_139 : Dec code 139 (.lushr) 1 140 := ⟨at_139, rfl⟩
theorem e0_140 : Dec code 140 (.ldc2_w 8) 3 143 := ⟨at_140, rfl⟩
theorem e0_143 : Dec code 143 (.land) 1 144 := ⟨at_143, rfl⟩
theorem e0_144 : Dec code 144 (.l2i) 1 145 := ⟨at_144, rfl⟩
theorem e0_145 : Dec code 145 (.iload 7) 2 147 := ⟨at_145, rfl⟩
theorem e0_150 : Dec code 150 (.castore) 1 151 := ⟨at_150, rfl⟩
theorem e0_151 : Dec code 151 (.aload 8) 2 153 := ⟨at_151, rfl⟩
theorem e0_153 : Dec code 153 (.bipush 7) 2 155 := ⟨at_153, rfl⟩
theorem e0_155 : Dec code 155 (.lload_n 2) 1 156 := ⟨at_155, rfl⟩
theorem e0_156 : Dec code 156 (.bipush 48) 2 158 := ⟨at_156, rfl⟩
theorem e0_158 : Dec code 158 (.lushr) 1 159 := ⟨at_158, rfl⟩
theorem e0_159 : Dec code 159 (.ldc2_w 8) 3 162 := ⟨at_159, rfl⟩
theorem e0_162 : Dec code 162 (.land) 1 163 := ⟨at_162, rfl⟩
theorem e0_163 : Dec code 163 (.l2i) 1 164 := ⟨at_163, rfl⟩
theorem e0_164 : Dec code 164 (.iload 7) 2 166 := ⟨at_164, rfl⟩
theorem e0_169 : Dec code 169 (.castore) 1 170 := ⟨at_169, rfl⟩
theorem e0_170 : Dec code 170 (.new 16) 3 173 := ⟨at_170, rfl⟩
theorem e0_173 : Dec code 173 (.dup) 1 174 := ⟨at_173, rfl⟩
theorem e0_174 : Dec code 174 (.aload 8) 2 176 := ⟨at_174, rfl⟩
theorem e0_176 : Dec code 176 (.iload 6) 2 178 := ⟨at_176, rfl⟩
theorem e0_184 : Dec code 184 (.astore 9) 2 186 := ⟨at_184, rfl⟩
theorem e0_186 : Dec code 186 (.iload 6) 2 188 := ⟨at_186, rfl⟩
theorem e0_188 : Dec code 188 (.iconst 1) 1 189 := ⟨at_188, rfl⟩
theorem e0_189 : Dec code 189 (.if_icmp .lt (((286 : Nat) : Int) - ((189 : Nat) : Int))) 3 192 := ⟨at_189, rfl⟩
theorem e0_192 : Dec code 192 (.aload 8) 2 194 := ⟨at_192, rfl⟩
theorem e0_194 : Dec code 194 (.iload 6) 2 196 := ⟨at_194, rfl⟩
theorem e0_196 : Dec code 196 (.iconst 0) 1 197 := ⟨at_196, rfl⟩
theorem e0_200 : Dec code 200 (.ifCond .eq (((286 : Nat) : Int) - ((200 : Nat) : Int))) 3 203 := ⟨at_200, rfl⟩
theorem e0_203 : Dec code 203 (.aload 8) 2 205 := ⟨at_203, rfl⟩
theorem e0_205 : Dec code 205 (.iload 6) 2 207 := ⟨at_205, rfl⟩
theorem e0_207 : Dec code 207 (.iconst 1) 1 208 := ⟨at_207, rfl⟩
theorem e0_211 : Dec code 211 (.ifCond .eq (((286 : Nat) : Int) - ((211 : Nat) : Int))) 3 214 := ⟨at_211, rfl⟩
theorem e0_214 : Dec code 214 (.aload 8) 2 216 := ⟨at_214, rfl⟩
theorem e0_216 : Dec code 216 (.iload 6) 2 218 := ⟨at_216, rfl⟩
theorem e0_218 : Dec code 218 (.iconst 2) 1 219 := ⟨at_218, rfl⟩
theorem e0_222 : Dec code 222 (.ifCond .eq (((286 : Nat) : Int) - ((222 : Nat) : Int))) 3 225 := ⟨at_222, rfl⟩
theorem e0_225 : Dec code 225 (.aload 8) 2 227 := ⟨at_225, rfl⟩
theorem e0_227 : Dec code 227 (.iload 6) 2 229 := ⟨at_227, rfl⟩
theorem e0_229 : Dec code 229 (.iconst 3) 1 230 := ⟨at_229, rfl⟩
theorem e0_233 : Dec code 233 (.ifCond .eq (((286 : Nat) : Int) - ((233 : Nat) : Int))) 3 236 := ⟨at_233, rfl⟩
theorem e0_236 : Dec code 236 (.aload 8) 2 238 := ⟨at_236, rfl⟩
theorem e0_238 : Dec code 238 (.iload 6) 2 240 := ⟨at_238, rfl⟩
theorem e0_240 : Dec code 240 (.iconst 4) 1 241 := ⟨at_240, rfl⟩
theorem e0_244 : Dec code 244 (.ifCond .eq (((286 : Nat) : Int) - ((244 : Nat) : Int))) 3 247 := ⟨at_244, rfl⟩
theorem e0_247 : Dec code 247 (.aload 8) 2 249 := ⟨at_247, rfl⟩
theorem e0_249 : Dec code 249 (.iload 6) 2 251 := ⟨at_249, rfl⟩
theorem e0_251 : Dec code 251 (.iconst 5) 1 252 := ⟨at_251, rfl⟩
theorem e0_255 : Dec code 255 (.ifCond .eq (((286 : Nat) : Int) - ((255 : Nat) : Int))) 3 258 := ⟨at_255, rfl⟩
theorem e0_258 : Dec code 258 (.aload 8) 2 260 := ⟨at_258, rfl⟩
theorem e0_260 : Dec code 260 (.iload 6) 2 262 := ⟨at_260, rfl⟩
theorem e0_262 : Dec code 262 (.bipush 6) 2 264 := ⟨at_262, rfl⟩
theorem e0_267 : Dec code 267 (.ifCond .eq (((286 : Nat) : Int) - ((267 : Nat) : Int))) 3 270 := ⟨at_267, rfl⟩
theorem e0_270 : Dec code 270 (.aload 8) 2 272 := ⟨at_270, rfl⟩
theorem e0_272 : Dec code 272 (.iload 6) 2 274 := ⟨at_272, rfl⟩
theorem e0_274 : Dec code 274 (.bipush 7) 2 276 := ⟨at_274, rfl⟩
theorem e0_279 : Dec code 279 (.ifCond .eq (((286 : Nat) : Int) - ((279 : Nat) : Int))) 3 282 := ⟨at_279, rfl⟩
theorem e0_282 : Dec code 282 (.iconst 1) 1 283 := ⟨at_282, rfl⟩
theorem e0_283 : Dec code 283 (.goto (((287 : Nat) : Int) - ((283 : Nat) : Int))) 3 286 := ⟨at_283, rfl⟩
theorem e0_286 : Dec code 286 (.iconst 0) 1 287 := ⟨at_286, rfl⟩
theorem e0_287 : Dec code 287 (.istore 10) 2 289 := ⟨at_287, rfl⟩
theorem e0_289 : Dec code 289 (.aload 9) 2 291 := ⟨at_289, rfl⟩
theorem e0_294 : Dec code 294 (.iload 10) 2 296 := ⟨at_294, rfl⟩
theorem e0_296 : Dec code 296 (.if_icmp .ne (((303 : Nat) : Int) - ((296 : Nat) : Int))) 3 299 := ⟨at_296, rfl⟩
theorem e0_299 : Dec code 299 (.iconst 1) 1 300 := ⟨at_299, rfl⟩
theorem e0_300 : Dec code 300 (.goto (((304 : Nat) : Int) - ((300 : Nat) : Int))) 3 303 := ⟨at_300, rfl⟩
theorem e0_304 : Dec code 304 (.istore 11) 2 306 := ⟨at_304, rfl⟩
theorem e0_306 : Dec code 306 (.ldc 35) 2 308 := ⟨at_306, rfl⟩
theorem e0_308 : Dec code 308 (.astore 12) 2 310 := ⟨at_308, rfl⟩
theorem e0_310 : Dec code 310 (.ldc 37) 2 312 := ⟨at_310, rfl⟩
theorem e0_312 : Dec code 312 (.astore 13) 2 314 := ⟨at_312, rfl⟩
theorem e0_314 : Dec code 314 (.aload 12) 2 316 := ⟨at_314, rfl⟩
theorem e0_319 : Dec code 319 (.ifCond .eq (((334 : Nat) : Int) - ((319 : Nat) : Int))) 3 322 := ⟨at_319, rfl⟩
theorem e0_322 : Dec code 322 (.aload 13) 2 324 := ⟨at_322, rfl⟩
theorem e0_327 : Dec code 327 (.ifCond .ne (((334 : Nat) : Int) - ((327 : Nat) : Int))) 3 330 := ⟨at_327, rfl⟩
theorem e0_330 : Dec code 330 (.iconst 1) 1 331 := ⟨at_330, rfl⟩
theorem e0_331 : Dec code 331 (.goto (((335 : Nat) : Int) - ((331 : Nat) : Int))) 3 334 := ⟨at_331, rfl⟩
theorem e0_335 : Dec code 335 (.istore 14) 2 337 := ⟨at_335, rfl⟩
theorem e0_337 : Dec code 337 (.iload 11) 2 339 := ⟨at_337, rfl⟩
theorem e0_339 : Dec code 339 (.ifCond .eq (((351 : Nat) : Int) - ((339 : Nat) : Int))) 3 342 := ⟨at_339, rfl⟩
theorem e0_342 : Dec code 342 (.iload 14) 2 344 := ⟨at_342, rfl⟩
theorem e0_344 : Dec code 344 (.ifCond .eq (((351 : Nat) : Int) - ((344 : Nat) : Int))) 3 347 := ⟨at_344, rfl⟩
theorem e0_347 : Dec code 347 (.iconst 1) 1 348 := ⟨at_347, rfl⟩
theorem e0_348 : Dec code 348 (.goto (((352 : Nat) : Int) - ((348 : Nat) : Int))) 3 351 := ⟨at_348, rfl⟩
theorem e0_352 : Dec code 352 (.ireturn) 1 353 := ⟨at_352, rfl⟩
abbrev EL1 : List (String × Nat) := [("com/example/grantline/grantline/name/NamesIsOperationIdPinLaw", 35), ("com/example/grantline/grantline/name/NamesIsOperationIdPinLaw", 37), ("com/example/grantline/grantline/name/NamesIsOperationIdPinLaw", 39), ("java/lang/String", 7)]
theorem el1 {Z : State} {a0 : Array Value} (hw : ∀ d ∈ tables_1, d.before a0 Z = true) : EW Z a0 EL1 := (EW.cons (hw _ (List.mem_of_getElem? (i := 64) rfl)) (by decide +kernel) (EW.cons (hw _ (List.mem_of_getElem? (i := 65) rfl)) (by decide +kernel) (EW.cons (hw _ (List.mem_of_getElem? (i := 7) rfl)) (by decide +kernel) (EW.cons (hw _ (List.mem_of_getElem? (i := 54) rfl)) (by decide +kernel) EW.nil))))
theorem ef_1 (m : MethodId) (b d : Addr) (cs : List Int32) : entryFrame m #[.ref b, .int 0, .ref d, .int 0, .int (Int32.ofNat cs.length)] 7 = mkF m 0 #[.val (.ref b), .val (.int 0), .val (.ref d), .val (.int 0), .val (.int (Int32.ofNat cs.length)), .unset, .unset] [] := by first | (simp [entryFrame, mkF, argsToLocals, Value.category]; done) | rfl
set_option maxRecDepth 65536 in
set_option maxHeartbeats 40000000 in
theorem kC5 (l : Launch) (Z : State) (a0 : Array Value) (hw : ∀ d ∈ tables_1, d.before a0 Z = true) (h : Heap) (n0 : Nat) (X : Old Z n0 h) (b d : Addr) (hd : n0 ≤ d) (hbd : b ≠ d) (cs : List Int32) (hlen : cs.length ≤ 4000) (N : Int32) (hN : N = Int32.ofNat cs.length) (kc kd : ClassId) (dv : Value) (AB : Arv Z h b kc .char N (cs.map Value.int) dv) (AD : Arv Z h d kd .byte N (List.replicate cs.length (.int 0)) (.int 0)) :
    Ctr true l Z EL1 (⟨"java/lang/StringUTF16", "compress", "([CI[BII)I"⟩ : MethodName) jdk_52_method_21_code 7 (some (.int)) [] ({ frames := 0, cells := 0, slots := 0, locals := 0 } : Room) #[.ref b, .int 0, .ref d, .int 0, .int (Int32.ofNat cs.length)] h [d] (fun v h' L A => ∃ i, v = some (.int (Int32.ofNat i)) ∧ ((i = cs.length ∧ (∀ c ∈ cs, ¬ (255 : Int32) < c) ∧ Arv Z h' d kd .byte N (cs.map fun c => Value.int (StrChars.lo8 c)) (.int 0)) ∨ (i < cs.length ∧ (255 : Int32) < cs.getD i 0)) ∧ A = [] ∧ Keep h h' [d] ∧ Old Z n0 h' ∧ Fr n0 L) := by
  have hEW : EW Z a0 EL1 := el1 hw
  have hE : true = true ∧ EW Z a0 EL1 ∨ EL1 = [] := Or.inl ⟨rfl, hEW⟩
  refine Ctr.of (y := (⟨"java/lang/StringUTF16", "compress", "([CI[BII)I"⟩ : MethodName)) pn_1 (ef_1 · b d cs) fun p e s m below meth c K => ?_
  have loop : ∀ (k i : Nat) (j : Int32) (z6 : Slot) (hh : Heap) (ll : List Loc), i + k = cs.length → j = Int32.ofNat i → (z6 = .unset ∨ ∃ v : Int32, z6 = .val (.int v)) → Fr n0 ll → Old Z n0 hh → Keep h hh [d] → Arv Z hh b kc .char N (cs.map Value.int) dv → Arv Z hh d kd .byte N ((cs.take i).map (fun c => Value.int (StrChars.lo8 c)) ++ List.replicate (cs.length - i) (.int 0)) (.int 0) → (∀ c ∈ cs.take i, ¬ (255 : Int32) < c) →
      Go true p l e ({ frames := 0, cells := 0, slots := 0, locals := 0 } : Room) s m #[.ref b, .int 0, .ref d, .int 0, .int (Int32.ofNat cs.length)] below meth c Z EL1 "java/lang/StringUTF16" (fun v h' L A => ∃ i, v = some (.int (Int32.ofNat i)) ∧ ((i = cs.length ∧ (∀ c ∈ cs, ¬ (255 : Int32) < c) ∧ Arv Z h' d kd .byte N (cs.map fun c => Value.int (StrChars.lo8 c)) (.int 0)) ∨ (i < cs.length ∧ (255 : Int32) < cs.getD i 0)) ∧ A = [] ∧ Keep h h' [d] ∧ Old Z n0 h' ∧ Fr n0 L) [d] (mkF m 3 #[.val (.ref b), .val (.int j), .val (.ref d), .val (.int j), .val (.int (Int32.ofNat cs.length)), .val (.int j), z6] []) hh ll 0 0 := by
    intro k
    induction k with
    | zero =>
      intro i j z6 hh ll hik hj HZ NN OO KK AB AD PP
      refine Go.iload K c5_3 rfl ?_
      refine Go.iload K c5_5 rfl ?_
      refine Go.icmp K c5_7 (fun (c7 : ¬ j < ((Int32.ofNat cs.length))) => ?_) (fun (c7 : j < ((Int32.ofNat cs.length))) => ?_)
      · refine Go.iload K c5_44 rfl ?_
        exact Go.iret K hE c5_46 (Nat.zero_le _) (Nat.zero_le _) (A := []) nofun ⟨cs.length, rfl, Or.inl ⟨rfl, by rw [show i = cs.length by omega, List.take_length] at PP; exact PP, by rw [show i = cs.length by omega, List.take_length, Nat.sub_self] at AD; simpa using AD⟩, rfl, KK, OO, NN⟩
      · exact absurd ((lt_n (by omega) (by omega)).mp (hj ▸ c7)) (by omega)
    | succ k ih =>
      intro i j z6 hh ll hik hj HZ NN OO KK AB AD PP
      refine Go.iload K c5_3 rfl ?_
      refine Go.iload K c5_5 rfl ?_
      refine Go.icmp K c5_7 (fun (c7 : ¬ j < ((Int32.ofNat cs.length))) => ?_) (fun (c7 : j < ((Int32.ofNat cs.length))) => ?_)
      · exact absurd (hj ▸ (lt_n (by omega) (by omega)).mpr (by omega)) c7
      · refine Go.aloadN K c5_10 rfl rfl ?_
        refine Go.iloadN K c5_11 rfl ?_
        refine Go.caload K AB (by rw [hj]; exact nn_n (by omega)) (by rw [hj, hN, cl_n (by omega), cl_n (by omega)]; omega) (v := .int (cs.getD i 0)) (by rw [hj, cl_n (by omega)]; exact map_getD (by omega)) c5_12 ?_
        refine Go.istore K #[.val (.ref b), .val (.int j), .val (.ref d), .val (.int j), .val (.int (Int32.ofNat cs.length)), .val (.int j), .val (.int (cs.getD i 0))] c5_13 (by rcases HZ with rfl | ⟨w, rfl⟩ <;> rfl) ?_
        refine Go.iload K c5_15 rfl ?_
        refine Go.sipush K c5_17 (255) (by first | rfl | decide) ?_
        refine Go.icmp K c5_20 (fun (c20 : ¬ (255 : Int32) < ((cs.getD i 0))) => ?_) (fun (c20 : (255 : Int32) < ((cs.getD i 0))) => ?_)
        · refine Go.aloadN K c5_26 rfl rfl ?_
          refine Go.iloadN K c5_27 rfl ?_
          refine Go.iload K c5_28 rfl ?_
          refine Go.i2b K c5_30 ?_
          refine Go.bastore K AD i (by rw [hj]; exact cl_n (by omega)) (by rw [hj]; exact nn_n (by omega)) (by simp; omega) (by rw [hN, cl_n (by omega)]; omega) (Sf.mem (by simp)) c5_31 (fun h2 W2 A2 => ?_)
          refine Go.iinc K c5_32 (1) (by first | rfl | decide) #[.val (.ref b), .val (.int (j + 1)), .val (.ref d), .val (.int j), .val (.int (Int32.ofNat cs.length)), .val (.int j), .val (.int (cs.getD i 0))] rfl rfl ?_
          refine Go.iinc K c5_35 (1) (by first | rfl | decide) #[.val (.ref b), .val (.int (j + 1)), .val (.ref d), .val (.int (j + 1)), .val (.int (Int32.ofNat cs.length)), .val (.int j), .val (.int (cs.getD i 0))] rfl rfl ?_
          refine Go.iinc K c5_38 (1) (by first | rfl | decide) #[.val (.ref b), .val (.int (j + 1)), .val (.ref d), .val (.int (j + 1)), .val (.int (Int32.ofNat cs.length)), .val (.int (j + 1)), .val (.int (cs.getD i 0))] rfl rfl ?_
          refine Go.goto K c5_41 ?_
          exact ih (i + 1) _ _ h2 _ (by omega) (by rw [hj]; exact inc_n) (Or.inr ⟨_, rfl⟩) (Fr.s NN hd) (OO.wr W2 hd) (KK.wr W2 (Or.inl (List.mem_cons_self ..))) (AB.other W2 hbd) (by rw [nar_b] at A2; have e := set_pre ((cs.take i).map fun c => Value.int (StrChars.lo8 c)) (.int 0) (.int (StrChars.lo8 (cs.getD i 0))) k; rw [List.length_map, List.length_take, Nat.min_eq_left (by omega)] at e; rw [show cs.length - i = k + 1 by omega] at A2; rw [show cs.length - (i + 1) = k by omega, take_snoc cs i (by omega), List.map_append]; exact e ▸ A2) (by rw [take_snoc cs i (by omega)]; intro c hc; exact (List.mem_append.mp hc).elim (PP c) (fun q => by cases List.mem_singleton.mp q; exact c20))
        · refine Go.iload K c5_23 rfl ?_
          exact Go.iret K hE c5_25 (Nat.zero_le _) (Nat.zero_le _) (A := []) nofun ⟨i, by rw [hj], Or.inr ⟨by omega, c20⟩, rfl, KK, OO, NN⟩
  refine Go.iconst K c5_0 (0) (by first | rfl | decide) ?_
  refine Go.istore K #[.val (.ref b), .val (.int 0), .val (.ref d), .val (.int 0), .val (.int (Int32.ofNat cs.length)), .val (.int 0), .unset] c5_1 rfl ?_
  exact loop cs.length 0 _ _ h [] (Nat.zero_add _) rfl (Or.inl rfl) (Fr.nil n0) X (Keep.refl _ _) AB (by simpa using AD) (by simp)
theorem lt_big {n : Nat} (h : n ≤ 4000) : Int32.ofNat n < 1073741823 := by
  rw [Int32.lt_iff_toInt_lt, toInt_n (by omega)]
  have e : (1073741823 : Int32).toInt = 1073741823 := by decide
  omega
theorem ef_2 (m : MethodId) (n : Nat) : entryFrame m #[.int (Int32.ofNat n)] 1 = mkF m 0 #[.val (.int (Int32.ofNat n))] [] := by first | (simp [entryFrame, mkF, argsToLocals, Value.category]; done) | rfl
set_option maxRecDepth 65536 in
set_option maxHeartbeats 40000000 in
theorem kNBL (l : Launch) (Z : State) (a0 : Array Value) (hw : ∀ d ∈ tables_1, d.before a0 Z = true) (h : Heap) (n : Nat) (hn : n ≤ 8) :
    Ctr true l Z EL1 (⟨"java/lang/StringUTF16", "newBytesLength", "(I)I"⟩ : MethodName) jdk_52_method_3_code 1 (some (.int)) [] ({ frames := 0, cells := 0, slots := 0, locals := 0 } : Room) #[.int (Int32.ofNat n)] h [] (fun v h' L A => v = some (.int (Int32.ofNat (2 * n))) ∧ h' = h ∧ L = [] ∧ A = []) := by
  have hEW : EW Z a0 EL1 := el1 hw
  have hE : true = true ∧ EW Z a0 EL1 ∨ EL1 = [] := Or.inl ⟨rfl, hEW⟩
  refine Ctr.of (y := (⟨"java/lang/StringUTF16", "newBytesLength", "(I)I"⟩ : MethodName)) pn_1 (ef_2 · n) fun p e s m below meth c K => ?_
  refine Go.iloadN K nbl_0 rfl ?_
  refine Go.ifc K nbl_1 (fun (c1 : ¬ ((Int32.ofNat n)) < (0 : Int32)) => ?_) (fun (c1 : ((Int32.ofNat n)) < (0 : Int32)) => ?_)
  · refine Go.iloadN K nbl_12 rfl ?_
    refine Go.ldcI K (hw _ (List.mem_of_getElem? (i := 105) rfl)) nbl_13 ?_
    refine Go.icmp K nbl_15 (fun (c15 : ((Int32.ofNat n)) < (1073741823 : Int32)) => ?_) (fun (c15 : ¬ ((Int32.ofNat n)) < (1073741823 : Int32)) => ?_)
    · refine Go.iloadN K nbl_55 rfl ?_
      refine Go.iconst K nbl_56 (1) (by first | rfl | decide) ?_
      refine Go.ishl K nbl_57 ?_
      exact Go.iret K hE nbl_58 (Nat.zero_le _) (Nat.zero_le _) (A := []) nofun ⟨by rw [shl1_n], rfl, rfl, rfl⟩
    · exact absurd (lt_big (by omega)) c15
  · exact absurd c1 (nn_n (by omega))
theorem ef_3 (m : MethodId) (n : Nat) : entryFrame m #[.int (Int32.ofNat n)] 1 = mkF m 0 #[.val (.int (Int32.ofNat n))] [] := by first | (simp [entryFrame, mkF, argsToLocals, Value.category]; done) | rfl
set_option maxRecDepth 65536 in
set_option maxHeartbeats 40000000 in
theorem kNBF (l : Launch) (Z : State) (a0 : Array Value) (hw : ∀ d ∈ tables_1, d.before a0 Z = true) (h : Heap) (n : Nat) (hn : n ≤ 8) :
    Ctr true l Z EL1 (⟨"java/lang/StringUTF16", "newBytesFor", "(I)[B"⟩ : MethodName) jdk_52_method_2_code 1 (some (.array (.byte))) [] ({ frames := 1, cells := 1, slots := 16, locals := 16 } : Room) #[.int (Int32.ofNat n)] h [] (fun v h' L A => ∃ (t : Addr) (kb : ClassId), v = some (.ref t) ∧ A = [t] ∧ h.size ≤ t ∧ Ext h h' ∧ L = [] ∧ Arv Z h' t kb .byte (Int32.ofNat (2 * n)) (List.replicate (2 * n) (.int 0)) (.int 0)) := by
  have hEW : EW Z a0 EL1 := el1 hw
  have hE : true = true ∧ EW Z a0 EL1 ∨ EL1 = [] := Or.inl ⟨rfl, hEW⟩
  refine Ctr.of (y := (⟨"java/lang/StringUTF16", "newBytesFor", "(I)[B"⟩ : MethodName)) pn_1 (ef_3 · n) fun p e s m below meth c K => ?_
  refine Go.iloadN K nbf_0 rfl ?_
  refine Go.call K hE (Inv.static (argsL := [.int (Int32.ofNat n)]) (S := []) K.1 (hw _ (List.mem_of_getElem? (i := 102) rfl)) (hw _ (List.mem_of_getElem? (i := 103) rfl)) (hw _ (List.mem_of_getElem? (i := 85) rfl)) (hw _ (List.mem_of_getElem? (i := 104) rfl)) (by decide) (lenOf pd_1 rfl) (hb K.2.1 nbf_1.1)) (kNBL l Z a0 hw _ n hn) nofun (hw _ (List.mem_of_getElem? (i := 104) rfl)) (hw _ (List.mem_of_getElem? (i := 85) rfl)) nbf_1.1 rfl (by decide) (Nat.le_of_ble_eq_true rfl) (by decide) (by decide) ?_
  rintro _ hq _ _ ⟨rfl, eh, rfl, rfl⟩
  subst hq
  show Go true p l e _ s m _ below meth c Z EL1 _ _ _ (mkF m 4 _ [.int (Int32.ofNat (2 * n))]) _ _ _ _
  refine Go.newP K (hw _ (List.mem_of_getElem? (i := 10) rfl)) nbf_4 (nn_n (by omega)) 16 (by rw [cl_n (by omega)]; omega) (by decide) (by decide) (by decide) (fun h1 E1 ⟨k1, A1⟩ => ?_)
  have A1' : Arv Z h1 h.size k1 .byte (Int32.ofNat (2 * n)) (List.replicate (2 * n) (.int 0)) (.int 0) := A1.pad (pad_rep' _)
  exact Go.aret K hE nbf_6 rfl rfl (by decide) (by decide) (A := [h.size]) (by simp) ⟨h.size, k1, rfl, rfl, Nat.le_refl _, E1, rfl, A1'⟩
theorem ef_4 (m : MethodId) (t : Addr) (i : Nat) (cc : Int32) : entryFrame m #[.ref t, .int (Int32.ofNat i), .int cc] 3 = mkF m 0 #[.val (.ref t), .val (.int (Int32.ofNat i)), .val (.int cc)] [] := by first | (simp [entryFrame, mkF, argsToLocals, Value.category]; done) | rfl
set_option maxRecDepth 65536 in
set_option maxHeartbeats 40000000 in
theorem kPut (l : Launch) (Z : State) (a0 : Array Value) (hw : ∀ d ∈ tables_1, d.before a0 Z = true) (h : Heap) (n0 : Nat) (X : Old Z n0 h) (SA : Sta Z Z.heap "java/lang/StringUTF16" "$assertionsDisabled" "Z" (.int 1)) (SH : Sta Z Z.heap "java/lang/StringUTF16" "HI_BYTE_SHIFT" "I" (.int 0)) (SL0 : Sta Z Z.heap "java/lang/StringUTF16" "LO_BYTE_SHIFT" "I" (.int 8)) (t : Addr) (ht : n0 ≤ t) (i : Nat) (cc : Int32) (N : Int32) (vs : List Value) (kb : ClassId) (hvs : vs.length ≤ 4000) (hi : 2 * i + 1 < vs.length) (hN : N = Int32.ofNat vs.length) (At : Arv Z h t kb .byte N vs (.int 0)) :
    Ctr true l Z EL1 (⟨"java/lang/StringUTF16", "putChar", "([BII)V"⟩ : MethodName) jdk_52_method_4_code 3 none [] ({ frames := 0, cells := 0, slots := 0, locals := 0 } : Room) #[.ref t, .int (Int32.ofNat i), .int cc] h [t] (fun v h' L A => v = none ∧ A = [] ∧ Fr n0 L ∧ Old Z n0 h' ∧ Keep h h' [t] ∧ Arv Z h' t kb .byte N ((vs.set (2 * i) (.int (StrChars.lo8 cc))).set (2 * i + 1) (.int (StrChars.hi8 cc))) (.int 0)) := by
  have hEW : EW Z a0 EL1 := el1 hw
  have hE : true = true ∧ EW Z a0 EL1 ∨ EL1 = [] := Or.inl ⟨rfl, hEW⟩
  refine Ctr.of (y := (⟨"java/lang/StringUTF16", "putChar", "([BII)V"⟩ : MethodName)) pn_1 (ef_4 · t i cc) fun p e s m below meth c K => ?_
  refine Go.getS K (hw _ (List.mem_of_getElem? (i := 109) rfl)) Via.refl (SA.ext X.2) ptc_0 ?_
  refine Go.ifc K ptc_3 (fun (c3 : ¬ (1 : Int32) = (0 : Int32)) => ?_) (fun (c3 : (1 : Int32) = (0 : Int32)) => ?_)
  · refine Go.iloadN K ptc_28 rfl ?_
    refine Go.iconst K ptc_29 (1) (by first | rfl | decide) ?_
    refine Go.ishl K ptc_30 ?_
    refine Go.istoreN K #[.val (.ref t), .val (.int (((Int32.ofNat i)) <<< ((1 : Int32) &&& 31))), .val (.int cc)] ptc_31 rfl ?_
    refine Go.aloadN K ptc_32 rfl rfl ?_
    refine Go.iloadN K ptc_33 rfl ?_
    refine Go.iinc K ptc_34 (1) (by first | rfl | decide) #[.val (.ref t), .val (.int (((((Int32.ofNat i)) <<< ((1 : Int32) &&& 31))) + 1)), .val (.int cc)] rfl rfl ?_
    refine Go.iloadN K ptc_37 rfl ?_
    refine Go.getS K (hw _ (List.mem_of_getElem? (i := 110) rfl)) Via.refl (SH.ext X.2) ptc_38 ?_
    refine Go.ishr K ptc_41 ?_
    refine Go.i2b K ptc_42 ?_
    refine Go.bastore K At (2 * i) (by rw [shl1_n, cl_n (by omega)]) (by rw [shl1_n]; exact nn_n (by omega)) (by first | omega | (simp only [List.length_set]; omega)) (by rw [hN, cl_n (by omega)]; omega) (Sf.mem (by simp)) ptc_43 (fun h1 W1 A1 => ?_)
    have O1 := X.wr W1 ht
    refine Go.aloadN K ptc_44 rfl rfl ?_
    refine Go.iloadN K ptc_45 rfl ?_
    refine Go.iloadN K ptc_46 rfl ?_
    refine Go.getS K (hw _ (List.mem_of_getElem? (i := 111) rfl)) Via.refl (SL0.ext O1.2) ptc_47 ?_
    refine Go.ishr K ptc_50 ?_
    refine Go.i2b K ptc_51 ?_
    refine Go.bastore K A1 (2 * i + 1) (by rw [shl1_n, inc_n, cl_n (by omega)]) (by rw [shl1_n, inc_n]; exact nn_n (by omega)) (by first | omega | (simp only [List.length_set]; omega)) (by rw [hN, cl_n (by omega)]; omega) (Sf.mem (by simp)) ptc_52 (fun h2 W2 A2 => ?_)
    exact Go.vret K hE ptc_53 (Nat.zero_le _) (Nat.zero_le _) (A := []) nofun rfl ⟨rfl, rfl, Fr.s (Fr.s (Fr.nil n0) ht) ht, (O1.wr W2 ht), ((Keep.of_wr W1).wr W2 (Or.inl (List.mem_cons_self ..))), by rw [nar_b, nar_b, StrChars.shr0] at A2; exact A2⟩
  · exact absurd c3 (by decide)
theorem ef_5 (m : MethodId) (t : Addr) (i : Nat) : entryFrame m #[.ref t, .int (Int32.ofNat i)] 2 = mkF m 0 #[.val (.ref t), .val (.int (Int32.ofNat i))] [] := by first | (simp [entryFrame, mkF, argsToLocals, Value.category]; done) | rfl
set_option maxRecDepth 65536 in
set_option maxHeartbeats 40000000 in
theorem kGet (l : Launch) (Z : State) (a0 : Array Value) (hw : ∀ d ∈ tables_1, d.before a0 Z = true) (h : Heap) (n0 : Nat) (X : Old Z n0 h) (SA : Sta Z Z.heap "java/lang/StringUTF16" "$assertionsDisabled" "Z" (.int 1)) (SH : Sta Z Z.heap "java/lang/StringUTF16" "HI_BYTE_SHIFT" "I" (.int 0)) (SL0 : Sta Z Z.heap "java/lang/StringUTF16" "LO_BYTE_SHIFT" "I" (.int 8)) (t : Addr) (i : Nat) (cc : Int32) (hc0 : ¬ cc < 0) (hc1 : ¬ (65535 : Int32) < cc) (N : Int32) (vs : List Value) (kb : ClassId) (hi4 : i ≤ 4000) (hN : 2 * i + 1 < N.toNatClampNeg) (At : Arv Z h t kb .byte N vs (.int 0)) (hlo : vs.getD (2 * i) (.int 0) = .int (StrChars.lo8 cc)) (hhi : vs.getD (2 * i + 1) (.int 0) = .int (StrChars.hi8 cc)) :
    Ctr true l Z EL1 (⟨"java/lang/StringUTF16", "getChar", "([BI)C"⟩ : MethodName) jdk_52_method_5_code 2 (some (.char)) [] ({ frames := 0, cells := 0, slots := 0, locals := 0 } : Room) #[.ref t, .int (Int32.ofNat i)] h [] (fun v h' L A => v = some (.int cc) ∧ h' = h ∧ L = [] ∧ A = []) := by
  have hEW : EW Z a0 EL1 := el1 hw
  have hE : true = true ∧ EW Z a0 EL1 ∨ EL1 = [] := Or.inl ⟨rfl, hEW⟩
  refine Ctr.of (y := (⟨"java/lang/StringUTF16", "getChar", "([BI)C"⟩ : MethodName)) pn_1 (ef_5 · t i) fun p e s m below meth c K => ?_
  refine Go.getS K (hw _ (List.mem_of_getElem? (i := 109) rfl)) Via.refl (SA.ext X.2) gtc_0 ?_
  refine Go.ifc K gtc_3 (fun (c3 : ¬ (1 : Int32) = (0 : Int32)) => ?_) (fun (c3 : (1 : Int32) = (0 : Int32)) => ?_)
  · refine Go.iloadN K gtc_28 rfl ?_
    refine Go.iconst K gtc_29 (1) (by first | rfl | decide) ?_
    refine Go.ishl K gtc_30 ?_
    refine Go.istoreN K #[.val (.ref t), .val (.int (((Int32.ofNat i)) <<< ((1 : Int32) &&& 31)))] gtc_31 rfl ?_
    refine Go.aloadN K gtc_32 rfl rfl ?_
    refine Go.iloadN K gtc_33 rfl ?_
    refine Go.iinc K gtc_34 (1) (by first | rfl | decide) #[.val (.ref t), .val (.int (((((Int32.ofNat i)) <<< ((1 : Int32) &&& 31))) + 1))] rfl rfl ?_
    refine Go.baload K At (by rw [shl1_n]; exact nn_n (by omega)) (by rw [shl1_n, cl_n (by omega)]; omega) (v := .int (StrChars.lo8 cc)) (by rw [shl1_n, cl_n (by omega)]; exact hlo) gtc_37 ?_
    refine Go.sipush K gtc_38 (255) (by first | rfl | decide) ?_
    refine Go.iand K gtc_41 ?_
    refine Go.getS K (hw _ (List.mem_of_getElem? (i := 110) rfl)) Via.refl (SH.ext X.2) gtc_42 ?_
    refine Go.ishl K gtc_45 ?_
    refine Go.aloadN K gtc_46 rfl rfl ?_
    refine Go.iloadN K gtc_47 rfl ?_
    refine Go.baload K At (by rw [shl1_n, inc_n]; exact nn_n (by omega)) (by rw [shl1_n, inc_n, cl_n (by omega)]; omega) (v := .int (StrChars.hi8 cc)) (by rw [shl1_n, inc_n, cl_n (by omega)]; exact hhi) gtc_48 ?_
    refine Go.sipush K gtc_49 (255) (by first | rfl | decide) ?_
    refine Go.iand K gtc_52 ?_
    refine Go.getS K (hw _ (List.mem_of_getElem? (i := 111) rfl)) Via.refl (SL0.ext X.2) gtc_53 ?_
    refine Go.ishl K gtc_56 ?_
    refine Go.ior K gtc_57 ?_
    refine Go.i2c K gtc_58 ?_
    exact Go.nret K hE gtc_59 (by simp) (Nat.zero_le _) (Nat.zero_le _) (A := []) nofun ⟨by show some (Value.int (nar .char (StrChars.pairCh _ _))) = _; rw [nar_c_pair, StrChars.pair_says hc0 hc1], rfl, rfl, rfl⟩
  · exact absurd c3 (by decide)
theorem wide_step (cs : List Int32) (i k : Nat) (h : i + (k + 1) = cs.length) : ((StrChars.Road.wideBytes (cs.take i) ++ List.replicate (2 * (cs.length - i)) (Value.int 0)).set (2 * i) (.int (StrChars.lo8 (cs.getD i 0)))).set (2 * i + 1) (.int (StrChars.hi8 (cs.getD i 0))) = StrChars.Road.wideBytes (cs.take (i + 1)) ++ List.replicate (2 * (cs.length - (i + 1))) (Value.int 0) := by
  have e := set2_pre (StrChars.Road.wideBytes (cs.take i)) (List.replicate (2 * (cs.length - (i + 1))) (Value.int 0)) (Value.int 0) (Value.int 0) (.int (StrChars.lo8 (cs.getD i 0))) (.int (StrChars.hi8 (cs.getD i 0)))
  rw [wide_len, List.length_take, Nat.min_eq_left (by omega)] at e
  rw [show 2 * (cs.length - i) = 2 * (cs.length - (i + 1)) + 1 + 1 by omega, List.replicate_succ, List.replicate_succ, e, take_snoc cs i (by omega), wide_app, List.append_assoc]
  rfl
theorem ef_6 (m : MethodId) (b : Addr) (cs : List Int32) : entryFrame m #[.ref b, .int 0, .int (Int32.ofNat cs.length)] 5 = mkF m 0 #[.val (.ref b), .val (.int 0), .val (.int (Int32.ofNat cs.length)), .unset, .unset] [] := by first | (simp [entryFrame, mkF, argsToLocals, Value.category]; done) | rfl
set_option maxRecDepth 65536 in
set_option maxHeartbeats 40000000 in
theorem kT2 (l : Launch) (Z : State) (a0 : Array Value) (hw : ∀ d ∈ tables_1, d.before a0 Z = true) (h : Heap) (n0 : Nat) (X : Old Z n0 h) (SA : Sta Z Z.heap "java/lang/StringUTF16" "$assertionsDisabled" "Z" (.int 1)) (SH : Sta Z Z.heap "java/lang/StringUTF16" "HI_BYTE_SHIFT" "I" (.int 0)) (SL0 : Sta Z Z.heap "java/lang/StringUTF16" "LO_BYTE_SHIFT" "I" (.int 8)) (b : Addr) (cs : List Int32) (hcs : ∀ c ∈ cs, ¬ c < 0 ∧ ¬ (65535 : Int32) < c) (hlen : cs.length ≤ 8) (N : Int32) (hN : N = Int32.ofNat cs.length) (kc : ClassId) (dv : Value) (AB : Arv Z h b kc .char N (cs.map Value.int) dv) :
    Ctr true l Z EL1 (⟨"java/lang/StringUTF16", "toBytes", "([CII)[B"⟩ : MethodName) jdk_52_method_14_code 5 (some (.array (.byte))) [] ({ frames := 2, cells := 1, slots := 16, locals := 48 } : Room) #[.ref b, .int 0, .int (Int32.ofNat cs.length)] h [] (fun v h' L A => ∃ (t : Addr) (kb : ClassId), v = some (.ref t) ∧ A = [t] ∧ h.size ≤ t ∧ Fr n0 L ∧ Old Z n0 h' ∧ Keep h h' [] ∧ Arv Z h' t kb .byte (Int32.ofNat (2 * cs.length)) (StrChars.Road.wideBytes cs) (.int 0)) := by
  have hEW : EW Z a0 EL1 := el1 hw
  have hE : true = true ∧ EW Z a0 EL1 ∨ EL1 = [] := Or.inl ⟨rfl, hEW⟩
  refine Ctr.of (y := (⟨"java/lang/StringUTF16", "toBytes", "([CII)[B"⟩ : MethodName)) pn_1 (ef_6 · b cs) fun p e s m below meth c K => ?_
  refine Go.iloadN K tby_0 rfl ?_
  refine Go.call K hE (Inv.static (argsL := [.int (Int32.ofNat cs.length)]) (S := []) K.1 (hw _ (List.mem_of_getElem? (i := 99) rfl)) (hw _ (List.mem_of_getElem? (i := 100) rfl)) (hw _ (List.mem_of_getElem? (i := 85) rfl)) (hw _ (List.mem_of_getElem? (i := 101) rfl)) (by decide) (lenOf pd_2 rfl) (hb K.2.1 tby_1.1)) (kNBF l Z a0 hw _ cs.length hlen) nofun (hw _ (List.mem_of_getElem? (i := 101) rfl)) (hw _ (List.mem_of_getElem? (i := 85) rfl)) tby_1.1 rfl (by decide) (Nat.le_of_ble_eq_true rfl) (by decide) (by decide) ?_
  rintro _ h1 _ _ ⟨t, kb, rfl, rfl, gt, E1, rfl, A1⟩
  show Go true p l e _ s m _ below meth c Z EL1 _ _ _ (mkF m 4 _ [.ref t]) _ _ _ _
  have ht : n0 ≤ t := Nat.le_trans (Old.le X) gt
  have hbt : b ≠ t := Nat.ne_of_lt (Nat.lt_of_lt_of_le AB.lt gt)
  refine Go.astoreN K #[.val (.ref b), .val (.int 0), .val (.int (Int32.ofNat cs.length)), .val (.ref t), .unset] tby_4 rfl rfl ?_
  refine Go.iconst K tby_5 (0) (by first | rfl | decide) ?_
  refine Go.istore K #[.val (.ref b), .val (.int 0), .val (.int (Int32.ofNat cs.length)), .val (.ref t), .val (.int 0)] tby_6 rfl ?_
  have loop : ∀ (k i : Nat) (j : Int32) (hh : Heap) (ll : List Loc), i + k = cs.length → j = Int32.ofNat i → Fr n0 ll → Old Z n0 hh → Keep h hh [] → Arv Z hh b kc .char N (cs.map Value.int) dv → Arv Z hh t kb .byte (Int32.ofNat (2 * cs.length)) (StrChars.Road.wideBytes (cs.take i) ++ List.replicate (2 * (cs.length - i)) (.int 0)) (.int 0) →
      Go true p l e ({ frames := 2, cells := 1, slots := 16, locals := 48 } : Room) s m #[.ref b, .int 0, .int (Int32.ofNat cs.length)] below meth c Z EL1 "java/lang/StringUTF16" (fun v h' L A => ∃ (t : Addr) (kb : ClassId), v = some (.ref t) ∧ A = [t] ∧ h.size ≤ t ∧ Fr n0 L ∧ Old Z n0 h' ∧ Keep h h' [] ∧ Arv Z h' t kb .byte (Int32.ofNat (2 * cs.length)) (StrChars.Road.wideBytes cs) (.int 0)) [t] (mkF m 8 #[.val (.ref b), .val (.int j), .val (.int (Int32.ofNat cs.length)), .val (.ref t), .val (.int j)] []) hh ll 1 16 := by
    intro k
    induction k with
    | zero =>
      intro i j hh ll hik hj NN OO KK AB At
      refine Go.iload K tby_8 rfl ?_
      refine Go.iloadN K tby_10 rfl ?_
      refine Go.icmp K tby_11 (fun (c11 : ¬ j < ((Int32.ofNat cs.length))) => ?_) (fun (c11 : j < ((Int32.ofNat cs.length))) => ?_)
      · refine Go.aloadN K tby_32 rfl rfl ?_
        exact Go.aret K hE tby_33 rfl rfl (by decide) (by decide) (A := [t]) (by simp) ⟨t, kb, rfl, rfl, gt, NN, OO, KK, by rw [show i = cs.length by omega, List.take_length, Nat.sub_self] at At; simpa using At⟩
      · exact absurd ((lt_n (by omega) (by omega)).mp (hj ▸ c11)) (by omega)
    | succ k ih =>
      intro i j hh ll hik hj NN OO KK AB At
      refine Go.iload K tby_8 rfl ?_
      refine Go.iloadN K tby_10 rfl ?_
      refine Go.icmp K tby_11 (fun (c11 : ¬ j < ((Int32.ofNat cs.length))) => ?_) (fun (c11 : j < ((Int32.ofNat cs.length))) => ?_)
      · exact absurd (hj ▸ (lt_n (by omega) (by omega)).mpr (by omega)) c11
      · refine Go.aloadN K tby_14 rfl rfl ?_
        refine Go.iload K tby_15 rfl ?_
        refine Go.aloadN K tby_17 rfl rfl ?_
        refine Go.iloadN K tby_18 rfl ?_
        refine Go.caload K AB (by rw [hj]; exact nn_n (by omega)) (by rw [hj, hN, cl_n (by omega), cl_n (by omega)]; omega) (v := .int (cs.getD i 0)) (by rw [hj, cl_n (by omega)]; exact map_getD (by omega)) tby_19 ?_
        subst hj
        refine Go.call K hE (Inv.static (argsL := [.ref t, .int (Int32.ofNat i), .int (cs.getD i 0)]) (S := []) K.1 (hw _ (List.mem_of_getElem? (i := 106) rfl)) (hw _ (List.mem_of_getElem? (i := 107) rfl)) (hw _ (List.mem_of_getElem? (i := 85) rfl)) (hw _ (List.mem_of_getElem? (i := 108) rfl)) (by decide) (lenOf pd_3 rfl) (hb K.2.1 tby_20.1)) (kPut l Z a0 hw _ n0 OO SA SH SL0 t ht i (cs.getD i 0) _ _ kb (by rw [List.length_append, wide_len, List.length_replicate, List.length_take]; omega) (by rw [List.length_append, wide_len, List.length_replicate, List.length_take]; omega) (by rw [List.length_append, wide_len, List.length_replicate, List.length_take]; congr 1; omega) At) (by simp) (hw _ (List.mem_of_getElem? (i := 108) rfl)) (hw _ (List.mem_of_getElem? (i := 85) rfl)) tby_20.1 rfl (by decide) (Nat.le_of_ble_eq_true rfl) (by decide) (by decide) ?_
        rintro _ h2 L2 _ ⟨rfl, rfl, N2, O2, K2, A2⟩
        show Go true p l e _ s m _ below meth c Z EL1 _ _ _ (mkF m 23 _ []) _ _ _ _
        have hj : Int32.ofNat i = Int32.ofNat i := rfl
        refine Go.sub (SL' := [t]) (by simp) ?_
        refine Go.iinc K tby_23 (1) (by first | rfl | decide) #[.val (.ref b), .val (.int (((Int32.ofNat i)) + 1)), .val (.int (Int32.ofNat cs.length)), .val (.ref t), .val (.int (Int32.ofNat i))] rfl rfl ?_
        refine Go.iinc K tby_26 (1) (by first | rfl | decide) #[.val (.ref b), .val (.int (((Int32.ofNat i)) + 1)), .val (.int (Int32.ofNat cs.length)), .val (.ref t), .val (.int (((Int32.ofNat i)) + 1))] rfl rfl ?_
        refine Go.goto K tby_29 ?_
        exact ih (i + 1) _ h2 _ (by omega) (by rw [hj]; exact inc_n) (NN.app N2) O2 (KK.trans K2 (fun y q => by cases List.mem_singleton.mp q; exact Or.inr gt)) (AB.keep K2 (fun q => hbt (List.mem_singleton.mp q))) (by rw [wide_step cs i k (by omega)] at A2; exact A2)
  exact loop cs.length 0 _ h1 _ (Nat.zero_add _) rfl (by simpa using Fr.nil n0) (X.ext E1) (Keep.of_ext E1) (AB.ext E1) (by simpa [StrChars.Road.wideBytes] using A1)
theorem ef_7 (m : MethodId) (b : Addr) (cs : List Int32) : entryFrame m #[.ref b, .int 0, .int (Int32.ofNat cs.length)] 6 = mkF m 0 #[.val (.ref b), .val (.int 0), .val (.int (Int32.ofNat cs.length)), .unset, .unset, .unset] [] := by first | (simp [entryFrame, mkF, argsToLocals, Value.category]; done) | rfl
set_option maxRecDepth 65536 in
set_option maxHeartbeats 40000000 in
theorem kC3 (l : Launch) (Z : State) (a0 : Array Value) (hw : ∀ d ∈ tables_1, d.before a0 Z = true) (h : Heap) (n0 : Nat) (X : Old Z n0 h) (SA : Sta Z Z.heap "java/lang/StringUTF16" "$assertionsDisabled" "Z" (.int 1)) (SH : Sta Z Z.heap "java/lang/StringUTF16" "HI_BYTE_SHIFT" "I" (.int 0)) (SL0 : Sta Z Z.heap "java/lang/StringUTF16" "LO_BYTE_SHIFT" "I" (.int 8)) (b : Addr) (cs : List Int32) (hcs : ∀ c ∈ cs, ¬ c < 0 ∧ ¬ (65535 : Int32) < c) (hlen : cs.length ≤ 8) (N : Int32) (hN : N = Int32.ofNat cs.length) (kc : ClassId) (dv : Value) (AB : Arv Z h b kc .char N (cs.map Value.int) dv) :
    Ctr true l Z EL1 (⟨"java/lang/StringUTF16", "compress", "([CII)[B"⟩ : MethodName) jdk_52_method_16_code 6 (some (.array (.byte))) [] ({ frames := 3, cells := 2, slots := 24, locals := 72 } : Room) #[.ref b, .int 0, .int (Int32.ofNat cs.length)] h [] (fun v h' L A => ∃ (t : Addr) (kb : ClassId) (cd N2 : Int32) (vs : List Value), v = some (.ref t) ∧ A = [t] ∧ h.size ≤ t ∧ Fr n0 L ∧ Old Z n0 h' ∧ Keep h h' [] ∧ Arv Z h' t kb .byte N2 vs (.int 0) ∧ StrChars.Road.CodA cs cd N2 vs) := by
  have hEW : EW Z a0 EL1 := el1 hw
  have hE : true = true ∧ EW Z a0 EL1 ∨ EL1 = [] := Or.inl ⟨rfl, hEW⟩
  refine Ctr.of (y := (⟨"java/lang/StringUTF16", "compress", "([CII)[B"⟩ : MethodName)) pn_1 (ef_7 · b cs) fun p e s m below meth c K => ?_
  refine Go.iloadN K c3_0 rfl ?_
  refine Go.newP K (hw _ (List.mem_of_getElem? (i := 10) rfl)) c3_1 (nn_n (by omega)) 8 (by rw [cl_n (by omega)]; omega) (by decide) (by decide) (by decide) (fun h1 E1 ⟨k1, A1⟩ => ?_)
  have A1' : Arv Z h1 h.size k1 .byte (Int32.ofNat cs.length) (List.replicate cs.length (.int 0)) (.int 0) := A1.pad (pad_rep' _)
  have AB1 := AB.ext E1
  have O1 := X.ext E1
  obtain ⟨d, gd⟩ : ∃ z, z = h.size := ⟨_, rfl⟩
  rw [← gd] at A1' ⊢
  have hd : n0 ≤ d := by rw [gd]; exact Old.le X
  have hbd : b ≠ d := by rw [gd]; exact Nat.ne_of_lt AB.lt
  refine Go.astoreN K #[.val (.ref b), .val (.int 0), .val (.int (Int32.ofNat cs.length)), .val (.ref d), .unset, .unset] c3_3 rfl rfl ?_
  refine Go.aloadN K c3_4 rfl rfl ?_
  refine Go.iloadN K c3_5 rfl ?_
  refine Go.aloadN K c3_6 rfl rfl ?_
  refine Go.iconst K c3_7 (0) (by first | rfl | decide) ?_
  refine Go.iloadN K c3_8 rfl ?_
  refine Go.call K hE (Inv.static (argsL := [.ref b, .int 0, .ref d, .int 0, .int (Int32.ofNat cs.length)]) (S := []) K.1 (hw _ (List.mem_of_getElem? (i := 87) rfl)) (hw _ (List.mem_of_getElem? (i := 88) rfl)) (hw _ (List.mem_of_getElem? (i := 85) rfl)) (hw _ (List.mem_of_getElem? (i := 89) rfl)) (by decide) (lenOf pd_4 rfl) (hb K.2.1 c3_9.1)) (kC5 l Z a0 hw _ n0 O1 b d hd hbd cs (by omega) _ rfl kc k1 dv (hN ▸ AB1) A1') (by simp) (hw _ (List.mem_of_getElem? (i := 89) rfl)) (hw _ (List.mem_of_getElem? (i := 85) rfl)) c3_9.1 rfl (by decide) (Nat.le_of_ble_eq_true rfl) (by decide) (by decide) ?_
  rintro _ h2 L2 _ ⟨i, rfl, hi, rfl, K2, O2, N2⟩
  have AB2 := AB1.keep K2 (fun q => hbd (List.mem_singleton.mp q))
  have KK2 : Keep h h2 [] := (Keep.of_ext E1).trans K2 (fun y q => by cases List.mem_singleton.mp q; exact Or.inr (Nat.le_of_eq gd.symm))
  rcases hi with ⟨rfl, hal, A2⟩ | ⟨hlt, hbig⟩
  · show Go true p l e _ s m _ below meth c Z EL1 _ _ _ (mkF m 12 _ [.int (Int32.ofNat cs.length)]) _ _ _ _
    refine Go.istore K #[.val (.ref b), .val (.int 0), .val (.int (Int32.ofNat cs.length)), .val (.ref d), .val (.int (Int32.ofNat cs.length)), .unset] c3_12 rfl ?_
    refine Go.iload K c3_14 rfl ?_
    refine Go.iloadN K c3_16 rfl ?_
    refine Go.icmp K c3_17 (fun (c17 : ((Int32.ofNat cs.length)) = ((Int32.ofNat cs.length))) => ?_) (fun (c17 : ¬ ((Int32.ofNat cs.length)) = ((Int32.ofNat cs.length))) => ?_)
    · refine Go.aloadN K c3_57 rfl rfl ?_
      exact Go.aret K hE c3_58 rfl rfl (by decide) (by decide) (A := [d]) (by simp) ⟨d, k1, 0, _, _, rfl, rfl, by first | exact Nat.le_refl _ | exact Nat.le_of_eq gd.symm, by simpa using N2, O2, KK2, A2, Or.inl ⟨rfl, rfl, rfl, hal⟩⟩
    · exact absurd rfl c17
  · show Go true p l e _ s m _ below meth c Z EL1 _ _ _ (mkF m 12 _ [.int (Int32.ofNat i)]) _ _ _ _
    refine Go.istore K #[.val (.ref b), .val (.int 0), .val (.int (Int32.ofNat cs.length)), .val (.ref d), .val (.int (Int32.ofNat i)), .unset] c3_12 rfl ?_
    refine Go.iload K c3_14 rfl ?_
    refine Go.iloadN K c3_16 rfl ?_
    refine Go.icmp K c3_17 (fun (c17 : ((Int32.ofNat i)) = ((Int32.ofNat cs.length))) => ?_) (fun (c17 : ¬ ((Int32.ofNat i)) = ((Int32.ofNat cs.length))) => ?_)
    · exact absurd ((eq_n (by omega) (by omega)).mp c17) (by omega)
    · refine Go.aloadN K c3_20 rfl rfl ?_
      refine Go.iloadN K c3_21 rfl ?_
      refine Go.iloadN K c3_22 rfl ?_
      refine Go.call K hE (Inv.static (argsL := [.ref b, .int 0, .int (Int32.ofNat cs.length)]) (S := []) K.1 (hw _ (List.mem_of_getElem? (i := 96) rfl)) (hw _ (List.mem_of_getElem? (i := 97) rfl)) (hw _ (List.mem_of_getElem? (i := 85) rfl)) (hw _ (List.mem_of_getElem? (i := 98) rfl)) (by decide) (lenOf pd_5 rfl) (hb K.2.1 c3_23.1)) (kT2 l Z a0 hw _ n0 O2 SA SH SL0 b cs hcs hlen N hN kc dv AB2) nofun (hw _ (List.mem_of_getElem? (i := 98) rfl)) (hw _ (List.mem_of_getElem? (i := 85) rfl)) c3_23.1 rfl (by decide) (Nat.le_of_ble_eq_true rfl) (by decide) (by decide) ?_
      rintro _ h3 L3 _ ⟨t, kb, rfl, rfl, gt, N3, O3, K3, A3⟩
      show Go true p l e _ s m _ below meth c Z EL1 _ _ _ (mkF m 26 _ [.ref t]) _ _ _ _
      refine Go.astore K #[.val (.ref b), .val (.int 0), .val (.int (Int32.ofNat cs.length)), .val (.ref d), .val (.int (Int32.ofNat i)), .val (.ref t)] c3_26 rfl rfl ?_
      refine Go.aload K c3_28 rfl rfl ?_
      refine Go.iload K c3_30 rfl ?_
      refine Go.call K hE (Inv.static (argsL := [.ref t, .int (Int32.ofNat i)]) (S := []) K.1 (hw _ (List.mem_of_getElem? (i := 112) rfl)) (hw _ (List.mem_of_getElem? (i := 113) rfl)) (hw _ (List.mem_of_getElem? (i := 85) rfl)) (hw _ (List.mem_of_getElem? (i := 114) rfl)) (by decide) (lenOf pd_6 rfl) (hb K.2.1 c3_32.1)) (kGet l Z a0 hw _ n0 O3 SA SH SL0 t i (cs.getD i 0) (hcs _ (mem_getD hlt)).1 (hcs _ (mem_getD hlt)).2 _ _ kb (by omega) (by rw [cl_n (by omega)]; omega) A3 (StrChars.Road.wide_lo _ cs i hlt) (StrChars.Road.wide_hi _ cs i hlt)) nofun (hw _ (List.mem_of_getElem? (i := 114) rfl)) (hw _ (List.mem_of_getElem? (i := 85) rfl)) c3_32.1 rfl (by decide) (Nat.le_of_ble_eq_true rfl) (by decide) (by decide) ?_
      rintro _ hq _ _ ⟨rfl, eh, rfl, rfl⟩
      subst hq
      show Go true p l e _ s m _ below meth c Z EL1 _ _ _ (mkF m 35 _ [.int (cs.getD i 0)]) _ _ _ _
      refine Go.sipush K c3_35 (255) (by first | rfl | decide) ?_
      refine Go.icmp K c3_38 (fun (c38 : (255 : Int32) < ((cs.getD i 0))) => ?_) (fun (c38 : ¬ (255 : Int32) < ((cs.getD i 0))) => ?_)
      · refine Go.aload K c3_54 rfl rfl ?_
        exact Go.aret K hE c3_56 rfl rfl (by decide) (by decide) (A := [t]) (by simp) ⟨t, kb, 1, _, _, rfl, rfl, by first | exact Nat.le_trans KK2.1 gt | (rw [gd]; exact Nat.le_trans KK2.1 gt), by simpa using N2.app N3, O3, Keep.nil_trans KK2 K3, A3, Or.inr ⟨rfl, rfl, rfl, _, mem_getD hlt, hbig⟩⟩
      · exact absurd hbig c38
theorem cod_val {cs : List Int32} {cd N2 : Int32} {vs : List Value} (hc : StrChars.Road.CodA cs cd N2 vs) (h1 : 1 ≤ cs.length) (h8 : cs.length ≤ 8) : nar .byte ((((Int32.ofNat cs.length - N2).toUInt32 >>> ((31 : Int32) &&& 31).toUInt32).toInt32).toInt8.toInt32) = cd := by
  rcases hc with ⟨rfl, rfl, -, -⟩ | ⟨rfl, rfl, -, -⟩ <;> generalize cs.length = n at * <;> have q : n = 1 ∨ n = 2 ∨ n = 3 ∨ n = 4 ∨ n = 5 ∨ n = 6 ∨ n = 7 ∨ n = 8 := by omega
  all_goals rcases q with rfl | rfl | rfl | rfl | rfl | rfl | rfl | rfl <;> decide
theorem cod_nar {cs : List Int32} {cd N2 : Int32} {vs : List Value} (hc : StrChars.Road.CodA cs cd N2 vs) : narrow .byte (.int cd) = .int cd ∧ fits .byte (.int cd) = true := by
  rcases hc with ⟨rfl, -⟩ | ⟨rfl, -⟩ <;> exact ⟨by decide, by decide⟩
theorem ef_8 (m : MethodId) (t : Addr) (cs : List Int32) : entryFrame m #[.ref t, .int (Int32.ofNat cs.length)] 2 = mkF m 0 #[.val (.ref t), .val (.int (Int32.ofNat cs.length))] [] := by first | (simp [entryFrame, mkF, argsToLocals, Value.category]; done) | rfl
set_option maxRecDepth 65536 in
set_option maxHeartbeats 40000000 in
theorem kCL (l : Launch) (Z : State) (a0 : Array Value) (hw : ∀ d ∈ tables_1, d.before a0 Z = true) (h : Heap) (t : Addr) (kb : ClassId) (cs : List Int32) (cd N2 : Int32) (vs : List Value) (hc : StrChars.Road.CodA cs cd N2 vs) (h1 : 1 ≤ cs.length) (h8 : cs.length ≤ 8) (At : Arv Z h t kb .byte N2 vs (.int 0)) :
    Ctr true l Z EL1 (⟨"java/lang/StringUTF16", "coderFromArrayLen", "([BI)B"⟩ : MethodName) jdk_52_method_15_code 2 (some (.byte)) [] ({ frames := 0, cells := 0, slots := 0, locals := 0 } : Room) #[.ref t, .int (Int32.ofNat cs.length)] h [] (fun v h' L A => v = some (.int cd) ∧ h' = h ∧ L = [] ∧ A = []) := by
  have hEW : EW Z a0 EL1 := el1 hw
  have hE : true = true ∧ EW Z a0 EL1 ∨ EL1 = [] := Or.inl ⟨rfl, hEW⟩
  refine Ctr.of (y := (⟨"java/lang/StringUTF16", "coderFromArrayLen", "([BI)B"⟩ : MethodName)) pn_1 (ef_8 · t cs) fun p e s m below meth c K => ?_
  refine Go.iloadN K cfa_0 rfl ?_
  refine Go.aloadN K cfa_1 rfl rfl ?_
  refine Go.alen K At cfa_2 ?_
  refine Go.isub K cfa_3 ?_
  refine Go.bipush K cfa_4 (31) (by first | rfl | decide) ?_
  refine Go.iushr K cfa_6 ?_
  refine Go.i2b K cfa_7 ?_
  exact Go.nret K hE cfa_8 (by simp) (Nat.zero_le _) (Nat.zero_le _) (A := []) nofun ⟨by rw [cod_val hc h1 h8], rfl, rfl, rfl⟩
theorem ef_9 (m : MethodId) (x b : Addr) (cs : List Int32) : entryFrame m #[.ref x, .ref b, .int 0, .int (Int32.ofNat cs.length), .null] 6 = mkF m 0 #[.val (.ref x), .val (.ref b), .val (.int 0), .val (.int (Int32.ofNat cs.length)), .val (.null), .unset] [] := by first | (simp [entryFrame, mkF, argsToLocals, Value.category]; done) | rfl
set_option maxRecDepth 65536 in
set_option maxHeartbeats 40000000 in
theorem kN4 (l : Launch) (Z : State) (a0 : Array Value) (hw : ∀ d ∈ tables_1, d.before a0 Z = true) (h : Heap) (n0 : Nat) (X : Old Z n0 h) (z : Int32) (St : Sta Z Z.heap "java/lang/String" "COMPACT_STRINGS" "Z" (.int z)) (hz : ¬ z = 0) (SA : Sta Z Z.heap "java/lang/StringUTF16" "$assertionsDisabled" "Z" (.int 1)) (SH : Sta Z Z.heap "java/lang/StringUTF16" "HI_BYTE_SHIFT" "I" (.int 0)) (SL0 : Sta Z Z.heap "java/lang/StringUTF16" "LO_BYTE_SHIFT" "I" (.int 8)) (x b : Addr) (v0 c0 : Value) (hx : n0 ≤ x) (E : Exa Z h x "java/lang/String") (V : Fld Z h x "java/lang/String" "value" "[B" v0) (Cd : Fld Z h x "java/lang/String" "coder" "B" c0) (cs : List Int32) (hcs : ∀ c ∈ cs, ¬ c < 0 ∧ ¬ (65535 : Int32) < c) (hlen : cs.length ≤ 8) (N : Int32) (hN : N = Int32.ofNat cs.length) (kc : ClassId) (dv : Value) (AB : Arv Z h b kc .char N (cs.map Value.int) dv) (h1 : 1 ≤ cs.length) :
    Ctr true l Z EL1 (⟨"java/lang/String", "<init>", "([CIILjava/lang/Void;)V"⟩ : MethodName) jdk_42_method_149_code 6 none [] ({ frames := 4, cells := 2, slots := 24, locals := 100 } : Room) #[.ref x, .ref b, .int 0, .int (Int32.ofNat cs.length), .null] h [x] (fun v h' L A => ∃ (t : Addr) (kb : ClassId) (cd N2 : Int32) (vs : List Value), v = none ∧ A = [] ∧ Fr n0 L ∧ Old Z n0 h' ∧ Keep h h' [x] ∧ StrW Z h' x t kb cd N2 vs cs) := by
  have hEW : EW Z a0 EL1 := el1 hw
  have hE : true = true ∧ EW Z a0 EL1 ∨ EL1 = [] := Or.inl ⟨rfl, hEW⟩
  refine Ctr.of (y := (⟨"java/lang/String", "<init>", "([CIILjava/lang/Void;)V"⟩ : MethodName)) pn_2 (ef_9 · x b cs) fun p e s m below meth c K => ?_
  refine Go.aloadN K n4_0 rfl rfl ?_
  refine Go.initO K (hw _ (List.mem_of_getElem? (i := 51) rfl)) (hw _ (List.mem_of_getElem? (i := 52) rfl)) (hw _ (List.mem_of_getElem? (i := 53) rfl)) n4_1 rfl (by decide) (Nat.le_of_ble_eq_true rfl) ?_
  refine Go.iloadN K n4_4 rfl ?_
  refine Go.ifc K n4_5 (fun (c5 : ¬ ((Int32.ofNat cs.length)) = (0 : Int32)) => ?_) (fun (c5 : ((Int32.ofNat cs.length)) = (0 : Int32)) => ?_)
  · refine Go.getS K (hw _ (List.mem_of_getElem? (i := 25) rfl)) Via.refl (St.ext X.2) n4_27 ?_
    refine Go.ifc K n4_30 (fun (c30 : z = (0 : Int32)) => ?_) (fun (c30 : ¬ z = (0 : Int32)) => ?_)
    · exact absurd c30 hz
    · refine Go.aloadN K n4_33 rfl rfl ?_
      refine Go.iloadN K n4_34 rfl ?_
      refine Go.iloadN K n4_35 rfl ?_
      refine Go.call K hE (Inv.static (argsL := [.ref b, .int 0, .int (Int32.ofNat cs.length)]) (S := []) K.1 (hw _ (List.mem_of_getElem? (i := 83) rfl)) (hw _ (List.mem_of_getElem? (i := 84) rfl)) (hw _ (List.mem_of_getElem? (i := 85) rfl)) (hw _ (List.mem_of_getElem? (i := 86) rfl)) (by decide) (lenOf pd_5 rfl) (hb K.2.1 n4_36.1)) (kC3 l Z a0 hw _ n0 X SA SH SL0 b cs hcs hlen N hN kc dv AB) nofun (hw _ (List.mem_of_getElem? (i := 86) rfl)) (hw _ (List.mem_of_getElem? (i := 85) rfl)) n4_36.1 rfl (by decide) (Nat.le_of_ble_eq_true rfl) (by decide) (by decide) ?_
      rintro _ h2 L2 _ ⟨t, kb, cd, N2, vs, rfl, rfl, gt, NN2, O2, K2, A2, hcod⟩
      show Go true p l e _ s m _ below meth c Z EL1 _ _ _ (mkF m 39 _ [.ref t]) _ _ _ _
      have hxt : x < t := Nat.lt_of_lt_of_le E.lt gt
      have F1_0 := V.keep K2 nin0
      have F1_1 := Cd.keep K2 nin0
      have X1_2 := E.keep K2
      have O1 := X.keep K2 (fun y q => by simp only [List.mem_cons, List.not_mem_nil, or_false] at q)
      refine Go.astore K #[.val (.ref x), .val (.ref b), .val (.int 0), .val (.int (Int32.ofNat cs.length)), .val (.null), .val (.ref t)] n4_39 rfl rfl ?_
      refine Go.aloadN K n4_41 rfl rfl ?_
      refine Go.aload K n4_42 rfl rfl ?_
      refine Go.iloadN K n4_44 rfl ?_
      refine Go.call K hE (Inv.static (argsL := [.ref t, .int (Int32.ofNat cs.length)]) (S := [.ref x]) K.1 (hw _ (List.mem_of_getElem? (i := 90) rfl)) (hw _ (List.mem_of_getElem? (i := 91) rfl)) (hw _ (List.mem_of_getElem? (i := 85) rfl)) (hw _ (List.mem_of_getElem? (i := 92) rfl)) (by decide) (lenOf pd_7 rfl) (hb K.2.1 n4_45.1)) (kCL l Z a0 hw _ t kb cs cd N2 vs hcod h1 hlen A2) nofun (hw _ (List.mem_of_getElem? (i := 92) rfl)) (hw _ (List.mem_of_getElem? (i := 85) rfl)) n4_45.1 rfl (by decide) (Nat.le_of_ble_eq_true rfl) (by decide) (by decide) ?_
      rintro _ hq _ _ ⟨rfl, eh, rfl, rfl⟩
      subst hq
      show Go true p l e _ s m _ below meth c Z EL1 _ _ _ (mkF m 48 _ [.int cd, .ref x]) _ _ _ _
      refine Go.putF K (hw _ (List.mem_of_getElem? (i := 26) rfl)) Via.refl F1_1 X1_2 (Or.inr ⟨(hw _ (List.mem_of_getElem? (i := 12) rfl)), rfl, rfl⟩) (hw _ (List.mem_of_getElem? (i := 9) rfl)) (ty := .byte) (by decide) (cod_nar hcod).1 (cod_nar hcod).2 (Sf.mem (by simp)) n4_48 (fun h2 W2 => ?_)
      have F3_0 := F1_0.other W2 (Or.inr (slot_ne (Or.inr (hw _ (List.mem_of_getElem? (i := 11) rfl))) (Or.inr (hw _ (List.mem_of_getElem? (i := 12) rfl))) (by decide) (t := .array (.byte)) (t' := .byte) (by decide) (by decide)))
      have F3_1 := F1_1.same W2
      have X3_2 := X1_2.wr W2
      have A3_3 := A2.other W2 (Nat.ne_of_gt hxt)
      have O3 := O2.wr W2 hx
      refine Go.aloadN K n4_51 rfl rfl ?_
      refine Go.aload K n4_52 rfl rfl ?_
      refine Go.putF K (hw _ (List.mem_of_getElem? (i := 27) rfl)) Via.refl F3_0 X3_2 (Or.inr ⟨(hw _ (List.mem_of_getElem? (i := 11) rfl)), rfl, rfl⟩) (hw _ (List.mem_of_getElem? (i := 9) rfl)) (ty := .array (.byte)) (by decide) rfl rfl (Sf.mem (by simp)) n4_54 (fun h4 W4 => ?_)
      have F5_0 := F3_0.same W4
      have F5_1 := F3_1.other W4 (Or.inr (slot_ne (Or.inr (hw _ (List.mem_of_getElem? (i := 12) rfl))) (Or.inr (hw _ (List.mem_of_getElem? (i := 11) rfl))) (by decide) (t := .byte) (t' := .array (.byte)) (by decide) (by decide)))
      have X5_2 := X3_2.wr W4
      have A5_3 := A3_3.other W4 (Nat.ne_of_gt hxt)
      have O5 := O3.wr W4 hx
      exact Go.vret K hE n4_57 (by decide) (by decide) (A := []) nofun rfl ⟨t, kb, cd, N2, vs, rfl, rfl, by simpa using (Fr.s (Fr.s (((Fr.nil n0).app NN2).app (Fr.nil n0)) hx) hx), O5, (((Keep.refl h [x]).trans K2 (fun _ q => nomatch q)).wr W2 (Or.inl (List.mem_cons_self ..))).wr W4 (Or.inl (List.mem_cons_self ..)), X5_2, F5_0, F5_1, A5_3, hcod, hcs, by omega⟩
  · exact absurd ((eq_n (j := 0) (by omega) (by omega)).mp c5) (by omega)
theorem ef_10 (m : MethodId) (x b : Addr) : entryFrame m #[.ref x, .ref b] 2 = mkF m 0 #[.val (.ref x), .val (.ref b)] [] := by first | (simp [entryFrame, mkF, argsToLocals, Value.category]; done) | rfl
set_option maxRecDepth 65536 in
set_option maxHeartbeats 40000000 in
theorem kN1 (l : Launch) (Z : State) (a0 : Array Value) (hw : ∀ d ∈ tables_1, d.before a0 Z = true) (h : Heap) (n0 : Nat) (X : Old Z n0 h) (z : Int32) (St : Sta Z Z.heap "java/lang/String" "COMPACT_STRINGS" "Z" (.int z)) (hz : ¬ z = 0) (SA : Sta Z Z.heap "java/lang/StringUTF16" "$assertionsDisabled" "Z" (.int 1)) (SH : Sta Z Z.heap "java/lang/StringUTF16" "HI_BYTE_SHIFT" "I" (.int 0)) (SL0 : Sta Z Z.heap "java/lang/StringUTF16" "LO_BYTE_SHIFT" "I" (.int 8)) (x b : Addr) (v0 c0 : Value) (hx : n0 ≤ x) (E : Exa Z h x "java/lang/String") (V : Fld Z h x "java/lang/String" "value" "[B" v0) (Cd : Fld Z h x "java/lang/String" "coder" "B" c0) (cs : List Int32) (hcs : ∀ c ∈ cs, ¬ c < 0 ∧ ¬ (65535 : Int32) < c) (hlen : cs.length ≤ 8) (N : Int32) (hN : N = Int32.ofNat cs.length) (kc : ClassId) (dv : Value) (AB : Arv Z h b kc .char N (cs.map Value.int) dv) (h1 : 1 ≤ cs.length) :
    Ctr true l Z EL1 (⟨"java/lang/String", "<init>", "([C)V"⟩ : MethodName) jdk_42_method_3_code 2 none [] ({ frames := 5, cells := 2, slots := 24, locals := 130 } : Room) #[.ref x, .ref b] h [x] (fun v h' L A => ∃ (t : Addr) (kb : ClassId) (cd N2 : Int32) (vs : List Value), v = none ∧ A = [] ∧ Fr n0 L ∧ Old Z n0 h' ∧ Keep h h' [x] ∧ StrW Z h' x t kb cd N2 vs cs) := by
  have hEW : EW Z a0 EL1 := el1 hw
  have hE : true = true ∧ EW Z a0 EL1 ∨ EL1 = [] := Or.inl ⟨rfl, hEW⟩
  refine Ctr.of (y := (⟨"java/lang/String", "<init>", "([C)V"⟩ : MethodName)) pn_2 (ef_10 · x b) fun p e s m below meth c K => ?_
  refine Go.aloadN K n1_0 rfl rfl ?_
  refine Go.aloadN K n1_1 rfl rfl ?_
  refine Go.iconst K n1_2 (0) (by first | rfl | decide) ?_
  refine Go.aloadN K n1_3 rfl rfl ?_
  refine Go.alen K (hN ▸ AB) n1_4 ?_
  refine Go.aconstNull K n1_5 ?_
  refine Go.call K hE (Inv.special (argsL := [.ref b, .int 0, .int (Int32.ofNat cs.length), .null]) (S := []) K.1 rfl (hw _ (List.mem_of_getElem? (i := 47) rfl)) (hw _ (List.mem_of_getElem? (i := 48) rfl)) (hw _ (List.mem_of_getElem? (i := 50) rfl)) (by decide) (lenOf pd_8 rfl) (hb K.2.1 n1_6.1)) (kN4 l Z a0 hw _ n0 X z St hz SA SH SL0 x b _ _ hx E V Cd cs hcs hlen N hN kc dv AB h1) (by simp) (hw _ (List.mem_of_getElem? (i := 50) rfl)) (hw _ (List.mem_of_getElem? (i := 8) rfl)) n1_6.1 rfl (by decide) (Nat.le_of_ble_eq_true rfl) (by decide) (by decide) ?_
  rintro _ h2 L2 _ ⟨t, kb, cd, N2, vs, rfl, rfl, q1, q2, q3, q4⟩
  show Go true p l e _ s m _ below meth c Z EL1 _ _ _ (mkF m 9 _ []) _ _ _ _
  exact Go.vret K hE n1_9 (by decide) (by decide) (A := []) nofun rfl ⟨t, kb, cd, N2, vs, rfl, rfl, by simpa using q1, q2, q3, q4⟩
theorem efP (m : MethodId) (i n : Nat) (fm : Value) (rf : fm.isRef = true) : entryFrame m #[.int (Int32.ofNat i), .int (Int32.ofNat n), fm] 3 = mkF m 0 #[.val (.int (Int32.ofNat i)), .val (.int (Int32.ofNat n)), .val fm] [] := by
  rcases ref_cases rf with rfl | ⟨a, rfl⟩ <;> first | (simp [entryFrame, mkF, argsToLocals, Value.category]; done) | rfl

set_option maxRecDepth 65536 in
set_option maxHeartbeats 40000000 in
theorem kPCI (l : Launch) (Z : State) (a0 : Array Value) (hw : ∀ d ∈ tables_1, d.before a0 Z = true) (h : Heap) (fm : Value) (rf : fm.isRef = true) (i n : Nat) (hn : n ≤ 4000) (hin : i < n) :
    Ctr true l Z EL1 (⟨"jdk/internal/util/Preconditions", "checkIndex", "(IILjava/util/function/BiFunction;)I"⟩ : MethodName) jdk_41_method_11_code 3 (some (.int)) [] ({ frames := 0, cells := 0, slots := 0, locals := 0 } : Room) #[.int (Int32.ofNat i), .int (Int32.ofNat n), fm] h [] (fun v h' L A => v = some (.int (Int32.ofNat i)) ∧ h' = h ∧ L = [] ∧ A = []) := by
  have hEW : EW Z a0 EL1 := el1 hw
  have hE : true = true ∧ EW Z a0 EL1 ∨ EL1 = [] := Or.inl ⟨rfl, hEW⟩
  refine Ctr.of (y := (⟨"jdk/internal/util/Preconditions", "checkIndex", "(IILjava/util/function/BiFunction;)I"⟩ : MethodName)) pn_3 (efP · i n fm rf) fun p e s m below meth c K => ?_
  refine Go.iloadN K pci_0 rfl ?_
  refine Go.ifc K pci_1 (fun (c1 : ((Int32.ofNat i)) < (0 : Int32)) => ?_) (fun (c1 : ¬ ((Int32.ofNat i)) < (0 : Int32)) => ?_)
  · exact absurd c1 (nn_n (by omega))
  · refine Go.iloadN K pci_4 rfl ?_
    refine Go.iloadN K pci_5 rfl ?_
    refine Go.icmp K pci_6 (fun (c6 : ((Int32.ofNat i)) < ((Int32.ofNat n))) => ?_) (fun (c6 : ¬ ((Int32.ofNat i)) < ((Int32.ofNat n))) => ?_)
    · refine Go.iloadN K pci_16 rfl ?_
      exact Go.iret K hE pci_17 (Nat.zero_le _) (Nat.zero_le _) (A := []) nofun ⟨rfl, rfl, rfl, rfl⟩
    · exact absurd ((lt_n (by omega) (by omega)).mpr hin) c6
theorem ef_12 (m : MethodId) (i n : Nat) : entryFrame m #[.int (Int32.ofNat i), .int (Int32.ofNat n)] 2 = mkF m 0 #[.val (.int (Int32.ofNat i)), .val (.int (Int32.ofNat n))] [] := by first | (simp [entryFrame, mkF, argsToLocals, Value.category]; done) | rfl
set_option maxRecDepth 65536 in
set_option maxHeartbeats 40000000 in
theorem kSCI (l : Launch) (Z : State) (a0 : Array Value) (hw : ∀ d ∈ tables_1, d.before a0 Z = true) (h : Heap) (n0 : Nat) (X : Old Z n0 h) (fm : Value) (SF : Sta Z Z.heap "jdk/internal/util/Preconditions" "SIOOBE_FORMATTER" "Ljava/util/function/BiFunction;" fm) (rf : fm.isRef = true) (i n : Nat) (hn : n ≤ 4000) (hin : i < n) :
    Ctr true l Z EL1 (⟨"java/lang/String", "checkIndex", "(II)V"⟩ : MethodName) jdk_42_method_155_code 2 none [] ({ frames := 1, cells := 0, slots := 0, locals := 20 } : Room) #[.int (Int32.ofNat i), .int (Int32.ofNat n)] h [] (fun v h' L A => v = none ∧ h' = h ∧ L = [] ∧ A = []) := by
  have hEW : EW Z a0 EL1 := el1 hw
  have hE : true = true ∧ EW Z a0 EL1 ∨ EL1 = [] := Or.inl ⟨rfl, hEW⟩
  refine Ctr.of (y := (⟨"java/lang/String", "checkIndex", "(II)V"⟩ : MethodName)) pn_2 (ef_12 · i n) fun p e s m below meth c K => ?_
  refine Go.iloadN K sci_0 rfl ?_
  refine Go.iloadN K sci_1 rfl ?_
  refine Go.getS K (hw _ (List.mem_of_getElem? (i := 35) rfl)) Via.refl (SF.ext X.2) sci_2 ?_
  refine Go.call K hE (Inv.static (argsL := [.int (Int32.ofNat i), .int (Int32.ofNat n), fm]) (S := []) K.1 (hw _ (List.mem_of_getElem? (i := 37) rfl)) (hw _ (List.mem_of_getElem? (i := 38) rfl)) (hw _ (List.mem_of_getElem? (i := 36) rfl)) (hw _ (List.mem_of_getElem? (i := 39) rfl)) (by decide) (lenOf pd_9 rfl) (hb K.2.1 sci_5.1)) (kPCI l Z a0 hw _ fm rf i n hn hin) nofun (hw _ (List.mem_of_getElem? (i := 39) rfl)) (hw _ (List.mem_of_getElem? (i := 36) rfl)) sci_5.1 rfl (by decide) (Nat.le_of_ble_eq_true rfl) (by decide) (by decide) ?_
  rintro _ hq _ _ ⟨rfl, eh, rfl, rfl⟩
  subst hq
  show Go true p l e _ s m _ below meth c Z EL1 _ _ _ (mkF m 8 _ [.int (Int32.ofNat i)]) _ _ _ _
  refine Go.pop K sci_8 rfl ?_
  exact Go.vret K hE sci_9 (by decide) (by decide) (A := []) nofun rfl ⟨rfl, rfl, rfl, rfl⟩
theorem shr1_n {n : Nat} (hn : n ≤ 4000) : Int32.ofNat (2 * n) >>> ((1 : Int32) &&& 31) = Int32.ofNat n := by
  apply Int32.toInt_inj.mp
  rw [c_ishr _ 1 1 (by decide), toInt_n (by omega), toInt_n (by omega)]
  omega
theorem ef_13 (m : MethodId) (t : Addr) : entryFrame m #[.ref t] 1 = mkF m 0 #[.val (.ref t)] [] := by first | (simp [entryFrame, mkF, argsToLocals, Value.category]; done) | rfl
set_option maxRecDepth 65536 in
set_option maxHeartbeats 40000000 in
theorem kUL (l : Launch) (Z : State) (a0 : Array Value) (hw : ∀ d ∈ tables_1, d.before a0 Z = true) (h : Heap) (t : Addr) (kb : ClassId) (n : Nat) (hn : n ≤ 4000) (vs : List Value) (At : Arv Z h t kb .byte (Int32.ofNat (2 * n)) vs (.int 0)) :
    Ctr true l Z EL1 (⟨"java/lang/StringUTF16", "length", "([B)I"⟩ : MethodName) jdk_52_method_6_code 1 (some (.int)) [] ({ frames := 0, cells := 0, slots := 0, locals := 0 } : Room) #[.ref t] h [] (fun v h' L A => v = some (.int (Int32.ofNat n)) ∧ h' = h ∧ L = [] ∧ A = []) := by
  have hEW : EW Z a0 EL1 := el1 hw
  have hE : true = true ∧ EW Z a0 EL1 ∨ EL1 = [] := Or.inl ⟨rfl, hEW⟩
  refine Ctr.of (y := (⟨"java/lang/StringUTF16", "length", "([B)I"⟩ : MethodName)) pn_1 (ef_13 · t) fun p e s m below meth c K => ?_
  refine Go.aloadN K ule_0 rfl rfl ?_
  refine Go.alen K At ule_1 ?_
  refine Go.iconst K ule_2 (1) (by first | rfl | decide) ?_
  refine Go.ishr K ule_3 ?_
  exact Go.iret K hE ule_4 (Nat.zero_le _) (Nat.zero_le _) (A := []) nofun ⟨by rw [shr1_n hn], rfl, rfl, rfl⟩
theorem ef_14 (m : MethodId) (i : Nat) (t : Addr) : entryFrame m #[.int (Int32.ofNat i), .ref t] 2 = mkF m 0 #[.val (.int (Int32.ofNat i)), .val (.ref t)] [] := by first | (simp [entryFrame, mkF, argsToLocals, Value.category]; done) | rfl
set_option maxRecDepth 65536 in
set_option maxHeartbeats 40000000 in
theorem kUCI (l : Launch) (Z : State) (a0 : Array Value) (hw : ∀ d ∈ tables_1, d.before a0 Z = true) (h : Heap) (n0 : Nat) (X : Old Z n0 h) (fm : Value) (SF : Sta Z Z.heap "jdk/internal/util/Preconditions" "SIOOBE_FORMATTER" "Ljava/util/function/BiFunction;" fm) (rf : fm.isRef = true) (t : Addr) (kb : ClassId) (n : Nat) (hn : n ≤ 4000) (vs : List Value) (At : Arv Z h t kb .byte (Int32.ofNat (2 * n)) vs (.int 0)) (i : Nat) (hin : i < n) :
    Ctr true l Z EL1 (⟨"java/lang/StringUTF16", "checkIndex", "(I[B)V"⟩ : MethodName) jdk_52_method_91_code 2 none [] ({ frames := 2, cells := 0, slots := 0, locals := 40 } : Room) #[.int (Int32.ofNat i), .ref t] h [] (fun v h' L A => v = none ∧ h' = h ∧ L = [] ∧ A = []) := by
  have hEW : EW Z a0 EL1 := el1 hw
  have hE : true = true ∧ EW Z a0 EL1 ∨ EL1 = [] := Or.inl ⟨rfl, hEW⟩
  refine Ctr.of (y := (⟨"java/lang/StringUTF16", "checkIndex", "(I[B)V"⟩ : MethodName)) pn_1 (ef_14 · i t) fun p e s m below meth c K => ?_
  refine Go.iloadN K uci_0 rfl ?_
  refine Go.aloadN K uci_1 rfl rfl ?_
  refine Go.call K hE (Inv.static (argsL := [.ref t]) (S := [.int (Int32.ofNat i)]) K.1 (hw _ (List.mem_of_getElem? (i := 121) rfl)) (hw _ (List.mem_of_getElem? (i := 122) rfl)) (hw _ (List.mem_of_getElem? (i := 85) rfl)) (hw _ (List.mem_of_getElem? (i := 123) rfl)) (by decide) (lenOf pd_10 rfl) (hb K.2.1 uci_2.1)) (kUL l Z a0 hw _ t kb n hn vs At) nofun (hw _ (List.mem_of_getElem? (i := 123) rfl)) (hw _ (List.mem_of_getElem? (i := 85) rfl)) uci_2.1 rfl (by decide) (Nat.le_of_ble_eq_true rfl) (by decide) (by decide) ?_
  rintro _ hq _ _ ⟨rfl, eh, rfl, rfl⟩
  subst hq
  show Go true p l e _ s m _ below meth c Z EL1 _ _ _ (mkF m 5 _ [.int (Int32.ofNat n), .int (Int32.ofNat i)]) _ _ _ _
  refine Go.call K hE (Inv.static (argsL := [.int (Int32.ofNat i), .int (Int32.ofNat n)]) (S := []) K.1 (hw _ (List.mem_of_getElem? (i := 124) rfl)) (hw _ (List.mem_of_getElem? (i := 33) rfl)) (hw _ (List.mem_of_getElem? (i := 8) rfl)) (hw _ (List.mem_of_getElem? (i := 34) rfl)) (by decide) (lenOf pd_11 rfl) (hb K.2.1 uci_5.1)) (kSCI l Z a0 hw _ n0 X fm SF rf i n hn hin) nofun (hw _ (List.mem_of_getElem? (i := 34) rfl)) (hw _ (List.mem_of_getElem? (i := 8) rfl)) uci_5.1 rfl (by decide) (Nat.le_of_ble_eq_true rfl) (by decide) (by decide) ?_
  rintro _ hq _ _ ⟨rfl, eh, rfl, rfl⟩
  subst hq
  show Go true p l e _ s m _ below meth c Z EL1 _ _ _ (mkF m 8 _ []) _ _ _ _
  exact Go.vret K hE uci_8 (by decide) (by decide) (A := []) nofun rfl ⟨rfl, rfl, rfl, rfl⟩
theorem ef_15 (m : MethodId) (t : Addr) (i : Nat) : entryFrame m #[.ref t, .int (Int32.ofNat i)] 2 = mkF m 0 #[.val (.ref t), .val (.int (Int32.ofNat i))] [] := by first | (simp [entryFrame, mkF, argsToLocals, Value.category]; done) | rfl
set_option maxRecDepth 65536 in
set_option maxHeartbeats 40000000 in
theorem kUCA (l : Launch) (Z : State) (a0 : Array Value) (hw : ∀ d ∈ tables_1, d.before a0 Z = true) (h : Heap) (n0 : Nat) (X : Old Z n0 h) (fm : Value) (SF : Sta Z Z.heap "jdk/internal/util/Preconditions" "SIOOBE_FORMATTER" "Ljava/util/function/BiFunction;" fm) (rf : fm.isRef = true) (SA : Sta Z Z.heap "java/lang/StringUTF16" "$assertionsDisabled" "Z" (.int 1)) (SH : Sta Z Z.heap "java/lang/StringUTF16" "HI_BYTE_SHIFT" "I" (.int 0)) (SL0 : Sta Z Z.heap "java/lang/StringUTF16" "LO_BYTE_SHIFT" "I" (.int 8)) (t : Addr) (kb : ClassId) (cs : List Int32) (hcs : ∀ c ∈ cs, ¬ c < 0 ∧ ¬ (65535 : Int32) < c) (hn : cs.length ≤ 4000) (At : Arv Z h t kb .byte (Int32.ofNat (2 * cs.length)) (StrChars.Road.wideBytes cs) (.int 0)) (i : Nat) (hin : i < cs.length) :
    Ctr true l Z EL1 (⟨"java/lang/StringUTF16", "charAt", "([BI)C"⟩ : MethodName) jdk_52_method_83_code 2 (some (.char)) [] ({ frames := 3, cells := 0, slots := 0, locals := 60 } : Room) #[.ref t, .int (Int32.ofNat i)] h [] (fun v h' L A => v = some (.int (cs.getD i 0)) ∧ h' = h ∧ L = [] ∧ A = []) := by
  have hEW : EW Z a0 EL1 := el1 hw
  have hE : true = true ∧ EW Z a0 EL1 ∨ EL1 = [] := Or.inl ⟨rfl, hEW⟩
  refine Ctr.of (y := (⟨"java/lang/StringUTF16", "charAt", "([BI)C"⟩ : MethodName)) pn_1 (ef_15 · t i) fun p e s m below meth c K => ?_
  refine Go.iloadN K uca_0 rfl ?_
  refine Go.aloadN K uca_1 rfl rfl ?_
  refine Go.call K hE (Inv.static (argsL := [.int (Int32.ofNat i), .ref t]) (S := []) K.1 (hw _ (List.mem_of_getElem? (i := 118) rfl)) (hw _ (List.mem_of_getElem? (i := 119) rfl)) (hw _ (List.mem_of_getElem? (i := 85) rfl)) (hw _ (List.mem_of_getElem? (i := 120) rfl)) (by decide) (lenOf pd_12 rfl) (hb K.2.1 uca_2.1)) (kUCI l Z a0 hw _ n0 X fm SF rf t kb cs.length hn (StrChars.Road.wideBytes cs) At i hin) nofun (hw _ (List.mem_of_getElem? (i := 120) rfl)) (hw _ (List.mem_of_getElem? (i := 85) rfl)) uca_2.1 rfl (by decide) (Nat.le_of_ble_eq_true rfl) (by decide) (by decide) ?_
  rintro _ hq _ _ ⟨rfl, eh, rfl, rfl⟩
  subst hq
  show Go true p l e _ s m _ below meth c Z EL1 _ _ _ (mkF m 5 _ []) _ _ _ _
  refine Go.aloadN K uca_5 rfl rfl ?_
  refine Go.iloadN K uca_6 rfl ?_
  refine Go.call K hE (Inv.static (argsL := [.ref t, .int (Int32.ofNat i)]) (S := []) K.1 (hw _ (List.mem_of_getElem? (i := 112) rfl)) (hw _ (List.mem_of_getElem? (i := 113) rfl)) (hw _ (List.mem_of_getElem? (i := 85) rfl)) (hw _ (List.mem_of_getElem? (i := 114) rfl)) (by decide) (lenOf pd_6 rfl) (hb K.2.1 uca_7.1)) (kGet l Z a0 hw _ n0 X SA SH SL0 t i (cs.getD i 0) (hcs _ (mem_getD hin)).1 (hcs _ (mem_getD hin)).2 _ _ kb (by omega) (by rw [cl_n (by omega)]; omega) At (StrChars.Road.wide_lo _ cs i hin) (StrChars.Road.wide_hi _ cs i hin)) nofun (hw _ (List.mem_of_getElem? (i := 114) rfl)) (hw _ (List.mem_of_getElem? (i := 85) rfl)) uca_7.1 rfl (by decide) (Nat.le_of_ble_eq_true rfl) (by decide) (by decide) ?_
  rintro _ hq _ _ ⟨rfl, eh, rfl, rfl⟩
  subst hq
  show Go true p l e _ s m _ below meth c Z EL1 _ _ _ (mkF m 10 _ [.int (cs.getD i 0)]) _ _ _ _
  exact Go.nret K hE uca_10 (by simp) (by decide) (by decide) (A := []) nofun ⟨by rw [nar_ch (hcs _ (mem_getD hin)).1 (hcs _ (mem_getD hin)).2], rfl, rfl, rfl⟩
theorem ef_16 (m : MethodId) (x : Addr) : entryFrame m #[.ref x] 1 = mkF m 0 #[.val (.ref x)] [] := by first | (simp [entryFrame, mkF, argsToLocals, Value.category]; done) | rfl
set_option maxRecDepth 65536 in
set_option maxHeartbeats 40000000 in
theorem kIsL (l : Launch) (Z : State) (a0 : Array Value) (hw : ∀ d ∈ tables_1, d.before a0 Z = true) (h : Heap) (n0 : Nat) (X : Old Z n0 h) (z : Int32) (St : Sta Z Z.heap "java/lang/String" "COMPACT_STRINGS" "Z" (.int z)) (hz : ¬ z = 0) (x : Addr) (F : Fld Z h x "java/lang/String" "coder" "B" (.int 1)) :
    Ctr true l Z EL1 (⟨"java/lang/String", "isLatin1", "()Z"⟩ : MethodName) jdk_42_method_154_code 1 (some (.boolean)) [] ({ frames := 0, cells := 0, slots := 0, locals := 0 } : Room) #[.ref x] h [] (fun v h' L A => v = some (.int 0) ∧ h' = h ∧ L = [] ∧ A = []) := by
  have hEW : EW Z a0 EL1 := el1 hw
  have hE : true = true ∧ EW Z a0 EL1 ∨ EL1 = [] := Or.inl ⟨rfl, hEW⟩
  refine Ctr.of (y := (⟨"java/lang/String", "isLatin1", "()Z"⟩ : MethodName)) pn_2 (ef_16 · x) fun p e s m below meth c K => ?_
  refine Go.getS K (hw _ (List.mem_of_getElem? (i := 25) rfl)) Via.refl (St.ext X.2) isl_0 ?_
  refine Go.ifc K isl_3 (fun (c3 : z = (0 : Int32)) => ?_) (fun (c3 : ¬ z = (0 : Int32)) => ?_)
  · exact absurd c3 hz
  · refine Go.aloadN K isl_6 rfl rfl ?_
    refine Go.getF K (hw _ (List.mem_of_getElem? (i := 26) rfl)) Via.refl F isl_7 ?_
    refine Go.ifc K isl_10 (fun (c10 : ¬ (1 : Int32) = (0 : Int32)) => ?_) (fun (c10 : (1 : Int32) = (0 : Int32)) => ?_)
    · refine Go.iconst K isl_17 (0) (by first | rfl | decide) ?_
      exact Go.nret K hE isl_18 (Or.inl rfl) (Nat.zero_le _) (Nat.zero_le _) (A := []) nofun ⟨rfl, rfl, rfl, rfl⟩
    · exact absurd c10 (by decide)
theorem ef_17 (m : MethodId) (x : Addr) (i : Nat) : entryFrame m #[.ref x, .int (Int32.ofNat i)] 2 = mkF m 0 #[.val (.ref x), .val (.int (Int32.ofNat i))] [] := by first | (simp [entryFrame, mkF, argsToLocals, Value.category]; done) | rfl
set_option maxRecDepth 65536 in
set_option maxHeartbeats 40000000 in
theorem kChU (l : Launch) (Z : State) (a0 : Array Value) (hw : ∀ d ∈ tables_1, d.before a0 Z = true) (h : Heap) (n0 : Nat) (X : Old Z n0 h) (fm : Value) (SF : Sta Z Z.heap "jdk/internal/util/Preconditions" "SIOOBE_FORMATTER" "Ljava/util/function/BiFunction;" fm) (rf : fm.isRef = true) (z : Int32) (St : Sta Z Z.heap "java/lang/String" "COMPACT_STRINGS" "Z" (.int z)) (hz : ¬ z = 0) (x : Addr) (E : Exa Z h x "java/lang/String") (SA : Sta Z Z.heap "java/lang/StringUTF16" "$assertionsDisabled" "Z" (.int 1)) (SH : Sta Z Z.heap "java/lang/StringUTF16" "HI_BYTE_SHIFT" "I" (.int 0)) (SL0 : Sta Z Z.heap "java/lang/StringUTF16" "LO_BYTE_SHIFT" "I" (.int 8)) (t : Addr) (kb : ClassId) (cs : List Int32) (hcs : ∀ c ∈ cs, ¬ c < 0 ∧ ¬ (65535 : Int32) < c) (hn : cs.length ≤ 4000) (At : Arv Z h t kb .byte (Int32.ofNat (2 * cs.length)) (StrChars.Road.wideBytes cs) (.int 0)) (i : Nat) (hin : i < cs.length) (Fc : Fld Z h x "java/lang/String" "coder" "B" (.int 1)) (Fv : Fld Z h x "java/lang/String" "value" "[B" (.ref t)) :
    Ctr true l Z EL1 (⟨"java/lang/String", "charAt", "(I)C"⟩ : MethodName) jdk_42_method_56_code 2 (some (.char)) [] ({ frames := 4, cells := 0, slots := 0, locals := 80 } : Room) #[.ref x, .int (Int32.ofNat i)] h [] (fun v h' L A => v = some (.int (cs.getD i 0)) ∧ h' = h ∧ L = [] ∧ A = []) := by
  have hEW : EW Z a0 EL1 := el1 hw
  have hE : true = true ∧ EW Z a0 EL1 ∨ EL1 = [] := Or.inl ⟨rfl, hEW⟩
  refine Ctr.of (y := (⟨"java/lang/String", "charAt", "(I)C"⟩ : MethodName)) pn_2 (ef_17 · x i) fun p e s m below meth c K => ?_
  refine Go.aloadN K cha_0 rfl rfl ?_
  refine Go.call K hE (Inv.virtual (argsL := []) (S := []) K.1 (hw _ (List.mem_of_getElem? (i := 20) rfl)) (hw _ (List.mem_of_getElem? (i := 21) rfl)) (Inv.nf (hw _ (List.mem_of_getElem? (i := 23) rfl))) (hw _ (List.mem_of_getElem? (i := 23) rfl)) (hw _ (List.mem_of_getElem? (i := 22) rfl)) (by decide) E (lenOf pd_13 rfl) (hb K.2.1 cha_1.1)) (kIsL l Z a0 hw _ n0 X z St hz x Fc) nofun (hw _ (List.mem_of_getElem? (i := 24) rfl)) (hw _ (List.mem_of_getElem? (i := 8) rfl)) cha_1.1 rfl (by decide) (Nat.le_of_ble_eq_true rfl) (by decide) (by decide) ?_
  rintro _ hq _ _ ⟨rfl, eh, rfl, rfl⟩
  subst hq
  show Go true p l e _ s m _ below meth c Z EL1 _ _ _ (mkF m 4 _ [.int 0]) _ _ _ _
  refine Go.ifc K cha_4 (fun (c4 : (0 : Int32) = (0 : Int32)) => ?_) (fun (c4 : ¬ (0 : Int32) = (0 : Int32)) => ?_)
  · refine Go.aloadN K cha_16 rfl rfl ?_
    refine Go.getF K (hw _ (List.mem_of_getElem? (i := 27) rfl)) Via.refl Fv cha_17 ?_
    refine Go.iloadN K cha_20 rfl ?_
    refine Go.call K hE (Inv.static (argsL := [.ref t, .int (Int32.ofNat i)]) (S := []) K.1 (hw _ (List.mem_of_getElem? (i := 115) rfl)) (hw _ (List.mem_of_getElem? (i := 116) rfl)) (hw _ (List.mem_of_getElem? (i := 85) rfl)) (hw _ (List.mem_of_getElem? (i := 117) rfl)) (by decide) (lenOf pd_6 rfl) (hb K.2.1 cha_21.1)) (kUCA l Z a0 hw _ n0 X fm SF rf SA SH SL0 t kb cs hcs hn At i hin) nofun (hw _ (List.mem_of_getElem? (i := 117) rfl)) (hw _ (List.mem_of_getElem? (i := 85) rfl)) cha_21.1 rfl (by decide) (Nat.le_of_ble_eq_true rfl) (by decide) (by decide) ?_
    rintro _ hq _ _ ⟨rfl, eh, rfl, rfl⟩
    subst hq
    show Go true p l e _ s m _ below meth c Z EL1 _ _ _ (mkF m 24 _ [.int (cs.getD i 0)]) _ _ _ _
    exact Go.nret K hE cha_24 (by simp) (by decide) (by decide) (A := []) nofun ⟨by rw [nar_ch (hcs _ (mem_getD hin)).1 (hcs _ (mem_getD hin)).2], rfl, rfl, rfl⟩
  · exact absurd rfl c4
def bI : Bool → Int32
  | true => 1
  | false => 0
theorem bI_n {d : Bool} : ¬ bI d = 0 ↔ d = true := by cases d <;> decide
theorem bI_z {d : Bool} : bI d = 0 ↔ d = false := by cases d <;> decide
def low (c : Int32) : Bool := decide (¬ c < 97 ∧ ¬ (122 : Int32) < c)
def dig (c : Int32) : Bool := decide (¬ c < 48 ∧ ¬ (57 : Int32) < c)
def okc (c : Int32) : Bool := low c || dig c
def opGo : List Int32 → Bool → Bool
  | [], d => !d
  | c :: r, d => if c = 45 ∧ d = false then opGo r true else if okc c = true then opGo r false else false
def opId (cs : List Int32) : Bool := !cs.isEmpty && decide (cs.length ≤ 128) && opGo cs true
theorem op_dash {cs : List Int32} {i : Nat} {d : Bool} (hi : i < cs.length) (h1 : cs.getD i 0 = 45) (h2 : bI d = 0) : opGo (cs.drop i) d = opGo (cs.drop (i + 1)) true := by
  rw [drop_cons' cs i hi]; show (if _ then _ else _) = _; rw [if_pos ⟨h1, bI_z.mp h2⟩]
theorem op_ok {cs : List Int32} {i : Nat} {d : Bool} (hi : i < cs.length) (h1 : ¬ cs.getD i 0 = 45 ∨ ¬ bI d = 0) (h2 : okc (cs.getD i 0) = true) : opGo (cs.drop i) d = opGo (cs.drop (i + 1)) false := by
  rw [drop_cons' cs i hi]; show (if _ then _ else _) = _; rw [if_neg (fun q => h1.elim (fun r => r q.1) (fun r => r (bI_z.mpr q.2))), if_pos h2]
theorem op_no {cs : List Int32} {i : Nat} {d : Bool} (hi : i < cs.length) (h1 : ¬ cs.getD i 0 = 45 ∨ ¬ bI d = 0) (h2 : okc (cs.getD i 0) = false) : opGo (cs.drop i) d = false := by
  rw [drop_cons' cs i hi]; show (if _ then _ else _) = _; rw [if_neg (fun q => h1.elim (fun r => r q.1) (fun r => r (bI_z.mpr q.2))), if_neg (by rw [h2]; decide)]
theorem op_end {cs : List Int32} {i : Nat} {d : Bool} (hi : ¬ i < cs.length) : opGo (cs.drop i) d = !d := by rw [List.drop_eq_nil_of_le (by omega)]; rfl
theorem ef_18 (m : MethodId) (cc : Int32) : entryFrame m #[.int cc] 1 = mkF m 0 #[.val (.int cc)] [] := by first | (simp [entryFrame, mkF, argsToLocals, Value.category]; done) | rfl
set_option maxRecDepth 65536 in
set_option maxHeartbeats 40000000 in
theorem kLow (l : Launch) (Z : State) (a0 : Array Value) (hw : ∀ d ∈ tables_1, d.before a0 Z = true) (h : Heap) (cc : Int32) :
    Ctr true l Z EL1 (⟨"com/example/grantline/grantline/name/Names", "isLower", "(C)Z"⟩ : MethodName) prog_6_method_11_code 1 (some (.boolean)) [] ({ frames := 0, cells := 0, slots := 0, locals := 0 } : Room) #[.int cc] h [] (fun v h' L A => v = some (.int (bI (low cc))) ∧ h' = h ∧ L = [] ∧ A = []) := by
  have hEW : EW Z a0 EL1 := el1 hw
  have hE : true = true ∧ EW Z a0 EL1 ∨ EL1 = [] := Or.inl ⟨rfl, hEW⟩
  refine Ctr.of (y := (⟨"com/example/grantline/grantline/name/Names", "isLower", "(C)Z"⟩ : MethodName)) pn_4 (ef_18 · cc) fun p e s m below meth c K => ?_
  refine Go.iloadN K isLower_0 rfl ?_
  refine Go.bipush K isLower_1 (97) (by first | rfl | decide) ?_
  refine Go.icmp K isLower_3 (fun (c3 : cc < (97 : Int32)) => ?_) (fun (c3 : ¬ cc < (97 : Int32)) => ?_)
  · refine Go.iconst K isLower_16 (0) (by first | rfl | decide) ?_
    exact Go.nret K hE isLower_17 (Or.inl rfl) (Nat.zero_le _) (Nat.zero_le _) (A := []) nofun ⟨by rw [show low cc = false from decide_eq_false (fun q => q.1 c3)]; rfl, rfl, rfl, rfl⟩
  · refine Go.iloadN K isLower_6 rfl ?_
    refine Go.bipush K isLower_7 (122) (by first | rfl | decide) ?_
    refine Go.icmp K isLower_9 (fun (c9 : (122 : Int32) < cc) => ?_) (fun (c9 : ¬ (122 : Int32) < cc) => ?_)
    · refine Go.iconst K isLower_16 (0) (by first | rfl | decide) ?_
      exact Go.nret K hE isLower_17 (Or.inl rfl) (Nat.zero_le _) (Nat.zero_le _) (A := []) nofun ⟨by rw [show low cc = false from decide_eq_false (fun q => q.2 c9)]; rfl, rfl, rfl, rfl⟩
    · refine Go.iconst K isLower_12 (1) (by first | rfl | decide) ?_
      refine Go.goto K isLower_13 ?_
      exact Go.nret K hE isLower_17 (Or.inl rfl) (Nat.zero_le _) (Nat.zero_le _) (A := []) nofun ⟨by rw [show low cc = true from decide_eq_true ⟨c3, c9⟩]; rfl, rfl, rfl, rfl⟩
theorem ef_19 (m : MethodId) (cc : Int32) : entryFrame m #[.int cc] 1 = mkF m 0 #[.val (.int cc)] [] := by first | (simp [entryFrame, mkF, argsToLocals, Value.category]; done) | rfl
set_option maxRecDepth 65536 in
set_option maxHeartbeats 40000000 in
theorem kDig (l : Launch) (Z : State) (a0 : Array Value) (hw : ∀ d ∈ tables_1, d.before a0 Z = true) (h : Heap) (cc : Int32) :
    Ctr true l Z EL1 (⟨"com/example/grantline/grantline/name/Names", "isDigit", "(C)Z"⟩ : MethodName) prog_6_method_13_code 1 (some (.boolean)) [] ({ frames := 0, cells := 0, slots := 0, locals := 0 } : Room) #[.int cc] h [] (fun v h' L A => v = some (.int (bI (dig cc))) ∧ h' = h ∧ L = [] ∧ A = []) := by
  have hEW : EW Z a0 EL1 := el1 hw
  have hE : true = true ∧ EW Z a0 EL1 ∨ EL1 = [] := Or.inl ⟨rfl, hEW⟩
  refine Ctr.of (y := (⟨"com/example/grantline/grantline/name/Names", "isDigit", "(C)Z"⟩ : MethodName)) pn_4 (ef_19 · cc) fun p e s m below meth c K => ?_
  refine Go.iloadN K isDigit_0 rfl ?_
  refine Go.bipush K isDigit_1 (48) (by first | rfl | decide) ?_
  refine Go.icmp K isDigit_3 (fun (c3 : cc < (48 : Int32)) => ?_) (fun (c3 : ¬ cc < (48 : Int32)) => ?_)
  · refine Go.iconst K isDigit_16 (0) (by first | rfl | decide) ?_
    exact Go.nret K hE isDigit_17 (Or.inl rfl) (Nat.zero_le _) (Nat.zero_le _) (A := []) nofun ⟨by rw [show dig cc = false from decide_eq_false (fun q => q.1 c3)]; rfl, rfl, rfl, rfl⟩
  · refine Go.iloadN K isDigit_6 rfl ?_
    refine Go.bipush K isDigit_7 (57) (by first | rfl | decide) ?_
    refine Go.icmp K isDigit_9 (fun (c9 : (57 : Int32) < cc) => ?_) (fun (c9 : ¬ (57 : Int32) < cc) => ?_)
    · refine Go.iconst K isDigit_16 (0) (by first | rfl | decide) ?_
      exact Go.nret K hE isDigit_17 (Or.inl rfl) (Nat.zero_le _) (Nat.zero_le _) (A := []) nofun ⟨by rw [show dig cc = false from decide_eq_false (fun q => q.2 c9)]; rfl, rfl, rfl, rfl⟩
    · refine Go.iconst K isDigit_12 (1) (by first | rfl | decide) ?_
      refine Go.goto K isDigit_13 ?_
      exact Go.nret K hE isDigit_17 (Or.inl rfl) (Nat.zero_le _) (Nat.zero_le _) (A := []) nofun ⟨by rw [show dig cc = true from decide_eq_true ⟨c3, c9⟩]; rfl, rfl, rfl, rfl⟩
theorem Int32_le {n : Nat} (hn : n < 2 ^ 31) (c : ¬ (128 : Int32) < Int32.ofNat n) : n ≤ 128 := by
  rw [Int32.lt_iff_toInt_lt, toInt_n hn] at c
  have e : (128 : Int32).toInt = 128 := by decide
  omega
theorem Int32_le' {n : Nat} (hn : n < 2 ^ 31) (c : n ≤ 128) : ¬ (128 : Int32) < Int32.ofNat n := by
  rw [Int32.lt_iff_toInt_lt, toInt_n hn]
  have e : (128 : Int32).toInt = 128 := by decide
  omega
theorem ef_20 (m : MethodId) (x : Addr) : entryFrame m #[.ref x] 4 = mkF m 0 #[.val (.ref x), .unset, .unset, .unset] [] := by first | (simp [entryFrame, mkF, argsToLocals, Value.category]; done) | rfl
set_option maxRecDepth 65536 in
set_option maxHeartbeats 40000000 in
theorem kOp (l : Launch) (Z : State) (a0 : Array Value) (hw : ∀ d ∈ tables_1, d.before a0 Z = true) (h : Heap) (n0 : Nat) (X : Old Z n0 h) (z : Int32) (St : Sta Z Z.heap "java/lang/String" "COMPACT_STRINGS" "Z" (.int z)) (hz : ¬ z = 0) (SA : Sta Z Z.heap "java/lang/StringUTF16" "$assertionsDisabled" "Z" (.int 1)) (SH : Sta Z Z.heap "java/lang/StringUTF16" "HI_BYTE_SHIFT" "I" (.int 0)) (SL0 : Sta Z Z.heap "java/lang/StringUTF16" "LO_BYTE_SHIFT" "I" (.int 8)) (fm : Value) (SF : Sta Z Z.heap "jdk/internal/util/Preconditions" "SIOOBE_FORMATTER" "Ljava/util/function/BiFunction;" fm) (rf : fm.isRef = true) (x t : Addr) (kb : ClassId) (cd N2 : Int32) (vs : List Value) (cs : List Int32) (XX : StrW Z h x t kb cd N2 vs cs) :
    Ctr true l Z EL1 (⟨"com/example/grantline/grantline/name/Names", "isOperationId", "(Ljava/lang/String;)Z"⟩ : MethodName) prog_6_method_5_code 4 (some (.boolean)) [] ({ frames := 5, cells := 0, slots := 0, locals := 110 } : Room) #[.ref x] h [] (fun v h' L A => v = some (.int (bI (opId cs))) ∧ h' = h ∧ L = [] ∧ A = []) := by
  have hEW : EW Z a0 EL1 := el1 hw
  have hE : true = true ∧ EW Z a0 EL1 ∨ EL1 = [] := Or.inl ⟨rfl, hEW⟩
  refine Ctr.of (y := (⟨"com/example/grantline/grantline/name/Names", "isOperationId", "(Ljava/lang/String;)Z"⟩ : MethodName)) pn_4 (ef_20 · x) fun p e s m below meth c K => ?_
  have hl4 : cs.length ≤ 4000 := XX.2.2.2.2.2.2
  have loop : ∀ (k i : Nat) (j : Int32) (d : Bool) (z3 : Slot), i + k = cs.length + 1 → j = Int32.ofNat i → (z3 = .unset ∨ ∃ v : Int32, z3 = .val (.int v)) → opId cs = opGo (cs.drop i) d →
      Go true p l e ({ frames := 5, cells := 0, slots := 0, locals := 110 } : Room) s m #[.ref x] below meth c Z EL1 "com/example/grantline/grantline/name/Names" (fun v h' L A => v = some (.int (bI (opId cs))) ∧ h' = h ∧ L = [] ∧ A = []) [] (mkF m 23 #[.val (.ref x), .val (.int (bI d)), .val (.int j), z3] []) h [] 0 0 := by
    intro k
    induction k with
    | zero =>
      intro i j d z3 hik hj HZ II
      refine Go.iloadN K opi_23 rfl ?_
      refine Go.aloadN K opi_24 rfl rfl ?_
      refine Go.strLen K (hw _ (List.mem_of_getElem? (i := 66) rfl)) (hw _ (List.mem_of_getElem? (i := 67) rfl)) (hw _ (List.mem_of_getElem? (i := 69) rfl)) (hw _ (List.mem_of_getElem? (i := 68) rfl)) (fun d hd => hw d ((by decide +kernel : ∀ d ∈ StrChars.Road.wordsLen, d ∈ tables_1) d hd)) (hw _ (List.mem_of_getElem? (i := 9) rfl)) XX (St.ext X.2) hz opi_25 rfl (by decide) (Nat.le_of_ble_eq_true rfl) (Nat.zero_le _) (Nat.zero_le _) ?_
      refine Go.icmp K opi_28 (fun (c28 : ¬ j < ((Int32.ofNat cs.length))) => ?_) (fun (c28 : j < ((Int32.ofNat cs.length))) => ?_)
      · refine Go.iloadN K opi_79 rfl ?_
        refine Go.ifc K opi_80 (fun (c80 : ¬ ((bI d)) = (0 : Int32)) => ?_) (fun (c80 : ((bI d)) = (0 : Int32)) => ?_)
        · refine Go.iconst K opi_87 (0) (by first | rfl | decide) ?_
          exact Go.nret K hE opi_88 (Or.inl rfl) (Nat.zero_le _) (Nat.zero_le _) (A := []) nofun ⟨by rw [show opId cs = false from II.trans ((op_end (fun q => c28 (hj ▸ (lt_n (by omega) (by omega)).mpr q))).trans (by rw [bI_n.mp c80]; rfl))]; rfl, rfl, rfl, rfl⟩
        · refine Go.iconst K opi_83 (1) (by first | rfl | decide) ?_
          refine Go.goto K opi_84 ?_
          exact Go.nret K hE opi_88 (Or.inl rfl) (Nat.zero_le _) (Nat.zero_le _) (A := []) nofun ⟨by rw [show opId cs = true from II.trans ((op_end (fun q => c28 (hj ▸ (lt_n (by omega) (by omega)).mpr q))).trans (by rw [bI_z.mp c80]; rfl))]; rfl, rfl, rfl, rfl⟩
      · exact absurd ((lt_n (by omega) (by omega)).mp (hj ▸ c28)) (by omega)
    | succ k ih =>
      intro i j d z3 hik hj HZ II
      refine Go.iloadN K opi_23 rfl ?_
      refine Go.aloadN K opi_24 rfl rfl ?_
      refine Go.strLen K (hw _ (List.mem_of_getElem? (i := 66) rfl)) (hw _ (List.mem_of_getElem? (i := 67) rfl)) (hw _ (List.mem_of_getElem? (i := 69) rfl)) (hw _ (List.mem_of_getElem? (i := 68) rfl)) (fun d hd => hw d ((by decide +kernel : ∀ d ∈ StrChars.Road.wordsLen, d ∈ tables_1) d hd)) (hw _ (List.mem_of_getElem? (i := 9) rfl)) XX (St.ext X.2) hz opi_25 rfl (by decide) (Nat.le_of_ble_eq_true rfl) (Nat.zero_le _) (Nat.zero_le _) ?_
      refine Go.icmp K opi_28 (fun (c28 : ¬ j < ((Int32.ofNat cs.length))) => ?_) (fun (c28 : j < ((Int32.ofNat cs.length))) => ?_)
      · refine Go.iloadN K opi_79 rfl ?_
        refine Go.ifc K opi_80 (fun (c80 : ¬ ((bI d)) = (0 : Int32)) => ?_) (fun (c80 : ((bI d)) = (0 : Int32)) => ?_)
        · refine Go.iconst K opi_87 (0) (by first | rfl | decide) ?_
          exact Go.nret K hE opi_88 (Or.inl rfl) (Nat.zero_le _) (Nat.zero_le _) (A := []) nofun ⟨by rw [show opId cs = false from II.trans ((op_end (fun q => c28 (hj ▸ (lt_n (by omega) (by omega)).mpr q))).trans (by rw [bI_n.mp c80]; rfl))]; rfl, rfl, rfl, rfl⟩
        · refine Go.iconst K opi_83 (1) (by first | rfl | decide) ?_
          refine Go.goto K opi_84 ?_
          exact Go.nret K hE opi_88 (Or.inl rfl) (Nat.zero_le _) (Nat.zero_le _) (A := []) nofun ⟨by rw [show opId cs = true from II.trans ((op_end (fun q => c28 (hj ▸ (lt_n (by omega) (by omega)).mpr q))).trans (by rw [bI_z.mp c80]; rfl))]; rfl, rfl, rfl, rfl⟩
      · refine Go.aloadN K opi_31 rfl rfl ?_
        refine Go.iloadN K opi_32 rfl ?_
        have hi : i < cs.length := (lt_n (by omega) (by omega)).mp (hj ▸ c28)
        have nxt : Go true p l e ({ frames := 5, cells := 0, slots := 0, locals := 110 } : Room) s m #[.ref x] below meth c Z EL1 "com/example/grantline/grantline/name/Names" (fun v h' L A => v = some (.int (bI (opId cs))) ∧ h' = h ∧ L = [] ∧ A = []) [] (mkF m 36 #[.val (.ref x), .val (.int (bI d)), .val (.int j), z3] [.int (cs.getD i 0)]) h [] 0 0 := by
          refine Go.istoreN K #[.val (.ref x), .val (.int (bI d)), .val (.int j), .val (.int (cs.getD i 0))] opi_36 (by rcases HZ with rfl | ⟨w, rfl⟩ <;> rfl) ?_
          refine Go.iloadN K opi_37 rfl ?_
          refine Go.bipush K opi_38 (45) (by first | rfl | decide) ?_
          refine Go.icmp K opi_40 (fun (c40 : ¬ ((cs.getD i 0)) = (45 : Int32)) => ?_) (fun (c40 : ((cs.getD i 0)) = (45 : Int32)) => ?_)
          · refine Go.iloadN K opi_52 rfl ?_
            refine Go.call K hE (Inv.static (argsL := [.int (cs.getD i 0)]) (S := []) K.1 (hw _ (List.mem_of_getElem? (i := 77) rfl)) (hw _ (List.mem_of_getElem? (i := 78) rfl)) (hw _ (List.mem_of_getElem? (i := 57) rfl)) (hw _ (List.mem_of_getElem? (i := 79) rfl)) (by decide) (lenOf pd_14 rfl) (hb K.2.1 opi_53.1)) (kLow l Z a0 hw _ (cs.getD i 0)) nofun (hw _ (List.mem_of_getElem? (i := 79) rfl)) (hw _ (List.mem_of_getElem? (i := 57) rfl)) opi_53.1 rfl (by decide) (Nat.le_of_ble_eq_true rfl) (by decide) (by decide) ?_
            rintro _ hq _ _ ⟨rfl, eh, rfl, rfl⟩
            subst hq
            show Go true p l e _ s m _ below meth c Z EL1 _ _ _ (mkF m 56 _ [.int (bI (low (cs.getD i 0)))]) _ _ _ _
            refine Go.ifc K opi_56 (fun (c56 : ¬ ((bI (low (cs.getD i 0)))) = (0 : Int32)) => ?_) (fun (c56 : ((bI (low (cs.getD i 0)))) = (0 : Int32)) => ?_)
            · refine Go.iconst K opi_66 (0) (by first | rfl | decide) ?_
              refine Go.istoreN K #[.val (.ref x), .val (.int 0), .val (.int j), .val (.int (cs.getD i 0))] opi_67 rfl ?_
              refine Go.goto K opi_68 ?_
              refine Go.iinc K opi_73 (1) (by first | rfl | decide) #[.val (.ref x), .val (.int 0), .val (.int (j + 1)), .val (.int (cs.getD i 0))] rfl rfl ?_
              refine Go.goto K opi_76 ?_
              exact ih (i + 1) _ false _ (by omega) (by rw [hj]; exact inc_n) (Or.inr ⟨_, rfl⟩) (II.trans (op_ok hi (Or.inl c40) (by show (_ || _) = _; rw [bI_n.mp c56]; rfl)))
            · refine Go.iloadN K opi_59 rfl ?_
              refine Go.call K hE (Inv.static (argsL := [.int (cs.getD i 0)]) (S := []) K.1 (hw _ (List.mem_of_getElem? (i := 80) rfl)) (hw _ (List.mem_of_getElem? (i := 81) rfl)) (hw _ (List.mem_of_getElem? (i := 57) rfl)) (hw _ (List.mem_of_getElem? (i := 82) rfl)) (by decide) (lenOf pd_14 rfl) (hb K.2.1 opi_60.1)) (kDig l Z a0 hw _ (cs.getD i 0)) nofun (hw _ (List.mem_of_getElem? (i := 82) rfl)) (hw _ (List.mem_of_getElem? (i := 57) rfl)) opi_60.1 rfl (by decide) (Nat.le_of_ble_eq_true rfl) (by decide) (by decide) ?_
              rintro _ hq _ _ ⟨rfl, eh, rfl, rfl⟩
              subst hq
              show Go true p l e _ s m _ below meth c Z EL1 _ _ _ (mkF m 63 _ [.int (bI (dig (cs.getD i 0)))]) _ _ _ _
              refine Go.ifc K opi_63 (fun (c63 : ((bI (dig (cs.getD i 0)))) = (0 : Int32)) => ?_) (fun (c63 : ¬ ((bI (dig (cs.getD i 0)))) = (0 : Int32)) => ?_)
              · refine Go.iconst K opi_71 (0) (by first | rfl | decide) ?_
                exact Go.nret K hE opi_72 (Or.inl rfl) (Nat.zero_le _) (Nat.zero_le _) (A := []) nofun ⟨by rw [show opId cs = false from II.trans (op_no hi (Or.inl c40) (by show (_ || _) = _; rw [bI_z.mp c56, bI_z.mp c63]; rfl))]; rfl, rfl, rfl, rfl⟩
              · refine Go.iconst K opi_66 (0) (by first | rfl | decide) ?_
                refine Go.istoreN K #[.val (.ref x), .val (.int 0), .val (.int j), .val (.int (cs.getD i 0))] opi_67 rfl ?_
                refine Go.goto K opi_68 ?_
                refine Go.iinc K opi_73 (1) (by first | rfl | decide) #[.val (.ref x), .val (.int 0), .val (.int (j + 1)), .val (.int (cs.getD i 0))] rfl rfl ?_
                refine Go.goto K opi_76 ?_
                exact ih (i + 1) _ false _ (by omega) (by rw [hj]; exact inc_n) (Or.inr ⟨_, rfl⟩) (II.trans (op_ok hi (Or.inl c40) (by show (_ || _) = _; rw [bI_n.mp c63, Bool.or_true])))
          · refine Go.iloadN K opi_43 rfl ?_
            refine Go.ifc K opi_44 (fun (c44 : ¬ ((bI d)) = (0 : Int32)) => ?_) (fun (c44 : ((bI d)) = (0 : Int32)) => ?_)
            · refine Go.iloadN K opi_52 rfl ?_
              refine Go.call K hE (Inv.static (argsL := [.int (cs.getD i 0)]) (S := []) K.1 (hw _ (List.mem_of_getElem? (i := 77) rfl)) (hw _ (List.mem_of_getElem? (i := 78) rfl)) (hw _ (List.mem_of_getElem? (i := 57) rfl)) (hw _ (List.mem_of_getElem? (i := 79) rfl)) (by decide) (lenOf pd_14 rfl) (hb K.2.1 opi_53.1)) (kLow l Z a0 hw _ (cs.getD i 0)) nofun (hw _ (List.mem_of_getElem? (i := 79) rfl)) (hw _ (List.mem_of_getElem? (i := 57) rfl)) opi_53.1 rfl (by decide) (Nat.le_of_ble_eq_true rfl) (by decide) (by decide) ?_
              rintro _ hq _ _ ⟨rfl, eh, rfl, rfl⟩
              subst hq
              show Go true p l e _ s m _ below meth c Z EL1 _ _ _ (mkF m 56 _ [.int (bI (low (cs.getD i 0)))]) _ _ _ _
              refine Go.ifc K opi_56 (fun (c56 : ¬ ((bI (low (cs.getD i 0)))) = (0 : Int32)) => ?_) (fun (c56 : ((bI (low (cs.getD i 0)))) = (0 : Int32)) => ?_)
              · refine Go.iconst K opi_66 (0) (by first | rfl | decide) ?_
                refine Go.istoreN K #[.val (.ref x), .val (.int 0), .val (.int j), .val (.int (cs.getD i 0))] opi_67 rfl ?_
                refine Go.goto K opi_68 ?_
                refine Go.iinc K opi_73 (1) (by first | rfl | decide) #[.val (.ref x), .val (.int 0), .val (.int (j + 1)), .val (.int (cs.getD i 0))] rfl rfl ?_
                refine Go.goto K opi_76 ?_
                exact ih (i + 1) _ false _ (by omega) (by rw [hj]; exact inc_n) (Or.inr ⟨_, rfl⟩) (II.trans (op_ok hi (Or.inr c44) (by show (_ || _) = _; rw [bI_n.mp c56]; rfl)))
              · refine Go.iloadN K opi_59 rfl ?_
                refine Go.call K hE (Inv.static (argsL := [.int (cs.getD i 0)]) (S := []) K.1 (hw _ (List.mem_of_getElem? (i := 80) rfl)) (hw _ (List.mem_of_getElem? (i := 81) rfl)) (hw _ (List.mem_of_getElem? (i := 57) rfl)) (hw _ (List.mem_of_getElem? (i := 82) rfl)) (by decide) (lenOf pd_14 rfl) (hb K.2.1 opi_60.1)) (kDig l Z a0 hw _ (cs.getD i 0)) nofun (hw _ (List.mem_of_getElem? (i := 82) rfl)) (hw _ (List.mem_of_getElem? (i := 57) rfl)) opi_60.1 rfl (by decide) (Nat.le_of_ble_eq_true rfl) (by decide) (by decide) ?_
                rintro _ hq _ _ ⟨rfl, eh, rfl, rfl⟩
                subst hq
                show Go true p l e _ s m _ below meth c Z EL1 _ _ _ (mkF m 63 _ [.int (bI (dig (cs.getD i 0)))]) _ _ _ _
                refine Go.ifc K opi_63 (fun (c63 : ((bI (dig (cs.getD i 0)))) = (0 : Int32)) => ?_) (fun (c63 : ¬ ((bI (dig (cs.getD i 0)))) = (0 : Int32)) => ?_)
                · refine Go.iconst K opi_71 (0) (by first | rfl | decide) ?_
                  exact Go.nret K hE opi_72 (Or.inl rfl) (Nat.zero_le _) (Nat.zero_le _) (A := []) nofun ⟨by rw [show opId cs = false from II.trans (op_no hi (Or.inr c44) (by show (_ || _) = _; rw [bI_z.mp c56, bI_z.mp c63]; rfl))]; rfl, rfl, rfl, rfl⟩
                · refine Go.iconst K opi_66 (0) (by first | rfl | decide) ?_
                  refine Go.istoreN K #[.val (.ref x), .val (.int 0), .val (.int j), .val (.int (cs.getD i 0))] opi_67 rfl ?_
                  refine Go.goto K opi_68 ?_
                  refine Go.iinc K opi_73 (1) (by first | rfl | decide) #[.val (.ref x), .val (.int 0), .val (.int (j + 1)), .val (.int (cs.getD i 0))] rfl rfl ?_
                  refine Go.goto K opi_76 ?_
                  exact ih (i + 1) _ false _ (by omega) (by rw [hj]; exact inc_n) (Or.inr ⟨_, rfl⟩) (II.trans (op_ok hi (Or.inr c44) (by show (_ || _) = _; rw [bI_n.mp c63, Bool.or_true])))
            · refine Go.iconst K opi_47 (1) (by first | rfl | decide) ?_
              refine Go.istoreN K #[.val (.ref x), .val (.int 1), .val (.int j), .val (.int (cs.getD i 0))] opi_48 rfl ?_
              refine Go.goto K opi_49 ?_
              refine Go.iinc K opi_73 (1) (by first | rfl | decide) #[.val (.ref x), .val (.int 1), .val (.int (j + 1)), .val (.int (cs.getD i 0))] rfl rfl ?_
              refine Go.goto K opi_76 ?_
              exact ih (i + 1) _ true _ (by omega) (by rw [hj]; exact inc_n) (Or.inr ⟨_, rfl⟩) (II.trans (op_dash hi c40 c44))
        rcases XX.2.2.2.2.1 with ⟨rfl, -⟩ | ⟨rfl, rfl, rfl, -⟩
        · exact Go.strChN K (hw _ (List.mem_of_getElem? (i := 76) rfl)) (hw _ (List.mem_of_getElem? (i := 16) rfl)) (hw _ (List.mem_of_getElem? (i := 18) rfl)) (hw _ (List.mem_of_getElem? (i := 17) rfl)) (fun d hd => hw d ((by decide +kernel : ∀ d ∈ StrChars.Road.wordsChN, d ∈ tables_1) d hd)) (hw _ (List.mem_of_getElem? (i := 9) rfl)) XX (St.ext X.2) hz (SF.ext X.2) rf i hi hj opi_33 rfl (by decide) (by decide) (Nat.zero_le _) (Nat.zero_le _) nxt
        · subst hj
          refine Go.call K hE (Inv.virtual (argsL := [.int (Int32.ofNat i)]) (S := []) K.1 (hw _ (List.mem_of_getElem? (i := 76) rfl)) (hw _ (List.mem_of_getElem? (i := 16) rfl)) (Inv.nf (hw _ (List.mem_of_getElem? (i := 18) rfl))) (hw _ (List.mem_of_getElem? (i := 18) rfl)) (hw _ (List.mem_of_getElem? (i := 17) rfl)) (by decide) XX.1 (lenOf pd_15 rfl) (hb K.2.1 opi_33.1)) (kChU l Z a0 hw _ n0 X fm SF rf z St hz x XX.1 SA SH SL0 t kb cs XX.2.2.2.2.2.1 XX.2.2.2.2.2.2 XX.2.2.2.1 i hi XX.2.2.1 XX.2.1) nofun (hw _ (List.mem_of_getElem? (i := 19) rfl)) (hw _ (List.mem_of_getElem? (i := 8) rfl)) opi_33.1 rfl (by decide) (Nat.le_of_ble_eq_true rfl) (by decide) (by decide) ?_
          rintro _ hq _ _ ⟨rfl, eh, rfl, rfl⟩
          subst hq
          exact nxt
  refine Go.aloadN K opi_0 rfl rfl ?_
  refine Go.strEmp K (hw _ (List.mem_of_getElem? (i := 59) rfl)) (hw _ (List.mem_of_getElem? (i := 60) rfl)) (hw _ (List.mem_of_getElem? (i := 62) rfl)) (hw _ (List.mem_of_getElem? (i := 61) rfl)) (fun d hd => hw d ((by decide +kernel : ∀ d ∈ StrChars.Road.wordsEmp, d ∈ tables_1) d hd)) (hw _ (List.mem_of_getElem? (i := 9) rfl)) XX opi_1 rfl (by decide) (by decide) (Nat.zero_le _) (Nat.zero_le _) (fun ce => ?_) (fun ce => ?_)
  · show Go true p l e _ s m _ below meth c Z EL1 _ _ _ (mkF m 4 _ [.int 1]) _ _ _ _
    refine Go.ifc K opi_4 (fun (c4 : ¬ (1 : Int32) = (0 : Int32)) => ?_) (fun (c4 : (1 : Int32) = (0 : Int32)) => ?_)
    · refine Go.iconst K opi_17 (0) (by first | rfl | decide) ?_
      exact Go.nret K hE opi_18 (Or.inl rfl) (Nat.zero_le _) (Nat.zero_le _) (A := []) nofun ⟨by rw [show opId cs = false from by rw [ce]; rfl]; rfl, rfl, rfl, rfl⟩
    · exact absurd c4 (by decide)
  · show Go true p l e _ s m _ below meth c Z EL1 _ _ _ (mkF m 4 _ [.int 0]) _ _ _ _
    refine Go.ifc K opi_4 (fun (c4 : ¬ (0 : Int32) = (0 : Int32)) => ?_) (fun (c4 : (0 : Int32) = (0 : Int32)) => ?_)
    · exact absurd rfl c4
    · refine Go.aloadN K opi_7 rfl rfl ?_
      refine Go.strLen K (hw _ (List.mem_of_getElem? (i := 66) rfl)) (hw _ (List.mem_of_getElem? (i := 67) rfl)) (hw _ (List.mem_of_getElem? (i := 69) rfl)) (hw _ (List.mem_of_getElem? (i := 68) rfl)) (fun d hd => hw d ((by decide +kernel : ∀ d ∈ StrChars.Road.wordsLen, d ∈ tables_1) d hd)) (hw _ (List.mem_of_getElem? (i := 9) rfl)) XX (St.ext X.2) hz opi_8 rfl (by decide) (Nat.le_of_ble_eq_true rfl) (Nat.zero_le _) (Nat.zero_le _) ?_
      refine Go.sipush K opi_11 (128) (by first | rfl | decide) ?_
      refine Go.icmp K opi_14 (fun (c14 : ¬ (128 : Int32) < ((Int32.ofNat cs.length))) => ?_) (fun (c14 : (128 : Int32) < ((Int32.ofNat cs.length))) => ?_)
      · refine Go.iconst K opi_19 (1) (by first | rfl | decide) ?_
        refine Go.istoreN K #[.val (.ref x), .val (.int 1), .unset, .unset] opi_20 rfl ?_
        refine Go.iconst K opi_21 (0) (by first | rfl | decide) ?_
        refine Go.istoreN K #[.val (.ref x), .val (.int 1), .val (.int 0), .unset] opi_22 rfl ?_
        exact loop (cs.length + 1) 0 0 true .unset (by omega) rfl (Or.inl rfl) (by show (_ && _ && _) = _; rw [List.drop_zero, decide_eq_true (Int32_le (by omega) c14)]; cases cs with | nil => exact absurd rfl ce | cons _ _ => rfl)
      · refine Go.iconst K opi_17 (0) (by first | rfl | decide) ?_
        exact Go.nret K hE opi_18 (Or.inl rfl) (Nat.zero_le _) (Nat.zero_le _) (A := []) nofun ⟨by rw [show opId cs = false from by show (_ && _ && _) = _; rw [decide_eq_false (fun q => Int32_le' (by omega) q c14), Bool.and_false, Bool.false_and]]; rfl, rfl, rfl, rfl⟩
theorem ef_21 (m : MethodId) (x bA : Addr) : entryFrame m #[.ref x, .ref bA, .int 0, .int 0, .null] 6 = mkF m 0 #[.val (.ref x), .val (.ref bA), .val (.int 0), .val (.int 0), .val (.null), .unset] [] := by first | (simp [entryFrame, mkF, argsToLocals, Value.category]; done) | rfl
set_option maxRecDepth 65536 in
set_option maxHeartbeats 40000000 in
theorem kE4 (l : Launch) (Z : State) (a0 : Array Value) (hw : ∀ d ∈ tables_1, d.before a0 Z = true) (h : Heap) (n0 : Nat) (X : Old Z n0 h) (x bA : Addr) (v0 c0 : Value) (hx : n0 ≤ x) (E : Exa Z h x "java/lang/String") (V : Fld Z h x "java/lang/String" "value" "[B" v0) (Cd : Fld Z h x "java/lang/String" "coder" "B" c0) :
    Ctr true l Z EL1 (⟨"java/lang/String", "<init>", "([CIILjava/lang/Void;)V"⟩ : MethodName) jdk_42_method_149_code 6 none [] ({ frames := 1, cells := 4, slots := 8, locals := 16 } : Room) #[.ref x, .ref bA, .int 0, .int 0, .null] h [x] (fun v h' L A => ∃ (bb : Addr) (kb : ClassId), v = none ∧ A = [] ∧ Fr n0 L ∧ Old Z n0 h' ∧ Keep h h' [x] ∧ Exa Z h' x "java/lang/String" ∧ Fld Z h' x "java/lang/String" "value" "[B" (.ref bb) ∧ Fld Z h' x "java/lang/String" "coder" "B" (.int 0) ∧ Arv Z h' bb kb .byte 0 [] (.int 0) ∧ bb ≠ x) := by
  have hEW : EW Z a0 EL1 := el1 hw
  have hE : true = true ∧ EW Z a0 EL1 ∨ EL1 = [] := Or.inl ⟨rfl, hEW⟩
  have hsa : ∀ d ∈ Bundle.stringAtoms, d.before a0 Z = true := fun d hd => hw d ((by decide +kernel : ∀ d ∈ Bundle.stringAtoms, d ∈ tables_1) d hd)
  refine Ctr.of (y := (⟨"java/lang/String", "<init>", "([CIILjava/lang/Void;)V"⟩ : MethodName)) pn_2 (ef_21 · x bA) fun p e s m below meth c K => ?_
  refine Go.aloadN K ne4_0 rfl rfl ?_
  refine Go.initO K (hw _ (List.mem_of_getElem? (i := 51) rfl)) (hw _ (List.mem_of_getElem? (i := 52) rfl)) (hw _ (List.mem_of_getElem? (i := 53) rfl)) ne4_1 rfl (by decide) (Nat.le_of_ble_eq_true rfl) ?_
  refine Go.iloadN K ne4_4 rfl ?_
  refine Go.ifc K ne4_5 (fun (c5 : ¬ (0 : Int32) = (0 : Int32)) => ?_) (fun (c5 : (0 : Int32) = (0 : Int32)) => ?_)
  · exact absurd rfl c5
  · refine Go.aloadN K ne4_8 rfl rfl ?_
    refine Go.ldcR K rfl hEW (by decide) (hw _ (List.mem_of_getElem? (i := 54) rfl)) hsa (vs := []) (z := 0) ⟨by decide, by decide⟩ (by decide) (by decide) ne4_9 (n := 0) (by decide) (by decide) (by decide) (by decide) (fun a1 h1 b1 k1 E1 X1 C1 V1 A1 ne1 => ?_)
    have nx1 := ne1 x (by simp)
    have F2_0 := V.ext E1
    have F2_1 := Cd.ext E1
    have X2_2 := E.ext E1
    have O2 := X.ext E1
    refine Go.getF K (hw _ (List.mem_of_getElem? (i := 27) rfl)) Via.refl V1 ne4_11 ?_
    refine Go.putF K (hw _ (List.mem_of_getElem? (i := 27) rfl)) Via.refl F2_0 X2_2 (Or.inr ⟨(hw _ (List.mem_of_getElem? (i := 11) rfl)), rfl, rfl⟩) (hw _ (List.mem_of_getElem? (i := 9) rfl)) (ty := .array (.byte)) (by decide) rfl rfl (Sf.mem (by simp)) ne4_14 (fun h3 W3 => ?_)
    have F4_0 := F2_0.same W3
    have F4_1 := F2_1.other W3 (Or.inr (slot_ne (Or.inr (hw _ (List.mem_of_getElem? (i := 12) rfl))) (Or.inr (hw _ (List.mem_of_getElem? (i := 11) rfl))) (by decide) (t := .byte) (t' := .array (.byte)) (by decide) (by decide)))
    have F4_2 := C1.other W3 (Or.inl (Ne.symm nx1.1))
    have F4_3 := V1.other W3 (Or.inl (Ne.symm nx1.1))
    have X4_4 := X2_2.wr W3
    have X4_5 := X1.wr W3
    have A4_6 := A1.other W3 (Ne.symm nx1.2)
    have O4 := O2.wr W3 hx
    refine Go.aloadN K ne4_17 rfl rfl ?_
    refine Go.ldcR K rfl hEW (by decide) (hw _ (List.mem_of_getElem? (i := 54) rfl)) hsa (vs := []) (z := 0) ⟨by decide, by decide⟩ (by decide) (by decide) ne4_18 (n := 0) (by decide) (by decide) (by decide) (by decide) (fun a5 h5 b5 k5 E5 X5 C5 V5 A5 ne5 => ?_)
    have nx5 := ne5 x (by simp)
    have F6_0 := F4_0.ext E5
    have F6_1 := F4_1.ext E5
    have F6_2 := F4_2.ext E5
    have F6_3 := F4_3.ext E5
    have X6_4 := X4_4.ext E5
    have X6_5 := X4_5.ext E5
    have A6_6 := A4_6.ext E5
    have O6 := O4.ext E5
    refine Go.getF K (hw _ (List.mem_of_getElem? (i := 26) rfl)) Via.refl C5 ne4_20 ?_
    refine Go.putF K (hw _ (List.mem_of_getElem? (i := 26) rfl)) Via.refl F6_1 X6_4 (Or.inr ⟨(hw _ (List.mem_of_getElem? (i := 12) rfl)), rfl, rfl⟩) (hw _ (List.mem_of_getElem? (i := 9) rfl)) (ty := .byte) (by decide) rfl rfl (Sf.mem (by simp)) ne4_23 (fun h7 W7 => ?_)
    have F8_0 := F6_0.other W7 (Or.inr (slot_ne (Or.inr (hw _ (List.mem_of_getElem? (i := 11) rfl))) (Or.inr (hw _ (List.mem_of_getElem? (i := 12) rfl))) (by decide) (t := .array (.byte)) (t' := .byte) (by decide) (by decide)))
    have F8_1 := F6_1.same W7
    have F8_2 := F6_2.other W7 (Or.inl (Ne.symm nx1.1))
    have F8_3 := F6_3.other W7 (Or.inl (Ne.symm nx1.1))
    have F8_4 := C5.other W7 (Or.inl (Ne.symm nx5.1))
    have F8_5 := V5.other W7 (Or.inl (Ne.symm nx5.1))
    have X8_6 := X6_4.wr W7
    have X8_7 := X6_5.wr W7
    have X8_8 := X5.wr W7
    have A8_9 := A6_6.other W7 (Ne.symm nx1.2)
    have A8_10 := A5.other W7 (Ne.symm nx5.2)
    have O8 := O6.wr W7 hx
    exact Go.vret K hE ne4_26 (by decide) (by decide) (A := []) nofun rfl ⟨b1, k1, rfl, rfl, (Fr.s (Fr.s (Fr.nil n0) hx) hx), O8, (((((Keep.refl h [x]).ext E1).wr W3 (Or.inl (List.mem_cons_self ..))).ext E5).wr W7 (Or.inl (List.mem_cons_self ..))), X8_6, F8_0, F8_1, A8_9, (Ne.symm nx1.2)⟩
theorem ef_22 (m : MethodId) (x bA : Addr) : entryFrame m #[.ref x, .ref bA] 2 = mkF m 0 #[.val (.ref x), .val (.ref bA)] [] := by first | (simp [entryFrame, mkF, argsToLocals, Value.category]; done) | rfl
set_option maxRecDepth 65536 in
set_option maxHeartbeats 40000000 in
theorem kE1 (l : Launch) (Z : State) (a0 : Array Value) (hw : ∀ d ∈ tables_1, d.before a0 Z = true) (h : Heap) (n0 : Nat) (X : Old Z n0 h) (x bA : Addr) (v0 c0 : Value) (hx : n0 ≤ x) (E : Exa Z h x "java/lang/String") (V : Fld Z h x "java/lang/String" "value" "[B" v0) (Cd : Fld Z h x "java/lang/String" "coder" "B" c0) (kC : ClassId) (vs : List Value) (dv : Value) (Ab : Arv Z h bA kC .char 0 vs dv) :
    Ctr true l Z EL1 (⟨"java/lang/String", "<init>", "([C)V"⟩ : MethodName) jdk_42_method_3_code 2 none [] ({ frames := 2, cells := 4, slots := 8, locals := 40 } : Room) #[.ref x, .ref bA] h [x] (fun v h' L A => ∃ (bb : Addr) (kb : ClassId), v = none ∧ A = [] ∧ Fr n0 L ∧ Old Z n0 h' ∧ Keep h h' [x] ∧ Exa Z h' x "java/lang/String" ∧ Fld Z h' x "java/lang/String" "value" "[B" (.ref bb) ∧ Fld Z h' x "java/lang/String" "coder" "B" (.int 0) ∧ Arv Z h' bb kb .byte 0 [] (.int 0) ∧ bb ≠ x) := by
  have hEW : EW Z a0 EL1 := el1 hw
  have hE : true = true ∧ EW Z a0 EL1 ∨ EL1 = [] := Or.inl ⟨rfl, hEW⟩
  refine Ctr.of (y := (⟨"java/lang/String", "<init>", "([C)V"⟩ : MethodName)) pn_2 (ef_22 · x bA) fun p e s m below meth c K => ?_
  refine Go.aloadN K ne1_0 rfl rfl ?_
  refine Go.aloadN K ne1_1 rfl rfl ?_
  refine Go.iconst K ne1_2 (0) (by first | rfl | decide) ?_
  refine Go.aloadN K ne1_3 rfl rfl ?_
  refine Go.alen K Ab ne1_4 ?_
  refine Go.aconstNull K ne1_5 ?_
  refine Go.call K hE (Inv.special (argsL := [.ref bA, .int 0, .int 0, .null]) (S := []) K.1 rfl (hw _ (List.mem_of_getElem? (i := 47) rfl)) (hw _ (List.mem_of_getElem? (i := 48) rfl)) (hw _ (List.mem_of_getElem? (i := 50) rfl)) (by decide) (lenOf pd_8 rfl) (hb K.2.1 ne1_6.1)) (kE4 l Z a0 hw _ n0 X x bA _ _ hx E V Cd) (by simp) (hw _ (List.mem_of_getElem? (i := 50) rfl)) (hw _ (List.mem_of_getElem? (i := 8) rfl)) ne1_6.1 rfl (by decide) (Nat.le_of_ble_eq_true rfl) (by decide) (by decide) ?_
  rintro _ h2 L2 _ ⟨bb, kb, rfl, rfl, q1, q2, q3, q4, q5, q6, q7, q8⟩
  show Go true p l e _ s m _ below meth c Z EL1 _ _ _ (mkF m 9 _ []) _ _ _ _
  exact Go.vret K hE ne1_9 (by decide) (by decide) (A := []) nofun rfl ⟨bb, kb, rfl, rfl, by simpa using q1, q2, q3, q4, q5, q6, q7, q8⟩
abbrev cs35 : List Int32 := [48, 49, 50, 51, 52, 53, 54, 45, 48, 49, 50, 51, 52, 53, 54, 45, 48, 49, 50, 51, 52, 53, 54, 45, 48, 49, 50, 51, 52, 53, 54, 45, 48, 49, 50, 51, 52, 53, 54, 45, 48, 49, 50, 51, 52, 53, 54, 45, 48, 49, 50, 51, 52, 53, 54, 45, 48, 49, 50, 51, 52, 53, 54, 45, 48, 49, 50, 51, 52, 53, 54, 45, 48, 49, 50, 51, 52, 53, 54, 45, 48, 49, 50, 51, 52, 53, 54, 45, 48, 49, 50, 51, 52, 53, 54, 45, 48, 49, 50, 51, 52, 53, 54, 45, 48, 49, 50, 51, 52, 53, 54, 45, 48, 49, 50, 51, 52, 53, 54, 45, 48, 49, 50, 51, 52, 53, 54, 55]
abbrev cs37 : List Int32 := [48, 49, 50, 51, 52, 53, 54, 45, 48, 49, 50, 51, 52, 53, 54, 45, 48, 49, 50, 51, 52, 53, 54, 45, 48, 49, 50, 51, 52, 53, 54, 45, 48, 49, 50, 51, 52, 53, 54, 45, 48, 49, 50, 51, 52, 53, 54, 45, 48, 49, 50, 51, 52, 53, 54, 45, 48, 49, 50, 51, 52, 53, 54, 45, 48, 49, 50, 51, 52, 53, 54, 45, 48, 49, 50, 51, 52, 53, 54, 45, 48, 49, 50, 51, 52, 53, 54, 45, 48, 49, 50, 51, 52, 53, 54, 45, 48, 49, 50, 51, 52, 53, 54, 45, 48, 49, 50, 51, 52, 53, 54, 45, 48, 49, 50, 51, 52, 53, 54, 45, 48, 49, 50, 51, 52, 53, 54, 55, 56]
abbrev cs39 : List Int32 := [45, 97, 48, 122, 57, 45, 47, 58, 96, 123]
theorem lit_w {Z : State} {h : Heap} {a bb : Addr} {k : ClassId} {z : Int32} {cs : List Int32} (x1 : Exa Z h a "java/lang/String") (x2 : Fld Z h a "java/lang/String" "coder" "B" (.int 0)) (x3 : Fld Z h a "java/lang/String" "value" "[B" (.ref bb)) (x4 : Arv Z h bb k .byte z (cs.map fun c => Value.int (StrChars.lo8 c)) (.int 0)) (hz : z = Int32.ofNat cs.length) (h1 : ∀ c ∈ cs, ¬ (255 : Int32) < c) (h2 : ∀ c ∈ cs, ¬ c < 0 ∧ ¬ (65535 : Int32) < c) (h3 : cs.length ≤ 4000) : StrW Z h a bb k 0 z (cs.map fun c => Value.int (StrChars.lo8 c)) cs := ⟨x1, x3, x2, x4, Or.inl ⟨rfl, hz, rfl, h1⟩, h2, h3⟩
theorem rem10 {x : Int32} (h : ¬ x < 0) : x % 10 = Int32.ofNat (x.toInt.toNat % 10) := by
  rw [Int32.lt_iff_toInt_lt] at h
  have e0 : (0 : Int32).toInt = 0 := by decide
  have h1 := (c_irem x 10 10 (by decide)).1 (by omega)
  apply Int32.toInt_inj.mp
  rw [toInt_n (by omega), h1]
  omega
theorem n_of (x : Int32) : ∃ n : Nat, n ≤ 8 ∧ (x &&& 2147483647) % 9 = Int32.ofNat n := by
  have h := c_and x 2147483647 (by decide)
  have h1 := (c_irem (x &&& 2147483647) 9 9 (by decide)).1 h.1
  refine ⟨((x &&& 2147483647).toInt % 9).toNat, by omega, ?_⟩
  apply Int32.toInt_inj.mp
  rw [toInt_n (by omega), h1]
  omega
theorem i2c_rng (x : Int32) : ¬ (Int32.toUInt32 x).toUInt16.toUInt32.toInt32 < 0 ∧ ¬ (65535 : Int32) < (Int32.toUInt32 x).toUInt16.toUInt32.toInt32 := by
  have h := c_i2c x
  have e0 : (0 : Int32).toInt = 0 := by decide
  have e1 : (65535 : Int32).toInt = 65535 := by decide
  rw [Int32.lt_iff_toInt_lt, Int32.lt_iff_toInt_lt, e0, e1]
  omega
theorem ef_23 (m : MethodId) (raw nb : Int32) : entryFrame m #[.int raw, .int nb] 2 = mkF m 0 #[.val (.int raw), .val (.int nb)] [] := by first | (simp [entryFrame, mkF, argsToLocals, Value.category]; done) | rfl
set_option maxRecDepth 65536 in
set_option maxHeartbeats 40000000 in
theorem kCh (l : Launch) (Z : State) (a0 : Array Value) (hw : ∀ d ∈ tables_1, d.before a0 Z = true) (h : Heap) (n0 : Nat) (X : Old Z n0 h) (z : Int32) (St : Sta Z Z.heap "java/lang/String" "COMPACT_STRINGS" "Z" (.int z)) (hz : ¬ z = 0) (fm : Value) (SF : Sta Z Z.heap "jdk/internal/util/Preconditions" "SIOOBE_FORMATTER" "Ljava/util/function/BiFunction;" fm) (rf : fm.isRef = true) (raw nb : Int32) (r0 : ¬ raw < 0) (r1 : ¬ (65535 : Int32) < raw) :
    Ctr true l Z EL1 (⟨"com/example/grantline/grantline/name/NamesIsOperationIdPinLaw", "ch", "(IZ)C"⟩ : MethodName) method_3_code 2 (some (.char)) [] ({ frames := 4, cells := 2, slots := 44, locals := 60 } : Room) #[.int raw, .int nb] h [] (fun v h' L A => ∃ y : Int32, v = some (.int y) ∧ ¬ y < 0 ∧ ¬ (65535 : Int32) < y ∧ A = [] ∧ Fr n0 L ∧ Old Z n0 h' ∧ Keep h h' []) := by
  have hEW : EW Z a0 EL1 := el1 hw
  have hE : true = true ∧ EW Z a0 EL1 ∨ EL1 = [] := Or.inl ⟨rfl, hEW⟩
  have hsa : ∀ d ∈ Bundle.stringAtoms, d.before a0 Z = true := fun d hd => hw d ((by decide +kernel : ∀ d ∈ Bundle.stringAtoms, d ∈ tables_1) d hd)
  refine Ctr.of (y := (⟨"com/example/grantline/grantline/name/NamesIsOperationIdPinLaw", "ch", "(IZ)C"⟩ : MethodName)) pn_5 (ef_23 · raw nb) fun p e s m below meth c K => ?_
  refine Go.iloadN K ch_0 rfl ?_
  refine Go.ifc K ch_1 (fun (c1 : nb = (0 : Int32)) => ?_) (fun (c1 : ¬ nb = (0 : Int32)) => ?_)
  · refine Go.iloadN K ch_14 rfl ?_
    refine Go.i2c K ch_15 ?_
    exact Go.nret K hE ch_16 (by simp) (by decide) (by decide) (A := []) nofun ⟨_, by rw [nar_ch (i2c_rng raw).1 (i2c_rng raw).2], (i2c_rng raw).1, (i2c_rng raw).2, rfl, (Fr.nil n0), X, (Keep.refl _ _)⟩
  · refine Go.ldcR K rfl hEW (by decide) (hw _ (List.mem_of_getElem? (i := 7) rfl)) hsa (vs := cs39.map fun c => Value.int (StrChars.lo8 c)) (z := 10) ⟨by decide +kernel, by decide +kernel⟩ (by decide) (by decide) ch_4 (n := 40) (by decide +kernel) (by decide) (by decide) (by decide) (fun a1 h1 b1 k1 E1 X1 C1 V1 A1 ne1 => ?_)
    have S1 := lit_w X1 C1 V1 A1 (by decide) (by decide) (by decide) (by decide)
    refine Go.iloadN K ch_6 rfl ?_
    refine Go.bipush K ch_7 (10) (by first | rfl | decide) ?_
    refine Go.irem K ch_9 (by decide) ?_
    refine Go.strChN K (hw _ (List.mem_of_getElem? (i := 15) rfl)) (hw _ (List.mem_of_getElem? (i := 16) rfl)) (hw _ (List.mem_of_getElem? (i := 18) rfl)) (hw _ (List.mem_of_getElem? (i := 17) rfl)) (fun d hd => hw d ((by decide +kernel : ∀ d ∈ StrChars.Road.wordsChN, d ∈ tables_1) d hd)) (hw _ (List.mem_of_getElem? (i := 9) rfl)) S1 (St.ext (X.ext E1).2) hz (SF.ext (X.ext E1).2) rf (raw.toInt.toNat % 10) (Nat.mod_lt _ (by decide)) (rem10 r0) ch_10 rfl (by decide) (by decide) (by decide) (by decide) ?_
    have rg := S1.2.2.2.2.2.1 _ (mem_getD (cs := cs39) (i := raw.toInt.toNat % 10) (Nat.mod_lt _ (by decide)))
    exact Go.nret K hE ch_13 (by simp) (by decide) (by decide) (A := []) nofun ⟨_, by rw [nar_ch rg.1 rg.2], rg.1, rg.2, rfl, (Fr.nil n0), (X.ext E1), (Keep.of_ext E1)⟩
theorem ef_24 (m : MethodId) (b : Addr) (n : Nat) : entryFrame m #[.ref b, .int (Int32.ofNat n)] 2 = mkF m 0 #[.val (.ref b), .val (.int (Int32.ofNat n))] [] := by first | (simp [entryFrame, mkF, argsToLocals, Value.category]; done) | rfl
set_option maxRecDepth 65536 in
set_option maxHeartbeats 40000000 in
theorem kPick (l : Launch) (Z : State) (a0 : Array Value) (hw : ∀ d ∈ tables_1, d.before a0 Z = true) (h : Heap) (n0 : Nat) (X : Old Z n0 h) (b : Addr) (kc : ClassId) (dv : Value) (n : Nat) (hn : n ≤ 8) (c0 c1 c2 c3 c4 c5 c6 c7 : Int32) (p0 : ¬ c0 < 0 ∧ ¬ (65535 : Int32) < c0) (p1 : ¬ c1 < 0 ∧ ¬ (65535 : Int32) < c1) (p2 : ¬ c2 < 0 ∧ ¬ (65535 : Int32) < c2) (p3 : ¬ c3 < 0 ∧ ¬ (65535 : Int32) < c3) (p4 : ¬ c4 < 0 ∧ ¬ (65535 : Int32) < c4) (p5 : ¬ c5 < 0 ∧ ¬ (65535 : Int32) < c5) (p6 : ¬ c6 < 0 ∧ ¬ (65535 : Int32) < c6) (p7 : ¬ c7 < 0 ∧ ¬ (65535 : Int32) < c7) (AB : Arv Z h b kc .char 8 ([c0, c1, c2, c3, c4, c5, c6, c7].map Value.int) dv) :
    Ctr true l Z EL1 (⟨"com/example/grantline/grantline/name/NamesIsOperationIdPinLaw", "pick", "([CI)[C"⟩ : MethodName) method_5_code 2 (some (.array (.char))) [] ({ frames := 0, cells := 1, slots := 8, locals := 0 } : Room) #[.ref b, .int (Int32.ofNat n)] h [] (fun v h' L A => ∃ (t : Addr) (kb : ClassId), v = some (.ref t) ∧ A = [] ∧ n0 ≤ t ∧ h.size ≤ t ∧ Fr n0 L ∧ Old Z n0 h' ∧ Keep h h' [] ∧ Arv Z h' t kb .char (Int32.ofNat n) (([c0, c1, c2, c3, c4, c5, c6, c7].take n).map Value.int) (.int 0)) := by
  have hEW : EW Z a0 EL1 := el1 hw
  have hE : true = true ∧ EW Z a0 EL1 ∨ EL1 = [] := Or.inl ⟨rfl, hEW⟩
  refine Ctr.of (y := (⟨"com/example/grantline/grantline/name/NamesIsOperationIdPinLaw", "pick", "([CI)[C"⟩ : MethodName)) pn_5 (ef_24 · b n) fun p e s m below meth c K => ?_
  rcases (by omega : n = 0 ∨ n = 1 ∨ n = 2 ∨ n = 3 ∨ n = 4 ∨ n = 5 ∨ n = 6 ∨ n = 7 ∨ n = 8) with rfl | rfl | rfl | rfl | rfl | rfl | rfl | rfl | rfl
  · refine Go.iloadN K pk_0 rfl ?_
    refine Go.tswIn K pk_1 (by decide) (off := 47) (by decide) (pcT := 48) (by decide) ?_
    refine Go.iconst K pk_48 (0) (by first | rfl | decide) ?_
    refine Go.newP K (hw _ (List.mem_of_getElem? (i := 1) rfl)) pk_49 (by decide) 0 (by decide) (by decide) (by decide) (by decide) (fun h1 E1 ⟨k1, A1⟩ => ?_)
    have A1' : Arv Z h1 h.size k1 .char 0 (List.replicate 0 (.int 0)) (.int 0) := A1.pad (pad_rep' 0)
    have A2_0 := AB.ext E1
    have O2 := X.ext E1
    obtain ⟨x1, g1⟩ : ∃ z, z = h.size := ⟨_, rfl⟩
    rw [← g1] at A1' ⊢
    have l1_b : b < x1 := by rw [g1]; exact AB.lt
    have qa1 : n0 ≤ x1 := by rw [g1]; exact Old.le X
    exact Go.aret K hE pk_51 rfl rfl (by decide) (by decide) (A := []) nofun ⟨x1, _, rfl, rfl, qa1, by rw [g1]; exact Nat.le_refl _, (Fr.nil n0), O2, ((Keep.refl h []).ext E1), A1'⟩
  · refine Go.iloadN K pk_0 rfl ?_
    refine Go.tswIn K pk_1 (by decide) (off := 51) (by decide) (pcT := 52) (by decide) ?_
    refine Go.iconst K pk_52 (1) (by first | rfl | decide) ?_
    refine Go.newP K (hw _ (List.mem_of_getElem? (i := 1) rfl)) pk_53 (by decide) 1 (by decide) (by decide) (by decide) (by decide) (fun h3 E3 ⟨k3, A3⟩ => ?_)
    have A3' : Arv Z h3 h.size k3 .char 1 (List.replicate 1 (.int 0)) (.int 0) := A3.pad (pad_rep' 1)
    have A4_0 := AB.ext E3
    have O4 := X.ext E3
    obtain ⟨x3, g3⟩ : ∃ z, z = h.size := ⟨_, rfl⟩
    rw [← g3] at A3' ⊢
    have l3_b : b < x3 := by rw [g3]; exact AB.lt
    have qa3 : n0 ≤ x3 := by rw [g3]; exact Old.le X
    refine Go.dup K pk_55 rfl ?_
    refine Go.iconst K pk_56 (0) (by first | rfl | decide) ?_
    refine Go.aloadN K pk_57 rfl rfl ?_
    refine Go.iconst K pk_58 (0) (by first | rfl | decide) ?_
    refine Go.caload K A4_0 (by decide) (by decide) (v := .int c0) rfl pk_59 ?_
    refine Go.castore K A3' 0 (by decide) (by decide) (by simp) (by decide) pk_60 (fun h5 W5 A5 => ?_)
    have A6_0 := A4_0.other W5 (Nat.ne_of_lt l3_b)
    have O6 := O4.wr W5 qa3
    rw [nar_ch p0.1 p0.2] at A5
    exact Go.aret K hE pk_61 rfl rfl (by decide) (by decide) (A := []) nofun ⟨x3, _, rfl, rfl, qa3, by rw [g3]; exact Nat.le_refl _, (Fr.s (Fr.nil n0) qa3), O6, (((Keep.refl h []).ext E3).wr W5 (Or.inr (by rw [g3]; exact Nat.le_refl _))), A5⟩
  · refine Go.iloadN K pk_0 rfl ?_
    refine Go.tswIn K pk_1 (by decide) (off := 61) (by decide) (pcT := 62) (by decide) ?_
    refine Go.iconst K pk_62 (2) (by first | rfl | decide) ?_
    refine Go.newP K (hw _ (List.mem_of_getElem? (i := 1) rfl)) pk_63 (by decide) 2 (by decide) (by decide) (by decide) (by decide) (fun h7 E7 ⟨k7, A7⟩ => ?_)
    have A7' : Arv Z h7 h.size k7 .char 2 (List.replicate 2 (.int 0)) (.int 0) := A7.pad (pad_rep' 2)
    have A8_0 := AB.ext E7
    have O8 := X.ext E7
    obtain ⟨x7, g7⟩ : ∃ z, z = h.size := ⟨_, rfl⟩
    rw [← g7] at A7' ⊢
    have l7_b : b < x7 := by rw [g7]; exact AB.lt
    have qa7 : n0 ≤ x7 := by rw [g7]; exact Old.le X
    refine Go.dup K pk_65 rfl ?_
    refine Go.iconst K pk_66 (0) (by first | rfl | decide) ?_
    refine Go.aloadN K pk_67 rfl rfl ?_
    refine Go.iconst K pk_68 (0) (by first | rfl | decide) ?_
    refine Go.caload K A8_0 (by decide) (by decide) (v := .int c0) rfl pk_69 ?_
    refine Go.castore K A7' 0 (by decide) (by decide) (by simp) (by decide) pk_70 (fun h9 W9 A9 => ?_)
    have A10_0 := A8_0.other W9 (Nat.ne_of_lt l7_b)
    have O10 := O8.wr W9 qa7
    rw [nar_ch p0.1 p0.2] at A9
    refine Go.dup K pk_71 rfl ?_
    refine Go.iconst K pk_72 (1) (by first | rfl | decide) ?_
    refine Go.aloadN K pk_73 rfl rfl ?_
    refine Go.iconst K pk_74 (1) (by first | rfl | decide) ?_
    refine Go.caload K A10_0 (by decide) (by decide) (v := .int c1) rfl pk_75 ?_
    refine Go.castore K A9 1 (by decide) (by decide) (by simp) (by decide) pk_76 (fun h11 W11 A11 => ?_)
    have A12_0 := A10_0.other W11 (Nat.ne_of_lt l7_b)
    have O12 := O10.wr W11 qa7
    rw [nar_ch p1.1 p1.2] at A11
    exact Go.aret K hE pk_77 rfl rfl (by decide) (by decide) (A := []) nofun ⟨x7, _, rfl, rfl, qa7, by rw [g7]; exact Nat.le_refl _, (Fr.s (Fr.s (Fr.nil n0) qa7) qa7), O12, ((((Keep.refl h []).ext E7).wr W9 (Or.inr (by rw [g7]; exact Nat.le_refl _))).wr W11 (Or.inr (by rw [g7]; exact Nat.le_refl _))), A11⟩
  · refine Go.iloadN K pk_0 rfl ?_
    refine Go.tswIn K pk_1 (by decide) (off := 77) (by decide) (pcT := 78) (by decide) ?_
    refine Go.iconst K pk_78 (3) (by first | rfl | decide) ?_
    refine Go.newP K (hw _ (List.mem_of_getElem? (i := 1) rfl)) pk_79 (by decide) 3 (by decide) (by decide) (by decide) (by decide) (fun h13 E13 ⟨k13, A13⟩ => ?_)
    have A13' : Arv Z h13 h.size k13 .char 3 (List.replicate 3 (.int 0)) (.int 0) := A13.pad (pad_rep' 3)
    have A14_0 := AB.ext E13
    have O14 := X.ext E13
    obtain ⟨x13, g13⟩ : ∃ z, z = h.size := ⟨_, rfl⟩
    rw [← g13] at A13' ⊢
    have l13_b : b < x13 := by rw [g13]; exact AB.lt
    have qa13 : n0 ≤ x13 := by rw [g13]; exact Old.le X
    refine Go.dup K pk_81 rfl ?_
    refine Go.iconst K pk_82 (0) (by first | rfl | decide) ?_
    refine Go.aloadN K pk_83 rfl rfl ?_
    refine Go.iconst K pk_84 (0) (by first | rfl | decide) ?_
    refine Go.caload K A14_0 (by decide) (by decide) (v := .int c0) rfl pk_85 ?_
    refine Go.castore K A13' 0 (by decide) (by decide) (by simp) (by decide) pk_86 (fun h15 W15 A15 => ?_)
    have A16_0 := A14_0.other W15 (Nat.ne_of_lt l13_b)
    have O16 := O14.wr W15 qa13
    rw [nar_ch p0.1 p0.2] at A15
    refine Go.dup K pk_87 rfl ?_
    refine Go.iconst K pk_88 (1) (by first | rfl | decide) ?_
    refine Go.aloadN K pk_89 rfl rfl ?_
    refine Go.iconst K pk_90 (1) (by first | rfl | decide) ?_
    refine Go.caload K A16_0 (by decide) (by decide) (v := .int c1) rfl pk_91 ?_
    refine Go.castore K A15 1 (by decide) (by decide) (by simp) (by decide) pk_92 (fun h17 W17 A17 => ?_)
    have A18_0 := A16_0.other W17 (Nat.ne_of_lt l13_b)
    have O18 := O16.wr W17 qa13
    rw [nar_ch p1.1 p1.2] at A17
    refine Go.dup K pk_93 rfl ?_
    refine Go.iconst K pk_94 (2) (by first | rfl | decide) ?_
    refine Go.aloadN K pk_95 rfl rfl ?_
    refine Go.iconst K pk_96 (2) (by first | rfl | decide) ?_
    refine Go.caload K A18_0 (by decide) (by decide) (v := .int c2) rfl pk_97 ?_
    refine Go.castore K A17 2 (by decide) (by decide) (by simp) (by decide) pk_98 (fun h19 W19 A19 => ?_)
    have A20_0 := A18_0.other W19 (Nat.ne_of_lt l13_b)
    have O20 := O18.wr W19 qa13
    rw [nar_ch p2.1 p2.2] at A19
    exact Go.aret K hE pk_99 rfl rfl (by decide) (by decide) (A := []) nofun ⟨x13, _, rfl, rfl, qa13, by rw [g13]; exact Nat.le_refl _, (Fr.s (Fr.s (Fr.s (Fr.nil n0) qa13) qa13) qa13), O20, (((((Keep.refl h []).ext E13).wr W15 (Or.inr (by rw [g13]; exact Nat.le_refl _))).wr W17 (Or.inr (by rw [g13]; exact Nat.le_refl _))).wr W19 (Or.inr (by rw [g13]; exact Nat.le_refl _))), A19⟩
  · refine Go.iloadN K pk_0 rfl ?_
    refine Go.tswIn K pk_1 (by decide) (off := 99) (by decide) (pcT := 100) (by decide) ?_
    refine Go.iconst K pk_100 (4) (by first | rfl | decide) ?_
    refine Go.newP K (hw _ (List.mem_of_getElem? (i := 1) rfl)) pk_101 (by decide) 4 (by decide) (by decide) (by decide) (by decide) (fun h21 E21 ⟨k21, A21⟩ => ?_)
    have A21' : Arv Z h21 h.size k21 .char 4 (List.replicate 4 (.int 0)) (.int 0) := A21.pad (pad_rep' 4)
    have A22_0 := AB.ext E21
    have O22 := X.ext E21
    obtain ⟨x21, g21⟩ : ∃ z, z = h.size := ⟨_, rfl⟩
    rw [← g21] at A21' ⊢
    have l21_b : b < x21 := by rw [g21]; exact AB.lt
    have qa21 : n0 ≤ x21 := by rw [g21]; exact Old.le X
    refine Go.dup K pk_103 rfl ?_
    refine Go.iconst K pk_104 (0) (by first | rfl | decide) ?_
    refine Go.aloadN K pk_105 rfl rfl ?_
    refine Go.iconst K pk_106 (0) (by first | rfl | decide) ?_
    refine Go.caload K A22_0 (by decide) (by decide) (v := .int c0) rfl pk_107 ?_
    refine Go.castore K A21' 0 (by decide) (by decide) (by simp) (by decide) pk_108 (fun h23 W23 A23 => ?_)
    have A24_0 := A22_0.other W23 (Nat.ne_of_lt l21_b)
    have O24 := O22.wr W23 qa21
    rw [nar_ch p0.1 p0.2] at A23
    refine Go.dup K pk_109 rfl ?_
    refine Go.iconst K pk_110 (1) (by first | rfl | decide) ?_
    refine Go.aloadN K pk_111 rfl rfl ?_
    refine Go.iconst K pk_112 (1) (by first | rfl | decide) ?_
    refine Go.caload K A24_0 (by decide) (by decide) (v := .int c1) rfl pk_113 ?_
    refine Go.castore K A23 1 (by decide) (by decide) (by simp) (by decide) pk_114 (fun h25 W25 A25 => ?_)
    have A26_0 := A24_0.other W25 (Nat.ne_of_lt l21_b)
    have O26 := O24.wr W25 qa21
    rw [nar_ch p1.1 p1.2] at A25
    refine Go.dup K pk_115 rfl ?_
    refine Go.iconst K pk_116 (2) (by first | rfl | decide) ?_
    refine Go.aloadN K pk_117 rfl rfl ?_
    refine Go.iconst K pk_118 (2) (by first | rfl | decide) ?_
    refine Go.caload K A26_0 (by decide) (by decide) (v := .int c2) rfl pk_119 ?_
    refine Go.castore K A25 2 (by decide) (by decide) (by simp) (by decide) pk_120 (fun h27 W27 A27 => ?_)
    have A28_0 := A26_0.other W27 (Nat.ne_of_lt l21_b)
    have O28 := O26.wr W27 qa21
    rw [nar_ch p2.1 p2.2] at A27
    refine Go.dup K pk_121 rfl ?_
    refine Go.iconst K pk_122 (3) (by first | rfl | decide) ?_
    refine Go.aloadN K pk_123 rfl rfl ?_
    refine Go.iconst K pk_124 (3) (by first | rfl | decide) ?_
    refine Go.caload K A28_0 (by decide) (by decide) (v := .int c3) rfl pk_125 ?_
    refine Go.castore K A27 3 (by decide) (by decide) (by simp) (by decide) pk_126 (fun h29 W29 A29 => ?_)
    have A30_0 := A28_0.other W29 (Nat.ne_of_lt l21_b)
    have O30 := O28.wr W29 qa21
    rw [nar_ch p3.1 p3.2] at A29
    exact Go.aret K hE pk_127 rfl rfl (by decide) (by decide) (A := []) nofun ⟨x21, _, rfl, rfl, qa21, by rw [g21]; exact Nat.le_refl _, (Fr.s (Fr.s (Fr.s (Fr.s (Fr.nil n0) qa21) qa21) qa21) qa21), O30, ((((((Keep.refl h []).ext E21).wr W23 (Or.inr (by rw [g21]; exact Nat.le_refl _))).wr W25 (Or.inr (by rw [g21]; exact Nat.le_refl _))).wr W27 (Or.inr (by rw [g21]; exact Nat.le_refl _))).wr W29 (Or.inr (by rw [g21]; exact Nat.le_refl _))), A29⟩
  · refine Go.iloadN K pk_0 rfl ?_
    refine Go.tswIn K pk_1 (by decide) (off := 127) (by decide) (pcT := 128) (by decide) ?_
    refine Go.iconst K pk_128 (5) (by first | rfl | decide) ?_
    refine Go.newP K (hw _ (List.mem_of_getElem? (i := 1) rfl)) pk_129 (by decide) 5 (by decide) (by decide) (by decide) (by decide) (fun h31 E31 ⟨k31, A31⟩ => ?_)
    have A31' : Arv Z h31 h.size k31 .char 5 (List.replicate 5 (.int 0)) (.int 0) := A31.pad (pad_rep' 5)
    have A32_0 := AB.ext E31
    have O32 := X.ext E31
    obtain ⟨x31, g31⟩ : ∃ z, z = h.size := ⟨_, rfl⟩
    rw [← g31] at A31' ⊢
    have l31_b : b < x31 := by rw [g31]; exact AB.lt
    have qa31 : n0 ≤ x31 := by rw [g31]; exact Old.le X
    refine Go.dup K pk_131 rfl ?_
    refine Go.iconst K pk_132 (0) (by first | rfl | decide) ?_
    refine Go.aloadN K pk_133 rfl rfl ?_
    refine Go.iconst K pk_134 (0) (by first | rfl | decide) ?_
    refine Go.caload K A32_0 (by decide) (by decide) (v := .int c0) rfl pk_135 ?_
    refine Go.castore K A31' 0 (by decide) (by decide) (by simp) (by decide) pk_136 (fun h33 W33 A33 => ?_)
    have A34_0 := A32_0.other W33 (Nat.ne_of_lt l31_b)
    have O34 := O32.wr W33 qa31
    rw [nar_ch p0.1 p0.2] at A33
    refine Go.dup K pk_137 rfl ?_
    refine Go.iconst K pk_138 (1) (by first | rfl | decide) ?_
    refine Go.aloadN K pk_139 rfl rfl ?_
    refine Go.iconst K pk_140 (1) (by first | rfl | decide) ?_
    refine Go.caload K A34_0 (by decide) (by decide) (v := .int c1) rfl pk_141 ?_
    refine Go.castore K A33 1 (by decide) (by decide) (by simp) (by decide) pk_142 (fun h35 W35 A35 => ?_)
    have A36_0 := A34_0.other W35 (Nat.ne_of_lt l31_b)
    have O36 := O34.wr W35 qa31
    rw [nar_ch p1.1 p1.2] at A35
    refine Go.dup K pk_143 rfl ?_
    refine Go.iconst K pk_144 (2) (by first | rfl | decide) ?_
    refine Go.aloadN K pk_145 rfl rfl ?_
    refine Go.iconst K pk_146 (2) (by first | rfl | decide) ?_
    refine Go.caload K A36_0 (by decide) (by decide) (v := .int c2) rfl pk_147 ?_
    refine Go.castore K A35 2 (by decide) (by decide) (by simp) (by decide) pk_148 (fun h37 W37 A37 => ?_)
    have A38_0 := A36_0.other W37 (Nat.ne_of_lt l31_b)
    have O38 := O36.wr W37 qa31
    rw [nar_ch p2.1 p2.2] at A37
    refine Go.dup K pk_149 rfl ?_
    refine Go.iconst K pk_150 (3) (by first | rfl | decide) ?_
    refine Go.aloadN K pk_151 rfl rfl ?_
    refine Go.iconst K pk_152 (3) (by first | rfl | decide) ?_
    refine Go.caload K A38_0 (by decide) (by decide) (v := .int c3) rfl pk_153 ?_
    refine Go.castore K A37 3 (by decide) (by decide) (by simp) (by decide) pk_154 (fun h39 W39 A39 => ?_)
    have A40_0 := A38_0.other W39 (Nat.ne_of_lt l31_b)
    have O40 := O38.wr W39 qa31
    rw [nar_ch p3.1 p3.2] at A39
    refine Go.dup K pk_155 rfl ?_
    refine Go.iconst K pk_156 (4) (by first | rfl | decide) ?_
    refine Go.aloadN K pk_157 rfl rfl ?_
    refine Go.iconst K pk_158 (4) (by first | rfl | decide) ?_
    refine Go.caload K A40_0 (by decide) (by decide) (v := .int c4) rfl pk_159 ?_
    refine Go.castore K A39 4 (by decide) (by decide) (by simp) (by decide) pk_160 (fun h41 W41 A41 => ?_)
    have A42_0 := A40_0.other W41 (Nat.ne_of_lt l31_b)
    have O42 := O40.wr W41 qa31
    rw [nar_ch p4.1 p4.2] at A41
    exact Go.aret K hE pk_161 rfl rfl (by decide) (by decide) (A := []) nofun ⟨x31, _, rfl, rfl, qa31, by rw [g31]; exact Nat.le_refl _, (Fr.s (Fr.s (Fr.s (Fr.s (Fr.s (Fr.nil n0) qa31) qa31) qa31) qa31) qa31), O42, (((((((Keep.refl h []).ext E31).wr W33 (Or.inr (by rw [g31]; exact Nat.le_refl _))).wr W35 (Or.inr (by rw [g31]; exact Nat.le_refl _))).wr W37 (Or.inr (by rw [g31]; exact Nat.le_refl _))).wr W39 (Or.inr (by rw [g31]; exact Nat.le_refl _))).wr W41 (Or.inr (by rw [g31]; exact Nat.le_refl _))), A41⟩
  · refine Go.iloadN K pk_0 rfl ?_
    refine Go.tswIn K pk_1 (by decide) (off := 161) (by decide) (pcT := 162) (by decide) ?_
    refine Go.bipush K pk_162 (6) (by first | rfl | decide) ?_
    refine Go.newP K (hw _ (List.mem_of_getElem? (i := 1) rfl)) pk_164 (by decide) 6 (by decide) (by decide) (by decide) (by decide) (fun h43 E43 ⟨k43, A43⟩ => ?_)
    have A43' : Arv Z h43 h.size k43 .char 6 (List.replicate 6 (.int 0)) (.int 0) := A43.pad (pad_rep' 6)
    have A44_0 := AB.ext E43
    have O44 := X.ext E43
    obtain ⟨x43, g43⟩ : ∃ z, z = h.size := ⟨_, rfl⟩
    rw [← g43] at A43' ⊢
    have l43_b : b < x43 := by rw [g43]; exact AB.lt
    have qa43 : n0 ≤ x43 := by rw [g43]; exact Old.le X
    refine Go.dup K pk_166 rfl ?_
    refine Go.iconst K pk_167 (0) (by first | rfl | decide) ?_
    refine Go.aloadN K pk_168 rfl rfl ?_
    refine Go.iconst K pk_169 (0) (by first | rfl | decide) ?_
    refine Go.caload K A44_0 (by decide) (by decide) (v := .int c0) rfl pk_170 ?_
    refine Go.castore K A43' 0 (by decide) (by decide) (by simp) (by decide) pk_171 (fun h45 W45 A45 => ?_)
    have A46_0 := A44_0.other W45 (Nat.ne_of_lt l43_b)
    have O46 := O44.wr W45 qa43
    rw [nar_ch p0.1 p0.2] at A45
    refine Go.dup K pk_172 rfl ?_
    refine Go.iconst K pk_173 (1) (by first | rfl | decide) ?_
    refine Go.aloadN K pk_174 rfl rfl ?_
    refine Go.iconst K pk_175 (1) (by first | rfl | decide) ?_
    refine Go.caload K A46_0 (by decide) (by decide) (v := .int c1) rfl pk_176 ?_
    refine Go.castore K A45 1 (by decide) (by decide) (by simp) (by decide) pk_177 (fun h47 W47 A47 => ?_)
    have A48_0 := A46_0.other W47 (Nat.ne_of_lt l43_b)
    have O48 := O46.wr W47 qa43
    rw [nar_ch p1.1 p1.2] at A47
    refine Go.dup K pk_178 rfl ?_
    refine Go.iconst K pk_179 (2) (by first | rfl | decide) ?_
    refine Go.aloadN K pk_180 rfl rfl ?_
    refine Go.iconst K pk_181 (2) (by first | rfl | decide) ?_
    refine Go.caload K A48_0 (by decide) (by decide) (v := .int c2) rfl pk_182 ?_
    refine Go.castore K A47 2 (by decide) (by decide) (by simp) (by decide) pk_183 (fun h49 W49 A49 => ?_)
    have A50_0 := A48_0.other W49 (Nat.ne_of_lt l43_b)
    have O50 := O48.wr W49 qa43
    rw [nar_ch p2.1 p2.2] at A49
    refine Go.dup K pk_184 rfl ?_
    refine Go.iconst K pk_185 (3) (by first | rfl | decide) ?_
    refine Go.aloadN K pk_186 rfl rfl ?_
    refine Go.iconst K pk_187 (3) (by first | rfl | decide) ?_
    refine Go.caload K A50_0 (by decide) (by decide) (v := .int c3) rfl pk_188 ?_
    refine Go.castore K A49 3 (by decide) (by decide) (by simp) (by decide) pk_189 (fun h51 W51 A51 => ?_)
    have A52_0 := A50_0.other W51 (Nat.ne_of_lt l43_b)
    have O52 := O50.wr W51 qa43
    rw [nar_ch p3.1 p3.2] at A51
    refine Go.dup K pk_190 rfl ?_
    refine Go.iconst K pk_191 (4) (by first | rfl | decide) ?_
    refine Go.aloadN K pk_192 rfl rfl ?_
    refine Go.iconst K pk_193 (4) (by first | rfl | decide) ?_
    refine Go.caload K A52_0 (by decide) (by decide) (v := .int c4) rfl pk_194 ?_
    refine Go.castore K A51 4 (by decide) (by decide) (by simp) (by decide) pk_195 (fun h53 W53 A53 => ?_)
    have A54_0 := A52_0.other W53 (Nat.ne_of_lt l43_b)
    have O54 := O52.wr W53 qa43
    rw [nar_ch p4.1 p4.2] at A53
    refine Go.dup K pk_196 rfl ?_
    refine Go.iconst K pk_197 (5) (by first | rfl | decide) ?_
    refine Go.aloadN K pk_198 rfl rfl ?_
    refine Go.iconst K pk_199 (5) (by first | rfl | decide) ?_
    refine Go.caload K A54_0 (by decide) (by decide) (v := .int c5) rfl pk_200 ?_
    refine Go.castore K A53 5 (by decide) (by decide) (by simp) (by decide) pk_201 (fun h55 W55 A55 => ?_)
    have A56_0 := A54_0.other W55 (Nat.ne_of_lt l43_b)
    have O56 := O54.wr W55 qa43
    rw [nar_ch p5.1 p5.2] at A55
    exact Go.aret K hE pk_202 rfl rfl (by decide) (by decide) (A := []) nofun ⟨x43, _, rfl, rfl, qa43, by rw [g43]; exact Nat.le_refl _, (Fr.s (Fr.s (Fr.s (Fr.s (Fr.s (Fr.s (Fr.nil n0) qa43) qa43) qa43) qa43) qa43) qa43), O56, ((((((((Keep.refl h []).ext E43).wr W45 (Or.inr (by rw [g43]; exact Nat.le_refl _))).wr W47 (Or.inr (by rw [g43]; exact Nat.le_refl _))).wr W49 (Or.inr (by rw [g43]; exact Nat.le_refl _))).wr W51 (Or.inr (by rw [g43]; exact Nat.le_refl _))).wr W53 (Or.inr (by rw [g43]; exact Nat.le_refl _))).wr W55 (Or.inr (by rw [g43]; exact Nat.le_refl _))), A55⟩
  · refine Go.iloadN K pk_0 rfl ?_
    refine Go.tswIn K pk_1 (by decide) (off := 202) (by decide) (pcT := 203) (by decide) ?_
    refine Go.bipush K pk_203 (7) (by first | rfl | decide) ?_
    refine Go.newP K (hw _ (List.mem_of_getElem? (i := 1) rfl)) pk_205 (by decide) 7 (by decide) (by decide) (by decide) (by decide) (fun h57 E57 ⟨k57, A57⟩ => ?_)
    have A57' : Arv Z h57 h.size k57 .char 7 (List.replicate 7 (.int 0)) (.int 0) := A57.pad (pad_rep' 7)
    have A58_0 := AB.ext E57
    have O58 := X.ext E57
    obtain ⟨x57, g57⟩ : ∃ z, z = h.size := ⟨_, rfl⟩
    rw [← g57] at A57' ⊢
    have l57_b : b < x57 := by rw [g57]; exact AB.lt
    have qa57 : n0 ≤ x57 := by rw [g57]; exact Old.le X
    refine Go.dup K pk_207 rfl ?_
    refine Go.iconst K pk_208 (0) (by first | rfl | decide) ?_
    refine Go.aloadN K pk_209 rfl rfl ?_
    refine Go.iconst K pk_210 (0) (by first | rfl | decide) ?_
    refine Go.caload K A58_0 (by decide) (by decide) (v := .int c0) rfl pk_211 ?_
    refine Go.castore K A57' 0 (by decide) (by decide) (by simp) (by decide) pk_212 (fun h59 W59 A59 => ?_)
    have A60_0 := A58_0.other W59 (Nat.ne_of_lt l57_b)
    have O60 := O58.wr W59 qa57
    rw [nar_ch p0.1 p0.2] at A59
    refine Go.dup K pk_213 rfl ?_
    refine Go.iconst K pk_214 (1) (by first | rfl | decide) ?_
    refine Go.aloadN K pk_215 rfl rfl ?_
    refine Go.iconst K pk_216 (1) (by first | rfl | decide) ?_
    refine Go.caload K A60_0 (by decide) (by decide) (v := .int c1) rfl pk_217 ?_
    refine Go.castore K A59 1 (by decide) (by decide) (by simp) (by decide) pk_218 (fun h61 W61 A61 => ?_)
    have A62_0 := A60_0.other W61 (Nat.ne_of_lt l57_b)
    have O62 := O60.wr W61 qa57
    rw [nar_ch p1.1 p1.2] at A61
    refine Go.dup K pk_219 rfl ?_
    refine Go.iconst K pk_220 (2) (by first | rfl | decide) ?_
    refine Go.aloadN K pk_221 rfl rfl ?_
    refine Go.iconst K pk_222 (2) (by first | rfl | decide) ?_
    refine Go.caload K A62_0 (by decide) (by decide) (v := .int c2) rfl pk_223 ?_
    refine Go.castore K A61 2 (by decide) (by decide) (by simp) (by decide) pk_224 (fun h63 W63 A63 => ?_)
    have A64_0 := A62_0.other W63 (Nat.ne_of_lt l57_b)
    have O64 := O62.wr W63 qa57
    rw [nar_ch p2.1 p2.2] at A63
    refine Go.dup K pk_225 rfl ?_
    refine Go.iconst K pk_226 (3) (by first | rfl | decide) ?_
    refine Go.aloadN K pk_227 rfl rfl ?_
    refine Go.iconst K pk_228 (3) (by first | rfl | decide) ?_
    refine Go.caload K A64_0 (by decide) (by decide) (v := .int c3) rfl pk_229 ?_
    refine Go.castore K A63 3 (by decide) (by decide) (by simp) (by decide) pk_230 (fun h65 W65 A65 => ?_)
    have A66_0 := A64_0.other W65 (Nat.ne_of_lt l57_b)
    have O66 := O64.wr W65 qa57
    rw [nar_ch p3.1 p3.2] at A65
    refine Go.dup K pk_231 rfl ?_
    refine Go.iconst K pk_232 (4) (by first | rfl | decide) ?_
    refine Go.aloadN K pk_233 rfl rfl ?_
    refine Go.iconst K pk_234 (4) (by first | rfl | decide) ?_
    refine Go.caload K A66_0 (by decide) (by decide) (v := .int c4) rfl pk_235 ?_
    refine Go.castore K A65 4 (by decide) (by decide) (by simp) (by decide) pk_236 (fun h67 W67 A67 => ?_)
    have A68_0 := A66_0.other W67 (Nat.ne_of_lt l57_b)
    have O68 := O66.wr W67 qa57
    rw [nar_ch p4.1 p4.2] at A67
    refine Go.dup K pk_237 rfl ?_
    refine Go.iconst K pk_238 (5) (by first | rfl | decide) ?_
    refine Go.aloadN K pk_239 rfl rfl ?_
    refine Go.iconst K pk_240 (5) (by first | rfl | decide) ?_
    refine Go.caload K A68_0 (by decide) (by decide) (v := .int c5) rfl pk_241 ?_
    refine Go.castore K A67 5 (by decide) (by decide) (by simp) (by decide) pk_242 (fun h69 W69 A69 => ?_)
    have A70_0 := A68_0.other W69 (Nat.ne_of_lt l57_b)
    have O70 := O68.wr W69 qa57
    rw [nar_ch p5.1 p5.2] at A69
    refine Go.dup K pk_243 rfl ?_
    refine Go.bipush K pk_244 (6) (by first | rfl | decide) ?_
    refine Go.aloadN K pk_246 rfl rfl ?_
    refine Go.bipush K pk_247 (6) (by first | rfl | decide) ?_
    refine Go.caload K A70_0 (by decide) (by decide) (v := .int c6) rfl pk_249 ?_
    refine Go.castore K A69 6 (by decide) (by decide) (by simp) (by decide) pk_250 (fun h71 W71 A71 => ?_)
    have A72_0 := A70_0.other W71 (Nat.ne_of_lt l57_b)
    have O72 := O70.wr W71 qa57
    rw [nar_ch p6.1 p6.2] at A71
    exact Go.aret K hE pk_251 rfl rfl (by decide) (by decide) (A := []) nofun ⟨x57, _, rfl, rfl, qa57, by rw [g57]; exact Nat.le_refl _, (Fr.s (Fr.s (Fr.s (Fr.s (Fr.s (Fr.s (Fr.s (Fr.nil n0) qa57) qa57) qa57) qa57) qa57) qa57) qa57), O72, (((((((((Keep.refl h []).ext E57).wr W59 (Or.inr (by rw [g57]; exact Nat.le_refl _))).wr W61 (Or.inr (by rw [g57]; exact Nat.le_refl _))).wr W63 (Or.inr (by rw [g57]; exact Nat.le_refl _))).wr W65 (Or.inr (by rw [g57]; exact Nat.le_refl _))).wr W67 (Or.inr (by rw [g57]; exact Nat.le_refl _))).wr W69 (Or.inr (by rw [g57]; exact Nat.le_refl _))).wr W71 (Or.inr (by rw [g57]; exact Nat.le_refl _))), A71⟩
  · refine Go.iloadN K pk_0 rfl ?_
    refine Go.tswOut K pk_1 (by decide) (pcT := 252) (by decide) ?_
    refine Go.bipush K pk_252 (8) (by first | rfl | decide) ?_
    refine Go.newP K (hw _ (List.mem_of_getElem? (i := 1) rfl)) pk_254 (by decide) 8 (by decide) (by decide) (by decide) (by decide) (fun h73 E73 ⟨k73, A73⟩ => ?_)
    have A73' : Arv Z h73 h.size k73 .char 8 (List.replicate 8 (.int 0)) (.int 0) := A73.pad (pad_rep' 8)
    have A74_0 := AB.ext E73
    have O74 := X.ext E73
    obtain ⟨x73, g73⟩ : ∃ z, z = h.size := ⟨_, rfl⟩
    rw [← g73] at A73' ⊢
    have l73_b : b < x73 := by rw [g73]; exact AB.lt
    have qa73 : n0 ≤ x73 := by rw [g73]; exact Old.le X
    refine Go.dup K pk_256 rfl ?_
    refine Go.iconst K pk_257 (0) (by first | rfl | decide) ?_
    refine Go.aloadN K pk_258 rfl rfl ?_
    refine Go.iconst K pk_259 (0) (by first | rfl | decide) ?_
    refine Go.caload K A74_0 (by decide) (by decide) (v := .int c0) rfl pk_260 ?_
    refine Go.castore K A73' 0 (by decide) (by decide) (by simp) (by decide) pk_261 (fun h75 W75 A75 => ?_)
    have A76_0 := A74_0.other W75 (Nat.ne_of_lt l73_b)
    have O76 := O74.wr W75 qa73
    rw [nar_ch p0.1 p0.2] at A75
    refine Go.dup K pk_262 rfl ?_
    refine Go.iconst K pk_263 (1) (by first | rfl | decide) ?_
    refine Go.aloadN K pk_264 rfl rfl ?_
    refine Go.iconst K pk_265 (1) (by first | rfl | decide) ?_
    refine Go.caload K A76_0 (by decide) (by decide) (v := .int c1) rfl pk_266 ?_
    refine Go.castore K A75 1 (by decide) (by decide) (by simp) (by decide) pk_267 (fun h77 W77 A77 => ?_)
    have A78_0 := A76_0.other W77 (Nat.ne_of_lt l73_b)
    have O78 := O76.wr W77 qa73
    rw [nar_ch p1.1 p1.2] at A77
    refine Go.dup K pk_268 rfl ?_
    refine Go.iconst K pk_269 (2) (by first | rfl | decide) ?_
    refine Go.aloadN K pk_270 rfl rfl ?_
    refine Go.iconst K pk_271 (2) (by first | rfl | decide) ?_
    refine Go.caload K A78_0 (by decide) (by decide) (v := .int c2) rfl pk_272 ?_
    refine Go.castore K A77 2 (by decide) (by decide) (by simp) (by decide) pk_273 (fun h79 W79 A79 => ?_)
    have A80_0 := A78_0.other W79 (Nat.ne_of_lt l73_b)
    have O80 := O78.wr W79 qa73
    rw [nar_ch p2.1 p2.2] at A79
    refine Go.dup K pk_274 rfl ?_
    refine Go.iconst K pk_275 (3) (by first | rfl | decide) ?_
    refine Go.aloadN K pk_276 rfl rfl ?_
    refine Go.iconst K pk_277 (3) (by first | rfl | decide) ?_
    refine Go.caload K A80_0 (by decide) (by decide) (v := .int c3) rfl pk_278 ?_
    refine Go.castore K A79 3 (by decide) (by decide) (by simp) (by decide) pk_279 (fun h81 W81 A81 => ?_)
    have A82_0 := A80_0.other W81 (Nat.ne_of_lt l73_b)
    have O82 := O80.wr W81 qa73
    rw [nar_ch p3.1 p3.2] at A81
    refine Go.dup K pk_280 rfl ?_
    refine Go.iconst K pk_281 (4) (by first | rfl | decide) ?_
    refine Go.aloadN K pk_282 rfl rfl ?_
    refine Go.iconst K pk_283 (4) (by first | rfl | decide) ?_
    refine Go.caload K A82_0 (by decide) (by decide) (v := .int c4) rfl pk_284 ?_
    refine Go.castore K A81 4 (by decide) (by decide) (by simp) (by decide) pk_285 (fun h83 W83 A83 => ?_)
    have A84_0 := A82_0.other W83 (Nat.ne_of_lt l73_b)
    have O84 := O82.wr W83 qa73
    rw [nar_ch p4.1 p4.2] at A83
    refine Go.dup K pk_286 rfl ?_
    refine Go.iconst K pk_287 (5) (by first | rfl | decide) ?_
    refine Go.aloadN K pk_288 rfl rfl ?_
    refine Go.iconst K pk_289 (5) (by first | rfl | decide) ?_
    refine Go.caload K A84_0 (by decide) (by decide) (v := .int c5) rfl pk_290 ?_
    refine Go.castore K A83 5 (by decide) (by decide) (by simp) (by decide) pk_291 (fun h85 W85 A85 => ?_)
    have A86_0 := A84_0.other W85 (Nat.ne_of_lt l73_b)
    have O86 := O84.wr W85 qa73
    rw [nar_ch p5.1 p5.2] at A85
    refine Go.dup K pk_292 rfl ?_
    refine Go.bipush K pk_293 (6) (by first | rfl | decide) ?_
    refine Go.aloadN K pk_295 rfl rfl ?_
    refine Go.bipush K pk_296 (6) (by first | rfl | decide) ?_
    refine Go.caload K A86_0 (by decide) (by decide) (v := .int c6) rfl pk_298 ?_
    refine Go.castore K A85 6 (by decide) (by decide) (by simp) (by decide) pk_299 (fun h87 W87 A87 => ?_)
    have A88_0 := A86_0.other W87 (Nat.ne_of_lt l73_b)
    have O88 := O86.wr W87 qa73
    rw [nar_ch p6.1 p6.2] at A87
    refine Go.dup K pk_300 rfl ?_
    refine Go.bipush K pk_301 (7) (by first | rfl | decide) ?_
    refine Go.aloadN K pk_303 rfl rfl ?_
    refine Go.bipush K pk_304 (7) (by first | rfl | decide) ?_
    refine Go.caload K A88_0 (by decide) (by decide) (v := .int c7) rfl pk_306 ?_
    refine Go.castore K A87 7 (by decide) (by decide) (by simp) (by decide) pk_307 (fun h89 W89 A89 => ?_)
    have A90_0 := A88_0.other W89 (Nat.ne_of_lt l73_b)
    have O90 := O88.wr W89 qa73
    rw [nar_ch p7.1 p7.2] at A89
    exact Go.aret K hE pk_308 rfl rfl (by decide) (by decide) (A := []) nofun ⟨x73, _, rfl, rfl, qa73, by rw [g73]; exact Nat.le_refl _, (Fr.s (Fr.s (Fr.s (Fr.s (Fr.s (Fr.s (Fr.s (Fr.s (Fr.nil n0) qa73) qa73) qa73) qa73) qa73) qa73) qa73) qa73), O90, ((((((((((Keep.refl h []).ext E73).wr W75 (Or.inr (by rw [g73]; exact Nat.le_refl _))).wr W77 (Or.inr (by rw [g73]; exact Nat.le_refl _))).wr W79 (Or.inr (by rw [g73]; exact Nat.le_refl _))).wr W81 (Or.inr (by rw [g73]; exact Nat.le_refl _))).wr W83 (Or.inr (by rw [g73]; exact Nat.le_refl _))).wr W85 (Or.inr (by rw [g73]; exact Nat.le_refl _))).wr W87 (Or.inr (by rw [g73]; exact Nat.le_refl _))).wr W89 (Or.inr (by rw [g73]; exact Nat.le_refl _))), A89⟩
def okP (cs : List Int32) (n i : Nat) : Prop := n ≤ i ∨ (¬ cs.getD i 0 < 97 ∧ ¬ (122 : Int32) < cs.getD i 0) ∨ (¬ cs.getD i 0 < 48 ∧ ¬ (57 : Int32) < cs.getD i 0) ∨ (cs.getD i 0 = 45 ∧ 0 < i ∧ i + 1 < n ∧ ¬ cs.getD (i - 1) 0 = 45)
theorem ef_25 (m : MethodId) (b : Addr) (n i : Nat) : entryFrame m #[.ref b, .int (Int32.ofNat n), .int (Int32.ofNat i)] 4 = mkF m 0 #[.val (.ref b), .val (.int (Int32.ofNat n)), .val (.int (Int32.ofNat i)), .unset] [] := by first | (simp [entryFrame, mkF, argsToLocals, Value.category]; done) | rfl
set_option maxRecDepth 65536 in
set_option maxHeartbeats 40000000 in
theorem kOk (l : Launch) (Z : State) (a0 : Array Value) (hw : ∀ d ∈ tables_1, d.before a0 Z = true) (h : Heap) (b : Addr) (kc : ClassId) (dv : Value) (n i : Nat) (hn : n ≤ 8) (hi : i < 8) (cs : List Int32) (hcs : cs.length = 8) (AB : Arv Z h b kc .char 8 (cs.map Value.int) dv) :
    Ctr true l Z EL1 (⟨"com/example/grantline/grantline/name/NamesIsOperationIdPinLaw", "ok", "([CII)Z"⟩ : MethodName) method_4_code 4 (some (.boolean)) [] ({ frames := 0, cells := 0, slots := 0, locals := 0 } : Room) #[.ref b, .int (Int32.ofNat n), .int (Int32.ofNat i)] h [] (fun v h' L A => ∃ d : Bool, v = some (.int (bI d)) ∧ (d = true ↔ okP cs n i) ∧ h' = h ∧ L = [] ∧ A = []) := by
  have hEW : EW Z a0 EL1 := el1 hw
  have hE : true = true ∧ EW Z a0 EL1 ∨ EL1 = [] := Or.inl ⟨rfl, hEW⟩
  refine Ctr.of (y := (⟨"com/example/grantline/grantline/name/NamesIsOperationIdPinLaw", "ok", "([CII)Z"⟩ : MethodName)) pn_5 (ef_25 · b n i) fun p e s m below meth c K => ?_
  refine Go.iloadN K okk_0 rfl ?_
  refine Go.iloadN K okk_1 rfl ?_
  refine Go.icmp K okk_2 (fun (c2 : ((Int32.ofNat i)) < ((Int32.ofNat n))) => ?_) (fun (c2 : ¬ ((Int32.ofNat i)) < ((Int32.ofNat n))) => ?_)
  · refine Go.aloadN K okk_7 rfl rfl ?_
    refine Go.iloadN K okk_8 rfl ?_
    refine Go.caload K AB (nn_n (by omega)) (by rw [cl_n (by omega)]; show i < 8; omega) (v := .int (cs.getD i 0)) (by rw [cl_n (by omega)]; exact map_getD (by omega)) okk_9 ?_
    refine Go.istoreN K #[.val (.ref b), .val (.int (Int32.ofNat n)), .val (.int (Int32.ofNat i)), .val (.int (cs.getD i 0))] okk_10 rfl ?_
    refine Go.iloadN K okk_11 rfl ?_
    refine Go.bipush K okk_12 (97) (by first | rfl | decide) ?_
    refine Go.icmp K okk_14 (fun (c14 : ((cs.getD i 0)) < (97 : Int32)) => ?_) (fun (c14 : ¬ ((cs.getD i 0)) < (97 : Int32)) => ?_)
    · refine Go.iloadN K okk_23 rfl ?_
      refine Go.bipush K okk_24 (48) (by first | rfl | decide) ?_
      refine Go.icmp K okk_26 (fun (c26 : ((cs.getD i 0)) < (48 : Int32)) => ?_) (fun (c26 : ¬ ((cs.getD i 0)) < (48 : Int32)) => ?_)
      · refine Go.iloadN K okk_37 rfl ?_
        refine Go.bipush K okk_38 (45) (by first | rfl | decide) ?_
        refine Go.icmp K okk_40 (fun (c40 : ¬ ((cs.getD i 0)) = (45 : Int32)) => ?_) (fun (c40 : ((cs.getD i 0)) = (45 : Int32)) => ?_)
        · refine Go.iconst K okk_68 (0) (by first | rfl | decide) ?_
          exact Go.nret K hE okk_69 (Or.inl rfl) (Nat.zero_le _) (Nat.zero_le _) (A := []) nofun ⟨false, rfl, ⟨nofun, fun q => by exfalso; rcases q with q | q | q | q; exact absurd ((lt_n (by omega) (by omega)).mp c2) (by omega); exact q.1 c14; exact q.1 c26; exact c40 q.1⟩, rfl, rfl, rfl⟩
        · refine Go.iloadN K okk_43 rfl ?_
          refine Go.ifc K okk_44 (fun (c44 : ¬ (0 : Int32) < ((Int32.ofNat i))) => ?_) (fun (c44 : (0 : Int32) < ((Int32.ofNat i))) => ?_)
          · refine Go.iconst K okk_68 (0) (by first | rfl | decide) ?_
            exact Go.nret K hE okk_69 (Or.inl rfl) (Nat.zero_le _) (Nat.zero_le _) (A := []) nofun ⟨false, rfl, ⟨nofun, fun q => by exfalso; rcases q with q | q | q | q; exact absurd ((lt_n (by omega) (by omega)).mp c2) (by omega); exact q.1 c14; exact q.1 c26; exact c44 ((lt_n (i := 0) (by omega) (by omega)).mpr q.2.1)⟩, rfl, rfl, rfl⟩
          · refine Go.iloadN K okk_47 rfl ?_
            refine Go.iloadN K okk_48 rfl ?_
            refine Go.iconst K okk_49 (1) (by first | rfl | decide) ?_
            refine Go.isub K okk_50 ?_
            refine Go.icmp K okk_51 (fun (c51 : ¬ ((Int32.ofNat i)) < ((((Int32.ofNat n)) - (1 : Int32)))) => ?_) (fun (c51 : ((Int32.ofNat i)) < ((((Int32.ofNat n)) - (1 : Int32)))) => ?_)
            · refine Go.iconst K okk_68 (0) (by first | rfl | decide) ?_
              exact Go.nret K hE okk_69 (Or.inl rfl) (Nat.zero_le _) (Nat.zero_le _) (A := []) nofun ⟨false, rfl, ⟨nofun, fun q => by exfalso; rcases q with q | q | q | q; exact absurd ((lt_n (by omega) (by omega)).mp c2) (by omega); exact q.1 c14; exact q.1 c26; exact c51 (by rw [dec_n (by omega)]; exact (lt_n (by omega) (by omega)).mpr (by have := q.2.2.1; omega))⟩, rfl, rfl, rfl⟩
            · refine Go.aloadN K okk_54 rfl rfl ?_
              refine Go.iloadN K okk_55 rfl ?_
              refine Go.iconst K okk_56 (1) (by first | rfl | decide) ?_
              refine Go.isub K okk_57 ?_
              have hi0 : 0 < i := (lt_n (i := 0) (by omega) (by omega)).mp c44
              refine Go.caload K AB (by rw [dec_n hi0]; exact nn_n (by omega)) (by rw [dec_n hi0, cl_n (by omega)]; show i - 1 < 8; omega) (v := .int (cs.getD (i - 1) 0)) (by rw [dec_n hi0, cl_n (by omega)]; exact map_getD (by omega)) okk_58 ?_
              refine Go.bipush K okk_59 (45) (by first | rfl | decide) ?_
              refine Go.icmp K okk_61 (fun (c61 : ((cs.getD (i - 1) 0)) = (45 : Int32)) => ?_) (fun (c61 : ¬ ((cs.getD (i - 1) 0)) = (45 : Int32)) => ?_)
              · refine Go.iconst K okk_68 (0) (by first | rfl | decide) ?_
                exact Go.nret K hE okk_69 (Or.inl rfl) (Nat.zero_le _) (Nat.zero_le _) (A := []) nofun ⟨false, rfl, ⟨nofun, fun q => by exfalso; rcases q with q | q | q | q; exact absurd ((lt_n (by omega) (by omega)).mp c2) (by omega); exact q.1 c14; exact q.1 c26; exact q.2.2.2 c61⟩, rfl, rfl, rfl⟩
              · refine Go.iconst K okk_64 (1) (by first | rfl | decide) ?_
                refine Go.goto K okk_65 ?_
                exact Go.nret K hE okk_69 (Or.inl rfl) (Nat.zero_le _) (Nat.zero_le _) (A := []) nofun ⟨true, rfl, ⟨fun _ => Or.inr (Or.inr (Or.inr ⟨c40, hi0, by rw [dec_n (by have := (lt_n (by omega) (by omega)).mp c2; omega)] at c51; have q := (lt_n (by omega) (by omega)).mp c51; omega, c61⟩)), fun _ => rfl⟩, rfl, rfl, rfl⟩
      · refine Go.iloadN K okk_29 rfl ?_
        refine Go.bipush K okk_30 (57) (by first | rfl | decide) ?_
        refine Go.icmp K okk_32 (fun (c32 : (57 : Int32) < ((cs.getD i 0))) => ?_) (fun (c32 : ¬ (57 : Int32) < ((cs.getD i 0))) => ?_)
        · refine Go.iloadN K okk_37 rfl ?_
          refine Go.bipush K okk_38 (45) (by first | rfl | decide) ?_
          refine Go.icmp K okk_40 (fun (c40 : ¬ ((cs.getD i 0)) = (45 : Int32)) => ?_) (fun (c40 : ((cs.getD i 0)) = (45 : Int32)) => ?_)
          · refine Go.iconst K okk_68 (0) (by first | rfl | decide) ?_
            exact Go.nret K hE okk_69 (Or.inl rfl) (Nat.zero_le _) (Nat.zero_le _) (A := []) nofun ⟨false, rfl, ⟨nofun, fun q => by exfalso; rcases q with q | q | q | q; exact absurd ((lt_n (by omega) (by omega)).mp c2) (by omega); exact q.1 c14; exact q.2 c32; exact c40 q.1⟩, rfl, rfl, rfl⟩
          · refine Go.iloadN K okk_43 rfl ?_
            refine Go.ifc K okk_44 (fun (c44 : ¬ (0 : Int32) < ((Int32.ofNat i))) => ?_) (fun (c44 : (0 : Int32) < ((Int32.ofNat i))) => ?_)
            · refine Go.iconst K okk_68 (0) (by first | rfl | decide) ?_
              exact Go.nret K hE okk_69 (Or.inl rfl) (Nat.zero_le _) (Nat.zero_le _) (A := []) nofun ⟨false, rfl, ⟨nofun, fun q => by exfalso; rcases q with q | q | q | q; exact absurd ((lt_n (by omega) (by omega)).mp c2) (by omega); exact q.1 c14; exact q.2 c32; exact c44 ((lt_n (i := 0) (by omega) (by omega)).mpr q.2.1)⟩, rfl, rfl, rfl⟩
            · refine Go.iloadN K okk_47 rfl ?_
              refine Go.iloadN K okk_48 rfl ?_
              refine Go.iconst K okk_49 (1) (by first | rfl | decide) ?_
              refine Go.isub K okk_50 ?_
              refine Go.icmp K okk_51 (fun (c51 : ¬ ((Int32.ofNat i)) < ((((Int32.ofNat n)) - (1 : Int32)))) => ?_) (fun (c51 : ((Int32.ofNat i)) < ((((Int32.ofNat n)) - (1 : Int32)))) => ?_)
              · refine Go.iconst K okk_68 (0) (by first | rfl | decide) ?_
                exact Go.nret K hE okk_69 (Or.inl rfl) (Nat.zero_le _) (Nat.zero_le _) (A := []) nofun ⟨false, rfl, ⟨nofun, fun q => by exfalso; rcases q with q | q | q | q; exact absurd ((lt_n (by omega) (by omega)).mp c2) (by omega); exact q.1 c14; exact q.2 c32; exact c51 (by rw [dec_n (by omega)]; exact (lt_n (by omega) (by omega)).mpr (by have := q.2.2.1; omega))⟩, rfl, rfl, rfl⟩
              · refine Go.aloadN K okk_54 rfl rfl ?_
                refine Go.iloadN K okk_55 rfl ?_
                refine Go.iconst K okk_56 (1) (by first | rfl | decide) ?_
                refine Go.isub K okk_57 ?_
                have hi0 : 0 < i := (lt_n (i := 0) (by omega) (by omega)).mp c44
                refine Go.caload K AB (by rw [dec_n hi0]; exact nn_n (by omega)) (by rw [dec_n hi0, cl_n (by omega)]; show i - 1 < 8; omega) (v := .int (cs.getD (i - 1) 0)) (by rw [dec_n hi0, cl_n (by omega)]; exact map_getD (by omega)) okk_58 ?_
                refine Go.bipush K okk_59 (45) (by first | rfl | decide) ?_
                refine Go.icmp K okk_61 (fun (c61 : ((cs.getD (i - 1) 0)) = (45 : Int32)) => ?_) (fun (c61 : ¬ ((cs.getD (i - 1) 0)) = (45 : Int32)) => ?_)
                · refine Go.iconst K okk_68 (0) (by first | rfl | decide) ?_
                  exact Go.nret K hE okk_69 (Or.inl rfl) (Nat.zero_le _) (Nat.zero_le _) (A := []) nofun ⟨false, rfl, ⟨nofun, fun q => by exfalso; rcases q with q | q | q | q; exact absurd ((lt_n (by omega) (by omega)).mp c2) (by omega); exact q.1 c14; exact q.2 c32; exact q.2.2.2 c61⟩, rfl, rfl, rfl⟩
                · refine Go.iconst K okk_64 (1) (by first | rfl | decide) ?_
                  refine Go.goto K okk_65 ?_
                  exact Go.nret K hE okk_69 (Or.inl rfl) (Nat.zero_le _) (Nat.zero_le _) (A := []) nofun ⟨true, rfl, ⟨fun _ => Or.inr (Or.inr (Or.inr ⟨c40, hi0, by rw [dec_n (by have := (lt_n (by omega) (by omega)).mp c2; omega)] at c51; have q := (lt_n (by omega) (by omega)).mp c51; omega, c61⟩)), fun _ => rfl⟩, rfl, rfl, rfl⟩
        · refine Go.iconst K okk_35 (1) (by first | rfl | decide) ?_
          exact Go.nret K hE okk_36 (Or.inl rfl) (Nat.zero_le _) (Nat.zero_le _) (A := []) nofun ⟨true, rfl, ⟨fun _ => Or.inr (Or.inr (Or.inl ⟨c26, c32⟩)), fun _ => rfl⟩, rfl, rfl, rfl⟩
    · refine Go.iloadN K okk_17 rfl ?_
      refine Go.bipush K okk_18 (122) (by first | rfl | decide) ?_
      refine Go.icmp K okk_20 (fun (c20 : ¬ (122 : Int32) < ((cs.getD i 0))) => ?_) (fun (c20 : (122 : Int32) < ((cs.getD i 0))) => ?_)
      · refine Go.iconst K okk_35 (1) (by first | rfl | decide) ?_
        exact Go.nret K hE okk_36 (Or.inl rfl) (Nat.zero_le _) (Nat.zero_le _) (A := []) nofun ⟨true, rfl, ⟨fun _ => Or.inr (Or.inl ⟨c14, c20⟩), fun _ => rfl⟩, rfl, rfl, rfl⟩
      · refine Go.iloadN K okk_23 rfl ?_
        refine Go.bipush K okk_24 (48) (by first | rfl | decide) ?_
        refine Go.icmp K okk_26 (fun (c26 : ((cs.getD i 0)) < (48 : Int32)) => ?_) (fun (c26 : ¬ ((cs.getD i 0)) < (48 : Int32)) => ?_)
        · refine Go.iloadN K okk_37 rfl ?_
          refine Go.bipush K okk_38 (45) (by first | rfl | decide) ?_
          refine Go.icmp K okk_40 (fun (c40 : ¬ ((cs.getD i 0)) = (45 : Int32)) => ?_) (fun (c40 : ((cs.getD i 0)) = (45 : Int32)) => ?_)
          · refine Go.iconst K okk_68 (0) (by first | rfl | decide) ?_
            exact Go.nret K hE okk_69 (Or.inl rfl) (Nat.zero_le _) (Nat.zero_le _) (A := []) nofun ⟨false, rfl, ⟨nofun, fun q => by exfalso; rcases q with q | q | q | q; exact absurd ((lt_n (by omega) (by omega)).mp c2) (by omega); exact q.2 c20; exact q.1 c26; exact c40 q.1⟩, rfl, rfl, rfl⟩
          · refine Go.iloadN K okk_43 rfl ?_
            refine Go.ifc K okk_44 (fun (c44 : ¬ (0 : Int32) < ((Int32.ofNat i))) => ?_) (fun (c44 : (0 : Int32) < ((Int32.ofNat i))) => ?_)
            · refine Go.iconst K okk_68 (0) (by first | rfl | decide) ?_
              exact Go.nret K hE okk_69 (Or.inl rfl) (Nat.zero_le _) (Nat.zero_le _) (A := []) nofun ⟨false, rfl, ⟨nofun, fun q => by exfalso; rcases q with q | q | q | q; exact absurd ((lt_n (by omega) (by omega)).mp c2) (by omega); exact q.2 c20; exact q.1 c26; exact c44 ((lt_n (i := 0) (by omega) (by omega)).mpr q.2.1)⟩, rfl, rfl, rfl⟩
            · refine Go.iloadN K okk_47 rfl ?_
              refine Go.iloadN K okk_48 rfl ?_
              refine Go.iconst K okk_49 (1) (by first | rfl | decide) ?_
              refine Go.isub K okk_50 ?_
              refine Go.icmp K okk_51 (fun (c51 : ¬ ((Int32.ofNat i)) < ((((Int32.ofNat n)) - (1 : Int32)))) => ?_) (fun (c51 : ((Int32.ofNat i)) < ((((Int32.ofNat n)) - (1 : Int32)))) => ?_)
              · refine Go.iconst K okk_68 (0) (by first | rfl | decide) ?_
                exact Go.nret K hE okk_69 (Or.inl rfl) (Nat.zero_le _) (Nat.zero_le _) (A := []) nofun ⟨false, rfl, ⟨nofun, fun q => by exfalso; rcases q with q | q | q | q; exact absurd ((lt_n (by omega) (by omega)).mp c2) (by omega); exact q.2 c20; exact q.1 c26; exact c51 (by rw [dec_n (by omega)]; exact (lt_n (by omega) (by omega)).mpr (by have := q.2.2.1; omega))⟩, rfl, rfl, rfl⟩
              · refine Go.aloadN K okk_54 rfl rfl ?_
                refine Go.iloadN K okk_55 rfl ?_
                refine Go.iconst K okk_56 (1) (by first | rfl | decide) ?_
                refine Go.isub K okk_57 ?_
                have hi0 : 0 < i := (lt_n (i := 0) (by omega) (by omega)).mp c44
                refine Go.caload K AB (by rw [dec_n hi0]; exact nn_n (by omega)) (by rw [dec_n hi0, cl_n (by omega)]; show i - 1 < 8; omega) (v := .int (cs.getD (i - 1) 0)) (by rw [dec_n hi0, cl_n (by omega)]; exact map_getD (by omega)) okk_58 ?_
                refine Go.bipush K okk_59 (45) (by first | rfl | decide) ?_
                refine Go.icmp K okk_61 (fun (c61 : ((cs.getD (i - 1) 0)) = (45 : Int32)) => ?_) (fun (c61 : ¬ ((cs.getD (i - 1) 0)) = (45 : Int32)) => ?_)
                · refine Go.iconst K okk_68 (0) (by first | rfl | decide) ?_
                  exact Go.nret K hE okk_69 (Or.inl rfl) (Nat.zero_le _) (Nat.zero_le _) (A := []) nofun ⟨false, rfl, ⟨nofun, fun q => by exfalso; rcases q with q | q | q | q; exact absurd ((lt_n (by omega) (by omega)).mp c2) (by omega); exact q.2 c20; exact q.1 c26; exact q.2.2.2 c61⟩, rfl, rfl, rfl⟩
                · refine Go.iconst K okk_64 (1) (by first | rfl | decide) ?_
                  refine Go.goto K okk_65 ?_
                  exact Go.nret K hE okk_69 (Or.inl rfl) (Nat.zero_le _) (Nat.zero_le _) (A := []) nofun ⟨true, rfl, ⟨fun _ => Or.inr (Or.inr (Or.inr ⟨c40, hi0, by rw [dec_n (by have := (lt_n (by omega) (by omega)).mp c2; omega)] at c51; have q := (lt_n (by omega) (by omega)).mp c51; omega, c61⟩)), fun _ => rfl⟩, rfl, rfl, rfl⟩
        · refine Go.iloadN K okk_29 rfl ?_
          refine Go.bipush K okk_30 (57) (by first | rfl | decide) ?_
          refine Go.icmp K okk_32 (fun (c32 : (57 : Int32) < ((cs.getD i 0))) => ?_) (fun (c32 : ¬ (57 : Int32) < ((cs.getD i 0))) => ?_)
          · refine Go.iloadN K okk_37 rfl ?_
            refine Go.bipush K okk_38 (45) (by first | rfl | decide) ?_
            refine Go.icmp K okk_40 (fun (c40 : ¬ ((cs.getD i 0)) = (45 : Int32)) => ?_) (fun (c40 : ((cs.getD i 0)) = (45 : Int32)) => ?_)
            · refine Go.iconst K okk_68 (0) (by first | rfl | decide) ?_
              exact Go.nret K hE okk_69 (Or.inl rfl) (Nat.zero_le _) (Nat.zero_le _) (A := []) nofun ⟨false, rfl, ⟨nofun, fun q => by exfalso; rcases q with q | q | q | q; exact absurd ((lt_n (by omega) (by omega)).mp c2) (by omega); exact q.2 c20; exact q.2 c32; exact c40 q.1⟩, rfl, rfl, rfl⟩
            · refine Go.iloadN K okk_43 rfl ?_
              refine Go.ifc K okk_44 (fun (c44 : ¬ (0 : Int32) < ((Int32.ofNat i))) => ?_) (fun (c44 : (0 : Int32) < ((Int32.ofNat i))) => ?_)
              · refine Go.iconst K okk_68 (0) (by first | rfl | decide) ?_
                exact Go.nret K hE okk_69 (Or.inl rfl) (Nat.zero_le _) (Nat.zero_le _) (A := []) nofun ⟨false, rfl, ⟨nofun, fun q => by exfalso; rcases q with q | q | q | q; exact absurd ((lt_n (by omega) (by omega)).mp c2) (by omega); exact q.2 c20; exact q.2 c32; exact c44 ((lt_n (i := 0) (by omega) (by omega)).mpr q.2.1)⟩, rfl, rfl, rfl⟩
              · refine Go.iloadN K okk_47 rfl ?_
                refine Go.iloadN K okk_48 rfl ?_
                refine Go.iconst K okk_49 (1) (by first | rfl | decide) ?_
                refine Go.isub K okk_50 ?_
                refine Go.icmp K okk_51 (fun (c51 : ¬ ((Int32.ofNat i)) < ((((Int32.ofNat n)) - (1 : Int32)))) => ?_) (fun (c51 : ((Int32.ofNat i)) < ((((Int32.ofNat n)) - (1 : Int32)))) => ?_)
                · refine Go.iconst K okk_68 (0) (by first | rfl | decide) ?_
                  exact Go.nret K hE okk_69 (Or.inl rfl) (Nat.zero_le _) (Nat.zero_le _) (A := []) nofun ⟨false, rfl, ⟨nofun, fun q => by exfalso; rcases q with q | q | q | q; exact absurd ((lt_n (by omega) (by omega)).mp c2) (by omega); exact q.2 c20; exact q.2 c32; exact c51 (by rw [dec_n (by omega)]; exact (lt_n (by omega) (by omega)).mpr (by have := q.2.2.1; omega))⟩, rfl, rfl, rfl⟩
                · refine Go.aloadN K okk_54 rfl rfl ?_
                  refine Go.iloadN K okk_55 rfl ?_
                  refine Go.iconst K okk_56 (1) (by first | rfl | decide) ?_
                  refine Go.isub K okk_57 ?_
                  have hi0 : 0 < i := (lt_n (i := 0) (by omega) (by omega)).mp c44
                  refine Go.caload K AB (by rw [dec_n hi0]; exact nn_n (by omega)) (by rw [dec_n hi0, cl_n (by omega)]; show i - 1 < 8; omega) (v := .int (cs.getD (i - 1) 0)) (by rw [dec_n hi0, cl_n (by omega)]; exact map_getD (by omega)) okk_58 ?_
                  refine Go.bipush K okk_59 (45) (by first | rfl | decide) ?_
                  refine Go.icmp K okk_61 (fun (c61 : ((cs.getD (i - 1) 0)) = (45 : Int32)) => ?_) (fun (c61 : ¬ ((cs.getD (i - 1) 0)) = (45 : Int32)) => ?_)
                  · refine Go.iconst K okk_68 (0) (by first | rfl | decide) ?_
                    exact Go.nret K hE okk_69 (Or.inl rfl) (Nat.zero_le _) (Nat.zero_le _) (A := []) nofun ⟨false, rfl, ⟨nofun, fun q => by exfalso; rcases q with q | q | q | q; exact absurd ((lt_n (by omega) (by omega)).mp c2) (by omega); exact q.2 c20; exact q.2 c32; exact q.2.2.2 c61⟩, rfl, rfl, rfl⟩
                  · refine Go.iconst K okk_64 (1) (by first | rfl | decide) ?_
                    refine Go.goto K okk_65 ?_
                    exact Go.nret K hE okk_69 (Or.inl rfl) (Nat.zero_le _) (Nat.zero_le _) (A := []) nofun ⟨true, rfl, ⟨fun _ => Or.inr (Or.inr (Or.inr ⟨c40, hi0, by rw [dec_n (by have := (lt_n (by omega) (by omega)).mp c2; omega)] at c51; have q := (lt_n (by omega) (by omega)).mp c51; omega, c61⟩)), fun _ => rfl⟩, rfl, rfl, rfl⟩
          · refine Go.iconst K okk_35 (1) (by first | rfl | decide) ?_
            exact Go.nret K hE okk_36 (Or.inl rfl) (Nat.zero_le _) (Nat.zero_le _) (A := []) nofun ⟨true, rfl, ⟨fun _ => Or.inr (Or.inr (Or.inl ⟨c26, c32⟩)), fun _ => rfl⟩, rfl, rfl, rfl⟩
  · refine Go.iconst K okk_5 (1) (by first | rfl | decide) ?_
    exact Go.nret K hE okk_6 (Or.inl rfl) (Nat.zero_le _) (Nat.zero_le _) (A := []) nofun ⟨true, rfl, ⟨fun _ => Or.inl (by have q : ¬ i < n := fun r => c2 ((lt_n (by omega) (by omega)).mpr r); exact Nat.le_of_not_lt q), fun _ => rfl⟩, rfl, rfl, rfl⟩
theorem opGo_law (cs : List Int32) (n : Nat) (hn : n ≤ cs.length) (h1 : 1 ≤ n) : ∀ (k i : Nat) (d : Bool), i + k = n → (d = true ↔ i = 0 ∨ cs.getD (i - 1) 0 = 45) → (∀ j, j < i → okP cs n j) → (opGo ((cs.take n).drop i) d = true ↔ ∀ j, j < n → okP cs n j) := by
  intro k
  induction k with
  | zero =>
    intro i d hik hd hp
    have e : (cs.take n).drop i = [] := List.drop_eq_nil_of_le (by rw [List.length_take]; omega)
    rw [e]
    have hdf : d = false := by
      cases d with
      | false => rfl
      | true =>
        exfalso
        rcases hd.mp rfl with q | q
        · omega
        · rcases hp (i - 1) (by omega) with r | r | r | r
          · omega
          · rw [q] at r; exact r.1 (by decide)
          · rw [q] at r; exact r.1 (by decide)
          · have := r.2.2.1; omega
    subst hdf
    exact ⟨fun _ j hj => hp j (by omega), fun _ => rfl⟩
  | succ k ih =>
    intro i d hik hd hp
    have hlen : i < (cs.take n).length := by rw [List.length_take]; omega
    have hin : i < n := by omega
    have hg : (cs.take n).getD i 0 = cs.getD i 0 := by simp [List.getD_eq_getElem?_getD, List.getElem?_take, hin]
    rw [drop_cons' _ i hlen, hg]
    show (if cs.getD i 0 = 45 ∧ d = false then opGo _ true else if okc (cs.getD i 0) = true then opGo _ false else false) = true ↔ _
    have h45 : okc 45 = false := by decide
    by_cases c1 : cs.getD i 0 = 45 ∧ d = false
    · rw [if_pos c1]
      have hi0 : ¬ (i = 0 ∨ cs.getD (i - 1) 0 = 45) := fun q => by
        have := hd.mpr q
        rw [c1.2] at this
        cases this
      by_cases hlt : i + 1 < n
      · exact ih (i + 1) true (by omega) ⟨fun _ => Or.inr c1.1, fun _ => rfl⟩ (fun j hj => if hji : j = i then hji ▸ Or.inr (Or.inr (Or.inr ⟨c1.1, Nat.pos_of_ne_zero (fun q => hi0 (Or.inl q)), hlt, fun q => hi0 (Or.inr q)⟩)) else hp j (by omega))
      · have e : (cs.take n).drop (i + 1) = [] := List.drop_eq_nil_of_le (by rw [List.length_take]; omega)
        rw [e]
        refine ⟨(fun q => by cases q), fun q => ?_⟩
        exfalso
        rcases q i hin with r | r | r | r
        · omega
        · rw [c1.1] at r; exact r.1 (by decide)
        · rw [c1.1] at r; exact r.1 (by decide)
        · have := r.2.2.1; omega
    · rw [if_neg c1]
      by_cases c2 : okc (cs.getD i 0) = true
      · rw [if_pos c2]
        have hok : okP cs n i := by
          have q := c2
          simp only [okc, low, dig, Bool.or_eq_true, decide_eq_true_eq] at q
          exact q.elim (fun q => Or.inr (Or.inl q)) (fun q => Or.inr (Or.inr (Or.inl q)))
        refine ih (i + 1) false (by omega) ⟨nofun, fun q => ?_⟩ (fun j hj => if hji : j = i then hji ▸ hok else hp j (by omega))
        rcases q with q | q
        · omega
        · rw [Nat.add_sub_cancel] at q
          rw [q, h45] at c2
          cases c2
      · rw [if_neg c2]
        refine ⟨nofun, fun q => ?_⟩
        exfalso
        rcases q i hin with r | r | r | r
        · omega
        · exact c2 (by simp only [okc, low, dig, Bool.or_eq_true, decide_eq_true_eq]; exact Or.inl r)
        · exact c2 (by simp only [okc, low, dig, Bool.or_eq_true, decide_eq_true_eq]; exact Or.inr r)
        · refine c1 ⟨r.1, ?_⟩
          cases d with
          | false => rfl
          | true =>
            exfalso
            rcases hd.mp rfl with q | q
            · have := r.2.1; omega
            · exact r.2.2.2 q
theorem op_law (cs : List Int32) (h8 : cs.length = 8) (n : Nat) (hn : n ≤ 8) : opId (cs.take n) = true ↔ 1 ≤ n ∧ ∀ i, i < 8 → okP cs n i := by
  have hl : (cs.take n).length = n := by rw [List.length_take]; omega
  by_cases h0 : n = 0
  · subst h0
    exact ⟨(fun q => by cases q), fun q => absurd q.1 (by decide)⟩
  · have hne : (cs.take n).isEmpty = false := by
      cases e : cs.take n with
      | nil => rw [e] at hl; exact absurd hl.symm h0
      | cons _ _ => rfl
    have e1 : opId (cs.take n) = opGo (cs.take n) true := by
      show (_ && _ && _) = _
      rw [hne, decide_eq_true (by omega : (cs.take n).length ≤ 128)]; rfl
    have q := opGo_law cs n (by omega) (by omega) n 0 true (by omega) ⟨fun _ => Or.inl rfl, fun _ => rfl⟩ (fun j hj => absurd hj (Nat.not_lt_zero _))
    rw [List.drop_zero] at q
    rw [e1, q]
    exact ⟨fun r => ⟨by omega, fun i hi => if hlt : i < n then r i hlt else Or.inl (by omega)⟩, fun r j hj => r.2 j (by omega)⟩
theorem strw_ext {Z : State} {h h' : Heap} {x t : Addr} {kb : ClassId} {cd N2 : Int32} {vs : List Value} {cs : List Int32} (X : StrW Z h x t kb cd N2 vs cs) (E : Ext h h') : StrW Z h' x t kb cd N2 vs cs := ⟨X.1.ext E, X.2.1.ext E, X.2.2.1.ext E, X.2.2.2.1.ext E, X.2.2.2.2⟩
theorem bI_inj {a b : Bool} (h : a = b) : bI a = bI b := by rw [h]
theorem ef_26 (m : MethodId) (lp lq : Int64) (i4 i5 : Int32) : entryFrame m #[.long lp, .long lq, .int i4, .int i5] maxLocals = mkF m 0 #[.val (.long lp), .second, .val (.long lq), .second, .val (.int i4), .val (.int i5), .unset, .unset, .unset, .unset, .unset, .unset, .unset, .unset, .unset] [] := by first | (simp [entryFrame, mkF, argsToLocals, Value.category, maxLocals]; done) | rfl
set_option maxRecDepth 65536 in
set_option maxHeartbeats 40000000 in
theorem k0 (l : Launch) (Z : State) (a0 : Array Value) (hw : ∀ d ∈ tables_1, d.before a0 Z = true) (ws : List Jvm.Cond) (h : Heap) (n0 : Nat) (X : Old Z n0 h) (z : Int32) (St : Sta Z Z.heap "java/lang/String" "COMPACT_STRINGS" "Z" (.int z)) (hz : ¬ z = 0) (SA : Sta Z Z.heap "java/lang/StringUTF16" "$assertionsDisabled" "Z" (.int 1)) (SH : Sta Z Z.heap "java/lang/StringUTF16" "HI_BYTE_SHIFT" "I" (.int 0)) (SL0 : Sta Z Z.heap "java/lang/StringUTF16" "LO_BYTE_SHIFT" "I" (.int 8)) (fm : Value) (SF : Sta Z Z.heap "jdk/internal/util/Preconditions" "SIOOBE_FORMATTER" "Ljava/util/function/BiFunction;" fm) (rf : fm.isRef = true) (lp lq : Int64) (i4 i5 : Int32) :
    Ctr true l Z EL1 x code maxLocals ret ws room_1 #[.long lp, .long lq, .int i4, .int i5] h [] (fun v h' L A => v = some (.int 1) ∧ Fr n0 L) := by
  have hEW : EW Z a0 EL1 := el1 hw
  have hE : true = true ∧ EW Z a0 EL1 ∨ EL1 = [] := Or.inl ⟨rfl, hEW⟩
  have hsa : ∀ d ∈ Bundle.stringAtoms, d.before a0 Z = true := fun d hd => hw d ((by decide +kernel : ∀ d ∈ Bundle.stringAtoms, d ∈ tables_1) d hd)
  refine Ctr.of (y := x) pn_5 (ef_26 · lp lq i4 i5) fun p e s m below meth c K => ?_
  refine Go.iload K e0_0 rfl ?_
  refine Go.ldcI K (hw _ (List.mem_of_getElem? (i := 0) rfl)) e0_2 ?_
  refine Go.iand K e0_4 ?_
  refine Go.bipush K e0_5 (9) (by first | rfl | decide) ?_
  refine Go.irem K e0_7 (by decide) ?_
  obtain ⟨n, hn, en⟩ := n_of i4
  rw [en]
  show Go true p l e _ s m _ below meth c Z EL1 _ _ _ (mkF m 8 _ [.int (Int32.ofNat n)]) _ _ _ _
  refine Go.istore K #[.val (.long lp), .second, .val (.long lq), .second, .val (.int i4), .val (.int i5), .val (.int (Int32.ofNat n)), .unset, .unset, .unset, .unset, .unset, .unset, .unset, .unset] e0_8 rfl ?_
  have cut1 : ∀ nb : Int32, Go true p l e room_1 s m #[.long lp, .long lq, .int i4, .int i5] below meth c Z EL1 "com/example/grantline/grantline/name/NamesIsOperationIdPinLaw" (fun v h' L A => v = some (.int 1) ∧ Fr n0 L) [] (mkF m 24 #[.val (.long lp), .second, .val (.long lq), .second, .val (.int i4), .val (.int i5), .val (.int (Int32.ofNat n)), .val (.int nb), .unset, .unset, .unset, .unset, .unset, .unset, .unset] []) h [] 0 0 := by
    intro nb
    refine Go.bipush K e0_24 (8) (by first | rfl | decide) ?_
    refine Go.newP K (hw _ (List.mem_of_getElem? (i := 1) rfl)) e0_26 (by decide) 8 (by decide) (by decide) (by decide) (by decide) (fun h1 E1 ⟨k1, A1⟩ => ?_)
    have A1' : Arv Z h1 h.size k1 .char 8 (List.replicate 8 (.int 0)) (.int 0) := A1.pad (pad_rep' 8)
    have O2 := X.ext E1
    obtain ⟨x1, g1⟩ : ∃ z, z = h.size := ⟨_, rfl⟩
    rw [← g1] at A1' ⊢
    have qa1 : n0 ≤ x1 := by rw [g1]; exact Old.le X
    refine Go.astore K #[.val (.long lp), .second, .val (.long lq), .second, .val (.int i4), .val (.int i5), .val (.int (Int32.ofNat n)), .val (.int nb), .val (.ref x1), .unset, .unset, .unset, .unset, .unset, .unset] e0_28 rfl rfl ?_
    refine Go.aload K e0_30 rfl rfl ?_
    refine Go.iconst K e0_32 (0) (by first | rfl | decide) ?_
    refine Go.lloadN K e0_33 rfl ?_
    refine Go.ldcL K (hw _ (List.mem_of_getElem? (i := 2) rfl)) e0_34 ?_
    refine Go.land K e0_37 ?_
    refine Go.l2i K e0_38 ?_
    refine Go.iload K e0_39 rfl ?_
    refine Go.call K hE (Inv.static (argsL := [.int (Int64.toInt32 ((lp &&& (65535 : Int64)))), .int nb]) (S := [.int 0, .ref x1]) K.1 (hw _ (List.mem_of_getElem? (i := 3) rfl)) (hw _ (List.mem_of_getElem? (i := 4) rfl)) (hw _ (List.mem_of_getElem? (i := 5) rfl)) (hw _ (List.mem_of_getElem? (i := 6) rfl)) (by decide) (lenOf pd_16 rfl) (hb K.2.1 at_41)) (kCh l Z a0 hw _ n0 O2 z St hz fm SF rf _ nb (l16 _).1 (l16 _).2) nofun (hw _ (List.mem_of_getElem? (i := 6) rfl)) (hw _ (List.mem_of_getElem? (i := 5) rfl)) at_41 rfl (by decide) (Nat.le_of_ble_eq_true rfl) (by decide) (by decide) ?_
    rintro _ h3 L3 _ ⟨y0, rfl, ya0, yb0, rfl, N3, O3, K3⟩
    show Go true p l e _ s m _ below meth c Z EL1 _ _ _ (mkF m 44 _ [.int y0, .int 0, .ref x1]) _ _ _ _
    have A4_0 := A1'.keep K3 nin0
    have O4 := O2.keep K3 (fun y q => by simp only [List.mem_cons, List.not_mem_nil, or_false] at q)
    refine Go.castore K A4_0 0 (by decide) (by decide) (by simp) (by decide) e0_44 (fun h5 W5 A5 => ?_)
    have O6 := O4.wr W5 qa1
    rw [nar_ch (And.intro ya0 yb0).1 (And.intro ya0 yb0).2] at A5
    refine Go.aload K e0_45 rfl rfl ?_
    refine Go.iconst K e0_47 (1) (by first | rfl | decide) ?_
    refine Go.lloadN K e0_48 rfl ?_
    refine Go.bipush K e0_49 (16) (by first | rfl | decide) ?_
    refine Go.lushr K e0_51 ?_
    refine Go.ldcL K (hw _ (List.mem_of_getElem? (i := 2) rfl)) e0_52 ?_
    refine Go.land K e0_55 ?_
    refine Go.l2i K e0_56 ?_
    refine Go.iload K e0_57 rfl ?_
    refine Go.call K hE (Inv.static (argsL := [.int (Int64.toInt32 (((((Int64.toUInt64 lp >>> ((16 : Int32) &&& 0x3f).toInt64.toUInt64).toInt64)) &&& (65535 : Int64)))), .int nb]) (S := [.int 1, .ref x1]) K.1 (hw _ (List.mem_of_getElem? (i := 3) rfl)) (hw _ (List.mem_of_getElem? (i := 4) rfl)) (hw _ (List.mem_of_getElem? (i := 5) rfl)) (hw _ (List.mem_of_getElem? (i := 6) rfl)) (by decide) (lenOf pd_16 rfl) (hb K.2.1 at_59)) (kCh l Z a0 hw _ n0 O6 z St hz fm SF rf _ nb (l16 _).1 (l16 _).2) nofun (hw _ (List.mem_of_getElem? (i := 6) rfl)) (hw _ (List.mem_of_getElem? (i := 5) rfl)) at_59 rfl (by decide) (Nat.le_of_ble_eq_true rfl) (by decide) (by decide) ?_
    rintro _ h7 L7 _ ⟨y1, rfl, ya1, yb1, rfl, N7, O7, K7⟩
    show Go true p l e _ s m _ below meth c Z EL1 _ _ _ (mkF m 62 _ [.int y1, .int 1, .ref x1]) _ _ _ _
    have A8_0 := A5.keep K7 nin0
    have O8 := O6.keep K7 (fun y q => by simp only [List.mem_cons, List.not_mem_nil, or_false] at q)
    refine Go.castore K A8_0 1 (by decide) (by decide) (by simp) (by decide) e0_62 (fun h9 W9 A9 => ?_)
    have O10 := O8.wr W9 qa1
    rw [nar_ch (And.intro ya1 yb1).1 (And.intro ya1 yb1).2] at A9
    refine Go.aload K e0_63 rfl rfl ?_
    refine Go.iconst K e0_65 (2) (by first | rfl | decide) ?_
    refine Go.lloadN K e0_66 rfl ?_
    refine Go.bipush K e0_67 (32) (by first | rfl | decide) ?_
    refine Go.lushr K e0_69 ?_
    refine Go.ldcL K (hw _ (List.mem_of_getElem? (i := 2) rfl)) e0_70 ?_
    refine Go.land K e0_73 ?_
    refine Go.l2i K e0_74 ?_
    refine Go.iload K e0_75 rfl ?_
    refine Go.call K hE (Inv.static (argsL := [.int (Int64.toInt32 (((((Int64.toUInt64 lp >>> ((32 : Int32) &&& 0x3f).toInt64.toUInt64).toInt64)) &&& (65535 : Int64)))), .int nb]) (S := [.int 2, .ref x1]) K.1 (hw _ (List.mem_of_getElem? (i := 3) rfl)) (hw _ (List.mem_of_getElem? (i := 4) rfl)) (hw _ (List.mem_of_getElem? (i := 5) rfl)) (hw _ (List.mem_of_getElem? (i := 6) rfl)) (by decide) (lenOf pd_16 rfl) (hb K.2.1 at_77)) (kCh l Z a0 hw _ n0 O10 z St hz fm SF rf _ nb (l16 _).1 (l16 _).2) nofun (hw _ (List.mem_of_getElem? (i := 6) rfl)) (hw _ (List.mem_of_getElem? (i := 5) rfl)) at_77 rfl (by decide) (Nat.le_of_ble_eq_true rfl) (by decide) (by decide) ?_
    rintro _ h11 L11 _ ⟨y2, rfl, ya2, yb2, rfl, N11, O11, K11⟩
    show Go true p l e _ s m _ below meth c Z EL1 _ _ _ (mkF m 80 _ [.int y2, .int 2, .ref x1]) _ _ _ _
    have A12_0 := A9.keep K11 nin0
    have O12 := O10.keep K11 (fun y q => by simp only [List.mem_cons, List.not_mem_nil, or_false] at q)
    refine Go.castore K A12_0 2 (by decide) (by decide) (by simp) (by decide) e0_80 (fun h13 W13 A13 => ?_)
    have O14 := O12.wr W13 qa1
    rw [nar_ch (And.intro ya2 yb2).1 (And.intro ya2 yb2).2] at A13
    refine Go.aload K e0_81 rfl rfl ?_
    refine Go.iconst K e0_83 (3) (by first | rfl | decide) ?_
    refine Go.lloadN K e0_84 rfl ?_
    refine Go.bipush K e0_85 (48) (by first | rfl | decide) ?_
    refine Go.lushr K e0_87 ?_
    refine Go.ldcL K (hw _ (List.mem_of_getElem? (i := 2) rfl)) e0_88 ?_
    refine Go.land K e0_91 ?_
    refine Go.l2i K e0_92 ?_
    refine Go.iload K e0_93 rfl ?_
    refine Go.call K hE (Inv.static (argsL := [.int (Int64.toInt32 (((((Int64.toUInt64 lp >>> ((48 : Int32) &&& 0x3f).toInt64.toUInt64).toInt64)) &&& (65535 : Int64)))), .int nb]) (S := [.int 3, .ref x1]) K.1 (hw _ (List.mem_of_getElem? (i := 3) rfl)) (hw _ (List.mem_of_getElem? (i := 4) rfl)) (hw _ (List.mem_of_getElem? (i := 5) rfl)) (hw _ (List.mem_of_getElem? (i := 6) rfl)) (by decide) (lenOf pd_16 rfl) (hb K.2.1 at_95)) (kCh l Z a0 hw _ n0 O14 z St hz fm SF rf _ nb (l16 _).1 (l16 _).2) nofun (hw _ (List.mem_of_getElem? (i := 6) rfl)) (hw _ (List.mem_of_getElem? (i := 5) rfl)) at_95 rfl (by decide) (Nat.le_of_ble_eq_true rfl) (by decide) (by decide) ?_
    rintro _ h15 L15 _ ⟨y3, rfl, ya3, yb3, rfl, N15, O15, K15⟩
    show Go true p l e _ s m _ below meth c Z EL1 _ _ _ (mkF m 98 _ [.int y3, .int 3, .ref x1]) _ _ _ _
    have A16_0 := A13.keep K15 nin0
    have O16 := O14.keep K15 (fun y q => by simp only [List.mem_cons, List.not_mem_nil, or_false] at q)
    refine Go.castore K A16_0 3 (by decide) (by decide) (by simp) (by decide) e0_98 (fun h17 W17 A17 => ?_)
    have O18 := O16.wr W17 qa1
    rw [nar_ch (And.intro ya3 yb3).1 (And.intro ya3 yb3).2] at A17
    refine Go.aload K e0_99 rfl rfl ?_
    refine Go.iconst K e0_101 (4) (by first | rfl | decide) ?_
    refine Go.lloadN K e0_102 rfl ?_
    refine Go.ldcL K (hw _ (List.mem_of_getElem? (i := 2) rfl)) e0_103 ?_
    refine Go.land K e0_106 ?_
    refine Go.l2i K e0_107 ?_
    refine Go.iload K e0_108 rfl ?_
    refine Go.call K hE (Inv.static (argsL := [.int (Int64.toInt32 ((lq &&& (65535 : Int64)))), .int nb]) (S := [.int 4, .ref x1]) K.1 (hw _ (List.mem_of_getElem? (i := 3) rfl)) (hw _ (List.mem_of_getElem? (i := 4) rfl)) (hw _ (List.mem_of_getElem? (i := 5) rfl)) (hw _ (List.mem_of_getElem? (i := 6) rfl)) (by decide) (lenOf pd_16 rfl) (hb K.2.1 at_110)) (kCh l Z a0 hw _ n0 O18 z St hz fm SF rf _ nb (l16 _).1 (l16 _).2) nofun (hw _ (List.mem_of_getElem? (i := 6) rfl)) (hw _ (List.mem_of_getElem? (i := 5) rfl)) at_110 rfl (by decide) (Nat.le_of_ble_eq_true rfl) (by decide) (by decide) ?_
    rintro _ h19 L19 _ ⟨y4, rfl, ya4, yb4, rfl, N19, O19, K19⟩
    show Go true p l e _ s m _ below meth c Z EL1 _ _ _ (mkF m 113 _ [.int y4, .int 4, .ref x1]) _ _ _ _
    have A20_0 := A17.keep K19 nin0
    have O20 := O18.keep K19 (fun y q => by simp only [List.mem_cons, List.not_mem_nil, or_false] at q)
    refine Go.castore K A20_0 4 (by decide) (by decide) (by simp) (by decide) e0_113 (fun h21 W21 A21 => ?_)
    have O22 := O20.wr W21 qa1
    rw [nar_ch (And.intro ya4 yb4).1 (And.intro ya4 yb4).2] at A21
    refine Go.aload K e0_114 rfl rfl ?_
    refine Go.iconst K e0_116 (5) (by first | rfl | decide) ?_
    refine Go.lloadN K e0_117 rfl ?_
    refine Go.bipush K e0_118 (16) (by first | rfl | decide) ?_
    refine Go.lushr K e0_120 ?_
    refine Go.ldcL K (hw _ (List.mem_of_getElem? (i := 2) rfl)) e0_121 ?_
    refine Go.land K e0_124 ?_
    refine Go.l2i K e0_125 ?_
    refine Go.iload K e0_126 rfl ?_
    refine Go.call K hE (Inv.static (argsL := [.int (Int64.toInt32 (((((Int64.toUInt64 lq >>> ((16 : Int32) &&& 0x3f).toInt64.toUInt64).toInt64)) &&& (65535 : Int64)))), .int nb]) (S := [.int 5, .ref x1]) K.1 (hw _ (List.mem_of_getElem? (i := 3) rfl)) (hw _ (List.mem_of_getElem? (i := 4) rfl)) (hw _ (List.mem_of_getElem? (i := 5) rfl)) (hw _ (List.mem_of_getElem? (i := 6) rfl)) (by decide) (lenOf pd_16 rfl) (hb K.2.1 at_128)) (kCh l Z a0 hw _ n0 O22 z St hz fm SF rf _ nb (l16 _).1 (l16 _).2) nofun (hw _ (List.mem_of_getElem? (i := 6) rfl)) (hw _ (List.mem_of_getElem? (i := 5) rfl)) at_128 rfl (by decide) (Nat.le_of_ble_eq_true rfl) (by decide) (by decide) ?_
    rintro _ h23 L23 _ ⟨y5, rfl, ya5, yb5, rfl, N23, O23, K23⟩
    show Go true p l e _ s m _ below meth c Z EL1 _ _ _ (mkF m 131 _ [.int y5, .int 5, .ref x1]) _ _ _ _
    have A24_0 := A21.keep K23 nin0
    have O24 := O22.keep K23 (fun y q => by simp only [List.mem_cons, List.not_mem_nil, or_false] at q)
    refine Go.castore K A24_0 5 (by decide) (by decide) (by simp) (by decide) e0_131 (fun h25 W25 A25 => ?_)
    have O26 := O24.wr W25 qa1
    rw [nar_ch (And.intro ya5 yb5).1 (And.intro ya5 yb5).2] at A25
    refine Go.aload K e0_132 rfl rfl ?_
    refine Go.bipush K e0_134 (6) (by first | rfl | decide) ?_
    refine Go.lloadN K e0_136 rfl ?_
    refine Go.bipush K e0_137 (32) (by first | rfl | decide) ?_
    refine Go.lushr K e0_139 ?_
    refine Go.ldcL K (hw _ (List.mem_of_getElem? (i := 2) rfl)) e0_140 ?_
    refine Go.land K e0_143 ?_
    refine Go.l2i K e0_144 ?_
    refine Go.iload K e0_145 rfl ?_
    refine Go.call K hE (Inv.static (argsL := [.int (Int64.toInt32 (((((Int64.toUInt64 lq >>> ((32 : Int32) &&& 0x3f).toInt64.toUInt64).toInt64)) &&& (65535 : Int64)))), .int nb]) (S := [.int 6, .ref x1]) K.1 (hw _ (List.mem_of_getElem? (i := 3) rfl)) (hw _ (List.mem_of_getElem? (i := 4) rfl)) (hw _ (List.mem_of_getElem? (i := 5) rfl)) (hw _ (List.mem_of_getElem? (i := 6) rfl)) (by decide) (lenOf pd_16 rfl) (hb K.2.1 at_147)) (kCh l Z a0 hw _ n0 O26 z St hz fm SF rf _ nb (l16 _).1 (l16 _).2) nofun (hw _ (List.mem_of_getElem? (i := 6) rfl)) (hw _ (List.mem_of_getElem? (i := 5) rfl)) at_147 rfl (by decide) (Nat.le_of_ble_eq_true rfl) (by decide) (by decide) ?_
    rintro _ h27 L27 _ ⟨y6, rfl, ya6, yb6, rfl, N27, O27, K27⟩
    show Go true p l e _ s m _ below meth c Z EL1 _ _ _ (mkF m 150 _ [.int y6, .int 6, .ref x1]) _ _ _ _
    have A28_0 := A25.keep K27 nin0
    have O28 := O26.keep K27 (fun y q => by simp only [List.mem_cons, List.not_mem_nil, or_false] at q)
    refine Go.castore K A28_0 6 (by decide) (by decide) (by simp) (by decide) e0_150 (fun h29 W29 A29 => ?_)
    have O30 := O28.wr W29 qa1
    rw [nar_ch (And.intro ya6 yb6).1 (And.intro ya6 yb6).2] at A29
    refine Go.aload K e0_151 rfl rfl ?_
    refine Go.bipush K e0_153 (7) (by first | rfl | decide) ?_
    refine Go.lloadN K e0_155 rfl ?_
    refine Go.bipush K e0_156 (48) (by first | rfl | decide) ?_
    refine Go.lushr K e0_158 ?_
    refine Go.ldcL K (hw _ (List.mem_of_getElem? (i := 2) rfl)) e0_159 ?_
    refine Go.land K e0_162 ?_
    refine Go.l2i K e0_163 ?_
    refine Go.iload K e0_164 rfl ?_
    refine Go.call K hE (Inv.static (argsL := [.int (Int64.toInt32 (((((Int64.toUInt64 lq >>> ((48 : Int32) &&& 0x3f).toInt64.toUInt64).toInt64)) &&& (65535 : Int64)))), .int nb]) (S := [.int 7, .ref x1]) K.1 (hw _ (List.mem_of_getElem? (i := 3) rfl)) (hw _ (List.mem_of_getElem? (i := 4) rfl)) (hw _ (List.mem_of_getElem? (i := 5) rfl)) (hw _ (List.mem_of_getElem? (i := 6) rfl)) (by decide) (lenOf pd_16 rfl) (hb K.2.1 at_166)) (kCh l Z a0 hw _ n0 O30 z St hz fm SF rf _ nb (l16 _).1 (l16 _).2) nofun (hw _ (List.mem_of_getElem? (i := 6) rfl)) (hw _ (List.mem_of_getElem? (i := 5) rfl)) at_166 rfl (by decide) (Nat.le_of_ble_eq_true rfl) (by decide) (by decide) ?_
    rintro _ h31 L31 _ ⟨y7, rfl, ya7, yb7, rfl, N31, O31, K31⟩
    show Go true p l e _ s m _ below meth c Z EL1 _ _ _ (mkF m 169 _ [.int y7, .int 7, .ref x1]) _ _ _ _
    have A32_0 := A29.keep K31 nin0
    have O32 := O30.keep K31 (fun y q => by simp only [List.mem_cons, List.not_mem_nil, or_false] at q)
    refine Go.castore K A32_0 7 (by decide) (by decide) (by simp) (by decide) e0_169 (fun h33 W33 A33 => ?_)
    have O34 := O32.wr W33 qa1
    rw [nar_ch (And.intro ya7 yb7).1 (And.intro ya7 yb7).2] at A33
    refine Go.newO K (hw _ (List.mem_of_getElem? (i := 40) rfl)) (hw _ (List.mem_of_getElem? (i := 9) rfl)) (hw _ (List.mem_of_getElem? (i := 8) rfl)) e0_170 (by decide) (by decide) (fun h35 E35 ⟨X35, D35⟩ => ?_)
    have F35_0 : Fld Z h35 h33.size "java/lang/String" "value" "[B" (.null) := D35 (Or.inr (hw _ (List.mem_of_getElem? (i := 11) rfl))) (ty := .array (.byte)) (by decide)
    have F35_1 : Fld Z h35 h33.size "java/lang/String" "coder" "B" (.int 0) := D35 (Or.inr (hw _ (List.mem_of_getElem? (i := 12) rfl))) (ty := .byte) (by decide)
    have A36_0 := A33.ext E35
    have O36 := O34.ext E35
    obtain ⟨x35, g35⟩ : ∃ z, z = h33.size := ⟨_, rfl⟩
    rw [← g35] at X35 F35_0 F35_1 ⊢
    have l35_x1 : x1 < x35 := by rw [g35]; exact A33.lt
    have qa35 : n0 ≤ x35 := by rw [g35]; exact Old.le O34
    refine Go.dup K e0_173 rfl ?_
    refine Go.aload K e0_174 rfl rfl ?_
    refine Go.iload K e0_176 rfl ?_
    have A8 : Arv Z h35 x1 k1 .char 8 ([y0, y1, y2, y3, y4, y5, y6, y7].map Value.int) (.int 0) := A36_0
    refine Go.call K hE (Inv.static (argsL := [.ref x1, .int (Int32.ofNat n)]) (S := [.ref x35, .ref x35]) K.1 (hw _ (List.mem_of_getElem? (i := 41) rfl)) (hw _ (List.mem_of_getElem? (i := 42) rfl)) (hw _ (List.mem_of_getElem? (i := 5) rfl)) (hw _ (List.mem_of_getElem? (i := 43) rfl)) (by decide) (lenOf pd_17 rfl) (hb K.2.1 at_178)) (kPick l Z a0 hw _ n0 O36 x1 k1 (.int 0) n hn y0 y1 y2 y3 y4 y5 y6 y7 ⟨ya0, yb0⟩ ⟨ya1, yb1⟩ ⟨ya2, yb2⟩ ⟨ya3, yb3⟩ ⟨ya4, yb4⟩ ⟨ya5, yb5⟩ ⟨ya6, yb6⟩ ⟨ya7, yb7⟩ A8) nofun (hw _ (List.mem_of_getElem? (i := 43) rfl)) (hw _ (List.mem_of_getElem? (i := 5) rfl)) at_178 rfl (by decide) (Nat.le_of_ble_eq_true rfl) (by decide) (by decide) ?_
    rintro _ h37 L37 _ ⟨tp, kp, rfl, rfl, qtp, gtp, N37, O37, K37, Atp⟩
    show Go true p l e _ s m _ below meth c Z EL1 _ _ _ (mkF m 181 _ [.ref tp, .ref x35, .ref x35]) _ _ _ _
    have F38_0 := F35_0.keep K37 nin0
    have F38_1 := F35_1.keep K37 nin0
    have X38_2 := X35.keep K37
    have A38_3 := A8.keep K37 nin0
    have O38 := O36.keep K37 (fun y q => by simp only [List.mem_cons, List.not_mem_nil, or_false] at q)
    have cut2 : ∀ (hh : Heap) (LL : List Loc) (t : Addr) (kb : ClassId) (cd N2 : Int32) (vs : List Value), Old Z n0 hh → Fr n0 LL → StrW Z hh x35 t kb cd N2 vs ([y0, y1, y2, y3, y4, y5, y6, y7].take n) → Arv Z hh x1 k1 .char 8 ([y0, y1, y2, y3, y4, y5, y6, y7].map Value.int) (.int 0) → Go true p l e room_1 s m #[.long lp, .long lq, .int i4, .int i5] below meth c Z EL1 "com/example/grantline/grantline/name/NamesIsOperationIdPinLaw" (fun v h' L A => v = some (.int 1) ∧ Fr n0 L) [] (mkF m 184 #[.val (.long lp), .second, .val (.long lq), .second, .val (.int i4), .val (.int i5), .val (.int (Int32.ofNat n)), .val (.int nb), .val (.ref x1), .unset, .unset, .unset, .unset, .unset, .unset] [.ref x35]) hh LL 23 500 := by
      intro hh LL t kb cd N2 vs OO NN XX AA
      refine Go.astore K #[.val (.long lp), .second, .val (.long lq), .second, .val (.int i4), .val (.int i5), .val (.int (Int32.ofNat n)), .val (.int nb), .val (.ref x1), .val (.ref x35), .unset, .unset, .unset, .unset, .unset] e0_184 rfl rfl ?_
      have cut3 : ∀ (d : Bool) (LX : List Loc) (cx sx : Nat), (d = true ↔ 1 ≤ n ∧ ∀ i, i < 8 → okP [y0, y1, y2, y3, y4, y5, y6, y7] n i) → Fr n0 LX → cx ≤ 23 → sx ≤ 500 → Go true p l e room_1 s m #[.long lp, .long lq, .int i4, .int i5] below meth c Z EL1 "com/example/grantline/grantline/name/NamesIsOperationIdPinLaw" (fun v h' L A => v = some (.int 1) ∧ Fr n0 L) [] (mkF m 287 #[.val (.long lp), .second, .val (.long lq), .second, .val (.int i4), .val (.int i5), .val (.int (Int32.ofNat n)), .val (.int nb), .val (.ref x1), .val (.ref x35), .unset, .unset, .unset, .unset, .unset] [.int (bI d)]) hh LX cx sx := by
        intro d LX cx sx hd NX hcx hsx
        have hop : opId ([y0, y1, y2, y3, y4, y5, y6, y7].take n) = d := by
          have q := (op_law [y0, y1, y2, y3, y4, y5, y6, y7] rfl n hn).trans hd.symm
          cases d <;> cases e : opId ([y0, y1, y2, y3, y4, y5, y6, y7].take n) <;> simp_all
        refine Go.mono (cells' := 23) (slots' := 500) hcx hsx ?_
        refine Go.istore K #[.val (.long lp), .second, .val (.long lq), .second, .val (.int i4), .val (.int i5), .val (.int (Int32.ofNat n)), .val (.int nb), .val (.ref x1), .val (.ref x35), .val (.int (bI d)), .unset, .unset, .unset, .unset] e0_287 rfl ?_
        refine Go.aload K e0_289 rfl rfl ?_
        refine Go.call K hE (Inv.static (argsL := [.ref x35]) (S := []) K.1 (hw _ (List.mem_of_getElem? (i := 55) rfl)) (hw _ (List.mem_of_getElem? (i := 56) rfl)) (hw _ (List.mem_of_getElem? (i := 57) rfl)) (hw _ (List.mem_of_getElem? (i := 58) rfl)) (by decide) (lenOf pd_18 rfl) (hb K.2.1 at_291)) (kOp l Z a0 hw _ n0 OO z St hz SA SH SL0 fm SF rf x35 t kb cd N2 vs ([y0, y1, y2, y3, y4, y5, y6, y7].take n) XX) nofun (hw _ (List.mem_of_getElem? (i := 58) rfl)) (hw _ (List.mem_of_getElem? (i := 57) rfl)) at_291 rfl (by decide) (Nat.le_of_ble_eq_true rfl) (by decide) (by decide) ?_
        rintro _ hq _ _ ⟨rfl, eh291, rfl, rfl⟩
        subst hq
        show Go true p l e _ s m _ below meth c Z EL1 _ _ _ (mkF m 294 _ [.int (bI (opId ([y0, y1, y2, y3, y4, y5, y6, y7].take n)))]) _ _ _ _
        refine Go.iload K e0_294 rfl ?_
        refine Go.icmp K e0_296 (fun (c296 : ¬ ((bI (opId ([y0, y1, y2, y3, y4, y5, y6, y7].take n)))) = ((bI d))) => ?_) (fun (c296 : ((bI (opId ([y0, y1, y2, y3, y4, y5, y6, y7].take n)))) = ((bI d))) => ?_)
        · exact absurd (bI_inj hop) c296
        · refine Go.iconst K e0_299 (1) (by first | rfl | decide) ?_
          refine Go.goto K e0_300 ?_
          refine Go.istore K #[.val (.long lp), .second, .val (.long lq), .second, .val (.int i4), .val (.int i5), .val (.int (Int32.ofNat n)), .val (.int nb), .val (.ref x1), .val (.ref x35), .val (.int (bI d)), .val (.int 1), .unset, .unset, .unset] e0_304 rfl ?_
          refine Go.ldcR K rfl hEW (by decide) (hw _ (List.mem_of_getElem? (i := 64) rfl)) hsa (vs := cs35.map fun c => Value.int (StrChars.lo8 c)) (z := 128) ⟨by decide +kernel, by decide +kernel⟩ (by decide) (by decide +kernel) e0_306 (n := 512) (by decide +kernel) (by decide) (by decide) (by decide) (fun a35 h35 b35 k35 E35 X35 C35 V35 A35 ne35 => ?_)
          have S35 := lit_w X35 C35 V35 A35 (by decide +kernel) (by decide +kernel) (by decide +kernel) (by decide +kernel)
          have O35 := OO.ext E35
          refine Go.astore K #[.val (.long lp), .second, .val (.long lq), .second, .val (.int i4), .val (.int i5), .val (.int (Int32.ofNat n)), .val (.int nb), .val (.ref x1), .val (.ref x35), .val (.int (bI d)), .val (.int 1), .val (.ref a35), .unset, .unset] e0_308 rfl rfl ?_
          refine Go.ldcR K rfl hEW (by decide) (hw _ (List.mem_of_getElem? (i := 65) rfl)) hsa (vs := cs37.map fun c => Value.int (StrChars.lo8 c)) (z := 129) ⟨by decide +kernel, by decide +kernel⟩ (by decide) (by decide +kernel) e0_310 (n := 516) (by decide +kernel) (by decide) (by decide) (by decide) (fun a37 h37 b37 k37 E37 X37 C37 V37 A37 ne37 => ?_)
          have S37 := lit_w X37 C37 V37 A37 (by decide +kernel) (by decide +kernel) (by decide +kernel) (by decide +kernel)
          have O37 := O35.ext E37
          replace S35 := strw_ext S35 E37
          have o35 : opId cs35 = true := by decide +kernel
          have o37 : opId cs37 = false := by decide +kernel
          refine Go.astore K #[.val (.long lp), .second, .val (.long lq), .second, .val (.int i4), .val (.int i5), .val (.int (Int32.ofNat n)), .val (.int nb), .val (.ref x1), .val (.ref x35), .val (.int (bI d)), .val (.int 1), .val (.ref a35), .val (.ref a37), .unset] e0_312 rfl rfl ?_
          refine Go.aload K e0_314 rfl rfl ?_
          refine Go.call K hE (Inv.static (argsL := [.ref a35]) (S := []) K.1 (hw _ (List.mem_of_getElem? (i := 55) rfl)) (hw _ (List.mem_of_getElem? (i := 56) rfl)) (hw _ (List.mem_of_getElem? (i := 57) rfl)) (hw _ (List.mem_of_getElem? (i := 58) rfl)) (by decide) (lenOf pd_18 rfl) (hb K.2.1 at_316)) (kOp l Z a0 hw _ n0 O37 z St hz SA SH SL0 fm SF rf a35 b35 k35 _ _ _ cs35 S35) nofun (hw _ (List.mem_of_getElem? (i := 58) rfl)) (hw _ (List.mem_of_getElem? (i := 57) rfl)) at_316 rfl (by decide) (Nat.le_of_ble_eq_true rfl) (by decide) (by decide) ?_
          rintro _ hq _ _ ⟨rfl, eh316, rfl, rfl⟩
          subst hq
          rw [o35]
          show Go true p l e _ s m _ below meth c Z EL1 _ _ _ (mkF m 319 _ [.int 1]) _ _ _ _
          refine Go.ifc K e0_319 (fun (c319 : (1 : Int32) = (0 : Int32)) => ?_) (fun (c319 : ¬ (1 : Int32) = (0 : Int32)) => ?_)
          · exact absurd c319 (by decide)
          · refine Go.aload K e0_322 rfl rfl ?_
            refine Go.call K hE (Inv.static (argsL := [.ref a37]) (S := []) K.1 (hw _ (List.mem_of_getElem? (i := 55) rfl)) (hw _ (List.mem_of_getElem? (i := 56) rfl)) (hw _ (List.mem_of_getElem? (i := 57) rfl)) (hw _ (List.mem_of_getElem? (i := 58) rfl)) (by decide) (lenOf pd_18 rfl) (hb K.2.1 at_324)) (kOp l Z a0 hw _ n0 O37 z St hz SA SH SL0 fm SF rf a37 b37 k37 _ _ _ cs37 S37) nofun (hw _ (List.mem_of_getElem? (i := 58) rfl)) (hw _ (List.mem_of_getElem? (i := 57) rfl)) at_324 rfl (by decide) (Nat.le_of_ble_eq_true rfl) (by decide) (by decide) ?_
            rintro _ hq _ _ ⟨rfl, eh324, rfl, rfl⟩
            subst hq
            rw [o37]
            show Go true p l e _ s m _ below meth c Z EL1 _ _ _ (mkF m 327 _ [.int 0]) _ _ _ _
            refine Go.ifc K e0_327 (fun (c327 : ¬ (0 : Int32) = (0 : Int32)) => ?_) (fun (c327 : (0 : Int32) = (0 : Int32)) => ?_)
            · exact absurd rfl c327
            · refine Go.iconst K e0_330 (1) (by first | rfl | decide) ?_
              refine Go.goto K e0_331 ?_
              refine Go.istore K #[.val (.long lp), .second, .val (.long lq), .second, .val (.int i4), .val (.int i5), .val (.int (Int32.ofNat n)), .val (.int nb), .val (.ref x1), .val (.ref x35), .val (.int (bI d)), .val (.int 1), .val (.ref a35), .val (.ref a37), .val (.int 1)] e0_335 rfl ?_
              refine Go.iload K e0_337 rfl ?_
              refine Go.ifc K e0_339 (fun (c339 : (1 : Int32) = (0 : Int32)) => ?_) (fun (c339 : ¬ (1 : Int32) = (0 : Int32)) => ?_)
              · exact absurd c339 (by decide)
              · refine Go.iload K e0_342 rfl ?_
                refine Go.ifc K e0_344 (fun (c344 : (1 : Int32) = (0 : Int32)) => ?_) (fun (c344 : ¬ (1 : Int32) = (0 : Int32)) => ?_)
                · exact absurd c344 (by decide)
                · refine Go.iconst K e0_347 (1) (by first | rfl | decide) ?_
                  refine Go.goto K e0_348 ?_
                  exact Go.nret K hE e0_352 (Or.inl rfl) (by decide) (by decide) (A := []) nofun ⟨rfl, by simpa using (((NX.app (Fr.nil n0)).app (Fr.nil n0)).app (Fr.nil n0))⟩
      refine Go.iload K e0_186 rfl ?_
      refine Go.iconst K e0_188 (1) (by first | rfl | decide) ?_
      refine Go.icmp K e0_189 (fun (c189 : ((Int32.ofNat n)) < (1 : Int32)) => ?_) (fun (c189 : ¬ ((Int32.ofNat n)) < (1 : Int32)) => ?_)
      · refine Go.iconst K e0_286 (0) (by first | rfl | decide) ?_
        exact Go.sub (SL' := []) nofun (cut3 false _ _ _ ⟨nofun, fun q => absurd ((lt_n (j := 1) (by omega) (by omega)).mp c189) (by have := q.1; omega)⟩ (by simpa using NN) (by decide) (by decide))
      · refine Go.aload K e0_192 rfl rfl ?_
        refine Go.iload K e0_194 rfl ?_
        refine Go.iconst K e0_196 (0) (by first | rfl | decide) ?_
        refine Go.call K hE (Inv.static (argsL := [.ref x1, .int (Int32.ofNat n), .int 0]) (S := []) K.1 (hw _ (List.mem_of_getElem? (i := 93) rfl)) (hw _ (List.mem_of_getElem? (i := 94) rfl)) (hw _ (List.mem_of_getElem? (i := 5) rfl)) (hw _ (List.mem_of_getElem? (i := 95) rfl)) (by decide) (lenOf pd_19 rfl) (hb K.2.1 at_197)) (kOk l Z a0 hw _ x1 _ _ n 0 hn (by decide) [y0, y1, y2, y3, y4, y5, y6, y7] rfl AA) nofun (hw _ (List.mem_of_getElem? (i := 95) rfl)) (hw _ (List.mem_of_getElem? (i := 5) rfl)) at_197 rfl (by decide) (Nat.le_of_ble_eq_true rfl) (by decide) (by decide) ?_
        rintro _ hq _ _ ⟨d0, rfl, e0, eh0, rfl, rfl⟩
        subst hq
        show Go true p l e _ s m _ below meth c Z EL1 _ _ _ (mkF m 200 _ [.int (bI d0)]) _ _ _ _
        refine Go.ifc K e0_200 (fun (c200 : ((bI d0)) = (0 : Int32)) => ?_) (fun (c200 : ¬ ((bI d0)) = (0 : Int32)) => ?_)
        · refine Go.iconst K e0_286 (0) (by first | rfl | decide) ?_
          exact Go.sub (SL' := []) nofun (cut3 false _ _ _ ⟨nofun, fun q => absurd (e0.mpr (q.2 0 (by decide))) (by rw [bI_z.mp c200]; decide)⟩ (by simpa using (NN.app (Fr.nil n0))) (by decide) (by decide))
        · refine Go.aload K e0_203 rfl rfl ?_
          refine Go.iload K e0_205 rfl ?_
          refine Go.iconst K e0_207 (1) (by first | rfl | decide) ?_
          refine Go.call K hE (Inv.static (argsL := [.ref x1, .int (Int32.ofNat n), .int 1]) (S := []) K.1 (hw _ (List.mem_of_getElem? (i := 93) rfl)) (hw _ (List.mem_of_getElem? (i := 94) rfl)) (hw _ (List.mem_of_getElem? (i := 5) rfl)) (hw _ (List.mem_of_getElem? (i := 95) rfl)) (by decide) (lenOf pd_19 rfl) (hb K.2.1 at_208)) (kOk l Z a0 hw _ x1 _ _ n 1 hn (by decide) [y0, y1, y2, y3, y4, y5, y6, y7] rfl AA) nofun (hw _ (List.mem_of_getElem? (i := 95) rfl)) (hw _ (List.mem_of_getElem? (i := 5) rfl)) at_208 rfl (by decide) (Nat.le_of_ble_eq_true rfl) (by decide) (by decide) ?_
          rintro _ hq _ _ ⟨d1, rfl, e1, eh1, rfl, rfl⟩
          subst hq
          show Go true p l e _ s m _ below meth c Z EL1 _ _ _ (mkF m 211 _ [.int (bI d1)]) _ _ _ _
          refine Go.ifc K e0_211 (fun (c211 : ((bI d1)) = (0 : Int32)) => ?_) (fun (c211 : ¬ ((bI d1)) = (0 : Int32)) => ?_)
          · refine Go.iconst K e0_286 (0) (by first | rfl | decide) ?_
            exact Go.sub (SL' := []) nofun (cut3 false _ _ _ ⟨nofun, fun q => absurd (e1.mpr (q.2 1 (by decide))) (by rw [bI_z.mp c211]; decide)⟩ (by simpa using ((NN.app (Fr.nil n0)).app (Fr.nil n0))) (by decide) (by decide))
          · refine Go.aload K e0_214 rfl rfl ?_
            refine Go.iload K e0_216 rfl ?_
            refine Go.iconst K e0_218 (2) (by first | rfl | decide) ?_
            refine Go.call K hE (Inv.static (argsL := [.ref x1, .int (Int32.ofNat n), .int 2]) (S := []) K.1 (hw _ (List.mem_of_getElem? (i := 93) rfl)) (hw _ (List.mem_of_getElem? (i := 94) rfl)) (hw _ (List.mem_of_getElem? (i := 5) rfl)) (hw _ (List.mem_of_getElem? (i := 95) rfl)) (by decide) (lenOf pd_19 rfl) (hb K.2.1 at_219)) (kOk l Z a0 hw _ x1 _ _ n 2 hn (by decide) [y0, y1, y2, y3, y4, y5, y6, y7] rfl AA) nofun (hw _ (List.mem_of_getElem? (i := 95) rfl)) (hw _ (List.mem_of_getElem? (i := 5) rfl)) at_219 rfl (by decide) (Nat.le_of_ble_eq_true rfl) (by decide) (by decide) ?_
            rintro _ hq _ _ ⟨d2, rfl, e2, eh2, rfl, rfl⟩
            subst hq
            show Go true p l e _ s m _ below meth c Z EL1 _ _ _ (mkF m 222 _ [.int (bI d2)]) _ _ _ _
            refine Go.ifc K e0_222 (fun (c222 : ((bI d2)) = (0 : Int32)) => ?_) (fun (c222 : ¬ ((bI d2)) = (0 : Int32)) => ?_)
            · refine Go.iconst K e0_286 (0) (by first | rfl | decide) ?_
              exact Go.sub (SL' := []) nofun (cut3 false _ _ _ ⟨nofun, fun q => absurd (e2.mpr (q.2 2 (by decide))) (by rw [bI_z.mp c222]; decide)⟩ (by simpa using (((NN.app (Fr.nil n0)).app (Fr.nil n0)).app (Fr.nil n0))) (by decide) (by decide))
            · refine Go.aload K e0_225 rfl rfl ?_
              refine Go.iload K e0_227 rfl ?_
              refine Go.iconst K e0_229 (3) (by first | rfl | decide) ?_
              refine Go.call K hE (Inv.static (argsL := [.ref x1, .int (Int32.ofNat n), .int 3]) (S := []) K.1 (hw _ (List.mem_of_getElem? (i := 93) rfl)) (hw _ (List.mem_of_getElem? (i := 94) rfl)) (hw _ (List.mem_of_getElem? (i := 5) rfl)) (hw _ (List.mem_of_getElem? (i := 95) rfl)) (by decide) (lenOf pd_19 rfl) (hb K.2.1 at_230)) (kOk l Z a0 hw _ x1 _ _ n 3 hn (by decide) [y0, y1, y2, y3, y4, y5, y6, y7] rfl AA) nofun (hw _ (List.mem_of_getElem? (i := 95) rfl)) (hw _ (List.mem_of_getElem? (i := 5) rfl)) at_230 rfl (by decide) (Nat.le_of_ble_eq_true rfl) (by decide) (by decide) ?_
              rintro _ hq _ _ ⟨d3, rfl, e3, eh3, rfl, rfl⟩
              subst hq
              show Go true p l e _ s m _ below meth c Z EL1 _ _ _ (mkF m 233 _ [.int (bI d3)]) _ _ _ _
              refine Go.ifc K e0_233 (fun (c233 : ((bI d3)) = (0 : Int32)) => ?_) (fun (c233 : ¬ ((bI d3)) = (0 : Int32)) => ?_)
              · refine Go.iconst K e0_286 (0) (by first | rfl | decide) ?_
                exact Go.sub (SL' := []) nofun (cut3 false _ _ _ ⟨nofun, fun q => absurd (e3.mpr (q.2 3 (by decide))) (by rw [bI_z.mp c233]; decide)⟩ (by simpa using ((((NN.app (Fr.nil n0)).app (Fr.nil n0)).app (Fr.nil n0)).app (Fr.nil n0))) (by decide) (by decide))
              · refine Go.aload K e0_236 rfl rfl ?_
                refine Go.iload K e0_238 rfl ?_
                refine Go.iconst K e0_240 (4) (by first | rfl | decide) ?_
                refine Go.call K hE (Inv.static (argsL := [.ref x1, .int (Int32.ofNat n), .int 4]) (S := []) K.1 (hw _ (List.mem_of_getElem? (i := 93) rfl)) (hw _ (List.mem_of_getElem? (i := 94) rfl)) (hw _ (List.mem_of_getElem? (i := 5) rfl)) (hw _ (List.mem_of_getElem? (i := 95) rfl)) (by decide) (lenOf pd_19 rfl) (hb K.2.1 at_241)) (kOk l Z a0 hw _ x1 _ _ n 4 hn (by decide) [y0, y1, y2, y3, y4, y5, y6, y7] rfl AA) nofun (hw _ (List.mem_of_getElem? (i := 95) rfl)) (hw _ (List.mem_of_getElem? (i := 5) rfl)) at_241 rfl (by decide) (Nat.le_of_ble_eq_true rfl) (by decide) (by decide) ?_
                rintro _ hq _ _ ⟨d4, rfl, e4, eh4, rfl, rfl⟩
                subst hq
                show Go true p l e _ s m _ below meth c Z EL1 _ _ _ (mkF m 244 _ [.int (bI d4)]) _ _ _ _
                refine Go.ifc K e0_244 (fun (c244 : ((bI d4)) = (0 : Int32)) => ?_) (fun (c244 : ¬ ((bI d4)) = (0 : Int32)) => ?_)
                · refine Go.iconst K e0_286 (0) (by first | rfl | decide) ?_
                  exact Go.sub (SL' := []) nofun (cut3 false _ _ _ ⟨nofun, fun q => absurd (e4.mpr (q.2 4 (by decide))) (by rw [bI_z.mp c244]; decide)⟩ (by simpa using (((((NN.app (Fr.nil n0)).app (Fr.nil n0)).app (Fr.nil n0)).app (Fr.nil n0)).app (Fr.nil n0))) (by decide) (by decide))
                · refine Go.aload K e0_247 rfl rfl ?_
                  refine Go.iload K e0_249 rfl ?_
                  refine Go.iconst K e0_251 (5) (by first | rfl | decide) ?_
                  refine Go.call K hE (Inv.static (argsL := [.ref x1, .int (Int32.ofNat n), .int 5]) (S := []) K.1 (hw _ (List.mem_of_getElem? (i := 93) rfl)) (hw _ (List.mem_of_getElem? (i := 94) rfl)) (hw _ (List.mem_of_getElem? (i := 5) rfl)) (hw _ (List.mem_of_getElem? (i := 95) rfl)) (by decide) (lenOf pd_19 rfl) (hb K.2.1 at_252)) (kOk l Z a0 hw _ x1 _ _ n 5 hn (by decide) [y0, y1, y2, y3, y4, y5, y6, y7] rfl AA) nofun (hw _ (List.mem_of_getElem? (i := 95) rfl)) (hw _ (List.mem_of_getElem? (i := 5) rfl)) at_252 rfl (by decide) (Nat.le_of_ble_eq_true rfl) (by decide) (by decide) ?_
                  rintro _ hq _ _ ⟨d5, rfl, e5, eh5, rfl, rfl⟩
                  subst hq
                  show Go true p l e _ s m _ below meth c Z EL1 _ _ _ (mkF m 255 _ [.int (bI d5)]) _ _ _ _
                  refine Go.ifc K e0_255 (fun (c255 : ((bI d5)) = (0 : Int32)) => ?_) (fun (c255 : ¬ ((bI d5)) = (0 : Int32)) => ?_)
                  · refine Go.iconst K e0_286 (0) (by first | rfl | decide) ?_
                    exact Go.sub (SL' := []) nofun (cut3 false _ _ _ ⟨nofun, fun q => absurd (e5.mpr (q.2 5 (by decide))) (by rw [bI_z.mp c255]; decide)⟩ (by simpa using ((((((NN.app (Fr.nil n0)).app (Fr.nil n0)).app (Fr.nil n0)).app (Fr.nil n0)).app (Fr.nil n0)).app (Fr.nil n0))) (by decide) (by decide))
                  · refine Go.aload K e0_258 rfl rfl ?_
                    refine Go.iload K e0_260 rfl ?_
                    refine Go.bipush K e0_262 (6) (by first | rfl | decide) ?_
                    refine Go.call K hE (Inv.static (argsL := [.ref x1, .int (Int32.ofNat n), .int 6]) (S := []) K.1 (hw _ (List.mem_of_getElem? (i := 93) rfl)) (hw _ (List.mem_of_getElem? (i := 94) rfl)) (hw _ (List.mem_of_getElem? (i := 5) rfl)) (hw _ (List.mem_of_getElem? (i := 95) rfl)) (by decide) (lenOf pd_19 rfl) (hb K.2.1 at_264)) (kOk l Z a0 hw _ x1 _ _ n 6 hn (by decide) [y0, y1, y2, y3, y4, y5, y6, y7] rfl AA) nofun (hw _ (List.mem_of_getElem? (i := 95) rfl)) (hw _ (List.mem_of_getElem? (i := 5) rfl)) at_264 rfl (by decide) (Nat.le_of_ble_eq_true rfl) (by decide) (by decide) ?_
                    rintro _ hq _ _ ⟨d6, rfl, e6, eh6, rfl, rfl⟩
                    subst hq
                    show Go true p l e _ s m _ below meth c Z EL1 _ _ _ (mkF m 267 _ [.int (bI d6)]) _ _ _ _
                    refine Go.ifc K e0_267 (fun (c267 : ((bI d6)) = (0 : Int32)) => ?_) (fun (c267 : ¬ ((bI d6)) = (0 : Int32)) => ?_)
                    · refine Go.iconst K e0_286 (0) (by first | rfl | decide) ?_
                      exact Go.sub (SL' := []) nofun (cut3 false _ _ _ ⟨nofun, fun q => absurd (e6.mpr (q.2 6 (by decide))) (by rw [bI_z.mp c267]; decide)⟩ (by simpa using (((((((NN.app (Fr.nil n0)).app (Fr.nil n0)).app (Fr.nil n0)).app (Fr.nil n0)).app (Fr.nil n0)).app (Fr.nil n0)).app (Fr.nil n0))) (by decide) (by decide))
                    · refine Go.aload K e0_270 rfl rfl ?_
                      refine Go.iload K e0_272 rfl ?_
                      refine Go.bipush K e0_274 (7) (by first | rfl | decide) ?_
                      refine Go.call K hE (Inv.static (argsL := [.ref x1, .int (Int32.ofNat n), .int 7]) (S := []) K.1 (hw _ (List.mem_of_getElem? (i := 93) rfl)) (hw _ (List.mem_of_getElem? (i := 94) rfl)) (hw _ (List.mem_of_getElem? (i := 5) rfl)) (hw _ (List.mem_of_getElem? (i := 95) rfl)) (by decide) (lenOf pd_19 rfl) (hb K.2.1 at_276)) (kOk l Z a0 hw _ x1 _ _ n 7 hn (by decide) [y0, y1, y2, y3, y4, y5, y6, y7] rfl AA) nofun (hw _ (List.mem_of_getElem? (i := 95) rfl)) (hw _ (List.mem_of_getElem? (i := 5) rfl)) at_276 rfl (by decide) (Nat.le_of_ble_eq_true rfl) (by decide) (by decide) ?_
                      rintro _ hq _ _ ⟨d7, rfl, e7, eh7, rfl, rfl⟩
                      subst hq
                      show Go true p l e _ s m _ below meth c Z EL1 _ _ _ (mkF m 279 _ [.int (bI d7)]) _ _ _ _
                      refine Go.ifc K e0_279 (fun (c279 : ((bI d7)) = (0 : Int32)) => ?_) (fun (c279 : ¬ ((bI d7)) = (0 : Int32)) => ?_)
                      · refine Go.iconst K e0_286 (0) (by first | rfl | decide) ?_
                        exact Go.sub (SL' := []) nofun (cut3 false _ _ _ ⟨nofun, fun q => absurd (e7.mpr (q.2 7 (by decide))) (by rw [bI_z.mp c279]; decide)⟩ (by simpa using ((((((((NN.app (Fr.nil n0)).app (Fr.nil n0)).app (Fr.nil n0)).app (Fr.nil n0)).app (Fr.nil n0)).app (Fr.nil n0)).app (Fr.nil n0)).app (Fr.nil n0))) (by decide) (by decide))
                      · refine Go.iconst K e0_282 (1) (by first | rfl | decide) ?_
                        refine Go.goto K e0_283 ?_
                        exact Go.sub (SL' := []) nofun (cut3 true _ _ _ ⟨fun _ => ⟨Nat.le_of_not_lt (fun q => c189 ((lt_n (j := 1) (by omega) (by omega)).mpr q)), fun i hi => by rcases (by omega : i = 0 ∨ i = 1 ∨ i = 2 ∨ i = 3 ∨ i = 4 ∨ i = 5 ∨ i = 6 ∨ i = 7) with rfl | rfl | rfl | rfl | rfl | rfl | rfl | rfl; exact e0.mp (bI_n.mp c200); exact e1.mp (bI_n.mp c211); exact e2.mp (bI_n.mp c222); exact e3.mp (bI_n.mp c233); exact e4.mp (bI_n.mp c244); exact e5.mp (bI_n.mp c255); exact e6.mp (bI_n.mp c267); exact e7.mp (bI_n.mp c279)⟩, fun _ => rfl⟩ (by simpa using ((((((((NN.app (Fr.nil n0)).app (Fr.nil n0)).app (Fr.nil n0)).app (Fr.nil n0)).app (Fr.nil n0)).app (Fr.nil n0)).app (Fr.nil n0)).app (Fr.nil n0))) (by decide) (by decide))
    have tl : ([y0, y1, y2, y3, y4, y5, y6, y7].take n).length = n := by rw [List.length_take]; exact Nat.min_eq_left hn
    have hys : ∀ c ∈ [y0, y1, y2, y3, y4, y5, y6, y7].take n, ¬ c < 0 ∧ ¬ (65535 : Int32) < c := fun c hc => by
      have q := List.mem_of_mem_take hc
      simp only [List.mem_cons, List.not_mem_nil, or_false] at q
      rcases q with rfl | rfl | rfl | rfl | rfl | rfl | rfl | rfl
      · exact ⟨ya0, yb0⟩
      · exact ⟨ya1, yb1⟩
      · exact ⟨ya2, yb2⟩
      · exact ⟨ya3, yb3⟩
      · exact ⟨ya4, yb4⟩
      · exact ⟨ya5, yb5⟩
      · exact ⟨ya6, yb6⟩
      · exact ⟨ya7, yb7⟩
    rcases Nat.eq_zero_or_pos n with q0 | q0
    · subst q0
      refine Go.call K hE (Inv.special (argsL := [.ref tp]) (S := [.ref x35]) K.1 rfl (hw _ (List.mem_of_getElem? (i := 44) rfl)) (hw _ (List.mem_of_getElem? (i := 45) rfl)) (hw _ (List.mem_of_getElem? (i := 46) rfl)) (by decide) (lenOf pd_20 rfl) (hb K.2.1 at_181)) (kE1 l Z a0 hw _ n0 O38 x35 tp _ _ qa35 X38_2 F38_0 F38_1 kp _ _ Atp) (by simp) (hw _ (List.mem_of_getElem? (i := 46) rfl)) (hw _ (List.mem_of_getElem? (i := 8) rfl)) at_181 rfl (by decide) (Nat.le_of_ble_eq_true rfl) (by decide) (by decide) ?_
      rintro _ h9 L9 _ ⟨bb, kb, rfl, rfl, N9, O9, K9, X9, V9, C9, A9, ne9⟩
      exact Go.mono (cells' := 23) (slots' := 500) (by decide) (by decide) (Go.sub (SL' := []) nofun (cut2 h9 _ bb kb 0 0 [] O9 (((Fr.s ((Fr.s ((Fr.s ((Fr.s ((Fr.s ((Fr.s ((Fr.s ((Fr.s ((Fr.nil n0).app N3) qa1).app N7) qa1).app N11) qa1).app N15) qa1).app N19) qa1).app N23) qa1).app N27) qa1).app N31) qa1).app N37).app N9) ⟨X9, V9, C9, A9, Or.inl ⟨rfl, rfl, rfl, nofun⟩, nofun, by simp⟩ (A38_3.keep K9 (fun q => absurd (List.mem_singleton.mp q) (Nat.ne_of_lt l35_x1)))))
    · refine Go.call K hE (Inv.special (argsL := [.ref tp]) (S := [.ref x35]) K.1 rfl (hw _ (List.mem_of_getElem? (i := 44) rfl)) (hw _ (List.mem_of_getElem? (i := 45) rfl)) (hw _ (List.mem_of_getElem? (i := 46) rfl)) (by decide) (lenOf pd_20 rfl) (hb K.2.1 at_181)) (kN1 l Z a0 hw _ n0 O38 z St hz SA SH SL0 x35 tp _ _ qa35 X38_2 F38_0 F38_1 ([y0, y1, y2, y3, y4, y5, y6, y7].take n) hys (by rw [tl]; exact hn) _ (by rw [tl]) kp _ Atp (by rw [tl]; exact q0)) (by simp) (hw _ (List.mem_of_getElem? (i := 46) rfl)) (hw _ (List.mem_of_getElem? (i := 8) rfl)) at_181 rfl (by decide) (Nat.le_of_ble_eq_true rfl) (by decide) (by decide) ?_
      rintro _ h9 L9 _ ⟨t, kb, cd, N2, vs, rfl, rfl, N9, O9, K9, XX9⟩
      exact Go.mono (cells' := 23) (slots' := 500) (by decide) (by decide) (Go.sub (SL' := []) nofun (cut2 h9 _ t kb cd N2 vs O9 (((Fr.s ((Fr.s ((Fr.s ((Fr.s ((Fr.s ((Fr.s ((Fr.s ((Fr.s ((Fr.nil n0).app N3) qa1).app N7) qa1).app N11) qa1).app N15) qa1).app N19) qa1).app N23) qa1).app N27) qa1).app N31) qa1).app N37).app N9) XX9 (A38_3.keep K9 (fun q => absurd (List.mem_singleton.mp q) (Nat.ne_of_lt l35_x1)))))
  refine Go.iload K e0_10 rfl ?_
  refine Go.iconst K e0_12 (1) (by first | rfl | decide) ?_
  refine Go.iand K e0_13 ?_
  refine Go.ifc K e0_14 (fun (c14 : ((i5 &&& (1 : Int32))) = (0 : Int32)) => ?_) (fun (c14 : ¬ ((i5 &&& (1 : Int32))) = (0 : Int32)) => ?_)
  · refine Go.iconst K e0_21 (0) (by first | rfl | decide) ?_
    refine Go.istore K #[.val (.long lp), .second, .val (.long lq), .second, .val (.int i4), .val (.int i5), .val (.int (Int32.ofNat n)), .val (.int 0), .unset, .unset, .unset, .unset, .unset, .unset, .unset] e0_22 rfl ?_
    exact cut1 _
  · refine Go.iconst K e0_17 (1) (by first | rfl | decide) ?_
    refine Go.goto K e0_18 ?_
    refine Go.istore K #[.val (.long lp), .second, .val (.long lq), .second, .val (.int i4), .val (.int i5), .val (.int (Int32.ofNat n)), .val (.int 1), .unset, .unset, .unset, .unset, .unset, .unset, .unset] e0_22 rfl ?_
    exact cut1 _
theorem eqK {t : Term} {k : Int32} {args : Array Value} {first s : State} {o : Option Outcome} {idx : List Nat} (h : (Jvm.Cond.eq t (.int k)).value args first o s idx = some true) : t.eval args first o idx s = some (.int k) := by
  simp only [Cond.value, Term.eval] at h
  cases ht : t.eval args first o idx s with
  | none => simp [ht] at h
  | some x => cases x <;> simp [ht] at h ⊢ <;> exact h
set_option maxRecDepth 65536 in
set_option maxHeartbeats 40000000 in
theorem comes_1 {Post : Tables → Env → Array Value → State → Outcome → State → Prop} (hpost : ∀ tb e args s v u, (limb_1_1.after args s (.returned v) u = true ∧ limb_1_2.after args s (.returned v) u = true) → FramedW s (.returned v) u (Jvm.fieldLocs frame_1_writes args s ++ Jvm.arrayLocs frame_1_arrays args s ++ Jvm.staticLocs frame_1_statics s) 32 4288 → Post tb e args s (.returned v) u) :
    ArmFor flags0 classFile x code maxLocals ret World_1 tables_1 room_1 Calls_1 rest_1 Pre_1 Post := by
  intro l hfl _ _ p e ha hc hk s m args below hf hA hF happ hP
  obtain ⟨hcalls, hrest, hpre⟩ := hP
  obtain ⟨-, -, -, hnamed, -, -, -, hat⟩ := (Spec.applies_iff hf).mp happ
  obtain ⟨hg, hn⟩ := and_e (Cond.before_iff.mp (show (Jvm.Cond.and given_1 narrow_1).before args s = true from hpre))
  obtain ⟨h1, h2⟩ := and_e hg
  obtain ⟨h2, h3⟩ := and_e h2
  obtain ⟨h3, h4⟩ := and_e h3
  obtain ⟨h4, h5⟩ := and_e h4
  obtain ⟨w0, w1, w2, w3, rfl⟩ : ∃ w0 w1 w2 w3 : Value, args = #[w0, w1, w2, w3] := by
    have hs : args.size = 4 := by simpa [Cond.value, given_1] using h1
    obtain ⟨L⟩ := args
    match L, hs with
    | [w0, w1, w2, w3], _ => exact ⟨w0, w1, w2, w3, rfl⟩
  have hw := fun d (hd : d ∈ tables_1) => atoms_spec (ws := Jvm.Cond.code x code maxLocals ret :: tables_1) hat d (List.mem_cons_of_mem _ hd)
  obtain ⟨hsets, -⟩ := atoms_of jdkStatics_1 (show (jdkStatics_1.foldr Jvm.Cond.and restOwn_1).before _ s = true from hrest)
  obtain ⟨i0, e0⟩ := isL_v h2
  obtain rfl : w0 = (.long i0) := Option.some.inj e0
  obtain ⟨i1, e1⟩ := isL_v h3
  obtain rfl : w1 = (.long i1) := Option.some.inj e1
  obtain ⟨i2, e2⟩ := is_v h4
  obtain rfl : w2 = (.int i2) := Option.some.inj e2
  obtain ⟨i3, e3⟩ := is_v h5
  obtain rfl : w3 = (.int i3) := Option.some.inj e3
  obtain ⟨z, ez⟩ := is_v (Cond.before_iff.mp (hsets _ (List.mem_of_getElem? (i := 1) rfl)))
  have St : Sta s s.heap "java/lang/String" "COMPACT_STRINGS" "Z" (.int z) := Sta.start ez (Or.inl (hsets _ (List.mem_of_getElem? (i := 0) rfl)))
  have hz : ¬ z = 0 := fun q => by
    have r := not_v (Cond.before_iff.mp (hsets _ (List.mem_of_getElem? (i := 2) rfl)))
    have r2 := (eq_i ez (Term.int_eval (0 : Int32)) (by rw [q]))
    rw [r] at r2
    cases r2
  obtain ⟨fm, efm, rf⟩ := isR_v (Cond.before_iff.mp (hsets _ (List.mem_of_getElem? (i := 8) rfl)))
  have SF : Sta s s.heap "jdk/internal/util/Preconditions" "SIOOBE_FORMATTER" "Ljava/util/function/BiFunction;" fm := Sta.start efm (Or.inl (hsets _ (List.mem_of_getElem? (i := 7) rfl)))
  have SA : Sta s s.heap "java/lang/StringUTF16" "$assertionsDisabled" "Z" (.int 1) := Sta.start (eqK (Cond.before_iff.mp (hsets _ (List.mem_of_getElem? (i := 12) rfl)))) (Or.inl (hsets _ (List.mem_of_getElem? (i := 11) rfl)))
  have SH : Sta s s.heap "java/lang/StringUTF16" "HI_BYTE_SHIFT" "I" (.int 0) := Sta.start (eqK (Cond.before_iff.mp (hsets _ (List.mem_of_getElem? (i := 15) rfl)))) (Or.inl (hsets _ (List.mem_of_getElem? (i := 14) rfl)))
  have SL0 : Sta s s.heap "java/lang/StringUTF16" "LO_BYTE_SHIFT" "I" (.int 8) := Sta.start (eqK (Cond.before_iff.mp (hsets _ (List.mem_of_getElem? (i := 18) rfl)))) (Or.inl (hsets _ (List.mem_of_getElem? (i := 17) rfl)))
  have hCH : CHv s EL1 s.vm s.heap := CHv.start (el1 hw) (fun p hp => hcalls.1 p hp) (hsets _ (List.mem_of_getElem? (i := 2) rfl)) (hw _ (List.mem_of_getElem? (i := 10) rfl)) (hw _ (List.mem_of_getElem? (i := 9) rfl))
  obtain ⟨n, o, h1, h2, h3, v, L, A, rfl, ⟨rfl, N⟩, -, -, hq⟩ := k0 l s _ hw tables_1 s.heap s.heap.size (Old.start s) z St hz SA SH SL0 fm SF rf i0 i1 i2 i3 p e ha hc hk s m _ below hf ((Spec.applies_iff_loose hf).mp happ).1 ⟨rfl, State.Warmed39.refl s, rfl, hCH, Sl.nil⟩ trivial
  obtain ⟨q1, q2, q3, q4⟩ := (show ReturnedEndW _ _ _ _ _ _ from hq)
  refine ⟨n, _, h1, h2, h3, hpost _ _ _ _ _ _ ⟨Cond.after_iff.mpr rfl, Cond.after_iff.mpr (eq_i res_at (Term.int_eval (1)) rfl)⟩ ⟨q1, q2, q3, (q4.sift fun y hy => Or.inr (N y hy)).mono (by decide) (by decide)⟩⟩
theorem main_1_1 : Claimed_1_1 := comes_1 fun _ _ _ _ _ _ h hF => ⟨h.1, hF⟩
theorem main_1_2 : Claimed_1_2 := comes_1 fun _ _ _ _ _ _ h hF => ⟨h.2, hF⟩
end Jvm.Pilot.@@N@@
namespace Jvm.Pilot.@@N@@
open Jvm Jvm.ClassFile Sem Op Lib Jvm.Free Jvm.Stand Jvm.Pilot.@@N@@.Jvm.D
/-! MADE BY PROGRAM (witnessworld.py) out of the Statement's table words and the real class files: 20 classes; the members and pool entries that the words name. The judged class is class 1, her method 1. -/
namespace start1
open Jvm.ClassFile
def u (s : String) : CpInfo := .utf8 (stringToUtf16 s)
/-- a pool by its gaps: so many unusable entries, then the entry; so many at the end -/
def gap : Nat → List CpInfo → List CpInfo
  | 0, r => r
  | n + 1, r => .unusable :: gap n r
def poolList (es : List (Nat × CpInfo)) (last : Nat) : List CpInfo := es.foldr (fun e r => gap e.1 (e.2 :: r)) (gap last [])
def pool (es : List (Nat × CpInfo)) (last : Nat) : Array CpInfo := ⟨poolList es last⟩
def fileOf (pool : Array CpInfo) (this : Nat) (attrs : Array Attribute := #[]) (ms : Array MethodInfo := #[]) (fl : Nat := 33) (sup : Nat := 0) (ifs : Array Nat := #[]) (fds : Array FieldInfo := #[]) : ClassFile where
  minorVersion := 0
  majorVersion := 65
  constantPool := pool
  accessFlags := fl
  thisClass := this
  superClass := sup
  interfaces := ifs
  fields := fds
  methods := ms
  attributes := attrs
def plain (name : String) (sup : Option ClassId) : Class where
  name := name
  kind := .ordinary
  loader := none
  accessFlags := 33
  super := sup
  interfaces := #[]
  cf := none
  fields := #[]
  methods := #[]
  instanceTypes := #[]
  staticTypes := #[]
  resolved := #[]
  callSites := []
  init := .initialized
  statics := none
  mirror := none

def pool0 : Array CpInfo := pool [(5, u "<init>"), (0, u "()V"), (1, .class_ 10), (1, u "java/lang/Object")] 113

def k0c0 : Code := { maxStack := 0, maxLocals := 1, code := object_method_1_code, exceptionTable := #[], attributes := #[] }
def k0m0 : Method := { name := "<init>", desc := "()V", sig := { parameters := [], returnType := none }, accessFlags := 1, code := some k0c0 }
/-- java/lang/Object -/
def k0 : Class := { plain "java/lang/Object" none with
  accessFlags := 33
  interfaces := #[]
  cf := some (fileOf pool0 8 #[] #[{ accessFlags := 1, nameIndex := 5, descriptorIndex := 6, attributes := #[] }] 33 0 #[] #[])
  fields := #[]
  methods := #[k0m0]
  instanceTypes := #[]
  staticTypes := #[]
  resolved := Array.replicate 124 none
  statics := none }

def pool1 : Array CpInfo := pool [(2, .class_ 4), (1, u "java/lang/Object"), (0, u "<init>"), (0, u "()V"), (0, .integer 2147483647), (0, .long 65535), (1, .methodref 11 12), (0, .class_ 13), (0, .nameAndType 14 15), (0, u "com/example/grantline/grantline/name/NamesIsOperationIdPinLaw"), (0, u "ch"), (0, u "(IZ)C"), (0, .class_ 17), (0, u "java/lang/String"), (0, .methodref 11 19), (0, .nameAndType 20 21), (0, u "pick"), (0, u "([CI)[C"), (0, .methodref 16 23), (0, .nameAndType 5 24), (0, u "([C)V"), (0, .methodref 11 26), (0, .nameAndType 27 28), (0, u "ok"), (0, u "([CII)Z"), (0, .methodref 30 31), (0, .class_ 32), (0, .nameAndType 33 34), (0, u "com/example/grantline/grantline/name/Names"), (0, u "isOperationId"), (0, u "(Ljava/lang/String;)Z"), (0, .string 36), (0, u "0123456-0123456-0123456-0123456-0123456-0123456-0123456-0123456-0123456-0123456-0123456-0123456-0123456-0123456-0123456-01234567"), (0, .string 38), (0, u "0123456-0123456-0123456-0123456-0123456-0123456-0123456-0123456-0123456-0123456-0123456-0123456-0123456-0123456-0123456-012345678"), (0, .string 40), (0, u "-a0z9-/:`{"), (0, .methodref 16 42), (0, .nameAndType 43 44), (0, u "charAt"), (0, u "(I)C"), (2, u "law"), (0, u "(JJII)Z")] 5

def k1m0 : Method := { name := "<init>", desc := "()V", sig := { parameters := [], returnType := none }, accessFlags := 1, code := none }
def k1c1 : Code := { maxStack := 6, maxLocals := 15, code := code, exceptionTable := #[], attributes := #[] }
def k1m1 : Method := { name := "law", desc := "(JJII)Z", sig := { parameters := [.long, .long, .int, .int], returnType := some .boolean }, accessFlags := 9, code := some k1c1 }
def k1c2 : Code := { maxStack := 3, maxLocals := 2, code := method_3_code, exceptionTable := #[], attributes := #[] }
def k1m2 : Method := { name := "ch", desc := "(IZ)C", sig := { parameters := [.int, .boolean], returnType := some .char }, accessFlags := 10, code := some k1c2 }
def k1c3 : Code := { maxStack := 3, maxLocals := 4, code := method_4_code, exceptionTable := #[], attributes := #[] }
def k1m3 : Method := { name := "ok", desc := "([CII)Z", sig := { parameters := [(.array .char), .int, .int], returnType := some .boolean }, accessFlags := 10, code := some k1c3 }
def k1c4 : Code := { maxStack := 5, maxLocals := 2, code := method_5_code, exceptionTable := #[], attributes := #[] }
def k1m4 : Method := { name := "pick", desc := "([CI)[C", sig := { parameters := [(.array .char), .int], returnType := some (.array .char) }, accessFlags := 10, code := some k1c4 }
/-- com/example/grantline/grantline/name/NamesIsOperationIdPinLaw -/
def k1 : Class := { plain "com/example/grantline/grantline/name/NamesIsOperationIdPinLaw" (some 0) with
  accessFlags := 49
  interfaces := #[]
  cf := some (fileOf pool1 11 #[] #[{ accessFlags := 1, nameIndex := 5, descriptorIndex := 6, attributes := #[] }, { accessFlags := 9, nameIndex := 47, descriptorIndex := 48, attributes := #[] }, { accessFlags := 10, nameIndex := 14, descriptorIndex := 15, attributes := #[] }, { accessFlags := 10, nameIndex := 27, descriptorIndex := 28, attributes := #[] }, { accessFlags := 10, nameIndex := 20, descriptorIndex := 21, attributes := #[] }] 49 2 #[] #[])
  fields := #[]
  methods := #[k1m0, k1m1, k1m2, k1m3, k1m4]
  instanceTypes := #[]
  staticTypes := #[]
  resolved := Array.replicate 54 none
  statics := none }

def pool2 : Array CpInfo := pool [(1, .class_ 2), (0, u "java/io/Serializable"), (0, .class_ 4), (0, u "java/lang/Object")] 2

/-- java/io/Serializable -/
def k2 : Class := { plain "java/io/Serializable" (some 0) with
  accessFlags := 1537
  interfaces := #[]
  cf := some (fileOf pool2 1 #[] #[] 1537 3 #[] #[])
  fields := #[]
  methods := #[]
  instanceTypes := #[]
  staticTypes := #[]
  resolved := Array.replicate 7 none
  statics := none }

def pool3 : Array CpInfo := pool [(1, .class_ 2), (0, u "java/lang/Comparable"), (0, .class_ 4), (0, u "java/lang/Object")] 7

/-- java/lang/Comparable -/
def k3 : Class := { plain "java/lang/Comparable" (some 0) with
  accessFlags := 1537
  interfaces := #[]
  cf := some (fileOf pool3 1 #[] #[] 1537 3 #[] #[])
  fields := #[]
  methods := #[]
  instanceTypes := #[]
  staticTypes := #[]
  resolved := Array.replicate 12 none
  statics := none }

def pool4 : Array CpInfo := pool [(2, .class_ 4), (1, u "java/lang/CharSequence"), (42, .class_ 48), (0, u "java/lang/CharSequence$1CodePointIterator"), (10, .class_ 60), (0, u "java/lang/CharSequence$1CharIterator"), (5, .class_ 67), (0, u "java/lang/Object")] 63

/-- java/lang/CharSequence -/
def k4 : Class := { plain "java/lang/CharSequence" (some 0) with
  accessFlags := 1537
  interfaces := #[]
  cf := some (fileOf pool4 2 #[.nestMembers #[47, 59]] #[] 1537 66 #[] #[])
  fields := #[]
  methods := #[]
  instanceTypes := #[]
  staticTypes := #[]
  resolved := Array.replicate 131 none
  statics := none }

def pool5 : Array CpInfo := pool [(1, .class_ 2), (0, u "java/lang/constant/Constable"), (0, .class_ 4), (0, u "java/lang/Object")] 6

/-- java/lang/constant/Constable -/
def k5 : Class := { plain "java/lang/constant/Constable" (some 0) with
  accessFlags := 1537
  interfaces := #[]
  cf := some (fileOf pool5 1 #[] #[] 1537 3 #[] #[])
  fields := #[]
  methods := #[]
  instanceTypes := #[]
  staticTypes := #[]
  resolved := Array.replicate 11 none
  statics := none }

def pool6 : Array CpInfo := pool [(1, .class_ 2), (0, u "java/lang/constant/ConstantDesc"), (0, .class_ 4), (0, u "java/lang/Object")] 32

/-- java/lang/constant/ConstantDesc -/
def k6 : Class := { plain "java/lang/constant/ConstantDesc" (some 0) with
  accessFlags := 1537
  interfaces := #[]
  cf := some (fileOf pool6 1 #[] #[] 1537 3 #[] #[])
  fields := #[]
  methods := #[]
  instanceTypes := #[]
  staticTypes := #[]
  resolved := Array.replicate 37 none
  statics := none }

def pool7 : Array CpInfo := pool [(1, .methodref 2 3), (0, .class_ 4), (0, .nameAndType 5 6), (0, u "java/lang/Object"), (0, u "<init>"), (0, u "()V"), (0, .string 8), (0, u ""), (0, .fieldref 10 11), (0, .class_ 12), (0, .nameAndType 13 14), (0, u "java/lang/String"), (0, u "value"), (0, u "[B"), (0, .fieldref 10 16), (0, .nameAndType 17 18), (0, u "coder"), (0, u "B"), (2, u "hash"), (0, u "I"), (2, u "hashIsZero"), (0, u "Z"), (0, .methodref 10 28), (0, .nameAndType 5 29), (0, u "([CIILjava/lang/Void;)V"), (8, .fieldref 10 39), (0, .nameAndType 40 26), (0, u "COMPACT_STRINGS"), (1, .class_ 44), (1, u "java/lang/StringUTF16"), (0, u "compress"), (1, .methodref 42 48), (0, .nameAndType 49 50), (0, u "coderFromArrayLen"), (0, u "([BI)B"), (56, .class_ 109), (1, u "java/lang/StringLatin1"), (32, u "()Z"), (34, .methodref 42 178), (0, .nameAndType 45 179), (0, u "([CII)[B"), (154, u "()I"), (0, .methodref 10 336), (0, .nameAndType 17 337), (0, u "()B"), (25, u "([BI)C"), (27, u "(II)V"), (35, u "(I)C"), (64, .methodref 10 493), (0, .nameAndType 494 142), (0, u "isLatin1"), (0, .methodref 107 496), (0, .nameAndType 497 363), (0, u "charAt"), (0, .methodref 42 496), (2, u "checkIndex"), (5, u "length"), (67, .class_ 576), (0, u "java/lang/CharSequence"), (22, u "CASE_INSENSITIVE_ORDER"), (0, u "Ljava/util/Comparator;"), (91, u "isEmpty"), (317, u "([C)V"), (42, .fieldref 1054 1055), (0, .class_ 1056), (0, .nameAndType 1057 1058), (0, u "jdk/internal/util/Preconditions"), (0, u "SIOOBE_FORMATTER"), (0, u "Ljava/util/function/BiFunction;"), (0, .methodref 1054 1060), (0, .nameAndType 501 1061), (0, u "(IILjava/util/function/BiFunction;)I"), (39, u "serialPersistentFields"), (0, u "[Ljava/io/ObjectStreamField;"), (0, .class_ 1104), (0, u "java/lang/String$CaseInsensitiveComparator"), (1, .class_ 1107), (0, u "java/io/Serializable"), (0, .class_ 1109), (0, u "java/lang/Comparable"), (0, .class_ 1111), (0, u "java/lang/constant/Constable"), (0, .class_ 1113), (0, u "java/lang/constant/ConstantDesc"), (2, u "serialVersionUID"), (0, u "J"), (3, u "REPL"), (0, u "C"), (2, u "LATIN1"), (1, u "UTF16")] 323

def k7m0 : Method := { name := "<init>", desc := "()V", sig := { parameters := [], returnType := none }, accessFlags := 1, code := none }
def k7c1 : Code := { maxStack := 5, maxLocals := 2, code := jdk_42_method_3_code, exceptionTable := #[], attributes := #[] }
def k7m1 : Method := { name := "<init>", desc := "([C)V", sig := { parameters := [(.array .char)], returnType := none }, accessFlags := 1, code := some k7c1 }
def k7c2 : Code := { maxStack := 2, maxLocals := 1, code := jdk_42_method_54_code, exceptionTable := #[], attributes := #[] }
def k7m2 : Method := { name := "length", desc := "()I", sig := { parameters := [], returnType := some .int }, accessFlags := 1, code := some k7c2 }
def k7c3 : Code := { maxStack := 1, maxLocals := 1, code := jdk_42_method_55_code, exceptionTable := #[], attributes := #[] }
def k7m3 : Method := { name := "isEmpty", desc := "()Z", sig := { parameters := [], returnType := some .boolean }, accessFlags := 1, code := some k7c3 }
def k7c4 : Code := { maxStack := 2, maxLocals := 2, code := jdk_42_method_56_code, exceptionTable := #[], attributes := #[] }
def k7m4 : Method := { name := "charAt", desc := "(I)C", sig := { parameters := [.int], returnType := some .char }, accessFlags := 1, code := some k7c4 }
def k7c5 : Code := { maxStack := 4, maxLocals := 6, code := jdk_42_method_149_code, exceptionTable := #[], attributes := #[] }
def k7m5 : Method := { name := "<init>", desc := "([CIILjava/lang/Void;)V", sig := { parameters := [(.array .char), .int, .int, (.object "java/lang/Void")], returnType := none }, accessFlags := 2, code := some k7c5 }
def k7c6 : Code := { maxStack := 1, maxLocals := 1, code := jdk_42_method_152_code, exceptionTable := #[], attributes := #[] }
def k7m6 : Method := { name := "coder", desc := "()B", sig := { parameters := [], returnType := some .byte }, accessFlags := 0, code := some k7c6 }
def k7c7 : Code := { maxStack := 1, maxLocals := 1, code := jdk_42_method_154_code, exceptionTable := #[], attributes := #[] }
def k7m7 : Method := { name := "isLatin1", desc := "()Z", sig := { parameters := [], returnType := some .boolean }, accessFlags := 0, code := some k7c7 }
def k7c8 : Code := { maxStack := 3, maxLocals := 2, code := jdk_42_method_155_code, exceptionTable := #[], attributes := #[] }
def k7m8 : Method := { name := "checkIndex", desc := "(II)V", sig := { parameters := [.int, .int], returnType := none }, accessFlags := 8, code := some k7c8 }
/-- java/lang/String -/
def k7 : Class := { plain "java/lang/String" (some 0) with
  accessFlags := 49
  interfaces := #[2, 3, 4, 5, 6]
  cf := some (fileOf pool7 10 #[.nestMembers #[1103]] #[{ accessFlags := 1, nameIndex := 5, descriptorIndex := 6, attributes := #[] }, { accessFlags := 1, nameIndex := 5, descriptorIndex := 1010, attributes := #[] }, { accessFlags := 1, nameIndex := 507, descriptorIndex := 334, attributes := #[] }, { accessFlags := 1, nameIndex := 692, descriptorIndex := 142, attributes := #[] }, { accessFlags := 1, nameIndex := 497, descriptorIndex := 427, attributes := #[] }, { accessFlags := 2, nameIndex := 5, descriptorIndex := 29, attributes := #[] }, { accessFlags := 0, nameIndex := 17, descriptorIndex := 337, attributes := #[] }, { accessFlags := 0, nameIndex := 494, descriptorIndex := 142, attributes := #[] }, { accessFlags := 8, nameIndex := 501, descriptorIndex := 391, attributes := #[] }] 49 2 #[1106, 1108, 575, 1110, 1112] #[{ accessFlags := 18, nameIndex := 13, descriptorIndex := 14, attributes := #[] }, { accessFlags := 18, nameIndex := 17, descriptorIndex := 18, attributes := #[] }, { accessFlags := 2, nameIndex := 21, descriptorIndex := 22, attributes := #[] }, { accessFlags := 2, nameIndex := 25, descriptorIndex := 26, attributes := #[] }, { accessFlags := 26, nameIndex := 1116, descriptorIndex := 1117, attributes := #[] }, { accessFlags := 24, nameIndex := 40, descriptorIndex := 26, attributes := #[] }, { accessFlags := 26, nameIndex := 1101, descriptorIndex := 1102, attributes := #[] }, { accessFlags := 26, nameIndex := 1121, descriptorIndex := 1122, attributes := #[] }, { accessFlags := 25, nameIndex := 599, descriptorIndex := 600, attributes := #[] }, { accessFlags := 24, nameIndex := 1125, descriptorIndex := 18, attributes := #[] }, { accessFlags := 24, nameIndex := 1127, descriptorIndex := 18, attributes := #[] }])
  fields := #[{ name := "value", type := (.array .byte), accessFlags := 18, slot := 0, constantValue := 0 }, { name := "coder", type := .byte, accessFlags := 18, slot := 1, constantValue := 0 }, { name := "hash", type := .int, accessFlags := 2, slot := 2, constantValue := 0 }, { name := "hashIsZero", type := .boolean, accessFlags := 2, slot := 3, constantValue := 0 }, { name := "serialVersionUID", type := .long, accessFlags := 26, slot := 0, constantValue := 0 }, { name := "COMPACT_STRINGS", type := .boolean, accessFlags := 24, slot := 1, constantValue := 0 }, { name := "serialPersistentFields", type := (.array (.object "java/io/ObjectStreamField")), accessFlags := 26, slot := 2, constantValue := 0 }, { name := "REPL", type := .char, accessFlags := 26, slot := 3, constantValue := 0 }, { name := "CASE_INSENSITIVE_ORDER", type := (.object "java/util/Comparator"), accessFlags := 25, slot := 4, constantValue := 0 }, { name := "LATIN1", type := .byte, accessFlags := 24, slot := 5, constantValue := 0 }, { name := "UTF16", type := .byte, accessFlags := 24, slot := 6, constantValue := 0 }]
  methods := #[k7m0, k7m1, k7m2, k7m3, k7m4, k7m5, k7m6, k7m7, k7m8]
  instanceTypes := #[(.array .byte), .byte, .int, .boolean]
  staticTypes := #[.long, .boolean, (.array (.object "java/io/ObjectStreamField")), .char, (.object "java/util/Comparator"), .byte, .byte]
  resolved := Array.replicate 1451 none
  statics := some 0 }

def pool8 : Array CpInfo := pool [(1, .class_ 2), (0, u "java/lang/String"), (1, .class_ 6), (1, u "java/lang/Object"), (0, u "<init>"), (0, u "()V"), (0, .methodref 1 10), (0, .nameAndType 11 12), (0, u "checkIndex"), (0, u "(II)V"), (1, .class_ 16), (1, u "java/lang/StringLatin1"), (36, u "([BI)C"), (67, u "$assertionsDisabled"), (0, u "Z"), (98, .class_ 223), (1, u "java/lang/StringLatin1$LinesSpliterator"), (28, u "charAt"), (137, .class_ 391), (0, u "java/lang/StringLatin1$CharsSpliterator")] 3

def k8m0 : Method := { name := "<init>", desc := "()V", sig := { parameters := [], returnType := none }, accessFlags := 0, code := none }
def k8c1 : Code := { maxStack := 2, maxLocals := 2, code := jdk_43_method_2_code, exceptionTable := #[], attributes := #[] }
def k8m1 : Method := { name := "charAt", desc := "([BI)C", sig := { parameters := [(.array .byte), .int], returnType := some .char }, accessFlags := 9, code := some k8c1 }
/-- java/lang/StringLatin1 -/
def k8 : Class := { plain "java/lang/StringLatin1" (some 0) with
  accessFlags := 48
  interfaces := #[]
  cf := some (fileOf pool8 14 #[.nestMembers #[390, 221]] #[{ accessFlags := 0, nameIndex := 7, descriptorIndex := 8, attributes := #[] }, { accessFlags := 9, nameIndex := 252, descriptorIndex := 53, attributes := #[] }] 48 4 #[] #[{ accessFlags := 4120, nameIndex := 121, descriptorIndex := 122, attributes := #[] }])
  fields := #[{ name := "$assertionsDisabled", type := .boolean, accessFlags := 4120, slot := 0, constantValue := 0 }]
  methods := #[k8m0, k8m1]
  instanceTypes := #[]
  staticTypes := #[.boolean]
  resolved := Array.replicate 395 none
  statics := none }

def pool9 : Array CpInfo := pool [(2, .class_ 4), (1, u "java/lang/Object"), (0, u "<init>"), (0, u "()V"), (17, .class_ 26), (1, u "jdk/internal/util/Preconditions"), (6, u "checkIndex"), (21, .class_ 56), (0, u "jdk/internal/util/Preconditions$4"), (57, .class_ 115), (0, u "jdk/internal/util/Preconditions$1"), (7, u "SIOOBE_FORMATTER"), (0, u "Ljava/util/function/BiFunction;"), (0, .class_ 126), (0, u "jdk/internal/util/Preconditions$2"), (3, u "AIOOBE_FORMATTER"), (0, .class_ 132), (0, u "jdk/internal/util/Preconditions$3"), (3, u "IOOBE_FORMATTER"), (41, u "(IILjava/util/function/BiFunction;)I")] 15

def k9m0 : Method := { name := "<init>", desc := "()V", sig := { parameters := [], returnType := none }, accessFlags := 1, code := none }
def k9c1 : Code := { maxStack := 3, maxLocals := 3, code := jdk_41_method_11_code, exceptionTable := #[], attributes := #[] }
def k9m1 : Method := { name := "checkIndex", desc := "(IILjava/util/function/BiFunction;)I", sig := { parameters := [.int, .int, (.object "java/util/function/BiFunction")], returnType := some .int }, accessFlags := 9, code := some k9c1 }
/-- jdk/internal/util/Preconditions -/
def k9 : Class := { plain "jdk/internal/util/Preconditions" (some 0) with
  accessFlags := 33
  interfaces := #[]
  cf := some (fileOf pool9 24 #[.nestMembers #[55, 131, 125, 114]] #[{ accessFlags := 1, nameIndex := 5, descriptorIndex := 6, attributes := #[] }, { accessFlags := 9, nameIndex := 33, descriptorIndex := 178, attributes := #[] }] 33 2 #[] #[{ accessFlags := 25, nameIndex := 123, descriptorIndex := 124, attributes := #[] }, { accessFlags := 25, nameIndex := 130, descriptorIndex := 124, attributes := #[] }, { accessFlags := 25, nameIndex := 136, descriptorIndex := 124, attributes := #[] }])
  fields := #[{ name := "SIOOBE_FORMATTER", type := (.object "java/util/function/BiFunction"), accessFlags := 25, slot := 0, constantValue := 0 }, { name := "AIOOBE_FORMATTER", type := (.object "java/util/function/BiFunction"), accessFlags := 25, slot := 1, constantValue := 0 }, { name := "IOOBE_FORMATTER", type := (.object "java/util/function/BiFunction"), accessFlags := 25, slot := 2, constantValue := 0 }]
  methods := #[k9m0, k9m1]
  instanceTypes := #[]
  staticTypes := #[(.object "java/util/function/BiFunction"), (.object "java/util/function/BiFunction"), (.object "java/util/function/BiFunction")]
  resolved := Array.replicate 194 none
  statics := some 1 }

def pool10 : Array CpInfo := pool [(2, .class_ 4), (1, u "java/lang/Object"), (0, u "<init>"), (0, u "()V"), (0, .class_ 8), (0, u "com/example/grantline/grantline/name/Names"), (12, .methodref 22 23), (0, .class_ 24), (0, .nameAndType 25 26), (0, u "java/lang/String"), (0, u "isEmpty"), (0, u "()Z"), (0, .methodref 22 28), (0, .nameAndType 29 30), (0, u "length"), (0, u "()I"), (0, .methodref 22 32), (0, .nameAndType 33 34), (0, u "charAt"), (0, u "(I)C"), (0, .methodref 7 36), (0, .nameAndType 37 38), (0, u "isLower"), (0, u "(C)Z"), (0, .methodref 7 40), (0, .nameAndType 41 38), (0, u "isDigit"), (42, .class_ 86), (1, u "com/example/grantline/grantline/name/Names$CharRule"), (3, u "NAME_RULE"), (0, u "Ljava/lang/String;"), (3, u "TYPE_NAME_RULE"), (2, u "LEVEL_ID_RULE"), (2, u "OPERATION_ID_RULE"), (2, u "MAX_NAME_LENGTH"), (0, u "I"), (1, u "MAX_TYPE_NAME_LENGTH"), (1, u "MAX_LEVEL_ID_LENGTH"), (0, u "MAX_OPERATION_ID_LENGTH"), (3, u "(Ljava/lang/String;)Z"), (2, u "isOperationId")] 47

def k10m0 : Method := { name := "<init>", desc := "()V", sig := { parameters := [], returnType := none }, accessFlags := 2, code := none }
def k10c1 : Code := { maxStack := 2, maxLocals := 4, code := prog_6_method_5_code, exceptionTable := #[], attributes := #[] }
def k10m1 : Method := { name := "isOperationId", desc := "(Ljava/lang/String;)Z", sig := { parameters := [(.object "java/lang/String")], returnType := some .boolean }, accessFlags := 9, code := some k10c1 }
def k10c2 : Code := { maxStack := 2, maxLocals := 1, code := prog_6_method_11_code, exceptionTable := #[], attributes := #[] }
def k10m2 : Method := { name := "isLower", desc := "(C)Z", sig := { parameters := [.char], returnType := some .boolean }, accessFlags := 10, code := some k10c2 }
def k10c3 : Code := { maxStack := 2, maxLocals := 1, code := prog_6_method_13_code, exceptionTable := #[], attributes := #[] }
def k10m3 : Method := { name := "isDigit", desc := "(C)Z", sig := { parameters := [.char], returnType := some .boolean }, accessFlags := 10, code := some k10c3 }
/-- com/example/grantline/grantline/name/Names -/
def k10 : Class := { plain "com/example/grantline/grantline/name/Names" (some 0) with
  accessFlags := 49
  interfaces := #[]
  cf := some (fileOf pool10 7 #[.nestMembers #[84]] #[{ accessFlags := 2, nameIndex := 5, descriptorIndex := 6, attributes := #[] }, { accessFlags := 9, nameIndex := 117, descriptorIndex := 114, attributes := #[] }, { accessFlags := 10, nameIndex := 37, descriptorIndex := 38, attributes := #[] }, { accessFlags := 10, nameIndex := 41, descriptorIndex := 38, attributes := #[] }] 49 2 #[] #[{ accessFlags := 25, nameIndex := 90, descriptorIndex := 91, attributes := #[] }, { accessFlags := 25, nameIndex := 95, descriptorIndex := 91, attributes := #[] }, { accessFlags := 25, nameIndex := 98, descriptorIndex := 91, attributes := #[] }, { accessFlags := 25, nameIndex := 101, descriptorIndex := 91, attributes := #[] }, { accessFlags := 26, nameIndex := 104, descriptorIndex := 105, attributes := #[] }, { accessFlags := 26, nameIndex := 107, descriptorIndex := 105, attributes := #[] }, { accessFlags := 26, nameIndex := 109, descriptorIndex := 105, attributes := #[] }, { accessFlags := 26, nameIndex := 110, descriptorIndex := 105, attributes := #[] }])
  fields := #[{ name := "NAME_RULE", type := (.object "java/lang/String"), accessFlags := 25, slot := 0, constantValue := 0 }, { name := "TYPE_NAME_RULE", type := (.object "java/lang/String"), accessFlags := 25, slot := 1, constantValue := 0 }, { name := "LEVEL_ID_RULE", type := (.object "java/lang/String"), accessFlags := 25, slot := 2, constantValue := 0 }, { name := "OPERATION_ID_RULE", type := (.object "java/lang/String"), accessFlags := 25, slot := 3, constantValue := 0 }, { name := "MAX_NAME_LENGTH", type := .int, accessFlags := 26, slot := 4, constantValue := 0 }, { name := "MAX_TYPE_NAME_LENGTH", type := .int, accessFlags := 26, slot := 5, constantValue := 0 }, { name := "MAX_LEVEL_ID_LENGTH", type := .int, accessFlags := 26, slot := 6, constantValue := 0 }, { name := "MAX_OPERATION_ID_LENGTH", type := .int, accessFlags := 26, slot := 7, constantValue := 0 }]
  methods := #[k10m0, k10m1, k10m2, k10m3]
  instanceTypes := #[]
  staticTypes := #[(.object "java/lang/String"), (.object "java/lang/String"), (.object "java/lang/String"), (.object "java/lang/String"), .int, .int, .int, .int]
  resolved := Array.replicate 165 none
  statics := none }

def pool11 : Array CpInfo := pool [(3, .class_ 4), (0, u "java/lang/String"), (1, .class_ 8), (1, u "java/lang/Object"), (0, u "<init>"), (0, u "()V"), (0, .methodref 12 13), (0, .class_ 14), (0, .nameAndType 15 16), (0, u "java/lang/StringUTF16"), (0, u "newBytesLength"), (0, u "(I)I"), (3, .integer 1073741823), (23, .fieldref 12 45), (0, .nameAndType 46 47), (0, u "$assertionsDisabled"), (0, u "Z"), (0, .methodref 12 49), (0, .nameAndType 50 51), (0, u "length"), (0, u "([B)I"), (7, .fieldref 12 60), (0, .nameAndType 61 62), (0, u "HI_BYTE_SHIFT"), (0, u "I"), (0, .fieldref 12 64), (0, .nameAndType 65 62), (0, u "LO_BYTE_SHIFT"), (1, .methodref 12 68), (0, .nameAndType 69 70), (0, u "checkIndex"), (0, u "(I[B)V"), (0, .methodref 12 72), (0, .nameAndType 73 74), (0, u "getChar"), (0, u "([BI)C"), (32, .methodref 12 108), (0, .nameAndType 109 110), (0, u "newBytesFor"), (0, u "(I)[B"), (0, .methodref 12 112), (0, .nameAndType 113 114), (0, u "putChar"), (0, u "([BII)V"), (0, .methodref 12 116), (0, .nameAndType 117 118), (0, u "compress"), (0, u "([CI[BII)I"), (0, .methodref 12 120), (0, .nameAndType 121 122), (0, u "toBytes"), (0, u "([CII)[B"), (138, u "coderFromArrayLen"), (0, u "([BI)B"), (106, .class_ 371), (1, u "java/lang/StringUTF16$LinesSpliterator"), (20, u "charAt"), (21, .methodref 3 415), (0, .nameAndType 69 416), (0, u "(II)V"), (13, u "MAX_LENGTH"), (196, .class_ 628), (0, u "java/lang/StringUTF16$CodePointsSpliterator"), (0, .class_ 630), (0, u "java/lang/StringUTF16$CharsSpliterator")] 4

def k11m0 : Method := { name := "<init>", desc := "()V", sig := { parameters := [], returnType := none }, accessFlags := 0, code := none }
def k11c1 : Code := { maxStack := 1, maxLocals := 1, code := jdk_52_method_2_code, exceptionTable := #[], attributes := #[] }
def k11m1 : Method := { name := "newBytesFor", desc := "(I)[B", sig := { parameters := [.int], returnType := some (.array .byte) }, accessFlags := 9, code := some k11c1 }
def k11c2 : Code := { maxStack := 4, maxLocals := 1, code := jdk_52_method_3_code, exceptionTable := #[], attributes := #[] }
def k11m2 : Method := { name := "newBytesLength", desc := "(I)I", sig := { parameters := [.int], returnType := some .int }, accessFlags := 9, code := some k11c2 }
def k11c3 : Code := { maxStack := 4, maxLocals := 3, code := jdk_52_method_4_code, exceptionTable := #[], attributes := #[] }
def k11m3 : Method := { name := "putChar", desc := "([BII)V", sig := { parameters := [(.array .byte), .int, .int], returnType := none }, accessFlags := 8, code := some k11c3 }
def k11c4 : Code := { maxStack := 3, maxLocals := 2, code := jdk_52_method_5_code, exceptionTable := #[], attributes := #[] }
def k11m4 : Method := { name := "getChar", desc := "([BI)C", sig := { parameters := [(.array .byte), .int], returnType := some .char }, accessFlags := 8, code := some k11c4 }
def k11c5 : Code := { maxStack := 2, maxLocals := 1, code := jdk_52_method_6_code, exceptionTable := #[], attributes := #[] }
def k11m5 : Method := { name := "length", desc := "([B)I", sig := { parameters := [(.array .byte)], returnType := some .int }, accessFlags := 9, code := some k11c5 }
def k11c6 : Code := { maxStack := 4, maxLocals := 5, code := jdk_52_method_14_code, exceptionTable := #[], attributes := #[] }
def k11m6 : Method := { name := "toBytes", desc := "([CII)[B", sig := { parameters := [(.array .char), .int, .int], returnType := some (.array .byte) }, accessFlags := 9, code := some k11c6 }
def k11c7 : Code := { maxStack := 2, maxLocals := 2, code := jdk_52_method_15_code, exceptionTable := #[], attributes := #[] }
def k11m7 : Method := { name := "coderFromArrayLen", desc := "([BI)B", sig := { parameters := [(.array .byte), .int], returnType := some .byte }, accessFlags := 8, code := some k11c7 }
def k11c8 : Code := { maxStack := 5, maxLocals := 6, code := jdk_52_method_16_code, exceptionTable := #[], attributes := #[] }
def k11m8 : Method := { name := "compress", desc := "([CII)[B", sig := { parameters := [(.array .char), .int, .int], returnType := some (.array .byte) }, accessFlags := 9, code := some k11c8 }
def k11c9 : Code := { maxStack := 3, maxLocals := 7, code := jdk_52_method_21_code, exceptionTable := #[], attributes := #[] }
def k11m9 : Method := { name := "compress", desc := "([CI[BII)I", sig := { parameters := [(.array .char), .int, (.array .byte), .int, .int], returnType := some .int }, accessFlags := 9, code := some k11c9 }
def k11c10 : Code := { maxStack := 2, maxLocals := 2, code := jdk_52_method_83_code, exceptionTable := #[], attributes := #[] }
def k11m10 : Method := { name := "charAt", desc := "([BI)C", sig := { parameters := [(.array .byte), .int], returnType := some .char }, accessFlags := 9, code := some k11c10 }
def k11c11 : Code := { maxStack := 2, maxLocals := 2, code := jdk_52_method_91_code, exceptionTable := #[], attributes := #[] }
def k11m11 : Method := { name := "checkIndex", desc := "(I[B)V", sig := { parameters := [.int, (.array .byte)], returnType := none }, accessFlags := 9, code := some k11c11 }
/-- java/lang/StringUTF16 -/
def k11 : Class := { plain "java/lang/StringUTF16" (some 0) with
  accessFlags := 48
  interfaces := #[]
  cf := some (fileOf pool11 12 #[.nestMembers #[627, 629, 369]] #[{ accessFlags := 0, nameIndex := 9, descriptorIndex := 10, attributes := #[] }, { accessFlags := 9, nameIndex := 109, descriptorIndex := 110, attributes := #[] }, { accessFlags := 9, nameIndex := 15, descriptorIndex := 16, attributes := #[] }, { accessFlags := 8, nameIndex := 113, descriptorIndex := 114, attributes := #[] }, { accessFlags := 8, nameIndex := 73, descriptorIndex := 74, attributes := #[] }, { accessFlags := 9, nameIndex := 50, descriptorIndex := 51, attributes := #[] }, { accessFlags := 9, nameIndex := 121, descriptorIndex := 122, attributes := #[] }, { accessFlags := 8, nameIndex := 261, descriptorIndex := 262, attributes := #[] }, { accessFlags := 9, nameIndex := 117, descriptorIndex := 122, attributes := #[] }, { accessFlags := 9, nameIndex := 117, descriptorIndex := 118, attributes := #[] }, { accessFlags := 9, nameIndex := 392, descriptorIndex := 74, attributes := #[] }, { accessFlags := 9, nameIndex := 69, descriptorIndex := 70, attributes := #[] }] 48 6 #[] #[{ accessFlags := 26, nameIndex := 61, descriptorIndex := 62, attributes := #[] }, { accessFlags := 26, nameIndex := 65, descriptorIndex := 62, attributes := #[] }, { accessFlags := 24, nameIndex := 430, descriptorIndex := 62, attributes := #[] }, { accessFlags := 4120, nameIndex := 46, descriptorIndex := 47, attributes := #[] }])
  fields := #[{ name := "HI_BYTE_SHIFT", type := .int, accessFlags := 26, slot := 0, constantValue := 0 }, { name := "LO_BYTE_SHIFT", type := .int, accessFlags := 26, slot := 1, constantValue := 0 }, { name := "MAX_LENGTH", type := .int, accessFlags := 24, slot := 2, constantValue := 0 }, { name := "$assertionsDisabled", type := .boolean, accessFlags := 4120, slot := 3, constantValue := 0 }]
  methods := #[k11m0, k11m1, k11m2, k11m3, k11m4, k11m5, k11m6, k11m7, k11m8, k11m9, k11m10, k11m11]
  instanceTypes := #[]
  staticTypes := #[.int, .int, .int, .boolean]
  resolved := Array.replicate 635 none
  statics := some 2 }

def pool12 : Array CpInfo := pool [(9, u "<init>"), (6, .class_ 18), (1, u "java/lang/Object"), (0, u "()V"), (1, .class_ 23), (1, u "jdk/internal/util/ArraysSupport"), (0, u "LOG2_ARRAY_LONG_INDEX_SCALE"), (0, u "I"), (2, u "U"), (0, u "Ljdk/internal/misc/Unsafe;"), (8, u "BIG_ENDIAN"), (0, u "Z"), (8, u "LOG2_BYTE_BIT_SIZE"), (4, u "LOG2_ARRAY_INT_INDEX_SCALE"), (54, u "JLA"), (0, u "Ljdk/internal/access/JavaLangAccess;"), (11, u "LOG2_ARRAY_BOOLEAN_INDEX_SCALE"), (9, u "LOG2_ARRAY_BYTE_INDEX_SCALE"), (5, u "LOG2_ARRAY_CHAR_INDEX_SCALE"), (5, u "LOG2_ARRAY_SHORT_INDEX_SCALE"), (18, u "LOG2_ARRAY_FLOAT_INDEX_SCALE"), (24, u "LOG2_ARRAY_DOUBLE_INDEX_SCALE"), (89, u "T_BOOLEAN"), (2, u "T_CHAR"), (1, u "T_FLOAT"), (1, u "T_DOUBLE"), (1, u "T_BYTE"), (1, u "T_SHORT"), (1, u "T_INT"), (1, u "T_LONG"), (1, u "SOFT_MAX_ARRAY_LENGTH")] 83

def k12m0 : Method := { name := "<init>", desc := "()V", sig := { parameters := [], returnType := none }, accessFlags := 2, code := none }
/-- jdk/internal/util/ArraysSupport -/
def k12 : Class := { plain "jdk/internal/util/ArraysSupport" (some 0) with
  accessFlags := 33
  interfaces := #[]
  cf := some (fileOf pool12 21 #[] #[{ accessFlags := 2, nameIndex := 9, descriptorIndex := 19, attributes := #[] }] 33 16 #[] #[{ accessFlags := 24, nameIndex := 28, descriptorIndex := 29, attributes := #[] }, { accessFlags := 26, nameIndex := 38, descriptorIndex := 39, attributes := #[] }, { accessFlags := 25, nameIndex := 121, descriptorIndex := 25, attributes := #[] }, { accessFlags := 25, nameIndex := 131, descriptorIndex := 25, attributes := #[] }, { accessFlags := 25, nameIndex := 137, descriptorIndex := 25, attributes := #[] }, { accessFlags := 25, nameIndex := 143, descriptorIndex := 25, attributes := #[] }, { accessFlags := 25, nameIndex := 53, descriptorIndex := 25, attributes := #[] }, { accessFlags := 25, nameIndex := 24, descriptorIndex := 25, attributes := #[] }, { accessFlags := 25, nameIndex := 162, descriptorIndex := 25, attributes := #[] }, { accessFlags := 25, nameIndex := 187, descriptorIndex := 25, attributes := #[] }, { accessFlags := 26, nameIndex := 48, descriptorIndex := 25, attributes := #[] }, { accessFlags := 25, nameIndex := 277, descriptorIndex := 25, attributes := #[] }, { accessFlags := 25, nameIndex := 280, descriptorIndex := 25, attributes := #[] }, { accessFlags := 25, nameIndex := 282, descriptorIndex := 25, attributes := #[] }, { accessFlags := 25, nameIndex := 284, descriptorIndex := 25, attributes := #[] }, { accessFlags := 25, nameIndex := 286, descriptorIndex := 25, attributes := #[] }, { accessFlags := 25, nameIndex := 288, descriptorIndex := 25, attributes := #[] }, { accessFlags := 25, nameIndex := 290, descriptorIndex := 25, attributes := #[] }, { accessFlags := 25, nameIndex := 292, descriptorIndex := 25, attributes := #[] }, { accessFlags := 26, nameIndex := 108, descriptorIndex := 109, attributes := #[] }, { accessFlags := 25, nameIndex := 294, descriptorIndex := 25, attributes := #[] }])
  fields := #[{ name := "U", type := (.object "jdk/internal/misc/Unsafe"), accessFlags := 24, slot := 0, constantValue := 0 }, { name := "BIG_ENDIAN", type := .boolean, accessFlags := 26, slot := 1, constantValue := 0 }, { name := "LOG2_ARRAY_BOOLEAN_INDEX_SCALE", type := .int, accessFlags := 25, slot := 2, constantValue := 0 }, { name := "LOG2_ARRAY_BYTE_INDEX_SCALE", type := .int, accessFlags := 25, slot := 3, constantValue := 0 }, { name := "LOG2_ARRAY_CHAR_INDEX_SCALE", type := .int, accessFlags := 25, slot := 4, constantValue := 0 }, { name := "LOG2_ARRAY_SHORT_INDEX_SCALE", type := .int, accessFlags := 25, slot := 5, constantValue := 0 }, { name := "LOG2_ARRAY_INT_INDEX_SCALE", type := .int, accessFlags := 25, slot := 6, constantValue := 0 }, { name := "LOG2_ARRAY_LONG_INDEX_SCALE", type := .int, accessFlags := 25, slot := 7, constantValue := 0 }, { name := "LOG2_ARRAY_FLOAT_INDEX_SCALE", type := .int, accessFlags := 25, slot := 8, constantValue := 0 }, { name := "LOG2_ARRAY_DOUBLE_INDEX_SCALE", type := .int, accessFlags := 25, slot := 9, constantValue := 0 }, { name := "LOG2_BYTE_BIT_SIZE", type := .int, accessFlags := 26, slot := 10, constantValue := 0 }, { name := "T_BOOLEAN", type := .int, accessFlags := 25, slot := 11, constantValue := 0 }, { name := "T_CHAR", type := .int, accessFlags := 25, slot := 12, constantValue := 0 }, { name := "T_FLOAT", type := .int, accessFlags := 25, slot := 13, constantValue := 0 }, { name := "T_DOUBLE", type := .int, accessFlags := 25, slot := 14, constantValue := 0 }, { name := "T_BYTE", type := .int, accessFlags := 25, slot := 15, constantValue := 0 }, { name := "T_SHORT", type := .int, accessFlags := 25, slot := 16, constantValue := 0 }, { name := "T_INT", type := .int, accessFlags := 25, slot := 17, constantValue := 0 }, { name := "T_LONG", type := .int, accessFlags := 25, slot := 18, constantValue := 0 }, { name := "JLA", type := (.object "jdk/internal/access/JavaLangAccess"), accessFlags := 26, slot := 19, constantValue := 0 }, { name := "SOFT_MAX_ARRAY_LENGTH", type := .int, accessFlags := 25, slot := 20, constantValue := 0 }]
  methods := #[k12m0]
  instanceTypes := #[]
  staticTypes := #[(.object "jdk/internal/misc/Unsafe"), .boolean, .int, .int, .int, .int, .int, .int, .int, .int, .int, .int, .int, .int, .int, .int, .int, .int, .int, (.object "jdk/internal/access/JavaLangAccess"), .int]
  resolved := Array.replicate 378 none
  statics := none }

def pool13 : Array CpInfo := pool [(1, u "java/lang/Cloneable"), (0, .class_ 1), (0, u "java/lang/Object"), (0, .class_ 3)] 3

/-- java/lang/Cloneable -/
def k13 : Class := { plain "java/lang/Cloneable" (some 0) with
  accessFlags := 1537
  interfaces := #[]
  cf := some (fileOf pool13 2 #[] #[] 1537 4 #[] #[])
  fields := #[]
  methods := #[]
  instanceTypes := #[]
  staticTypes := #[]
  resolved := Array.replicate 8 none
  statics := none }

/-- the primitive byte -/
def k14 : Class := { plain "byte" none with kind := .primitive 'B', accessFlags := 0x411 }
/-- [B -/
def k15 : Class := { plain "[B" (some 0) with kind := .array 14 .byte, interfaces := #[13, 2], accessFlags := 1041 }

/-- the primitive char -/
def k16 : Class := { plain "char" none with kind := .primitive 'C', accessFlags := 0x411 }
/-- [C -/
def k17 : Class := { plain "[C" (some 0) with kind := .array 16 .char, interfaces := #[13, 2], accessFlags := 1041 }

/-- the primitive int -/
def k18 : Class := { plain "int" none with kind := .primitive 'I', accessFlags := 0x411 }
/-- [I -/
def k19 : Class := { plain "[I" (some 0) with kind := .array 18 .int, interfaces := #[13, 2], accessFlags := 1041 }

def heap : Heap := #[{ cls := 7, slots := #[.long 0, .int 1, .null, .int 0, .null, .int 0, .int 0], vm := .statics 7 },
  { cls := 9, slots := #[.null, .null, .null], vm := .statics 9 },
  { cls := 11, slots := #[.int 0, .int 8, .int 0, .int 1], vm := .statics 11 }]
def classes : Array Class := #[k0, k1, k2, k3, k4, k5, k6, k7, k8, k9, k10, k11, k12, k13, k14, k15, k16, k17, k18, k19]
def interned : List (Array UInt16 × Addr) := []
def slotsUsed : Nat := 14
def theMethod : MethodId := ⟨1, 1⟩
def args0 : Array Value := #[.long 5, .long 5, .int 5, .int 5]
def aboutOver (below : List Frame) : State where
  vm := { classes := classes, interned := interned.toArray }
  heap := heap
  slotsUsed := slotsUsed
  threads := #[{ frames := .invoking theMethod args0 :: below }]
def below0 : List Frame := [.native { method := ⟨0, 0⟩, args := #[] }]
def about1 : State := aboutOver below0
def p0 : Program := .bare "" "" ""
def e0 : Env := launch0.env 0 0 0
theorem w_frames : about1.frames = Frame.invoking theMethod args0 :: below0 := rfl
set_option maxRecDepth 65536 in
theorem w_args : argsFit about1.vm theMethod args0 = true := by decide +kernel
set_option maxRecDepth 65536 in
theorem w_heap : heapFits about1 = true := by decide +kernel
set_option maxRecDepth 65536 in
theorem w_runnable : about1.curStatus? = some .runnable := by decide +kernel
set_option maxRecDepth 65536 in
theorem w_alone : about1.alone = true := by decide +kernel
set_option maxRecDepth 65536 in
theorem w_named : about1.methodNamed? x = some theMethod := by decide +kernel
set_option maxRecDepth 65536 in
theorem w_hears : about1.hears theMethod below0 = true := by decide +kernel
set_option maxRecDepth 65536 in
theorem w_ripe : about1.ripe theMethod args0 below0 = true := by decide +kernel
theorem w_running : about1.status = .running := rfl
set_option maxRecDepth 65536 in
theorem w_room : about1.hasRoom e0.platform room_1 = true :=
  launch0.hasRoom_least _ room_1 (by decide +kernel) (by decide +kernel) (by decide +kernel) (by decide +kernel) (by decide +kernel) (by decide +kernel)
theorem allAtoms_all (ts : List Jvm.Cond) (a : Array Jvm.Value) (st : Jvm.State) : (allAtoms ts).before a st = ts.all (fun c => c.before a st) := by
  induction ts with
  | nil => rfl
  | cons c t ih =>
    show (Jvm.Cond.and c (allAtoms t)).before a st = _
    rw [Jvm.Cond.before_and, ih, List.all_cons]
def words1 : List Jvm.Cond := Jvm.Cond.code x code maxLocals ret :: tables_1
/-- a 'code' word, met by the world's own term for the bytes: nothing is compared byte by byte -/
theorem code_word {y : MethodName} {bytes : ByteArray} {mx : Nat} {rt : Option FieldType} {a : Array Value} {s : State} {m : MethodId} {meth : Method} {c : Code} (h1 : s.methodNamed? y = some m) (h2 : s.vm.method? m = some meth) (h3 : meth.code = some c) (h4 : c.code = bytes)
    (h5 : (c.maxLocals == mx && c.exceptionTable.isEmpty && decide (c.maxStack ≤ mostOperands) && decide (meth.sig.returnType = rt) && !meth.locks && decide (parseMethodDescriptor y.desc = some meth.sig)) = true) : (Jvm.Cond.code y bytes mx rt).before a s = true := by
  simp only [Bool.and_eq_true, beq_iff_eq, Bool.not_eq_true', decide_eq_true_eq] at h5
  obtain ⟨⟨⟨⟨⟨g1, g2⟩, g3⟩, g4⟩, g5⟩, g6⟩ := h5
  simp [Cond.before, Cond.holds, Cond.value, h1, h2, h3, h4, g1, g2, g3, g4, g5, g6]
def isCode : Jvm.Cond → Bool
  | .code _ _ _ _ => true
  | _ => false
theorem all_split {L : List Jvm.Cond} {P : Jvm.Cond → Bool} (h1 : L.all (fun c => isCode c || P c) = true) (h2 : ∀ c ∈ L.filter isCode, P c = true) : L.all P = true := by
  refine List.all_eq_true.mpr fun c hc => ?_
  have h := List.all_eq_true.mp h1 c hc
  rcases Bool.eq_false_or_eq_true (isCode c) with hi | hi
  · exact h2 c (List.mem_filter.mpr ⟨hc, hi⟩)
  · simpa [hi] using h
set_option maxRecDepth 65536 in
theorem w_c0 : (Jvm.Cond.code x code maxLocals ret).before args0 about1 = true := code_word (m := ⟨1, 1⟩) (meth := k1m1) (c := k1c1) (by decide +kernel) rfl rfl rfl (by decide +kernel)
set_option maxRecDepth 65536 in
theorem w_c1 : (Jvm.Cond.code ({ cls := "com/example/grantline/grantline/name/NamesIsOperationIdPinLaw", name := "ch", desc := "(IZ)C" } : Jvm.MethodName) method_3_code (2 : Nat) (Option.some Jvm.ClassFile.FieldType.char)).before args0 about1 = true := code_word (m := ⟨1, 2⟩) (meth := k1m2) (c := k1c2) (by decide +kernel) rfl rfl rfl (by decide +kernel)
set_option maxRecDepth 65536 in
theorem w_c2 : (Jvm.Cond.code ({ cls := "java/lang/String", name := "charAt", desc := "(I)C" } : Jvm.MethodName) jdk_42_method_56_code (2 : Nat) (Option.some Jvm.ClassFile.FieldType.char)).before args0 about1 = true := code_word (m := ⟨7, 4⟩) (meth := k7m4) (c := k7c4) (by decide +kernel) rfl rfl rfl (by decide +kernel)
set_option maxRecDepth 65536 in
theorem w_c3 : (Jvm.Cond.code ({ cls := "java/lang/String", name := "isLatin1", desc := "()Z" } : Jvm.MethodName) jdk_42_method_154_code (1 : Nat) (Option.some Jvm.ClassFile.FieldType.boolean)).before args0 about1 = true := code_word (m := ⟨7, 7⟩) (meth := k7m7) (c := k7c7) (by decide +kernel) rfl rfl rfl (by decide +kernel)
set_option maxRecDepth 65536 in
theorem w_c4 : (Jvm.Cond.code ({ cls := "java/lang/StringLatin1", name := "charAt", desc := "([BI)C" } : Jvm.MethodName) jdk_43_method_2_code (2 : Nat) (Option.some Jvm.ClassFile.FieldType.char)).before args0 about1 = true := code_word (m := ⟨8, 1⟩) (meth := k8m1) (c := k8c1) (by decide +kernel) rfl rfl rfl (by decide +kernel)
set_option maxRecDepth 65536 in
theorem w_c5 : (Jvm.Cond.code ({ cls := "java/lang/String", name := "checkIndex", desc := "(II)V" } : Jvm.MethodName) jdk_42_method_155_code (2 : Nat) (Option.none : Option Jvm.ClassFile.FieldType)).before args0 about1 = true := code_word (m := ⟨7, 8⟩) (meth := k7m8) (c := k7c8) (by decide +kernel) rfl rfl rfl (by decide +kernel)
set_option maxRecDepth 65536 in
theorem w_c6 : (Jvm.Cond.code ({ cls := "jdk/internal/util/Preconditions", name := "checkIndex", desc := "(IILjava/util/function/BiFunction;)I" } : Jvm.MethodName) jdk_41_method_11_code (3 : Nat) (Option.some Jvm.ClassFile.FieldType.int)).before args0 about1 = true := code_word (m := ⟨9, 1⟩) (meth := k9m1) (c := k9c1) (by decide +kernel) rfl rfl rfl (by decide +kernel)
set_option maxRecDepth 65536 in
theorem w_c7 : (Jvm.Cond.code ({ cls := "com/example/grantline/grantline/name/NamesIsOperationIdPinLaw", name := "pick", desc := "([CI)[C" } : Jvm.MethodName) method_5_code (2 : Nat) (Option.some (Jvm.ClassFile.FieldType.array Jvm.ClassFile.FieldType.char))).before args0 about1 = true := code_word (m := ⟨1, 4⟩) (meth := k1m4) (c := k1c4) (by decide +kernel) rfl rfl rfl (by decide +kernel)
set_option maxRecDepth 65536 in
theorem w_c8 : (Jvm.Cond.code ({ cls := "java/lang/String", name := "<init>", desc := "([C)V" } : Jvm.MethodName) jdk_42_method_3_code (2 : Nat) (Option.none : Option Jvm.ClassFile.FieldType)).before args0 about1 = true := code_word (m := ⟨7, 1⟩) (meth := k7m1) (c := k7c1) (by decide +kernel) rfl rfl rfl (by decide +kernel)
set_option maxRecDepth 65536 in
theorem w_c9 : (Jvm.Cond.code ({ cls := "java/lang/String", name := "<init>", desc := "([CIILjava/lang/Void;)V" } : Jvm.MethodName) jdk_42_method_149_code (6 : Nat) (Option.none : Option Jvm.ClassFile.FieldType)).before args0 about1 = true := code_word (m := ⟨7, 5⟩) (meth := k7m5) (c := k7c5) (by decide +kernel) rfl rfl rfl (by decide +kernel)
set_option maxRecDepth 65536 in
theorem w_c10 : (Jvm.Cond.code ({ cls := "java/lang/Object", name := "<init>", desc := "()V" } : Jvm.MethodName) object_method_1_code (1 : Nat) (Option.none : Option Jvm.ClassFile.FieldType)).before args0 about1 = true := code_word (m := ⟨0, 0⟩) (meth := k0m0) (c := k0c0) (by decide +kernel) rfl rfl rfl (by decide +kernel)
set_option maxRecDepth 65536 in
theorem w_c11 : (Jvm.Cond.code ({ cls := "com/example/grantline/grantline/name/Names", name := "isOperationId", desc := "(Ljava/lang/String;)Z" } : Jvm.MethodName) prog_6_method_5_code (4 : Nat) (Option.some Jvm.ClassFile.FieldType.boolean)).before args0 about1 = true := code_word (m := ⟨10, 1⟩) (meth := k10m1) (c := k10c1) (by decide +kernel) rfl rfl rfl (by decide +kernel)
set_option maxRecDepth 65536 in
theorem w_c12 : (Jvm.Cond.code ({ cls := "java/lang/String", name := "isEmpty", desc := "()Z" } : Jvm.MethodName) jdk_42_method_55_code (1 : Nat) (Option.some Jvm.ClassFile.FieldType.boolean)).before args0 about1 = true := code_word (m := ⟨7, 3⟩) (meth := k7m3) (c := k7c3) (by decide +kernel) rfl rfl rfl (by decide +kernel)
set_option maxRecDepth 65536 in
theorem w_c13 : (Jvm.Cond.code ({ cls := "java/lang/String", name := "length", desc := "()I" } : Jvm.MethodName) jdk_42_method_54_code (1 : Nat) (Option.some Jvm.ClassFile.FieldType.int)).before args0 about1 = true := code_word (m := ⟨7, 2⟩) (meth := k7m2) (c := k7c2) (by decide +kernel) rfl rfl rfl (by decide +kernel)
set_option maxRecDepth 65536 in
theorem w_c14 : (Jvm.Cond.code ({ cls := "java/lang/String", name := "coder", desc := "()B" } : Jvm.MethodName) jdk_42_method_152_code (1 : Nat) (Option.some Jvm.ClassFile.FieldType.byte)).before args0 about1 = true := code_word (m := ⟨7, 6⟩) (meth := k7m6) (c := k7c6) (by decide +kernel) rfl rfl rfl (by decide +kernel)
set_option maxRecDepth 65536 in
theorem w_c15 : (Jvm.Cond.code ({ cls := "com/example/grantline/grantline/name/Names", name := "isLower", desc := "(C)Z" } : Jvm.MethodName) prog_6_method_11_code (1 : Nat) (Option.some Jvm.ClassFile.FieldType.boolean)).before args0 about1 = true := code_word (m := ⟨10, 2⟩) (meth := k10m2) (c := k10c2) (by decide +kernel) rfl rfl rfl (by decide +kernel)
set_option maxRecDepth 65536 in
theorem w_c16 : (Jvm.Cond.code ({ cls := "com/example/grantline/grantline/name/Names", name := "isDigit", desc := "(C)Z" } : Jvm.MethodName) prog_6_method_13_code (1 : Nat) (Option.some Jvm.ClassFile.FieldType.boolean)).before args0 about1 = true := code_word (m := ⟨10, 3⟩) (meth := k10m3) (c := k10c3) (by decide +kernel) rfl rfl rfl (by decide +kernel)
set_option maxRecDepth 65536 in
theorem w_c17 : (Jvm.Cond.code ({ cls := "java/lang/StringUTF16", name := "compress", desc := "([CII)[B" } : Jvm.MethodName) jdk_52_method_16_code (6 : Nat) (Option.some (Jvm.ClassFile.FieldType.array Jvm.ClassFile.FieldType.byte))).before args0 about1 = true := code_word (m := ⟨11, 8⟩) (meth := k11m8) (c := k11c8) (by decide +kernel) rfl rfl rfl (by decide +kernel)
set_option maxRecDepth 65536 in
theorem w_c18 : (Jvm.Cond.code ({ cls := "java/lang/StringUTF16", name := "compress", desc := "([CI[BII)I" } : Jvm.MethodName) jdk_52_method_21_code (7 : Nat) (Option.some Jvm.ClassFile.FieldType.int)).before args0 about1 = true := code_word (m := ⟨11, 9⟩) (meth := k11m9) (c := k11c9) (by decide +kernel) rfl rfl rfl (by decide +kernel)
set_option maxRecDepth 65536 in
theorem w_c19 : (Jvm.Cond.code ({ cls := "java/lang/StringUTF16", name := "coderFromArrayLen", desc := "([BI)B" } : Jvm.MethodName) jdk_52_method_15_code (2 : Nat) (Option.some Jvm.ClassFile.FieldType.byte)).before args0 about1 = true := code_word (m := ⟨11, 7⟩) (meth := k11m7) (c := k11c7) (by decide +kernel) rfl rfl rfl (by decide +kernel)
set_option maxRecDepth 65536 in
theorem w_c20 : (Jvm.Cond.code ({ cls := "com/example/grantline/grantline/name/NamesIsOperationIdPinLaw", name := "ok", desc := "([CII)Z" } : Jvm.MethodName) method_4_code (4 : Nat) (Option.some Jvm.ClassFile.FieldType.boolean)).before args0 about1 = true := code_word (m := ⟨1, 3⟩) (meth := k1m3) (c := k1c3) (by decide +kernel) rfl rfl rfl (by decide +kernel)
set_option maxRecDepth 65536 in
theorem w_c21 : (Jvm.Cond.code ({ cls := "java/lang/StringUTF16", name := "toBytes", desc := "([CII)[B" } : Jvm.MethodName) jdk_52_method_14_code (5 : Nat) (Option.some (Jvm.ClassFile.FieldType.array Jvm.ClassFile.FieldType.byte))).before args0 about1 = true := code_word (m := ⟨11, 6⟩) (meth := k11m6) (c := k11c6) (by decide +kernel) rfl rfl rfl (by decide +kernel)
set_option maxRecDepth 65536 in
theorem w_c22 : (Jvm.Cond.code ({ cls := "java/lang/StringUTF16", name := "newBytesFor", desc := "(I)[B" } : Jvm.MethodName) jdk_52_method_2_code (1 : Nat) (Option.some (Jvm.ClassFile.FieldType.array Jvm.ClassFile.FieldType.byte))).before args0 about1 = true := code_word (m := ⟨11, 1⟩) (meth := k11m1) (c := k11c1) (by decide +kernel) rfl rfl rfl (by decide +kernel)
set_option maxRecDepth 65536 in
theorem w_c23 : (Jvm.Cond.code ({ cls := "java/lang/StringUTF16", name := "newBytesLength", desc := "(I)I" } : Jvm.MethodName) jdk_52_method_3_code (1 : Nat) (Option.some Jvm.ClassFile.FieldType.int)).before args0 about1 = true := code_word (m := ⟨11, 2⟩) (meth := k11m2) (c := k11c2) (by decide +kernel) rfl rfl rfl (by decide +kernel)
set_option maxRecDepth 65536 in
theorem w_c24 : (Jvm.Cond.code ({ cls := "java/lang/StringUTF16", name := "putChar", desc := "([BII)V" } : Jvm.MethodName) jdk_52_method_4_code (3 : Nat) (Option.none : Option Jvm.ClassFile.FieldType)).before args0 about1 = true := code_word (m := ⟨11, 3⟩) (meth := k11m3) (c := k11c3) (by decide +kernel) rfl rfl rfl (by decide +kernel)
set_option maxRecDepth 65536 in
theorem w_c25 : (Jvm.Cond.code ({ cls := "java/lang/StringUTF16", name := "getChar", desc := "([BI)C" } : Jvm.MethodName) jdk_52_method_5_code (2 : Nat) (Option.some Jvm.ClassFile.FieldType.char)).before args0 about1 = true := code_word (m := ⟨11, 4⟩) (meth := k11m4) (c := k11c4) (by decide +kernel) rfl rfl rfl (by decide +kernel)
set_option maxRecDepth 65536 in
theorem w_c26 : (Jvm.Cond.code ({ cls := "java/lang/StringUTF16", name := "charAt", desc := "([BI)C" } : Jvm.MethodName) jdk_52_method_83_code (2 : Nat) (Option.some Jvm.ClassFile.FieldType.char)).before args0 about1 = true := code_word (m := ⟨11, 10⟩) (meth := k11m10) (c := k11c10) (by decide +kernel) rfl rfl rfl (by decide +kernel)
set_option maxRecDepth 65536 in
theorem w_c27 : (Jvm.Cond.code ({ cls := "java/lang/StringUTF16", name := "checkIndex", desc := "(I[B)V" } : Jvm.MethodName) jdk_52_method_91_code (2 : Nat) (Option.none : Option Jvm.ClassFile.FieldType)).before args0 about1 = true := code_word (m := ⟨11, 11⟩) (meth := k11m11) (c := k11c11) (by decide +kernel) rfl rfl rfl (by decide +kernel)
set_option maxRecDepth 65536 in
theorem w_c28 : (Jvm.Cond.code ({ cls := "java/lang/StringUTF16", name := "length", desc := "([B)I" } : Jvm.MethodName) jdk_52_method_6_code (1 : Nat) (Option.some Jvm.ClassFile.FieldType.int)).before args0 about1 = true := code_word (m := ⟨11, 5⟩) (meth := k11m5) (c := k11c5) (by decide +kernel) rfl rfl rfl (by decide +kernel)
def codes1 : List Jvm.Cond := [Jvm.Cond.code x code maxLocals ret, Jvm.Cond.code ({ cls := "com/example/grantline/grantline/name/NamesIsOperationIdPinLaw", name := "ch", desc := "(IZ)C" } : Jvm.MethodName) method_3_code (2 : Nat) (Option.some Jvm.ClassFile.FieldType.char), Jvm.Cond.code ({ cls := "java/lang/String", name := "charAt", desc := "(I)C" } : Jvm.MethodName) jdk_42_method_56_code (2 : Nat) (Option.some Jvm.ClassFile.FieldType.char), Jvm.Cond.code ({ cls := "java/lang/String", name := "isLatin1", desc := "()Z" } : Jvm.MethodName) jdk_42_method_154_code (1 : Nat) (Option.some Jvm.ClassFile.FieldType.boolean), Jvm.Cond.code ({ cls := "java/lang/StringLatin1", name := "charAt", desc := "([BI)C" } : Jvm.MethodName) jdk_43_method_2_code (2 : Nat) (Option.some Jvm.ClassFile.FieldType.char), Jvm.Cond.code ({ cls := "java/lang/String", name := "checkIndex", desc := "(II)V" } : Jvm.MethodName) jdk_42_method_155_code (2 : Nat) (Option.none : Option Jvm.ClassFile.FieldType), Jvm.Cond.code ({ cls := "jdk/internal/util/Preconditions", name := "checkIndex", desc := "(IILjava/util/function/BiFunction;)I" } : Jvm.MethodName) jdk_41_method_11_code (3 : Nat) (Option.some Jvm.ClassFile.FieldType.int), Jvm.Cond.code ({ cls := "com/example/grantline/grantline/name/NamesIsOperationIdPinLaw", name := "pick", desc := "([CI)[C" } : Jvm.MethodName) method_5_code (2 : Nat) (Option.some (Jvm.ClassFile.FieldType.array Jvm.ClassFile.FieldType.char)), Jvm.Cond.code ({ cls := "java/lang/String", name := "<init>", desc := "([C)V" } : Jvm.MethodName) jdk_42_method_3_code (2 : Nat) (Option.none : Option Jvm.ClassFile.FieldType), Jvm.Cond.code ({ cls := "java/lang/String", name := "<init>", desc := "([CIILjava/lang/Void;)V" } : Jvm.MethodName) jdk_42_method_149_code (6 : Nat) (Option.none : Option Jvm.ClassFile.FieldType), Jvm.Cond.code ({ cls := "java/lang/Object", name := "<init>", desc := "()V" } : Jvm.MethodName) object_method_1_code (1 : Nat) (Option.none : Option Jvm.ClassFile.FieldType), Jvm.Cond.code ({ cls := "com/example/grantline/grantline/name/Names", name := "isOperationId", desc := "(Ljava/lang/String;)Z" } : Jvm.MethodName) prog_6_method_5_code (4 : Nat) (Option.some Jvm.ClassFile.FieldType.boolean), Jvm.Cond.code ({ cls := "java/lang/String", name := "isEmpty", desc := "()Z" } : Jvm.MethodName) jdk_42_method_55_code (1 : Nat) (Option.some Jvm.ClassFile.FieldType.boolean), Jvm.Cond.code ({ cls := "java/lang/String", name := "length", desc := "()I" } : Jvm.MethodName) jdk_42_method_54_code (1 : Nat) (Option.some Jvm.ClassFile.FieldType.int), Jvm.Cond.code ({ cls := "java/lang/String", name := "coder", desc := "()B" } : Jvm.MethodName) jdk_42_method_152_code (1 : Nat) (Option.some Jvm.ClassFile.FieldType.byte), Jvm.Cond.code ({ cls := "com/example/grantline/grantline/name/Names", name := "isLower", desc := "(C)Z" } : Jvm.MethodName) prog_6_method_11_code (1 : Nat) (Option.some Jvm.ClassFile.FieldType.boolean), Jvm.Cond.code ({ cls := "com/example/grantline/grantline/name/Names", name := "isDigit", desc := "(C)Z" } : Jvm.MethodName) prog_6_method_13_code (1 : Nat) (Option.some Jvm.ClassFile.FieldType.boolean), Jvm.Cond.code ({ cls := "java/lang/StringUTF16", name := "compress", desc := "([CII)[B" } : Jvm.MethodName) jdk_52_method_16_code (6 : Nat) (Option.some (Jvm.ClassFile.FieldType.array Jvm.ClassFile.FieldType.byte)), Jvm.Cond.code ({ cls := "java/lang/StringUTF16", name := "compress", desc := "([CI[BII)I" } : Jvm.MethodName) jdk_52_method_21_code (7 : Nat) (Option.some Jvm.ClassFile.FieldType.int), Jvm.Cond.code ({ cls := "java/lang/StringUTF16", name := "coderFromArrayLen", desc := "([BI)B" } : Jvm.MethodName) jdk_52_method_15_code (2 : Nat) (Option.some Jvm.ClassFile.FieldType.byte), Jvm.Cond.code ({ cls := "com/example/grantline/grantline/name/NamesIsOperationIdPinLaw", name := "ok", desc := "([CII)Z" } : Jvm.MethodName) method_4_code (4 : Nat) (Option.some Jvm.ClassFile.FieldType.boolean), Jvm.Cond.code ({ cls := "java/lang/StringUTF16", name := "toBytes", desc := "([CII)[B" } : Jvm.MethodName) jdk_52_method_14_code (5 : Nat) (Option.some (Jvm.ClassFile.FieldType.array Jvm.ClassFile.FieldType.byte)), Jvm.Cond.code ({ cls := "java/lang/StringUTF16", name := "newBytesFor", desc := "(I)[B" } : Jvm.MethodName) jdk_52_method_2_code (1 : Nat) (Option.some (Jvm.ClassFile.FieldType.array Jvm.ClassFile.FieldType.byte)), Jvm.Cond.code ({ cls := "java/lang/StringUTF16", name := "newBytesLength", desc := "(I)I" } : Jvm.MethodName) jdk_52_method_3_code (1 : Nat) (Option.some Jvm.ClassFile.FieldType.int), Jvm.Cond.code ({ cls := "java/lang/StringUTF16", name := "putChar", desc := "([BII)V" } : Jvm.MethodName) jdk_52_method_4_code (3 : Nat) (Option.none : Option Jvm.ClassFile.FieldType), Jvm.Cond.code ({ cls := "java/lang/StringUTF16", name := "getChar", desc := "([BI)C" } : Jvm.MethodName) jdk_52_method_5_code (2 : Nat) (Option.some Jvm.ClassFile.FieldType.char), Jvm.Cond.code ({ cls := "java/lang/StringUTF16", name := "charAt", desc := "([BI)C" } : Jvm.MethodName) jdk_52_method_83_code (2 : Nat) (Option.some Jvm.ClassFile.FieldType.char), Jvm.Cond.code ({ cls := "java/lang/StringUTF16", name := "checkIndex", desc := "(I[B)V" } : Jvm.MethodName) jdk_52_method_91_code (2 : Nat) (Option.none : Option Jvm.ClassFile.FieldType), Jvm.Cond.code ({ cls := "java/lang/StringUTF16", name := "length", desc := "([B)I" } : Jvm.MethodName) jdk_52_method_6_code (1 : Nat) (Option.some Jvm.ClassFile.FieldType.int)]
set_option maxRecDepth 65536 in
theorem codes_eq : words1.filter isCode = codes1 := rfl
theorem w_codes : ∀ c ∈ words1.filter isCode, c.before args0 about1 = true := by
  rw [codes_eq]
  intro c hc
  simp only [codes1, List.mem_cons, List.not_mem_nil, or_false] at hc
  rcases hc with rfl | rfl | rfl | rfl | rfl | rfl | rfl | rfl | rfl | rfl | rfl | rfl | rfl | rfl | rfl | rfl | rfl | rfl | rfl | rfl | rfl | rfl | rfl | rfl | rfl | rfl | rfl | rfl | rfl
  · exact w_c0
  · exact w_c1
  · exact w_c2
  · exact w_c3
  · exact w_c4
  · exact w_c5
  · exact w_c6
  · exact w_c7
  · exact w_c8
  · exact w_c9
  · exact w_c10
  · exact w_c11
  · exact w_c12
  · exact w_c13
  · exact w_c14
  · exact w_c15
  · exact w_c16
  · exact w_c17
  · exact w_c18
  · exact w_c19
  · exact w_c20
  · exact w_c21
  · exact w_c22
  · exact w_c23
  · exact w_c24
  · exact w_c25
  · exact w_c26
  · exact w_c27
  · exact w_c28
set_option maxRecDepth 65536 in
theorem w_t1 : (words1.take 24).all (fun c => isCode c || c.before args0 about1) = true := by decide +kernel
set_option maxRecDepth 65536 in
theorem w_t2 : ((words1.drop 24).take 24).all (fun c => isCode c || c.before args0 about1) = true := by decide +kernel
set_option maxRecDepth 65536 in
theorem w_t3 : (((words1.drop 24).drop 24).take 24).all (fun c => isCode c || c.before args0 about1) = true := by decide +kernel
set_option maxRecDepth 65536 in
theorem w_t4 : ((((words1.drop 24).drop 24).drop 24).take 24).all (fun c => isCode c || c.before args0 about1) = true := by decide +kernel
set_option maxRecDepth 65536 in
theorem w_t5 : (((((words1.drop 24).drop 24).drop 24).drop 24).take 24).all (fun c => isCode c || c.before args0 about1) = true := by decide +kernel
set_option maxRecDepth 65536 in
theorem w_t6 : (((((words1.drop 24).drop 24).drop 24).drop 24).drop 24).all (fun c => isCode c || c.before args0 about1) = true := by decide +kernel
theorem w_tables : (allAtoms (Jvm.Cond.code x code maxLocals ret :: tables_1)).before args0 about1 = true := by
  rw [allAtoms_all]
  show words1.all (fun c => c.before args0 about1) = true
  refine all_split ?_ w_codes
  rw [← List.take_append_drop 24 words1, List.all_append, w_t1, ← List.take_append_drop 24 (words1.drop 24), List.all_append, w_t2, ← List.take_append_drop 24 ((words1.drop 24).drop 24), List.all_append, w_t3, ← List.take_append_drop 24 (((words1.drop 24).drop 24).drop 24), List.all_append, w_t4, ← List.take_append_drop 24 ((((words1.drop 24).drop 24).drop 24).drop 24), List.all_append, w_t5, w_t6]
  rfl
set_option maxRecDepth 65536 in
theorem w_rest : rest_1_c.before args0 about1 = true := by decide +kernel
set_option maxRecDepth 65536 in
theorem w_case : (Jvm.Cond.and given_1 narrow_1).before args0 about1 = true := by decide +kernel
set_option maxRecDepth 65536 in
theorem w_consts : constsHeld consts_1 about1 := Jvm.Lit.constsHeldB_iff.mp (by decide +kernel)
theorem w_applies : (headSpec (Jvm.Cond.code x code maxLocals ret :: tables_1) room_1).applies x e0.platform about1 = true :=
  (Spec.applies_iff w_frames).mpr ⟨w_running, w_runnable, w_alone, w_named, w_hears, w_ripe, w_room, w_tables⟩
theorem atStart : AtStart classFile x code maxLocals ret World_1 tables_1 room_1 Calls_1 rest_1 Pre_1 launch0 p0 e0 about1 theMethod args0 below0 :=
  ⟨lists_1, trivial, launch0.admits_env _ _ _, launch0.least_env, fairChoices_fair.cas, fairChoices_fair.clock, w_frames, w_args, w_heap, w_applies, ⟨w_consts, trivial⟩, w_rest, w_case⟩
end start1
theorem witness_1 : WitnessClaimed_1 := ⟨start1.p0, start1.e0, start1.about1, start1.theMethod, start1.args0, start1.below0, start1.atStart⟩
end Jvm.Pilot.@@N@@
