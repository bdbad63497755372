import JvmDerived
import JvmDerived.Pilot.@@N@@Statement
import JvmDerived.Pilot.@@N@@Code
set_option linter.unusedVariables false
set_option linter.unusedSimpArgs false
namespace Jvm.Pilot.@@N@@.Own
open Jvm Jvm.ClassFile Sem Op Lib Jvm.Free Jvm.Stand Jvm.LawKit Jvm.RoadKit Bundle
/-- the tables at which a walk's Stand is based: the start's own, or later ones (a String constant may have been interned) -/
def Cx (b : Bool) (s : State) (vm0 : Vm) (n : Nat) : Prop := match b with
  | true => ∃ k0, s.Since vm0 k0 ∧ k0 ≤ n
  | false => vm0 = s.vm
def En (b : Bool) (s : State) (o : Outcome) (t : State) (L : List Loc) (k n : Nat) : Prop := match b with
  | true => ReturnedEndW s o t L k n
  | false => FrameEnd s o t L k n
theorem Cx.start (b : Bool) (s : State) (n : Nat) : Cx b s s.vm n := by
  cases b
  · exact rfl
  · exact ⟨n, (State.WarmedH.refl s).since n, Nat.le_refl _⟩
theorem Cx.mono {b : Bool} {s : State} {vm0 : Vm} {n n' : Nat} (x : Cx b s vm0 n) (q : n ≤ n') : Cx b s vm0 n' := by
  cases b
  · exact x
  · obtain ⟨k, h1, h2⟩ := x; exact ⟨k, h1, Nat.le_trans h2 q⟩
/-- an instruction with its length and the next pc -/
abbrev Dec (b : ByteArray) (pc : Nat) (i : Instr) (n pc' : Nat) : Prop := decode b pc = .ok (i, n) ∧ pc + n = pc'
def ccP : ClassFile.Cond → Int32 → Int32 → Prop
  | .eq, x, y => x = y
  | .ne, x, y => ¬ x = y
  | .lt, x, y => x < y
  | .ge, x, y => ¬ x < y
  | .gt, x, y => y < x
  | .le, x, y => ¬ y < x
def ccN : ClassFile.Cond → Int32 → Int32 → Prop
  | .eq, x, y => ¬ x = y
  | .ne, x, y => x = y
  | .lt, x, y => ¬ x < y
  | .ge, x, y => x < y
  | .gt, x, y => ¬ y < x
  | .le, x, y => y < x
theorem cc_or (cd : ClassFile.Cond) (x y : Int32) : ccP cd x y ∨ ccN cd x y := by
  cases cd
  · exact Decidable.em (x = y)
  · exact (Decidable.em (x = y)).symm
  · exact Decidable.em (x < y)
  · exact (Decidable.em (x < y)).symm
  · exact Decidable.em (y < x)
  · exact (Decidable.em (y < x)).symm
theorem cc_y {cd : ClassFile.Cond} {x y : Int32} (h : ccP cd x y) : if_icmp.holds cd x y = true := by
  cases cd
  · exact (teq h).1
  · exact (feq h).2
  · exact (tlt h).1
  · exact (flt h).2.1
  · exact (tlt h).2.2.1
  · exact (flt h).2.2.2
theorem cc_n {cd : ClassFile.Cond} {x y : Int32} (h : ccN cd x y) : if_icmp.holds cd x y = false := by
  cases cd
  · exact (feq h).1
  · exact (teq h).2
  · exact (flt h).1
  · exact (tlt h).2.1
  · exact (flt h).2.2.1
  · exact (tlt h).2.2.2
/-- what a walk knows of its own method -/
abbrev Kx (p : Program) (c : Code) (meth : Method) (bytes : ByteArray) (mx : Nat) (ret : Option FieldType) (nm : String) : Prop :=
  p.tables.exec = Jvm.exec ∧ c.code = bytes ∧ c.maxLocals = mx ∧ meth.sig.returnType = ret ∧ meth.name = nm ∧ meth.locks = false
/-- of an address: no booked String constant and no such one's array -/
def Sl (Z : State) (EL : List (String × Nat)) (SL : List Addr) (vm : Vm) (h : Heap) : Prop := ∀ x ∈ SL, x < h.size ∧ Safe Z EL vm h x
def Sf (Z : State) (EL : List (String × Nat)) (SL : List Addr) (h : Heap) (a : Addr) : Prop := ∀ vm0 : Vm, Z.Warmed39 vm0 → Sl Z EL SL vm0 h → Safe Z EL vm0 h a
theorem safe0 {Z : State} {vm : Vm} {h : Heap} {a : Addr} : Safe Z [] vm h a := fun ⟨_, hp, _⟩ => nomatch hp
theorem Sf.nil {Z : State} {SL : List Addr} {h : Heap} {a : Addr} : Sf Z [] SL h a := fun _ _ _ => safe0
theorem Sf.mem {Z : State} {EL : List (String × Nat)} {SL : List Addr} {h : Heap} {a : Addr} (q : a ∈ SL) : Sf Z EL SL h a := fun _ _ k => (k a q).2
theorem Sf.exa {Z : State} {EL : List (String × Nat)} {SL : List Addr} {h : Heap} {a : Addr} {C : String} (E : Exa Z h a C) (h1 : C ≠ "java/lang/String") (h2 : C ≠ "[B") : Sf Z EL SL h a := fun _ hZ _ => Safe.exa hZ.alike E h1 h2
theorem Sf.arr {Z : State} {EL : List (String × Nat)} {SL : List Addr} {h : Heap} {a : Addr} {cl : Cell} {ty : FieldType} (A : Arr Z h a cl ty) (ht : ty ≠ .byte) : Sf Z EL SL h a := fun _ hZ _ => Safe.arr hZ.alike A ht
theorem Sf.arv {Z : State} {EL : List (String × Nat)} {SL : List Addr} {h : Heap} {a : Addr} {k : ClassId} {ty : FieldType} {z : Int32} {vs : List Value} {d : Value} (A : Arv Z h a k ty z vs d) (ht : ty ≠ .byte) : Sf Z EL SL h a := by
  obtain ⟨cl, A, -⟩ := A; exact Sf.arr A ht
theorem Sl.step {Z : State} {EL : List (String × Nat)} {SL : List Addr} {vm vm1 : Vm} {h h' : Heap} (A : CHr Z EL vm h vm1 h') (k : Sl Z EL SL vm h) : Sl Z EL SL vm1 h' := fun x q => ⟨Nat.lt_of_lt_of_le (k x q).1 A.2.1, A.safe (k x q).1 (k x q).2⟩
theorem Sl.nil {Z : State} {EL : List (String × Nat)} {vm : Vm} {h : Heap} : Sl Z EL [] vm h := fun _ q => nomatch q
theorem Sl.app {Z : State} {EL : List (String × Nat)} {SL SL' : List Addr} {vm : Vm} {h : Heap} (a : Sl Z EL SL vm h) (b : Sl Z EL SL' vm h) : Sl Z EL (SL ++ SL') vm h := fun x q => (List.mem_append.mp q).elim (a x) (b x)
theorem chr0 {Z : State} {vm vm1 : Vm} {h h' : Heap} (q : h.size ≤ h'.size) : CHr Z [] vm h vm1 h' := ⟨(fun _ hp => nomatch hp : CHv Z [] vm1 h'), q, fun _ B => by obtain ⟨_, hp, _⟩ := B; nomatch hp⟩
theorem chv0 {Z : State} {vm : Vm} {h : Heap} : CHv Z [] vm h := fun _ hp => nomatch hp

/-- **WHERE A WALK STANDS AND WHAT IT OWES**: from this frame, over this heap, the method comes to its end and Q holds there -/
def Go (b : Bool) (p : Program) (l : Launch) (e : Env) (R : Room) (s : State) (m : MethodId) (args : Array Value) (below : List Frame) (meth : Method) (c : Code) (Z : State) (EL : List (String × Nat)) (own : String)
    (Q : Option Value → Heap → List Loc → List Addr → Prop) (SL : List Addr) (g : JFrame) (h : Heap) (locs : List Loc) (cells slots : Nat) : Prop :=
  ∀ (T : State) (vm0 : Vm), Stand p l e R (s.setVm vm0) m args below meth c T locs cells slots → T.heap = h → Cx b s vm0 h.size → Z.Warmed39 vm0 → vm0.findClass own = some m.cls → CHr Z EL s.vm s.heap vm0 h → Sl Z EL SL vm0 h →
    ∃ (s₂ : State) (v : Option Value) (L : List Loc) (A : List Addr), Steps p.tables e below (T.setTop g) s₂ ∧ s₂.status = .running ∧ Ended s₂ below (.returned v) ∧ Q v s₂.heap L A ∧ CHr Z EL s.vm s.heap s₂.vm s₂.heap ∧ Sl Z EL A s₂.vm s₂.heap ∧ En b s (.returned v) s₂ L R.cells R.slots
/-- **A CONTRACT**: called with these arguments at this heap, the method comes back and Q holds -/
def Ctr (b : Bool) (l : Launch) (Z : State) (EL : List (String × Nat)) (y : MethodName) (bytes : ByteArray) (maxL : Nat) (ret : Option FieldType) (ws : List Jvm.Cond) (rm : Room) (as' : Array Value) (h : Heap) (SL : List Addr)
    (Q : Option Value → Heap → List Loc → List Addr → Prop) : Prop :=
  MetFree l y (head1 (Jvm.Cond.code y bytes maxL ret :: ws) rm) (fun a U => a = as' ∧ Z.Warmed39 U.vm ∧ U.heap = h ∧ CHv Z EL U.vm h ∧ Sl Z EL SL U.vm h) (fun _ _ _ _ _ => True)
    (fun _ U o U' => ∃ v L A, o = .returned v ∧ Q v U'.heap L A ∧ CHr Z EL U.vm U.heap U'.vm U'.heap ∧ Sl Z EL A U'.vm U'.heap ∧ En b U o U' L rm.cells rm.slots)

section W
variable {b : Bool} {p : Program} {l : Launch} {e : Env} {R : Room} {s : State} {m : MethodId} {args : Array Value} {below : List Frame} {meth : Method} {c : Code} {Z : State} {EL : List (String × Nat)} {own : String}
  {Q : Option Value → Heap → List Loc → List Addr → Prop} {SL : List Addr} {g g' : JFrame} {h : Heap} {locs : List Loc} {cells slots : Nat} {bytes : ByteArray} {mx : Nat} {ret : Option FieldType} {nm : String} {a0 : Array Value}

theorem Ctr.of {y : MethodName} {ws : List Jvm.Cond} {rm : Room} {as' : Array Value} {Ls : Array Slot} (hpl : plainName y.cls = true) (hef : ∀ m : MethodId, entryFrame m as' mx = mkF m 0 Ls [])
    (body : ∀ (p : Program) (e : Env) (s : State) (m : MethodId) (below : List Frame) (meth : Method) (c : Code), Kx p c meth bytes mx ret y.name → Go b p l e rm s m as' below meth c Z EL y.cls Q SL (mkF m 0 Ls []) h [] 0 0) :
    Ctr b l Z EL y bytes mx ret ws rm as' h SL Q := by
  refine MetFree.of_bodySF (plainFor_of_name hpl) hisR ?_
  intro p e s m args below meth c s₁ Bd hml hP hK
  obtain ⟨rfl, hZ, hh, hch, hsl⟩ := hP
  have e0 : s₁.heap = h := by rw [← hh, Bd.state]; rfl
  subst hh
  obtain ⟨s₂, v, L, A, h1, h2, h3, h4, h5, h6, h7⟩ := body p e s m below meth c ⟨Bd.exec, Bd.bytes, hml, Bd.returns, (name_of_methodNamed Bd.named Bd.method).1, Bd.notSynchronized⟩ s₁ s.vm (Stand.of_body Bd) e0 (Cx.start b s _) hZ (findClass_of_methodNamed Bd.named) (CHr.refl hch) hsl
  exact ⟨s₂, .returned v, castTop (hef m) h1, h2, h3, v, L, A, rfl, h4, h5, h6, h7⟩
theorem Ctr.widen {y : MethodName} {ws : List Jvm.Cond} {rm : Room} {as' : Array Value} (hC : Ctr false l Z EL y bytes mx ret ws rm as' h SL Q) : Ctr true l Z EL y bytes mx ret ws rm as' h SL Q := by
  intro p e ha hc hk s m args below hf happ hP hK
  obtain ⟨n, o, h1, h2, h3, v, L, A, h4, h5, h6, h7, h8⟩ := hC p e ha hc hk s m args below hf happ hP hK
  exact ⟨n, o, h1, h2, h3, v, L, A, h4, h5, h6, h7, wide h8⟩
theorem Ctr.mono {y : MethodName} {ws : List Jvm.Cond} {rm : Room} {as' : Array Value} {Q' : Option Value → Heap → List Loc → List Addr → Prop} (hC : Ctr b l Z EL y bytes mx ret ws rm as' h SL Q) (q : ∀ v h' L A, Q v h' L A → Q' v h' L A) : Ctr b l Z EL y bytes mx ret ws rm as' h SL Q' := by
  intro p e ha hc hk s m args below hf happ hP hK
  obtain ⟨n, o, h1, h2, h3, v, L, A, h4, h5, h6⟩ := hC p e ha hc hk s m args below hf happ hP hK
  exact ⟨n, o, h1, h2, h3, v, L, A, h4, q _ _ _ _ h5, h6⟩

/-- a step that moves the frame alone -/
theorem Go.step (st : ∀ (T : State) (vm0 : Vm), Stand p l e R (s.setVm vm0) m args below meth c T locs cells slots → T.heap = h → Z.Warmed39 vm0 → vm0.findClass own = some m.cls → ∀ t, Steps p.tables e below (T.setTop g') t → Steps p.tables e below (T.setTop g) t)
    (r : Go b p l e R s m args below meth c Z EL own Q SL g' h locs cells slots) : Go b p l e R s m args below meth c Z EL own Q SL g h locs cells slots := fun T vm0 X eT cx hZ ho ch sl => by
  obtain ⟨s₂, v, L, A, h1, hr⟩ := r T vm0 X eT cx hZ ho ch sl
  exact ⟨s₂, v, L, A, st T vm0 X eT hZ ho _ h1, hr⟩
/-- a step that may warm the tables -/
theorem Go.warm (st : ∀ (T : State) (vm0 : Vm), Stand p l e R (s.setVm vm0) m args below meth c T locs cells slots → T.heap = h → Z.Warmed39 vm0 → vm0.findClass own = some m.cls → ∃ T', Stand p l e R (s.setVm vm0) m args below meth c T' locs cells slots ∧ T'.heap = h ∧ ∀ t, Steps p.tables e below (T'.setTop g') t → Steps p.tables e below (T.setTop g) t)
    (r : Go b p l e R s m args below meth c Z EL own Q SL g' h locs cells slots) : Go b p l e R s m args below meth c Z EL own Q SL g h locs cells slots := fun T vm0 X eT cx hZ ho ch sl => by
  obtain ⟨T', X', e', st'⟩ := st T vm0 X eT hZ ho
  obtain ⟨s₂, v, L, A, h1, hr⟩ := r T' vm0 X' e' cx hZ ho ch sl
  exact ⟨s₂, v, L, A, st' _ h1, hr⟩
/-- a store in one place of an address that is no booked constant's -/
theorem Go.wrote {a : Addr} {sl0 : Nat} {v0 : Value} (hs : Sf Z EL SL h a) (st : ∀ (T : State) (vm0 : Vm), Stand p l e R (s.setVm vm0) m args below meth c T locs cells slots → T.heap = h → Z.Warmed39 vm0 → vm0.findClass own = some m.cls → ∃ T' h', Stand p l e R (s.setVm vm0) m args below meth c T' (locs ++ [⟨a, sl0⟩]) cells slots ∧ T'.heap = h' ∧ Wr h h' a sl0 v0 ∧ ∀ t, Steps p.tables e below (T'.setTop g') t → Steps p.tables e below (T.setTop g) t)
    (r : ∀ h', Wr h h' a sl0 v0 → Go b p l e R s m args below meth c Z EL own Q SL g' h' (locs ++ [⟨a, sl0⟩]) cells slots) : Go b p l e R s m args below meth c Z EL own Q SL g h locs cells slots := fun T vm0 X eT cx hZ ho ch sl => by
  obtain ⟨T', h', X', e', W, st'⟩ := st T vm0 X eT hZ ho
  have ch' := CHr.wr W (hs vm0 hZ sl) ch.1
  obtain ⟨s₂, v, L, A, h1, hr⟩ := r h' W T' vm0 X' e' (cx.mono ch'.2.1) hZ ho (ch.trans ch') (sl.step ch')
  exact ⟨s₂, v, L, A, st' _ h1, hr⟩
/-- the heap grows by one cell at its end -/
theorem Go.grew {F : Heap → Prop} {cells' slots' : Nat} (st : ∀ (T : State) (vm0 : Vm), Stand p l e R (s.setVm vm0) m args below meth c T locs cells slots → T.heap = h → Z.Warmed39 vm0 → vm0.findClass own = some m.cls → ∃ T' h', Stand p l e R (s.setVm vm0) m args below meth c T' locs cells' slots' ∧ T'.heap = h' ∧ Ext h h' ∧ h.size < h'.size ∧ F h' ∧ ∀ t, Steps p.tables e below (T'.setTop g') t → Steps p.tables e below (T.setTop g) t)
    (r : ∀ h', Ext h h' → F h' → Go b p l e R s m args below meth c Z EL own Q (h.size :: SL) g' h' locs cells' slots') : Go b p l e R s m args below meth c Z EL own Q SL g h locs cells slots := fun T vm0 X eT cx hZ ho ch sl => by
  obtain ⟨T', h', X', e', E, lt, f, st'⟩ := st T vm0 X eT hZ ho
  have ch' := CHr.ext E ch.1
  have sl' : Sl Z EL (h.size :: SL) vm0 h' := fun x q => by
    rcases List.mem_cons.mp q with rfl | q
    · exact ⟨lt, Safe.ext E ch.1 (Safe.new (Nat.le_refl _))⟩
    · exact sl.step ch' x q
  obtain ⟨s₂, v, L, A, h1, hr⟩ := r h' E f T' vm0 X' e' (cx.mono ch'.2.1) hZ ho (ch.trans ch') sl'
  exact ⟨s₂, v, L, A, st' _ h1, hr⟩
/-- the end -/
theorem Go.end {v : Option Value} {A : List Addr} (K : Kx p c meth bytes mx ret nm) (hE : b = true ∧ EW Z a0 EL ∨ EL = []) (hv : ret = none → v = none) (hcl : cells ≤ R.cells) (hsl : slots ≤ R.slots) (hA : ∀ x ∈ A, x ∈ SL) (hQ : Q v h locs A)
    (st : ∀ (T : State) (vm0 : Vm), Stand p l e R (s.setVm vm0) m args below meth c T locs cells slots → T.heap = h → Z.Warmed39 vm0 → ∀ fs, (∀ (f : JFrame) (acts : List Action), f.method = m → f.locked = none → f.entered = [] → (doReturn e (T.setTop f) acts v).1 = T.setFrames fs) → Steps p.tables e below (T.setTop g) (T.setFrames fs)) :
    Go b p l e R s m args below meth c Z EL own Q SL g h locs cells slots := fun T vm0 X eT cx hZ ho ch sl => by
  have hlk : meth.locks = false := K.2.2.2.2.2
  have hv' : meth.sig.returnType = none → v = none := fun q => hv (K.2.2.2.1.symm.trans q)
  have chE : CHr Z EL vm0 h T.vm h := by
    rcases hE with ⟨-, hE⟩ | rfl
    · exact CHv.at X hZ hE ch.1
    · exact chr0 (Nat.le_refl _)
  have slE : Sl Z EL A T.vm h := fun x q => sl.step chE x (hA x q)
  cases b
  · cases (show vm0 = s.vm from cx)
    obtain ⟨fs, hr, hrun, hend, hW, hsame⟩ := Stand.leave (s := s) X hv' hlk
    refine ⟨T.setFrames fs, v, locs, A, st T _ X eT hZ fs hr, hrun, hend, ?_, ?_, ?_, ⟨v, rfl⟩, hW, hsame.mono hcl hsl⟩
    · show Q v T.heap locs A; rw [eT]; exact hQ
    · show CHr Z EL s.vm s.heap T.vm T.heap; rw [eT]; exact ch.trans chE
    · show Sl Z EL A T.vm T.heap; rw [eT]; exact slE
  · obtain ⟨k0, hS, hk⟩ := cx
    obtain ⟨fs, hr, hrun, hend, q1, q2, q3, q4⟩ := X.leaveW hS (by rw [eT]; exact hk) hv' hlk
    refine ⟨T.setFrames fs, v, locs, A, st T _ X eT hZ fs hr, hrun, hend, ?_, ?_, ?_, q1, q2, q3, q4.mono hcl hsl⟩
    · show Q v T.heap locs A; rw [eT]; exact hQ
    · show CHr Z EL s.vm s.heap T.vm T.heap; rw [eT]; exact ch.trans chE
    · show Sl Z EL A T.vm T.heap; rw [eT]; exact slE
theorem Go.aloadN (K : Kx p c meth bytes mx ret nm) {pc pc' : Nat} {Ls : Array Slot} {S : List Value} {k : Fin 4} {v : Value} (d : Dec bytes pc (.aload_n k) 1 pc') (hl : Ls[k.val]? = some (.val v)) (hv : v.isRef = true) (r : Go b p l e R s m args below meth c Z EL own Q SL (mkF m (pc') Ls (v :: S)) h locs cells slots) : Go b p l e R s m args below meth c Z EL own Q SL (mkF m pc Ls (S)) h locs cells slots := by
  obtain ⟨d1, rfl⟩ := d
  exact Go.step (fun T vm0 X eT hZ ho t k => XS.aloadN X.here K.1 rfl (hb K.2.1 d1) hl hv k) r
theorem Go.aload (K : Kx p c meth bytes mx ret nm) {pc pc' : Nat} {Ls : Array Slot} {S : List Value} {k : Nat} {v : Value} (d : Dec bytes pc (.aload k) 2 pc') (hl : Ls[k]? = some (.val v)) (hv : v.isRef = true) (r : Go b p l e R s m args below meth c Z EL own Q SL (mkF m (pc') Ls (v :: S)) h locs cells slots) : Go b p l e R s m args below meth c Z EL own Q SL (mkF m pc Ls (S)) h locs cells slots := by
  obtain ⟨d1, rfl⟩ := d
  exact Go.step (fun T vm0 X eT hZ ho t k => XS.aload X.here K.1 rfl (hb K.2.1 d1) hl hv k) r
theorem Go.iloadN (K : Kx p c meth bytes mx ret nm) {pc pc' : Nat} {Ls : Array Slot} {S : List Value} {k : Fin 4} {v : Int32} (d : Dec bytes pc (.iload_n k) 1 pc') (hl : Ls[k.val]? = some (.val (.int v))) (r : Go b p l e R s m args below meth c Z EL own Q SL (mkF m (pc') Ls (.int v :: S)) h locs cells slots) : Go b p l e R s m args below meth c Z EL own Q SL (mkF m pc Ls (S)) h locs cells slots := by
  obtain ⟨d1, rfl⟩ := d
  exact Go.step (fun T vm0 X eT hZ ho t k => XS.iloadN X.here K.1 rfl (hb K.2.1 d1) hl k) r
theorem Go.iload (K : Kx p c meth bytes mx ret nm) {pc pc' : Nat} {Ls : Array Slot} {S : List Value} {k : Nat} {v : Int32} (d : Dec bytes pc (.iload k) 2 pc') (hl : Ls[k]? = some (.val (.int v))) (r : Go b p l e R s m args below meth c Z EL own Q SL (mkF m (pc') Ls (.int v :: S)) h locs cells slots) : Go b p l e R s m args below meth c Z EL own Q SL (mkF m pc Ls (S)) h locs cells slots := by
  obtain ⟨d1, rfl⟩ := d
  exact Go.step (fun T vm0 X eT hZ ho t k => XS.iload X.here K.1 rfl (hb K.2.1 d1) hl k) r
theorem Go.lloadN (K : Kx p c meth bytes mx ret nm) {pc pc' : Nat} {Ls : Array Slot} {S : List Value} {k : Fin 4} {v : Int64} (d : Dec bytes pc (.lload_n k) 1 pc') (hl : Ls[k.val]? = some (.val (.long v))) (r : Go b p l e R s m args below meth c Z EL own Q SL (mkF m (pc') Ls (.long v :: S)) h locs cells slots) : Go b p l e R s m args below meth c Z EL own Q SL (mkF m pc Ls (S)) h locs cells slots := by
  obtain ⟨d1, rfl⟩ := d
  exact Go.step (fun T vm0 X eT hZ ho t k => XS.lloadN X.here K.1 rfl (hb K.2.1 d1) hl k) r
theorem Go.lload (K : Kx p c meth bytes mx ret nm) {pc pc' : Nat} {Ls : Array Slot} {S : List Value} {k : Nat} {v : Int64} (d : Dec bytes pc (.lload k) 2 pc') (hl : Ls[k]? = some (.val (.long v))) (r : Go b p l e R s m args below meth c Z EL own Q SL (mkF m (pc') Ls (.long v :: S)) h locs cells slots) : Go b p l e R s m args below meth c Z EL own Q SL (mkF m pc Ls (S)) h locs cells slots := by
  obtain ⟨d1, rfl⟩ := d
  exact Go.step (fun T vm0 X eT hZ ho t k => XS.lload X.here K.1 rfl (hb K.2.1 d1) hl k) r
theorem Go.istoreN (K : Kx p c meth bytes mx ret nm) {pc pc' : Nat} {Ls : Array Slot} {S : List Value} {k : Fin 4} {x : Int32} (l' : Array Slot) (d : Dec bytes pc (.istore_n k) 1 pc') (hl : storeLocals Ls k.val (.int x) = some l') (r : Go b p l e R s m args below meth c Z EL own Q SL (mkF m (pc') l' (S)) h locs cells slots) : Go b p l e R s m args below meth c Z EL own Q SL (mkF m pc Ls (.int x :: S)) h locs cells slots := by
  obtain ⟨d1, rfl⟩ := d
  exact Go.step (fun T vm0 X eT hZ ho t k => XS.istoreN X.here K.1 rfl (hb K.2.1 d1) rfl hl k) r
theorem Go.istore (K : Kx p c meth bytes mx ret nm) {pc pc' : Nat} {Ls : Array Slot} {S : List Value} {k : Nat} {x : Int32} (l' : Array Slot) (d : Dec bytes pc (.istore k) 2 pc') (hl : storeLocals Ls k (.int x) = some l') (r : Go b p l e R s m args below meth c Z EL own Q SL (mkF m (pc') l' (S)) h locs cells slots) : Go b p l e R s m args below meth c Z EL own Q SL (mkF m pc Ls (.int x :: S)) h locs cells slots := by
  obtain ⟨d1, rfl⟩ := d
  exact Go.step (fun T vm0 X eT hZ ho t k => XS.istore X.here K.1 rfl (hb K.2.1 d1) rfl hl k) r
theorem Go.lstoreN (K : Kx p c meth bytes mx ret nm) {pc pc' : Nat} {Ls : Array Slot} {S : List Value} {k : Fin 4} {x : Int64} (l' : Array Slot) (d : Dec bytes pc (.lstore_n k) 1 pc') (hl : storeLocals Ls k.val (.long x) = some l') (r : Go b p l e R s m args below meth c Z EL own Q SL (mkF m (pc') l' (S)) h locs cells slots) : Go b p l e R s m args below meth c Z EL own Q SL (mkF m pc Ls (.long x :: S)) h locs cells slots := by
  obtain ⟨d1, rfl⟩ := d
  exact Go.step (fun T vm0 X eT hZ ho t k => XS.lstoreN X.here K.1 rfl (hb K.2.1 d1) rfl hl k) r
theorem Go.lstore (K : Kx p c meth bytes mx ret nm) {pc pc' : Nat} {Ls : Array Slot} {S : List Value} {k : Nat} {x : Int64} (l' : Array Slot) (d : Dec bytes pc (.lstore k) 2 pc') (hl : storeLocals Ls k (.long x) = some l') (r : Go b p l e R s m args below meth c Z EL own Q SL (mkF m (pc') l' (S)) h locs cells slots) : Go b p l e R s m args below meth c Z EL own Q SL (mkF m pc Ls (.long x :: S)) h locs cells slots := by
  obtain ⟨d1, rfl⟩ := d
  exact Go.step (fun T vm0 X eT hZ ho t k => XS.lstore X.here K.1 rfl (hb K.2.1 d1) rfl hl k) r
theorem Go.astoreN (K : Kx p c meth bytes mx ret nm) {pc pc' : Nat} {Ls : Array Slot} {S : List Value} {k : Fin 4} {x : Value} (l' : Array Slot) (d : Dec bytes pc (.astore_n k) 1 pc') (hv : x.isRef = true) (hl : storeLocals Ls k.val (x) = some l') (r : Go b p l e R s m args below meth c Z EL own Q SL (mkF m (pc') l' (S)) h locs cells slots) : Go b p l e R s m args below meth c Z EL own Q SL (mkF m pc Ls (x :: S)) h locs cells slots := by
  obtain ⟨d1, rfl⟩ := d
  exact Go.step (fun T vm0 X eT hZ ho t k => XS.astoreN X.here K.1 rfl (hb K.2.1 d1) rfl hv hl k) r
theorem Go.astore (K : Kx p c meth bytes mx ret nm) {pc pc' : Nat} {Ls : Array Slot} {S : List Value} {k : Nat} {x : Value} (l' : Array Slot) (d : Dec bytes pc (.astore k) 2 pc') (hv : x.isRef = true) (hl : storeLocals Ls k (x) = some l') (r : Go b p l e R s m args below meth c Z EL own Q SL (mkF m (pc') l' (S)) h locs cells slots) : Go b p l e R s m args below meth c Z EL own Q SL (mkF m pc Ls (x :: S)) h locs cells slots := by
  obtain ⟨d1, rfl⟩ := d
  exact Go.step (fun T vm0 X eT hZ ho t k => XS.astore X.here K.1 rfl (hb K.2.1 d1) rfl hv hl k) r
theorem Go.iconst (K : Kx p c meth bytes mx ret nm) {pc pc' : Nat} {Ls : Array Slot} {S : List Value} {i : Int} (d : Dec bytes pc (.iconst i) 1 pc') (z : Int32) (hz : Int32.ofInt i = z) (r : Go b p l e R s m args below meth c Z EL own Q SL (mkF m pc' Ls (.int z :: S)) h locs cells slots) : Go b p l e R s m args below meth c Z EL own Q SL (mkF m pc Ls S) h locs cells slots := by
  obtain ⟨d1, rfl⟩ := d; subst hz
  exact Go.step (fun T vm0 X eT hZ ho t k => XS.iconst X.here K.1 rfl (hb K.2.1 d1) k) r
theorem Go.bipush (K : Kx p c meth bytes mx ret nm) {pc pc' : Nat} {Ls : Array Slot} {S : List Value} {i : Int} (d : Dec bytes pc (.bipush i) 2 pc') (z : Int32) (hz : (Int8.ofInt i).toInt32 = z) (r : Go b p l e R s m args below meth c Z EL own Q SL (mkF m pc' Ls (.int z :: S)) h locs cells slots) : Go b p l e R s m args below meth c Z EL own Q SL (mkF m pc Ls S) h locs cells slots := by
  obtain ⟨d1, rfl⟩ := d; subst hz
  exact Go.step (fun T vm0 X eT hZ ho t k => XS.bipush X.here K.1 rfl (hb K.2.1 d1) k) r
theorem Go.sipush (K : Kx p c meth bytes mx ret nm) {pc pc' : Nat} {Ls : Array Slot} {S : List Value} {i : Int} (d : Dec bytes pc (.sipush i) 3 pc') (z : Int32) (hz : (Int16.ofInt i).toInt32 = z) (r : Go b p l e R s m args below meth c Z EL own Q SL (mkF m pc' Ls (.int z :: S)) h locs cells slots) : Go b p l e R s m args below meth c Z EL own Q SL (mkF m pc Ls S) h locs cells slots := by
  obtain ⟨d1, rfl⟩ := d; subst hz
  exact Go.step (fun T vm0 X eT hZ ho t k => XS.sipush X.here K.1 rfl (hb K.2.1 d1) k) r
theorem Go.lconst (K : Kx p c meth bytes mx ret nm) {pc pc' : Nat} {Ls : Array Slot} {S : List Value} {i : Fin 2} (d : Dec bytes pc (.lconst i) 1 pc') (z : Int64) (hz : Int64.ofNat i = z) (r : Go b p l e R s m args below meth c Z EL own Q SL (mkF m pc' Ls (.long z :: S)) h locs cells slots) : Go b p l e R s m args below meth c Z EL own Q SL (mkF m pc Ls S) h locs cells slots := by
  obtain ⟨d1, rfl⟩ := d; subst hz
  exact Go.step (fun T vm0 X eT hZ ho t k => XS.lconst X.here K.1 rfl (hb K.2.1 d1) k) r
theorem Go.aconstNull (K : Kx p c meth bytes mx ret nm) {pc pc' : Nat} {Ls : Array Slot} {S : List Value}  (d : Dec bytes pc (.aconst_null) 1 pc')  (r : Go b p l e R s m args below meth c Z EL own Q SL (mkF m (pc') Ls (.null :: S)) h locs cells slots) : Go b p l e R s m args below meth c Z EL own Q SL (mkF m pc Ls (S)) h locs cells slots := by
  obtain ⟨d1, rfl⟩ := d
  exact Go.step (fun T vm0 X eT hZ ho t k => XS.aconstNull X.here K.1 rfl (hb K.2.1 d1) k) r
theorem Go.iadd (K : Kx p c meth bytes mx ret nm) {pc pc' : Nat} {Ls : Array Slot} {S : List Value} {x y : Int32} (d : Dec bytes pc (.iadd) 1 pc')  (r : Go b p l e R s m args below meth c Z EL own Q SL (mkF m (pc') Ls (.int (x + y) :: S)) h locs cells slots) : Go b p l e R s m args below meth c Z EL own Q SL (mkF m pc Ls (.int y :: .int x :: S)) h locs cells slots := by
  obtain ⟨d1, rfl⟩ := d
  exact Go.step (fun T vm0 X eT hZ ho t k => XS.iadd X.here K.1 rfl (hb K.2.1 d1) rfl k) r
theorem Go.isub (K : Kx p c meth bytes mx ret nm) {pc pc' : Nat} {Ls : Array Slot} {S : List Value} {x y : Int32} (d : Dec bytes pc (.isub) 1 pc')  (r : Go b p l e R s m args below meth c Z EL own Q SL (mkF m (pc') Ls (.int (x - y) :: S)) h locs cells slots) : Go b p l e R s m args below meth c Z EL own Q SL (mkF m pc Ls (.int y :: .int x :: S)) h locs cells slots := by
  obtain ⟨d1, rfl⟩ := d
  exact Go.step (fun T vm0 X eT hZ ho t k => XS.isub X.here K.1 rfl (hb K.2.1 d1) rfl k) r
theorem Go.imul (K : Kx p c meth bytes mx ret nm) {pc pc' : Nat} {Ls : Array Slot} {S : List Value} {x y : Int32} (d : Dec bytes pc (.imul) 1 pc')  (r : Go b p l e R s m args below meth c Z EL own Q SL (mkF m (pc') Ls (.int (x * y) :: S)) h locs cells slots) : Go b p l e R s m args below meth c Z EL own Q SL (mkF m pc Ls (.int y :: .int x :: S)) h locs cells slots := by
  obtain ⟨d1, rfl⟩ := d
  exact Go.step (fun T vm0 X eT hZ ho t k => XS.imul X.here K.1 rfl (hb K.2.1 d1) rfl k) r
theorem Go.iand (K : Kx p c meth bytes mx ret nm) {pc pc' : Nat} {Ls : Array Slot} {S : List Value} {x y : Int32} (d : Dec bytes pc (.iand) 1 pc')  (r : Go b p l e R s m args below meth c Z EL own Q SL (mkF m (pc') Ls (.int (x &&& y) :: S)) h locs cells slots) : Go b p l e R s m args below meth c Z EL own Q SL (mkF m pc Ls (.int y :: .int x :: S)) h locs cells slots := by
  obtain ⟨d1, rfl⟩ := d
  exact Go.step (fun T vm0 X eT hZ ho t k => XS.iand X.here K.1 rfl (hb K.2.1 d1) rfl k) r
theorem Go.ior (K : Kx p c meth bytes mx ret nm) {pc pc' : Nat} {Ls : Array Slot} {S : List Value} {x y : Int32} (d : Dec bytes pc (.ior) 1 pc')  (r : Go b p l e R s m args below meth c Z EL own Q SL (mkF m (pc') Ls (.int (x ||| y) :: S)) h locs cells slots) : Go b p l e R s m args below meth c Z EL own Q SL (mkF m pc Ls (.int y :: .int x :: S)) h locs cells slots := by
  obtain ⟨d1, rfl⟩ := d
  exact Go.step (fun T vm0 X eT hZ ho t k => XS.ior X.here K.1 rfl (hb K.2.1 d1) rfl k) r
theorem Go.ixor (K : Kx p c meth bytes mx ret nm) {pc pc' : Nat} {Ls : Array Slot} {S : List Value} {x y : Int32} (d : Dec bytes pc (.ixor) 1 pc')  (r : Go b p l e R s m args below meth c Z EL own Q SL (mkF m (pc') Ls (.int (x ^^^ y) :: S)) h locs cells slots) : Go b p l e R s m args below meth c Z EL own Q SL (mkF m pc Ls (.int y :: .int x :: S)) h locs cells slots := by
  obtain ⟨d1, rfl⟩ := d
  exact Go.step (fun T vm0 X eT hZ ho t k => XS.ixor X.here K.1 rfl (hb K.2.1 d1) rfl k) r
theorem Go.ishl (K : Kx p c meth bytes mx ret nm) {pc pc' : Nat} {Ls : Array Slot} {S : List Value} {x y : Int32} (d : Dec bytes pc (.ishl) 1 pc')  (r : Go b p l e R s m args below meth c Z EL own Q SL (mkF m (pc') Ls (.int (x <<< (y &&& 31)) :: S)) h locs cells slots) : Go b p l e R s m args below meth c Z EL own Q SL (mkF m pc Ls (.int y :: .int x :: S)) h locs cells slots := by
  obtain ⟨d1, rfl⟩ := d
  exact Go.step (fun T vm0 X eT hZ ho t k => XS.ishl X.here K.1 rfl (hb K.2.1 d1) rfl k) r
theorem Go.ishr (K : Kx p c meth bytes mx ret nm) {pc pc' : Nat} {Ls : Array Slot} {S : List Value} {x y : Int32} (d : Dec bytes pc (.ishr) 1 pc')  (r : Go b p l e R s m args below meth c Z EL own Q SL (mkF m (pc') Ls (.int (x >>> (y &&& 31)) :: S)) h locs cells slots) : Go b p l e R s m args below meth c Z EL own Q SL (mkF m pc Ls (.int y :: .int x :: S)) h locs cells slots := by
  obtain ⟨d1, rfl⟩ := d
  exact Go.step (fun T vm0 X eT hZ ho t k => XS.ishr X.here K.1 rfl (hb K.2.1 d1) rfl k) r
theorem Go.iushr (K : Kx p c meth bytes mx ret nm) {pc pc' : Nat} {Ls : Array Slot} {S : List Value} {x y : Int32} (d : Dec bytes pc (.iushr) 1 pc')  (r : Go b p l e R s m args below meth c Z EL own Q SL (mkF m (pc') Ls (.int ((x.toUInt32 >>> (y &&& 31).toUInt32).toInt32) :: S)) h locs cells slots) : Go b p l e R s m args below meth c Z EL own Q SL (mkF m pc Ls (.int y :: .int x :: S)) h locs cells slots := by
  obtain ⟨d1, rfl⟩ := d
  exact Go.step (fun T vm0 X eT hZ ho t k => XS.iushr X.here K.1 rfl (hb K.2.1 d1) rfl k) r
theorem Go.ladd (K : Kx p c meth bytes mx ret nm) {pc pc' : Nat} {Ls : Array Slot} {S : List Value} {x y : Int64} (d : Dec bytes pc (.ladd) 1 pc')  (r : Go b p l e R s m args below meth c Z EL own Q SL (mkF m (pc') Ls (.long (x + y) :: S)) h locs cells slots) : Go b p l e R s m args below meth c Z EL own Q SL (mkF m pc Ls (.long y :: .long x :: S)) h locs cells slots := by
  obtain ⟨d1, rfl⟩ := d
  exact Go.step (fun T vm0 X eT hZ ho t k => XS.ladd X.here K.1 rfl (hb K.2.1 d1) rfl k) r
theorem Go.lsub (K : Kx p c meth bytes mx ret nm) {pc pc' : Nat} {Ls : Array Slot} {S : List Value} {x y : Int64} (d : Dec bytes pc (.lsub) 1 pc')  (r : Go b p l e R s m args below meth c Z EL own Q SL (mkF m (pc') Ls (.long (x - y) :: S)) h locs cells slots) : Go b p l e R s m args below meth c Z EL own Q SL (mkF m pc Ls (.long y :: .long x :: S)) h locs cells slots := by
  obtain ⟨d1, rfl⟩ := d
  exact Go.step (fun T vm0 X eT hZ ho t k => XS.lsub X.here K.1 rfl (hb K.2.1 d1) rfl k) r
theorem Go.lmul (K : Kx p c meth bytes mx ret nm) {pc pc' : Nat} {Ls : Array Slot} {S : List Value} {x y : Int64} (d : Dec bytes pc (.lmul) 1 pc')  (r : Go b p l e R s m args below meth c Z EL own Q SL (mkF m (pc') Ls (.long (x * y) :: S)) h locs cells slots) : Go b p l e R s m args below meth c Z EL own Q SL (mkF m pc Ls (.long y :: .long x :: S)) h locs cells slots := by
  obtain ⟨d1, rfl⟩ := d
  exact Go.step (fun T vm0 X eT hZ ho t k => XS.lmul X.here K.1 rfl (hb K.2.1 d1) rfl k) r
theorem Go.land (K : Kx p c meth bytes mx ret nm) {pc pc' : Nat} {Ls : Array Slot} {S : List Value} {x y : Int64} (d : Dec bytes pc (.land) 1 pc')  (r : Go b p l e R s m args below meth c Z EL own Q SL (mkF m (pc') Ls (.long (x &&& y) :: S)) h locs cells slots) : Go b p l e R s m args below meth c Z EL own Q SL (mkF m pc Ls (.long y :: .long x :: S)) h locs cells slots := by
  obtain ⟨d1, rfl⟩ := d
  exact Go.step (fun T vm0 X eT hZ ho t k => XS.land X.here K.1 rfl (hb K.2.1 d1) rfl k) r
theorem Go.lor (K : Kx p c meth bytes mx ret nm) {pc pc' : Nat} {Ls : Array Slot} {S : List Value} {x y : Int64} (d : Dec bytes pc (.lor) 1 pc')  (r : Go b p l e R s m args below meth c Z EL own Q SL (mkF m (pc') Ls (.long (x ||| y) :: S)) h locs cells slots) : Go b p l e R s m args below meth c Z EL own Q SL (mkF m pc Ls (.long y :: .long x :: S)) h locs cells slots := by
  obtain ⟨d1, rfl⟩ := d
  exact Go.step (fun T vm0 X eT hZ ho t k => XS.lor X.here K.1 rfl (hb K.2.1 d1) rfl k) r
theorem Go.lxor (K : Kx p c meth bytes mx ret nm) {pc pc' : Nat} {Ls : Array Slot} {S : List Value} {x y : Int64} (d : Dec bytes pc (.lxor) 1 pc')  (r : Go b p l e R s m args below meth c Z EL own Q SL (mkF m (pc') Ls (.long (x ^^^ y) :: S)) h locs cells slots) : Go b p l e R s m args below meth c Z EL own Q SL (mkF m pc Ls (.long y :: .long x :: S)) h locs cells slots := by
  obtain ⟨d1, rfl⟩ := d
  exact Go.step (fun T vm0 X eT hZ ho t k => XS.lxor X.here K.1 rfl (hb K.2.1 d1) rfl k) r
theorem Go.lshl (K : Kx p c meth bytes mx ret nm) {pc pc' : Nat} {Ls : Array Slot} {S : List Value} {x : Int64} {y : Int32} (d : Dec bytes pc (.lshl) 1 pc')  (r : Go b p l e R s m args below meth c Z EL own Q SL (mkF m (pc') Ls (.long (x <<< (y &&& 0x3f).toInt64) :: S)) h locs cells slots) : Go b p l e R s m args below meth c Z EL own Q SL (mkF m pc Ls (.int y :: .long x :: S)) h locs cells slots := by
  obtain ⟨d1, rfl⟩ := d
  exact Go.step (fun T vm0 X eT hZ ho t k => XS.lshl X.here K.1 rfl (hb K.2.1 d1) rfl k) r
theorem Go.lshr (K : Kx p c meth bytes mx ret nm) {pc pc' : Nat} {Ls : Array Slot} {S : List Value} {x : Int64} {y : Int32} (d : Dec bytes pc (.lshr) 1 pc')  (r : Go b p l e R s m args below meth c Z EL own Q SL (mkF m (pc') Ls (.long (x >>> (y &&& 0x3f).toInt64) :: S)) h locs cells slots) : Go b p l e R s m args below meth c Z EL own Q SL (mkF m pc Ls (.int y :: .long x :: S)) h locs cells slots := by
  obtain ⟨d1, rfl⟩ := d
  exact Go.step (fun T vm0 X eT hZ ho t k => XS.lshr X.here K.1 rfl (hb K.2.1 d1) rfl k) r
theorem Go.lushr (K : Kx p c meth bytes mx ret nm) {pc pc' : Nat} {Ls : Array Slot} {S : List Value} {x : Int64} {y : Int32} (d : Dec bytes pc (.lushr) 1 pc')  (r : Go b p l e R s m args below meth c Z EL own Q SL (mkF m (pc') Ls (.long ((x.toUInt64 >>> (y &&& 0x3f).toInt64.toUInt64).toInt64) :: S)) h locs cells slots) : Go b p l e R s m args below meth c Z EL own Q SL (mkF m pc Ls (.int y :: .long x :: S)) h locs cells slots := by
  obtain ⟨d1, rfl⟩ := d
  exact Go.step (fun T vm0 X eT hZ ho t k => XS.lushr X.here K.1 rfl (hb K.2.1 d1) rfl k) r
theorem Go.lcmp (K : Kx p c meth bytes mx ret nm) {pc pc' : Nat} {Ls : Array Slot} {S : List Value} {x y : Int64} (d : Dec bytes pc (.lcmp) 1 pc')  (r : Go b p l e R s m args below meth c Z EL own Q SL (mkF m (pc') Ls (.int (lcmpW x y) :: S)) h locs cells slots) : Go b p l e R s m args below meth c Z EL own Q SL (mkF m pc Ls (.long y :: .long x :: S)) h locs cells slots := by
  obtain ⟨d1, rfl⟩ := d
  exact Go.step (fun T vm0 X eT hZ ho t k => XS.lcmp X.here K.1 rfl (hb K.2.1 d1) rfl k) r
theorem Go.irem (K : Kx p c meth bytes mx ret nm) {pc pc' : Nat} {Ls : Array Slot} {S : List Value} {x y : Int32} (d : Dec bytes pc (.irem) 1 pc') (hy : y ≠ 0) (r : Go b p l e R s m args below meth c Z EL own Q SL (mkF m (pc') Ls (.int (x % y) :: S)) h locs cells slots) : Go b p l e R s m args below meth c Z EL own Q SL (mkF m pc Ls (.int y :: .int x :: S)) h locs cells slots := by
  obtain ⟨d1, rfl⟩ := d
  exact Go.step (fun T vm0 X eT hZ ho t k => iremM X K.1 rfl (hb K.2.1 d1) rfl hy k) r
theorem Go.idiv (K : Kx p c meth bytes mx ret nm) {pc pc' : Nat} {Ls : Array Slot} {S : List Value} {x y : Int32} (d : Dec bytes pc (.idiv) 1 pc') (hy : y ≠ 0) (r : Go b p l e R s m args below meth c Z EL own Q SL (mkF m (pc') Ls (.int (x / y) :: S)) h locs cells slots) : Go b p l e R s m args below meth c Z EL own Q SL (mkF m pc Ls (.int y :: .int x :: S)) h locs cells slots := by
  obtain ⟨d1, rfl⟩ := d
  exact Go.step (fun T vm0 X eT hZ ho t k => XS.idiv X.here K.1 rfl (hb K.2.1 d1) rfl hy k) r
theorem Go.ldiv (K : Kx p c meth bytes mx ret nm) {pc pc' : Nat} {Ls : Array Slot} {S : List Value} {x y : Int64} (d : Dec bytes pc (.ldiv) 1 pc') (hy : y ≠ 0) (r : Go b p l e R s m args below meth c Z EL own Q SL (mkF m (pc') Ls (.long (x / y) :: S)) h locs cells slots) : Go b p l e R s m args below meth c Z EL own Q SL (mkF m pc Ls (.long y :: .long x :: S)) h locs cells slots := by
  obtain ⟨d1, rfl⟩ := d
  exact Go.step (fun T vm0 X eT hZ ho t k => XS.ldiv X.here K.1 rfl (hb K.2.1 d1) rfl hy k) r
theorem Go.lrem (K : Kx p c meth bytes mx ret nm) {pc pc' : Nat} {Ls : Array Slot} {S : List Value} {x y : Int64} (d : Dec bytes pc (.lrem) 1 pc') (hy : y ≠ 0) (r : Go b p l e R s m args below meth c Z EL own Q SL (mkF m (pc') Ls (.long (x - (x / y) * y) :: S)) h locs cells slots) : Go b p l e R s m args below meth c Z EL own Q SL (mkF m pc Ls (.long y :: .long x :: S)) h locs cells slots := by
  obtain ⟨d1, rfl⟩ := d
  exact Go.step (fun T vm0 X eT hZ ho t k => XS.lrem X.here K.1 rfl (hb K.2.1 d1) rfl hy k) r
theorem Go.i2b (K : Kx p c meth bytes mx ret nm) {pc pc' : Nat} {Ls : Array Slot} {S : List Value} {x : Int32} (d : Dec bytes pc (.i2b) 1 pc')  (r : Go b p l e R s m args below meth c Z EL own Q SL (mkF m (pc') Ls (.int (x.toInt8.toInt32) :: S)) h locs cells slots) : Go b p l e R s m args below meth c Z EL own Q SL (mkF m pc Ls (.int x :: S)) h locs cells slots := by
  obtain ⟨d1, rfl⟩ := d
  exact Go.step (fun T vm0 X eT hZ ho t k => XS.i2b X.here K.1 rfl (hb K.2.1 d1) rfl k) r
theorem Go.i2c (K : Kx p c meth bytes mx ret nm) {pc pc' : Nat} {Ls : Array Slot} {S : List Value} {x : Int32} (d : Dec bytes pc (.i2c) 1 pc')  (r : Go b p l e R s m args below meth c Z EL own Q SL (mkF m (pc') Ls (.int (x.toUInt32.toUInt16.toUInt32.toInt32) :: S)) h locs cells slots) : Go b p l e R s m args below meth c Z EL own Q SL (mkF m pc Ls (.int x :: S)) h locs cells slots := by
  obtain ⟨d1, rfl⟩ := d
  exact Go.step (fun T vm0 X eT hZ ho t k => XS.i2c X.here K.1 rfl (hb K.2.1 d1) rfl k) r
theorem Go.i2s (K : Kx p c meth bytes mx ret nm) {pc pc' : Nat} {Ls : Array Slot} {S : List Value} {x : Int32} (d : Dec bytes pc (.i2s) 1 pc')  (r : Go b p l e R s m args below meth c Z EL own Q SL (mkF m (pc') Ls (.int (x.toInt16.toInt32) :: S)) h locs cells slots) : Go b p l e R s m args below meth c Z EL own Q SL (mkF m pc Ls (.int x :: S)) h locs cells slots := by
  obtain ⟨d1, rfl⟩ := d
  exact Go.step (fun T vm0 X eT hZ ho t k => XS.i2s X.here K.1 rfl (hb K.2.1 d1) rfl k) r
theorem Go.i2l (K : Kx p c meth bytes mx ret nm) {pc pc' : Nat} {Ls : Array Slot} {S : List Value} {x : Int32} (d : Dec bytes pc (.i2l) 1 pc')  (r : Go b p l e R s m args below meth c Z EL own Q SL (mkF m (pc') Ls (.long (x.toInt64) :: S)) h locs cells slots) : Go b p l e R s m args below meth c Z EL own Q SL (mkF m pc Ls (.int x :: S)) h locs cells slots := by
  obtain ⟨d1, rfl⟩ := d
  exact Go.step (fun T vm0 X eT hZ ho t k => XS.i2l X.here K.1 rfl (hb K.2.1 d1) rfl k) r
theorem Go.l2i (K : Kx p c meth bytes mx ret nm) {pc pc' : Nat} {Ls : Array Slot} {S : List Value} {x : Int64} (d : Dec bytes pc (.l2i) 1 pc')  (r : Go b p l e R s m args below meth c Z EL own Q SL (mkF m (pc') Ls (.int (x.toInt32) :: S)) h locs cells slots) : Go b p l e R s m args below meth c Z EL own Q SL (mkF m pc Ls (.long x :: S)) h locs cells slots := by
  obtain ⟨d1, rfl⟩ := d
  exact Go.step (fun T vm0 X eT hZ ho t k => XS.l2i X.here K.1 rfl (hb K.2.1 d1) rfl k) r
theorem Go.ineg (K : Kx p c meth bytes mx ret nm) {pc pc' : Nat} {Ls : Array Slot} {S : List Value} {x : Int32} (d : Dec bytes pc (.ineg) 1 pc')  (r : Go b p l e R s m args below meth c Z EL own Q SL (mkF m (pc') Ls (.int (-x) :: S)) h locs cells slots) : Go b p l e R s m args below meth c Z EL own Q SL (mkF m pc Ls (.int x :: S)) h locs cells slots := by
  obtain ⟨d1, rfl⟩ := d
  exact Go.step (fun T vm0 X eT hZ ho t k => XS.ineg X.here K.1 rfl (hb K.2.1 d1) rfl k) r
theorem Go.lneg (K : Kx p c meth bytes mx ret nm) {pc pc' : Nat} {Ls : Array Slot} {S : List Value} {x : Int64} (d : Dec bytes pc (.lneg) 1 pc')  (r : Go b p l e R s m args below meth c Z EL own Q SL (mkF m (pc') Ls (.long (-x) :: S)) h locs cells slots) : Go b p l e R s m args below meth c Z EL own Q SL (mkF m pc Ls (.long x :: S)) h locs cells slots := by
  obtain ⟨d1, rfl⟩ := d
  exact Go.step (fun T vm0 X eT hZ ho t k => XS.lneg X.here K.1 rfl (hb K.2.1 d1) rfl k) r
theorem Go.dup (K : Kx p c meth bytes mx ret nm) {pc pc' : Nat} {Ls : Array Slot} {S : List Value} {x : Value} (d : Dec bytes pc (.dup) 1 pc') (hc : x.category = 1) (r : Go b p l e R s m args below meth c Z EL own Q SL (mkF m (pc') Ls (x :: x :: S)) h locs cells slots) : Go b p l e R s m args below meth c Z EL own Q SL (mkF m pc Ls (x :: S)) h locs cells slots := by
  obtain ⟨d1, rfl⟩ := d
  exact Go.step (fun T vm0 X eT hZ ho t k => XS.dup X.here K.1 rfl (hb K.2.1 d1) rfl hc k) r
theorem Go.pop (K : Kx p c meth bytes mx ret nm) {pc pc' : Nat} {Ls : Array Slot} {S : List Value} {x : Value} (d : Dec bytes pc (.pop) 1 pc') (hc : x.category = 1) (r : Go b p l e R s m args below meth c Z EL own Q SL (mkF m (pc') Ls (S)) h locs cells slots) : Go b p l e R s m args below meth c Z EL own Q SL (mkF m pc Ls (x :: S)) h locs cells slots := by
  obtain ⟨d1, rfl⟩ := d
  exact Go.step (fun T vm0 X eT hZ ho t k => XS.pop X.here K.1 rfl (hb K.2.1 d1) rfl hc k) r
theorem Go.dupX1 (K : Kx p c meth bytes mx ret nm) {pc pc' : Nat} {Ls : Array Slot} {S : List Value} {x y : Value} (d : Dec bytes pc (.dup_x1) 1 pc') (hc : x.category = 1) (hc2 : y.category = 1) (r : Go b p l e R s m args below meth c Z EL own Q SL (mkF m (pc') Ls (x :: y :: x :: S)) h locs cells slots) : Go b p l e R s m args below meth c Z EL own Q SL (mkF m pc Ls (x :: y :: S)) h locs cells slots := by
  obtain ⟨d1, rfl⟩ := d
  exact Go.step (fun T vm0 X eT hZ ho t k => XS.dupX1 X.here K.1 rfl (hb K.2.1 d1) rfl hc hc2 k) r
theorem Go.iinc (K : Kx p c meth bytes mx ret nm) {pc pc' : Nat} {Ls : Array Slot} {S : List Value} {k : Nat} {i : Int} {x : Int32} (d : Dec bytes pc (.iinc k i) 3 pc') (z : Int32) (hz : Int32.ofInt i = z) (l' : Array Slot) (hl : Ls[k]? = some (.val (.int x))) (hl' : storeLocals Ls k (.int (x + z)) = some l') (r : Go b p l e R s m args below meth c Z EL own Q SL (mkF m pc' l' S) h locs cells slots) : Go b p l e R s m args below meth c Z EL own Q SL (mkF m pc Ls S) h locs cells slots := by
  obtain ⟨d1, rfl⟩ := d; subst hz
  exact Go.step (fun T vm0 X eT hZ ho t k => XS.iinc X.here K.1 rfl (hb K.2.1 d1) hl hl' k) r
theorem Go.goto (K : Kx p c meth bytes mx ret nm) {pc pc' pcT : Nat} {Ls : Array Slot} {S : List Value} (d : Dec bytes pc (.goto (((pcT : Nat) : Int) - ((pc : Nat) : Int))) 3 pc') (r : Go b p l e R s m args below meth c Z EL own Q SL (mkF m pcT Ls S) h locs cells slots) : Go b p l e R s m args below meth c Z EL own Q SL (mkF m pc Ls S) h locs cells slots := by
  obtain ⟨d1, rfl⟩ := d
  exact Go.step (fun T vm0 X eT hZ ho t k => XS.goto (pc0 := pc) (pc' := pcT) X.here K.1 rfl rfl (hb K.2.1 d1) (by omega) (by omega) k) r
theorem Go.ifc (K : Kx p c meth bytes mx ret nm) {pc pc' pcT : Nat} {Ls : Array Slot} {S : List Value} {cd : ClassFile.Cond} {x : Int32} (d : Dec bytes pc (.ifCond cd (((pcT : Nat) : Int) - ((pc : Nat) : Int))) 3 pc') (ry : ccP cd x 0 → Go b p l e R s m args below meth c Z EL own Q SL (mkF m pcT Ls S) h locs cells slots) (rn : ccN cd x 0 → Go b p l e R s m args below meth c Z EL own Q SL (mkF m pc' Ls S) h locs cells slots) : Go b p l e R s m args below meth c Z EL own Q SL (mkF m pc Ls (.int x :: S)) h locs cells slots := by
  obtain ⟨d1, rfl⟩ := d
  rcases cc_or cd x 0 with q | q
  · exact Go.step (fun T vm0 X eT hZ ho t k => XS.ifYes (pc0 := pc) (pc' := pcT) X.here K.1 rfl rfl (hb K.2.1 d1) rfl ((if0 _ _).trans (cc_y q)) (by omega) (by omega) k) (ry q)
  · exact Go.step (fun T vm0 X eT hZ ho t k => XS.ifNo X.here K.1 rfl (hb K.2.1 d1) rfl ((if0 _ _).trans (cc_n q)) k) (rn q)
theorem Go.icmp (K : Kx p c meth bytes mx ret nm) {pc pc' pcT : Nat} {Ls : Array Slot} {S : List Value} {cd : ClassFile.Cond} {x y : Int32} (d : Dec bytes pc (.if_icmp cd (((pcT : Nat) : Int) - ((pc : Nat) : Int))) 3 pc') (ry : ccP cd x y → Go b p l e R s m args below meth c Z EL own Q SL (mkF m pcT Ls S) h locs cells slots) (rn : ccN cd x y → Go b p l e R s m args below meth c Z EL own Q SL (mkF m pc' Ls S) h locs cells slots) : Go b p l e R s m args below meth c Z EL own Q SL (mkF m pc Ls (.int y :: .int x :: S)) h locs cells slots := by
  obtain ⟨d1, rfl⟩ := d
  rcases cc_or cd x y with q | q
  · exact Go.step (fun T vm0 X eT hZ ho t k => XS.icmpYes (pc0 := pc) (pc' := pcT) X.here K.1 rfl rfl (hb K.2.1 d1) rfl (cc_y q) (by omega) (by omega) k) (ry q)
  · exact Go.step (fun T vm0 X eT hZ ho t k => XS.icmpNo X.here K.1 rfl (hb K.2.1 d1) rfl (cc_n q) k) (rn q)
theorem Go.ifnullY (K : Kx p c meth bytes mx ret nm) {pc pc' pcT : Nat} {Ls : Array Slot} {S : List Value}  (d : Dec bytes pc (.ifnull (((pcT : Nat) : Int) - ((pc : Nat) : Int))) 3 pc') (r : Go b p l e R s m args below meth c Z EL own Q SL (mkF m pcT Ls S) h locs cells slots) : Go b p l e R s m args below meth c Z EL own Q SL (mkF m pc Ls (.null :: S)) h locs cells slots := by
  obtain ⟨d1, rfl⟩ := d
  exact Go.step (fun T vm0 X eT hZ ho t k => XS.ifnullYes (pc0 := pc) (pc' := pcT) X.here K.1 rfl rfl (hb K.2.1 d1) rfl (by omega) (by omega) k) r
theorem Go.ifnullN (K : Kx p c meth bytes mx ret nm) {pc pc' pcT : Nat} {Ls : Array Slot} {S : List Value} {a : Addr} (d : Dec bytes pc (.ifnull (((pcT : Nat) : Int) - ((pc : Nat) : Int))) 3 pc') (r : Go b p l e R s m args below meth c Z EL own Q SL (mkF m pc' Ls S) h locs cells slots) : Go b p l e R s m args below meth c Z EL own Q SL (mkF m pc Ls (.ref a :: S)) h locs cells slots := by
  obtain ⟨d1, rfl⟩ := d
  exact Go.step (fun T vm0 X eT hZ ho t k => XS.ifnullNo X.here K.1 rfl (hb K.2.1 d1) rfl k) r
theorem Go.ifnonnullY (K : Kx p c meth bytes mx ret nm) {pc pc' pcT : Nat} {Ls : Array Slot} {S : List Value} {a : Addr} (d : Dec bytes pc (.ifnonnull (((pcT : Nat) : Int) - ((pc : Nat) : Int))) 3 pc') (r : Go b p l e R s m args below meth c Z EL own Q SL (mkF m pcT Ls S) h locs cells slots) : Go b p l e R s m args below meth c Z EL own Q SL (mkF m pc Ls (.ref a :: S)) h locs cells slots := by
  obtain ⟨d1, rfl⟩ := d
  exact Go.step (fun T vm0 X eT hZ ho t k => XS.ifnonnullYes (pc0 := pc) (pc' := pcT) X.here K.1 rfl rfl (hb K.2.1 d1) rfl (by omega) (by omega) k) r
theorem Go.ifnonnullN (K : Kx p c meth bytes mx ret nm) {pc pc' pcT : Nat} {Ls : Array Slot} {S : List Value}  (d : Dec bytes pc (.ifnonnull (((pcT : Nat) : Int) - ((pc : Nat) : Int))) 3 pc') (r : Go b p l e R s m args below meth c Z EL own Q SL (mkF m pc' Ls S) h locs cells slots) : Go b p l e R s m args below meth c Z EL own Q SL (mkF m pc Ls (.null :: S)) h locs cells slots := by
  obtain ⟨d1, rfl⟩ := d
  exact Go.step (fun T vm0 X eT hZ ho t k => XS.ifnonnullNo X.here K.1 rfl (hb K.2.1 d1) rfl k) r
theorem Go.acmp (K : Kx p c meth bytes mx ret nm) {pc pc' pcT : Nat} {Ls : Array Slot} {S : List Value} {cd : ACond} {x y : Value} (h1 : x.isRef = true) (h2 : y.isRef = true) (d : Dec bytes pc (.if_acmp cd (((pcT : Nat) : Int) - ((pc : Nat) : Int))) 3 pc') (ry : (cd = .eq ∧ x = y ∨ cd = .ne ∧ x ≠ y) → Go b p l e R s m args below meth c Z EL own Q SL (mkF m pcT Ls S) h locs cells slots) (rn : (cd = .eq ∧ x ≠ y ∨ cd = .ne ∧ x = y) → Go b p l e R s m args below meth c Z EL own Q SL (mkF m pc' Ls S) h locs cells slots) : Go b p l e R s m args below meth c Z EL own Q SL (mkF m pc Ls (y :: x :: S)) h locs cells slots := by
  obtain ⟨d1, rfl⟩ := d
  by_cases q : x = y
  · cases cd
    · exact Go.step (fun T vm0 X eT hZ ho t k => Jvm.RoadKit.acmp (pc0 := pc) (pc' := pcT) (same := true) X K.1 rfl h1 h2 rfl (hb K.2.1 d1) rfl (decide_eq_true q) (by omega) (by show pcT = (((pc : Nat) : Int) + (((pcT : Nat) : Int) - ((pc : Nat) : Int))).toNat; omega) k) (ry (Or.inl ⟨rfl, q⟩))
    · exact Go.step (fun T vm0 X eT hZ ho t k => Jvm.RoadKit.acmp (pc0 := pc) (pc' := pc + 3) (same := true) X K.1 rfl h1 h2 rfl (hb K.2.1 d1) rfl (decide_eq_true q) (by omega) rfl k) (rn (Or.inr ⟨rfl, q⟩))
  · cases cd
    · exact Go.step (fun T vm0 X eT hZ ho t k => Jvm.RoadKit.acmp (pc0 := pc) (pc' := pc + 3) (same := false) X K.1 rfl h1 h2 rfl (hb K.2.1 d1) rfl (decide_eq_false q) (by omega) rfl k) (rn (Or.inl ⟨rfl, q⟩))
    · exact Go.step (fun T vm0 X eT hZ ho t k => Jvm.RoadKit.acmp (pc0 := pc) (pc' := pcT) (same := false) X K.1 rfl h1 h2 rfl (hb K.2.1 d1) rfl (decide_eq_false q) (by omega) (by show pcT = (((pc : Nat) : Int) + (((pcT : Nat) : Int) - ((pc : Nat) : Int))).toNat; omega) k) (ry (Or.inr ⟨rfl, q⟩))
theorem Go.ldcI (K : Kx p c meth bytes mx ret nm) {pc pc' : Nat} {Ls : Array Slot} {S : List Value} {index : Nat} {v : Int32} (w : (Jvm.Cond.constant own index v).before a0 Z = true) (d : Dec bytes pc (.ldc index) 2 pc') (r : Go b p l e R s m args below meth c Z EL own Q SL (mkF m pc' Ls (.int v :: S)) h locs cells slots) : Go b p l e R s m args below meth c Z EL own Q SL (mkF m pc Ls S) h locs cells slots := by
  obtain ⟨d1, rfl⟩ := d
  exact Go.step (fun T vm0 X eT hZ ho t k => X.ldcInt K.1 ho (mv (s := s.setVm vm0) hZ w) (g := mkF m pc Ls S) rfl (hb K.2.1 d1) t k) r
theorem Go.ldcL (K : Kx p c meth bytes mx ret nm) {pc pc' : Nat} {Ls : Array Slot} {S : List Value} {index : Nat} {v : Int64} (w : (Jvm.Cond.constantLong own index v).before a0 Z = true) (d : Dec bytes pc (.ldc2_w index) 3 pc') (r : Go b p l e R s m args below meth c Z EL own Q SL (mkF m pc' Ls (.long v :: S)) h locs cells slots) : Go b p l e R s m args below meth c Z EL own Q SL (mkF m pc Ls S) h locs cells slots := by
  obtain ⟨d1, rfl⟩ := d
  exact Go.step (fun T vm0 X eT hZ ho t k => X.ldc2Long K.1 ho (mv (s := s.setVm vm0) hZ w) (g := mkF m pc Ls S) rfl (hb K.2.1 d1) t k) r
theorem Go.getF (K : Kx p c meth bytes mx ret nm) {pc pc' : Nat} {Ls : Array Slot} {S : List Value} {index : Nat} {R0 O n d0 : String} {a : Addr} {v : Value} (w : (Jvm.Cond.fieldLink own index R0 n d0).before a0 Z = true) (via : Via Z R0 O n d0) (F : Fld Z h a O n d0 v) (d : Dec bytes pc (.getfield index) 3 pc')
    (r : Go b p l e R s m args below meth c Z EL own Q SL (mkF m pc' Ls (v :: S)) h locs cells slots) : Go b p l e R s m args below meth c Z EL own Q SL (mkF m pc Ls (.ref a :: S)) h locs cells slots := by
  obtain ⟨d1, rfl⟩ := d
  exact Go.warm (fun T vm0 X eT hZ ho => Jvm.RoadKit.getF X K.1 hZ ho (host := "") (Or.inl w) via eT F (g := mkF m pc Ls (.ref a :: S)) rfl rfl (hb K.2.1 d1)) r
theorem Go.getS (K : Kx p c meth bytes mx ret nm) {pc pc' : Nat} {Ls : Array Slot} {S : List Value} {index : Nat} {R0 O n d0 : String} {v : Value} (w : (Jvm.Cond.fieldLink own index R0 n d0).before a0 Z = true) (via : Via Z R0 O n d0) (F : Sta Z h O n d0 v) (d : Dec bytes pc (.getstatic index) 3 pc')
    (r : Go b p l e R s m args below meth c Z EL own Q SL (mkF m pc' Ls (v :: S)) h locs cells slots) : Go b p l e R s m args below meth c Z EL own Q SL (mkF m pc Ls S) h locs cells slots := by
  obtain ⟨d1, rfl⟩ := d
  exact Go.warm (fun T vm0 X eT hZ ho => Jvm.RoadKit.getS X K.1 hZ ho w via eT F (g := mkF m pc Ls S) (host := "") rfl (hb K.2.1 d1)) r
theorem Go.putF (K : Kx p c meth bytes mx ret nm) {pc pc' : Nat} {Ls : Array Slot} {S : List Value} {index kk : Nat} {R0 O n d0 C : String} {ty : FieldType} {a : Addr} {v old : Value} (w : (Jvm.Cond.fieldLink own index R0 n d0).before a0 Z = true) (via : Via Z R0 O n d0) (F : Fld Z h a O n d0 old) (E : Exa Z h a C)
    (L : (Jvm.Cond.lays C O n d0).before a0 Z = true ∨ ((Jvm.Cond.laysFinal C O n d0).before a0 Z = true ∧ own = O ∧ nm = "<init>")) (wi : (Jvm.Cond.instantiable C kk).before a0 Z = true) (hty : parseFieldDescriptor d0 = some ty) (hn : narrow ty v = v) (hf : fits ty v = true) (hs : Sf Z EL SL h a) (d : Dec bytes pc (.putfield index) 3 pc')
    (r : ∀ h', Wr h h' a (Jvm.RoadKit.slotOf Z O n d0) v → Go b p l e R s m args below meth c Z EL own Q SL (mkF m pc' Ls S) h' (locs ++ [⟨a, Jvm.RoadKit.slotOf Z O n d0⟩]) cells slots) : Go b p l e R s m args below meth c Z EL own Q SL (mkF m pc Ls (v :: .ref a :: S)) h locs cells slots := by
  obtain ⟨d1, rfl⟩ := d
  exact Go.wrote hs (fun T vm0 X eT hZ ho => Jvm.RoadKit.putF X K.1 hZ ho (host := "") (Or.inl w) via eT F E (L.imp id fun q => ⟨q.1, q.2.1, K.2.2.2.2.1.trans q.2.2⟩) wi hty hn hf (g := mkF m pc Ls (v :: .ref a :: S)) rfl rfl (hb K.2.1 d1)) r
theorem Go.newO (K : Kx p c meth bytes mx ret nm) {pc pc' : Nat} {Ls : Array Slot} {S : List Value} {index n : Nat} {C : String} (w : (Jvm.Cond.classLink own index C).before a0 Z = true) (wi : (Jvm.Cond.instantiable C n).before a0 Z = true) (wz : (Jvm.Cond.initialized C).before a0 Z = true) (d : Dec bytes pc (.new index) 3 pc') (hc : cells + 1 ≤ R.cells) (hl : slots + n ≤ R.slots)
    (r : ∀ h', Ext h h' → (Exa Z h' h.size C ∧ ∀ {O nm d : String} {ty : FieldType}, Laid Z a0 C O nm d → parseFieldDescriptor d = some ty → Fld Z h' h.size O nm d (defaultValue ty)) → Go b p l e R s m args below meth c Z EL own Q (h.size :: SL) (mkF m pc' Ls (.ref h.size :: S)) h' locs (cells + 1) (slots + n)) :
    Go b p l e R s m args below meth c Z EL own Q SL (mkF m pc Ls S) h locs cells slots := by
  obtain ⟨d1, rfl⟩ := d
  refine Go.grew (fun T vm0 X eT hZ ho => ?_) r
  obtain ⟨T', h', X', e', E, Ex, D, -, st⟩ := Jvm.RoadKit.newO X K.1 hZ ho w wi wz eT (g := mkF m pc Ls S) rfl (hb K.2.1 d1) hc hl
  exact ⟨T', h', X', e', E, Ex.lt, ⟨Ex, D⟩, st⟩
theorem Go.newP (K : Kx p c meth bytes mx ret nm) {pc pc' : Nat} {Ls : Array Slot} {S : List Value} {aty : ArrayType} {n : Int32} (w : (Jvm.Cond.arrayClass (newarray.typeOf aty)).before a0 Z = true) (d : Dec bytes pc (.newarray aty) 2 pc') (hn : ¬ n < 0) (cap : Nat) (hcap : n.toNatClampNeg ≤ cap) (hb8 : cap * 8 ≤ 536870912) (hc : cells + 1 ≤ R.cells) (hl : slots + cap ≤ R.slots)
    (r : ∀ h', Ext h h' → (∃ k, Arv Z h' h.size k (newarray.typeOf aty) n [] (defaultValue (newarray.typeOf aty))) → Go b p l e R s m args below meth c Z EL own Q (h.size :: SL) (mkF m pc' Ls (.ref h.size :: S)) h' locs (cells + 1) (slots + cap)) :
    Go b p l e R s m args below meth c Z EL own Q SL (mkF m pc Ls (.int n :: S)) h locs cells slots := by
  obtain ⟨d1, rfl⟩ := d
  refine Go.grew (fun T vm0 X eT hZ ho => ?_) r
  obtain ⟨T', h', cA, X', e', E, A, st⟩ := Jvm.RoadKit.newP X K.1 hZ w eT (g := mkF m pc Ls (.int n :: S)) rfl (hb K.2.1 d1) rfl hn hcap hb8 hc hl
  exact ⟨T', h', X', e', E, A.lt, ⟨cA, Arv.new A hn⟩, st⟩
theorem Go.castore (K : Kx p c meth bytes mx ret nm) {pc pc' : Nat} {Ls : Array Slot} {S : List Value} {a : Addr} {k : ClassId} {z j x : Int32} {vs : List Value} {dv : Value} (A : Arv Z h a k .char z vs dv) (i : Nat) (hj : j.toNatClampNeg = i) (hj0 : ¬ j < 0) (hi : i < vs.length) (hz : i < z.toNatClampNeg) (d : Dec bytes pc .castore 1 pc')
    (r : ∀ h', Wr h h' a i (.int (nar .char x)) → Arv Z h' a k .char z (vs.set i (.int (nar .char x))) dv → Go b p l e R s m args below meth c Z EL own Q SL (mkF m pc' Ls S) h' (locs ++ [⟨a, i⟩]) cells slots) :
    Go b p l e R s m args below meth c Z EL own Q SL (mkF m pc Ls (.int x :: .int j :: .ref a :: S)) h locs cells slots := by
  obtain ⟨d1, rfl⟩ := d
  subst hj
  obtain ⟨cl, A1, A2, A3, A4, A5, A6⟩ := A
  exact Go.wrote (Sf.arr A1 (by simp)) (fun T vm0 X eT hZ ho => Jvm.RoadKit.stC X K.1 hZ eT A1 (fun q => q.elim hj0 fun r => by rw [A3] at r; omega) (g := mkF m pc Ls (.int x :: .int j :: .ref a :: S)) rfl rfl (hb K.2.1 d1)) (fun h' W => r h' W (Arv.set A1 A2 A3 A4 A5 A6 (fits_nar_char x) W _ rfl hi))
theorem Go.bastore (K : Kx p c meth bytes mx ret nm) {pc pc' : Nat} {Ls : Array Slot} {S : List Value} {a : Addr} {k : ClassId} {z j x : Int32} {vs : List Value} {dv : Value} (A : Arv Z h a k .byte z vs dv) (i : Nat) (hj : j.toNatClampNeg = i) (hj0 : ¬ j < 0) (hi : i < vs.length) (hz : i < z.toNatClampNeg) (hs : Sf Z EL SL h a) (d : Dec bytes pc .bastore 1 pc')
    (r : ∀ h', Wr h h' a i (.int (nar .byte x)) → Arv Z h' a k .byte z (vs.set i (.int (nar .byte x))) dv → Go b p l e R s m args below meth c Z EL own Q SL (mkF m pc' Ls S) h' (locs ++ [⟨a, i⟩]) cells slots) :
    Go b p l e R s m args below meth c Z EL own Q SL (mkF m pc Ls (.int x :: .int j :: .ref a :: S)) h locs cells slots := by
  obtain ⟨d1, rfl⟩ := d
  subst hj
  obtain ⟨cl, A1, A2, A3, A4, A5, A6⟩ := A
  exact Go.wrote hs (fun T vm0 X eT hZ ho => Jvm.RoadKit.stB X K.1 hZ eT A1 (fun q => q.elim hj0 fun r => by rw [A3] at r; omega) (g := mkF m pc Ls (.int x :: .int j :: .ref a :: S)) rfl rfl (hb K.2.1 d1)) (fun h' W => r h' W (Arv.set A1 A2 A3 A4 A5 A6 (fits_nar_byte x) W _ rfl hi))
theorem Go.initO (K : Kx p c meth bytes mx ret nm) {pc pc' : Nat} {Ls : Array Slot} {S : List Value} {index : Nat} {a : Addr} (w1 : (Jvm.Cond.methodLink own index Lib.objectInit).before a0 Z = true) (w2 : (Jvm.Cond.instanceMethod Lib.objectInit).before a0 Z = true) (w3 : (Jvm.Cond.code Lib.objectInit ⟨#[0xb1]⟩ 1 none).before a0 Z = true) (d : Dec bytes pc (.invokespecial index) 3 pc')
    (hsz : Ls.size = mx) (hf : 1 ≤ R.frames) (hl : (S.map fun v => v.category).sum + 12 ≤ R.locals) (r : Go b p l e R s m args below meth c Z EL own Q SL (mkF m pc' Ls S) h locs cells slots) : Go b p l e R s m args below meth c Z EL own Q SL (mkF m pc Ls (.ref a :: S)) h locs cells slots := by
  obtain ⟨d1, rfl⟩ := d
  exact Go.warm (fun T vm0 X eT hZ ho => Jvm.RoadKit.initO X K.1 hZ ho w1 w2 w3 eT (g := mkF m pc Ls (.ref a :: S)) rfl (hsz.trans K.2.2.1.symm) rfl (hb K.2.1 d1) hf (W := (S.map fun v => v.category).sum) (by show 2 * 0 + _ ≤ _; omega) hl) r
/-- ldc of a String constant, its text unread -/
theorem Go.ldcS (K : Kx p c meth bytes mx ret nm) (hb1 : b = true) (hE : EW Z a0 EL) {pc pc' : Nat} {Ls : Array Slot} {S : List Value} {index : Nat} {text : String} (w : (Jvm.Cond.stringLink own index text).before a0 Z = true) (wS : ∀ a ∈ Bundle.stringAtoms, a.before a0 Z = true) (d : Dec bytes pc (.ldc index) 2 pc') {n : Nat} (hn : 4 * text.toList.length ≤ n) (hbig : n ≤ 536870912) (hc : cells + 2 ≤ R.cells) (hl : slots + (n + 4) ≤ R.slots)
    (r : ∀ (a : Addr) (h' : Heap), Ext h h' → Go b p l e R s m args below meth c Z EL own Q SL (mkF m pc' Ls (.ref a :: S)) h' locs (cells + 2) (slots + (n + 4))) : Go b p l e R s m args below meth c Z EL own Q SL (mkF m pc Ls S) h locs cells slots := fun T vm0 X eT cx hZ ho ch sl => by
  obtain ⟨d1, rfl⟩ := d
  subst hb1
  obtain ⟨k0, hS, hk⟩ := cx
  obtain ⟨a, T', h', k1, X', e', E, hS', hk', hZ', ho', ch', -, st⟩ := ldcOH X K.1 hZ ho w wS eT hS hk hE ch.1 (g := mkF m pc Ls S) rfl (hb K.2.1 d1) hn hbig hc hl
  obtain ⟨s₂, v, L, A, h1, hr⟩ := r a h' E T' T'.vm X' e' ⟨k1, hS', hk'⟩ hZ' ho' (ch.trans ch') (sl.step ch')
  exact ⟨s₂, v, L, A, st _ h1, hr⟩
/-- ldc of a String constant of EL, read -/
theorem Go.ldcR (K : Kx p c meth bytes mx ret nm) (hb1 : b = true) (hE : EW Z a0 EL) {pc pc' : Nat} {Ls : Array Slot} {S : List Value} {index : Nat} {text : String} (hmem : (own, index) ∈ EL) (w : (Jvm.Cond.stringLink own index text).before a0 Z = true) (wS : ∀ a ∈ Bundle.stringAtoms, a.before a0 Z = true)
    {vs : List Value} {z : Int32} (ht : (∀ c ∈ text.toList, c.toNat < 256) ∧ text.toList.map (fun c => Value.int (Jvm.Lit.byteI c.toNat.toUInt16)) = vs) (hz : ¬ z < 0) (hlz : z.toNatClampNeg = vs.length)
    (d : Dec bytes pc (.ldc index) 2 pc') {n : Nat} (hn : 4 * text.toList.length ≤ n) (hbig : n ≤ 536870912) (hc : cells + 2 ≤ R.cells) (hl : slots + (n + 4) ≤ R.slots)
    (r : ∀ (a : Addr) (h' : Heap) (bb : Addr) (k : ClassId), Ext h h' → Exa Z h' a "java/lang/String" → Fld Z h' a "java/lang/String" "coder" "B" (.int 0) → Fld Z h' a "java/lang/String" "value" "[B" (.ref bb) → Arv Z h' bb k .byte z vs (.int 0) → (∀ x ∈ SL, x ≠ a ∧ x ≠ bb) → Go b p l e R s m args below meth c Z EL own Q SL (mkF m pc' Ls (.ref a :: S)) h' locs (cells + 2) (slots + (n + 4))) : Go b p l e R s m args below meth c Z EL own Q SL (mkF m pc Ls S) h locs cells slots := fun T vm0 X eT cx hZ ho ch sl => by
  obtain ⟨d1, rfl⟩ := d
  subst hb1
  obtain ⟨k0, hS, hk⟩ := cx
  obtain ⟨a, T', h', k1, bb, k, X', e', E, hS', hk', hZ', ho', x1, x2, x3, x4, -, -, ch', -, sf, st⟩ := ldcCH X K.1 hZ ho w wS eT hS hk hE hmem ch.1 ht hz hlz (g := mkF m pc Ls S) rfl (hb K.2.1 d1) hn hbig hc hl
  have sl' := sl.step ch'
  obtain ⟨s₂, v, L, A, h1, hr⟩ := r a h' bb k E x1 x2 x3 x4 (fun x q => sf x (sl' x q).2) T' T'.vm X' e' ⟨k1, hS', hk'⟩ hZ' ho' (ch.trans ch') sl'
  exact ⟨s₂, v, L, A, st _ h1, hr⟩
theorem Go.retV {v : Value} {t : FieldType} {A : List Addr} {i : Instr} (K : Kx p c meth bytes mx (some t) nm) (hE : b = true ∧ EW Z a0 EL ∨ EL = []) {pc pc' : Nat} {Ls : Array Slot} {S : List Value} (d : Dec bytes pc i 1 pc') (hn : narrow t v = v)
    (hi : (i = .ireturn ∧ (t = .int ∨ t = .boolean ∨ t = .byte ∨ t = .char ∨ t = .short) ∧ ∃ z, v = .int z) ∨ (i = .lreturn ∧ t = .long ∧ ∃ z, v = .long z) ∨ (i = .dreturn ∧ t = .double ∧ ∃ z, v = .double z) ∨ (i = .freturn ∧ t = .float ∧ ∃ z, v = .float z) ∨ (i = .areturn ∧ t.isReference = true ∧ v.isRef = true))
    (hcl : cells ≤ R.cells) (hsl : slots ≤ R.slots) (hA : ∀ x ∈ A, x ∈ SL) (hQ : Q (some v) h locs A) : Go b p l e R s m args below meth c Z EL own Q SL (mkF m pc Ls (v :: S)) h locs cells slots :=
  Go.end (v := some v) (A := A) K hE (fun q => by cases q) hcl hsl hA hQ (fun T vm0 X eT hZ fs hr => retOut X K.1 K.2.2.2.1 hn hi (hb K.2.1 d.1) hr)
theorem Go.iret {v : Int32} {A : List Addr} (K : Kx p c meth bytes mx (some .int) nm) (hE : b = true ∧ EW Z a0 EL ∨ EL = []) {pc pc' : Nat} {Ls : Array Slot} {S : List Value} (d : Dec bytes pc .ireturn 1 pc') (hcl : cells ≤ R.cells) (hsl : slots ≤ R.slots) (hA : ∀ x ∈ A, x ∈ SL) (hQ : Q (some (.int v)) h locs A) : Go b p l e R s m args below meth c Z EL own Q SL (mkF m pc Ls (.int v :: S)) h locs cells slots :=
  Go.retV K hE d rfl (Or.inl ⟨rfl, Or.inl rfl, v, rfl⟩) hcl hsl hA hQ
theorem Go.lret {v : Int64} {A : List Addr} (K : Kx p c meth bytes mx (some .long) nm) (hE : b = true ∧ EW Z a0 EL ∨ EL = []) {pc pc' : Nat} {Ls : Array Slot} {S : List Value} (d : Dec bytes pc .lreturn 1 pc') (hcl : cells ≤ R.cells) (hsl : slots ≤ R.slots) (hA : ∀ x ∈ A, x ∈ SL) (hQ : Q (some (.long v)) h locs A) : Go b p l e R s m args below meth c Z EL own Q SL (mkF m pc Ls (.long v :: S)) h locs cells slots :=
  Go.retV K hE d rfl (Or.inr (Or.inl ⟨rfl, rfl, v, rfl⟩)) hcl hsl hA hQ
theorem Go.aret {v : Value} {t : FieldType} {A : List Addr} (K : Kx p c meth bytes mx (some t) nm) (hE : b = true ∧ EW Z a0 EL ∨ EL = []) {pc pc' : Nat} {Ls : Array Slot} {S : List Value} (d : Dec bytes pc .areturn 1 pc') (ht : t.isReference = true) (hv : v.isRef = true) (hcl : cells ≤ R.cells) (hsl : slots ≤ R.slots) (hA : ∀ x ∈ A, x ∈ SL) (hQ : Q (some v) h locs A) : Go b p l e R s m args below meth c Z EL own Q SL (mkF m pc Ls (v :: S)) h locs cells slots :=
  Go.retV K hE d (by cases v <;> first | (simp [Value.isRef] at hv; done) | (cases t <;> rfl)) (Or.inr (Or.inr (Or.inr (Or.inr ⟨rfl, ht, hv⟩)))) hcl hsl hA hQ
/-- a boolean, byte, char or short: narrowed -/
theorem Go.nret {v : Int32} {t : FieldType} {A : List Addr} (K : Kx p c meth bytes mx (some t) nm) (hE : b = true ∧ EW Z a0 EL ∨ EL = []) {pc pc' : Nat} {Ls : Array Slot} {S : List Value} (d : Dec bytes pc .ireturn 1 pc') (ht : t = .boolean ∨ t = .byte ∨ t = .char ∨ t = .short) (hcl : cells ≤ R.cells) (hsl : slots ≤ R.slots) (hA : ∀ x ∈ A, x ∈ SL) (hQ : Q (some (.int (nar t v))) h locs A) : Go b p l e R s m args below meth c Z EL own Q SL (mkF m pc Ls (.int v :: S)) h locs cells slots :=
  Go.end (v := some (.int (nar t v))) (A := A) K hE (fun q => by cases q) hcl hsl hA hQ (fun T vm0 X eT hZ fs hr => retN X K.1 K.2.2.2.1 ht (hb K.2.1 d.1) hr)
theorem Go.vret {A : List Addr} (K : Kx p c meth bytes mx none nm) (hE : b = true ∧ EW Z a0 EL ∨ EL = []) {pc pc' : Nat} {Ls : Array Slot} {S : List Value} (d : Dec bytes pc .return_ 1 pc') (hcl : cells ≤ R.cells) (hsl : slots ≤ R.slots) (hA : ∀ x ∈ A, x ∈ SL) (hS : S = []) (hQ : Q none h locs A) : Go b p l e R s m args below meth c Z EL own Q SL (mkF m pc Ls S) h locs cells slots := by
  subst hS
  exact Go.end (v := none) (A := A) K hE (fun q => rfl) hcl hsl hA hQ (fun T vm0 X eT hZ fs hr => X.returnOut K.1 K.2.2.2.1 (hb K.2.1 d.1) hr)

/-! calls -/
/-- the invoking instruction has brought the machine to the callee y with these arguments -/
def Inv (p : Program) (l : Launch) (e : Env) (R : Room) (s : State) (m : MethodId) (args : Array Value) (below : List Frame) (meth : Method) (c : Code) (Z : State) (own : String) (y : MethodName) (as' : Array Value) (g g' : JFrame) (h : Heap) (locs : List Loc) (cells slots : Nat) : Prop :=
  ∀ (T : State) (vm0 : Vm), Stand p l e R (s.setVm vm0) m args below meth c T locs cells slots → T.heap = h → Z.Warmed39 vm0 → vm0.findClass own = some m.cls →
    ∃ (mk : MethodId) (vm1 : Vm), Stand p l e R (s.setVm vm0) m args below meth c (T.setVm vm1) locs cells slots ∧ (T.setVm vm1).methodNamed? y = some mk ∧ Steps p.tables e below (T.setTop g) (doInvoke e ((T.setVm vm1).setTop g') [] mk as').1
theorem Inv.static (hx : p.tables.exec = Jvm.exec) {index : Nat} {y : MethodName} {bytesY : ByteArray} {maxL : Nat} {retY : Option FieldType} (w1 : (Jvm.Cond.methodLink own index y).before a0 Z = true) (w2 : (Jvm.Cond.static y).before a0 Z = true) (w3 : (Jvm.Cond.initialized y.cls).before a0 Z = true) (w4 : (Jvm.Cond.code y bytesY maxL retY).before a0 Z = true)
    (hy : y.cls ≠ "java/lang/invoke/MethodHandle" ∧ y.cls ≠ "java/lang/invoke/VarHandle") {argsL S : List Value} {pc : Nat} {Ls : Array Slot} (hlen : ∀ sig, parseMethodDescriptor y.desc = some sig → argsL.length = sig.parameters.length) (hd : decode c.code pc = .ok (.invokestatic index, 3)) :
    Inv p l e R s m args below meth c Z own y argsL.toArray (mkF m pc Ls (argsL.reverse ++ S)) (mkF m pc Ls S) h locs cells slots := fun T vm0 X eT hZ ho => by
  have hcode : (Jvm.Cond.code y bytesY maxL retY).before args (s.setVm vm0) = true := mv (s := s.setVm vm0) hZ w4
  obtain ⟨mk, hnamed⟩ := Cond.code_named hcode
  obtain ⟨methM, cM, hmethM, -, -, -, -, -, -, hsig⟩ := Cond.code_spec hnamed hcode
  obtain ⟨kP, hkP, -⟩ := className_of_methodNamed hnamed
  obtain ⟨vm₁, X₁, hstep₁⟩ := X.invokestatic hx ho (mvT (s := s.setVm vm0) hZ w1) hnamed hmethM (Cond.static_spec hnamed hmethM (mvT (s := s.setVm vm0) (args := args) hZ w2)) hkP (Cond.initialized_spec (findClass_of_methodNamed hnamed) hkP (mvT (s := s.setVm vm0) (args := args) hZ w3)) hy (g := mkF m pc Ls (argsL.reverse ++ S)) rfl (argsL := argsL) (rest := S) (hlen _ hsig) rfl hd
  exact ⟨mk, vm₁, X₁, X₁.named hnamed, hstep₁ _ fun acts => by rw [doInvoke_state]; exact Steps.refl _⟩
theorem Inv.special (hx : p.tables.exec = Jvm.exec) {index : Nat} {y : MethodName} (hy1 : y.name = "<init>") {bytesY : ByteArray} {maxL : Nat} (w1 : (Jvm.Cond.methodLink own index y).before a0 Z = true) (w2 : (Jvm.Cond.instanceMethod y).before a0 Z = true) (w4 : (Jvm.Cond.code y bytesY maxL none).before a0 Z = true)
    (hy : y.cls ≠ "java/lang/invoke/MethodHandle" ∧ y.cls ≠ "java/lang/invoke/VarHandle") {a : Addr} {argsL S : List Value} {pc : Nat} {Ls : Array Slot} (hlen : ∀ sig, parseMethodDescriptor y.desc = some sig → argsL.length = sig.parameters.length) (hd : decode c.code pc = .ok (.invokespecial index, 3)) :
    Inv p l e R s m args below meth c Z own y (.ref a :: argsL).toArray (mkF m pc Ls (argsL.reverse ++ .ref a :: S)) (mkF m pc Ls S) h locs cells slots := fun T vm0 X eT hZ ho => by
  have hpl : e.platform.magicAccessors = ({} : Platform).magicAccessors := by rw [X.admits.platform]
  obtain ⟨mk, methM, cM, kP, vm₁, hnamed, hmethM, -, -, -, -, hkP, -, hW₁, hstep₁⟩ :=
    Steps.initColdArgs (e := e) X.here hx X.warmed hpl ho hy1 hy (mvT (s := s.setVm vm0) (args := args) hZ w1) (mvT (s := s.setVm vm0) (args := args) hZ w2) (mv (s := s.setVm vm0) (args := args) hZ w4) (f := mkF m pc Ls (argsL.reverse ++ .ref a :: S)) rfl hlen rfl hd
  have X₁ := X.noted hW₁
  exact ⟨mk, vm₁, X₁, X₁.named hnamed, hstep₁ _ fun acts => by rw [doInvoke_state]; exact Steps.refl _⟩
theorem Inv.virtual (hx : p.tables.exec = Jvm.exec) {index : Nat} {C : String} {y z : MethodName} (w1 : (Jvm.Cond.methodLink own index y).before a0 Z = true) (w2 : (Jvm.Cond.declares y).before a0 Z = true) (nf : ∀ vm0 : Vm, Z.Warmed39 vm0 → NotFace (s.setVm vm0) y) (w3 : (Jvm.Cond.selects C y z).before a0 Z = true) (w4 : (Jvm.Cond.instanceMethod z).before a0 Z = true)
    (hy : y.cls ≠ "java/lang/invoke/MethodHandle" ∧ y.cls ≠ "java/lang/invoke/VarHandle") {a : Addr} (E : Exa Z h a C) {argsL S : List Value} {pc : Nat} {Ls : Array Slot} (hlen : ∀ sig, parseMethodDescriptor y.desc = some sig → argsL.length = sig.parameters.length) (hd : decode c.code pc = .ok (.invokevirtual index, 3)) :
    Inv p l e R s m args below meth c Z own z (.ref a :: argsL).toArray (mkF m pc Ls (argsL.reverse ++ .ref a :: S)) (mkF m pc Ls S) h locs cells slots := fun T vm0 X eT hZ ho => by
  obtain ⟨cB, kB, hcB, -, hrecv⟩ := isOf (s := s.setVm vm0) (T := T) hZ eT E
  obtain ⟨cellB, hcellT, hclsB, hstatB⟩ := hrecv
  obtain ⟨r0, r, hn, hrm, hstR, hsigR⟩ := Cond.declares_spec (mvT (s := s.setVm vm0) (args := args) hZ w2)
  obtain ⟨mk, methM, hnamed, hmethM, -, habM⟩ := Cond.instanceMethod_spec (mvT (s := s.setVm vm0) (args := args) hZ w4)
  obtain ⟨c2, r2, m2, q1, q2, q3, q4, kP, hkP, hkPi⟩ := Cond.selects_spec (mvT (s := s.setVm vm0) (args := args) hZ w3)
  cases hcB.symm.trans q1
  cases (State.methodFound?_of_named hn hy).symm.trans q2
  cases hnamed.symm.trans q3
  have hselP : selectMethod e.platform (s.setVm vm0).vm cellB.cls r0 = .method mk := by rw [Launch.admits_selectMethod X.admits, hclsB]; exact q4
  obtain ⟨kr, hkr, hni⟩ := nf vm0 hZ r0 hn
  obtain ⟨vm₁, X₁, hstep₁⟩ := X.invokevirtual hx ho (mvT (s := s.setVm vm0) (args := args) hZ w1) hn hrm hstR hkr hni hy (a := a) (cell := cellB) hcellT
    (fun z h => by rw [h] at hstatB; cases hstatB) hselP hmethM habM hkP hkPi (g := mkF m pc Ls (argsL.reverse ++ .ref a :: S)) rfl (argsL := argsL) (rest := S) (hlen _ hsigR) rfl hd
  exact ⟨mk, vm₁, X₁, X₁.named hnamed, hstep₁ _ fun acts => by rw [doInvoke_state]; exact Steps.refl _⟩
theorem Inv.nf {y : MethodName} {C : String} (w3 : (Jvm.Cond.selects C y y).before a0 Z = true) : ∀ vm0 : Vm, Z.Warmed39 vm0 → NotFace (s.setVm vm0) y := fun vm0 hZ => notFace_of_selects (args := #[]) (mvT (s := s.setVm vm0) hZ w3)
/-- a call by a contract -/
theorem Go.call {y : MethodName} {bytesY : ByteArray} {maxL : Nat} {retY : Option FieldType} {rm : Room} {as' : Array Value} {SLc : List Addr} {Qc : Option Value → Heap → List Loc → List Addr → Prop} {pc len : Nat} {Ls : Array Slot} {S : List Value} {ig : Instr}
    (K : Kx p c meth bytes mx ret nm) (hE : b = true ∧ EW Z a0 EL ∨ EL = []) (I : Inv p l e R s m args below meth c Z own y as' g (mkF m pc Ls S) h locs cells slots) (hC : Ctr b l Z EL y bytesY maxL retY [] rm as' h SLc Qc) (hSL : ∀ x ∈ SLc, x ∈ SL) (wc : (Jvm.Cond.code y bytesY maxL retY).before a0 Z = true) (wz : (Jvm.Cond.initialized y.cls).before a0 Z = true)
    (hd : decode bytes pc = .ok (ig, len)) (hsz : Ls.size = mx) (hf : rm.frames + 1 ≤ R.frames) (hl : (S.map fun v => v.category).sum + (maxL + 11) + rm.locals ≤ R.locals) (hcl : cells + rm.cells ≤ R.cells) (hsl : slots + rm.slots ≤ R.slots)
    (r : ∀ (v : Option Value) (h' : Heap) (L : List Loc) (A : List Addr), Qc v h' L A → Go b p l e R s m args below meth c Z EL own Q (SL ++ A) (mkF m (pc + len) Ls (v.toList ++ S)) h' (locs ++ L) (cells + rm.cells) (slots + rm.slots)) :
    Go b p l e R s m args below meth c Z EL own Q SL g h locs cells slots := fun T vm0 X eT cx hZ ho ch sl => by
  obtain ⟨mk, vm1, X1, hn, st⟩ := I T vm0 X eT hZ ho
  have hat : ∀ {T : State} {locs : List Loc} {cells slots : Nat}, Stand p l e R (s.setVm vm0) m args below meth c T locs cells slots → CHr Z EL vm0 h T.vm h := fun Y => by
    rcases hE with ⟨-, hE⟩ | rfl
    · exact CHv.at Y hZ hE ch.1
    · exact chr0 (Nat.le_refl _)
  have hslc : Sl Z EL SLc vm0 h := fun x q => sl x (hSL x q)
  cases b
  · have hEL : EL = [] := by
      rcases hE with ⟨q, -⟩ | q
      · cases q
      · exact q
    subst hEL
    have hB : Back l R p e below (s.setVm vm0) args y len (S.map fun v => v.category).sum (fun A a => a = as' ∧ A.U.heap = h ∧ A.cells + rm.cells ≤ R.cells ∧ A.slots + rm.slots ≤ R.slots)
        (fun A _ v B => h.size ≤ B.U.heap.size ∧ ∃ L AA, Qc v B.U.heap L AA ∧ Sl Z [] AA vm0 B.U.heap ∧ B.locs = A.locs ++ L ∧ B.cells = A.cells + rm.cells ∧ B.slots = A.slots + rm.slots) :=
      Back.of_free (bytes := bytesY) (maxL := maxL) (ret := retY) (E := fun _ first o t L k n => k = rm.cells ∧ n = rm.slots ∧ first.heap.size ≤ t.heap.size ∧ ∃ v AA, o = .returned v ∧ Qc v t.heap L AA ∧ Sl Z [] AA t.vm t.heap) hC hf hl
        (fun m meth c A a Y hp => have hU : Z.Warmed39 A.U.vm := wtrans (s := s.setVm vm0) hZ Y.warmed
          ⟨by show (Jvm.Cond.and _ .tt).before a A.U = true; rw [Cond.before_and, mv hU wc]; rfl, mv hU wc, mv hU wz, hp.2.2.1, hp.2.2.2⟩)
        (fun m meth c A a g mk Y hp => ⟨hp.1, wtrans (s := s.setVm vm0) hZ Y.warmed, hp.2.1, chv0, fun x q => ⟨(hslc x q).1, safe0⟩⟩) (fun _ _ _ _ _ _ _ _ _ => trivial)
        (fun _ _ _ _ ⟨v, L, AA, h1, h2, h3, h4, h5⟩ => ⟨L, _, _, h5, rfl, rfl, h3.2.1, v, AA, h1, h2, h4⟩)
        (fun m meth c A a g mk v t L k n Y hp _ _ ⟨e1, e2, e3, v', AA, e4, e5, e6⟩ => by
          cases e4; subst e1 e2
          exact ⟨by rw [← hp.2.1]; exact e3, L, AA, e5, fun x q => ⟨(e6 x q).1, safe0⟩, rfl, rfl, rfl⟩)
    obtain ⟨v, ⟨T', L', k', n'⟩, X', ⟨hgr, L, AA, hq, hs, e1, e2, e3⟩, st2⟩ := hB m meth c ⟨T.setVm vm1, locs, cells, slots⟩ (mkF m pc Ls S) ig mk as' X1 rfl (hsz.trans K.2.2.1.symm) (hb K.2.1 hd) (by show 2 * 0 + (S.map fun v => v.category).sum ≤ _; omega) hn ⟨rfl, eT, hcl, hsl⟩
    dsimp only [Pt.U, Pt.locs, Pt.cells, Pt.slots] at X' hgr hq hs e1 e2 e3 st2
    subst e1 e2 e3
    obtain ⟨s₂, v2, L2, A2, h1, hr⟩ := r v T'.heap L AA hq T' vm0 X' rfl (cx.mono hgr) hZ ho (ch.trans (chr0 hgr)) ((sl.step (chr0 hgr)).app hs)
    exact ⟨s₂, v2, L2, A2, st.trans (st2.trans h1), hr⟩
  · have hB : BackS l R p e below (s.setVm vm0) args y len (S.map fun v => v.category).sum (fun A a => a = as' ∧ A.U.heap = h ∧ A.cells + rm.cells ≤ R.cells ∧ A.slots + rm.slots ≤ R.slots)
        (fun A _ v B => CHr Z EL vm0 h B.U.vm B.U.heap ∧ ∃ L AA, Qc v B.U.heap L AA ∧ Sl Z EL AA B.U.vm B.U.heap ∧ B.locs = A.locs ++ L ∧ B.cells = A.cells + rm.cells ∧ B.slots = A.slots + rm.slots) :=
      BackS.of_freeW (bytes := bytesY) (maxL := maxL) (ret := retY) (E := fun _ first o t L k n => k = rm.cells ∧ n = rm.slots ∧ CHr Z EL first.vm first.heap t.vm t.heap ∧ ∃ v AA, o = .returned v ∧ Qc v t.heap L AA ∧ Sl Z EL AA t.vm t.heap) hC hf hl
        (fun m meth c A a Y hp => have hU : Z.Warmed39 A.U.vm := wtrans (s := s.setVm vm0) hZ Y.warmed
          ⟨by show (Jvm.Cond.and _ .tt).before a A.U = true; rw [Cond.before_and, mv hU wc]; rfl, mv hU wc, mv hU wz, hp.2.2.1, hp.2.2.2⟩)
        (fun m' meth' c' A a g mk Y hp => by
          have q : CHr Z EL vm0 h A.U.vm h := by
            rcases hE with ⟨-, hE⟩ | rfl
            · exact CHv.at Y hZ hE ch.1
            · exact chr0 (Nat.le_refl _)
          exact ⟨hp.1, wtrans (s := s.setVm vm0) hZ Y.warmed, hp.2.1, q.1, hslc.step q⟩) (fun _ _ _ _ _ _ _ _ _ => trivial)
        (fun _ _ _ _ ⟨v, L, AA, h1, h2, h3, h4, h5⟩ => ⟨L, _, _, h5, rfl, rfl, h3, v, AA, h1, h2, h4⟩)
        (fun m' meth' c' A a g mk v t L k n Y hp _ _ ⟨e1, e2, e3, v', AA, e4, e5, e6⟩ => by
          cases e4; subst e1 e2
          have q : CHr Z EL vm0 h A.U.vm h := by
            rcases hE with ⟨-, hE⟩ | rfl
            · exact CHv.at Y hZ hE ch.1
            · exact chr0 (Nat.le_refl _)
          refine ⟨q.trans ?_, L, AA, e5, e6, rfl, rfl, rfl⟩
          rw [← hp.2.1]; exact e3)
    obtain ⟨v, ⟨T', L', k', n'⟩, X', hS', hgr, ⟨ch', L, AA, hq, hs, e1, e2, e3⟩, st2⟩ := hB m meth c ⟨T.setVm vm1, locs, cells, slots⟩ (mkF m pc Ls S) ig mk as' X1 rfl (hsz.trans K.2.2.1.symm) (hb K.2.1 hd) (by show 2 * 0 + (S.map fun v => v.category).sum ≤ _; omega) hn ⟨rfl, eT, hcl, hsl⟩
    dsimp only [Pt.U, Pt.locs, Pt.cells, Pt.slots] at X' hS' hgr ch' hq hs e1 e2 e3 st2
    subst e1 e2 e3
    obtain ⟨k0, hS, hk⟩ := cx
    have hgr' : k0 ≤ T'.heap.size := Nat.le_trans hk ch'.2.1
    obtain ⟨s₂, v2, L2, A2, h1, hr⟩ := r v T'.heap L AA hq T' T'.vm X' rfl ⟨_, hS.trans hS' hgr', Nat.le_refl _⟩ (State.Warmed39.trans (t := s.setVm vm0) hZ hS'.1) (by rw [hS'.1.alike.findClass]; exact ho) (ch.trans ch') ((sl.step ch').app hs)
    exact ⟨s₂, v2, L2, A2, st.trans (st2.trans h1), hr⟩
/-- a call that a law in Back's form pays (it interns nothing; it writes at ws alone) -/
theorem Go.callB {y : MethodName} {kc ks : Nat} {as' : Array Value} {Qc : Option Value → Heap → List Loc → Prop} {pc len W : Nat} {Ls : Array Slot} {S : List Value} {ig : Instr}
    (K : Kx p c meth bytes mx ret nm) (I : Inv p l e R s m args below meth c Z own y as' g (mkF m pc Ls S) h locs cells slots)
    (hB : ∀ s' : State, Z.Warmed39 s'.vm → Back l R p e below s' args y len W (fun A a => a = as' ∧ A.U.heap = h ∧ A.cells + kc ≤ R.cells ∧ A.slots + ks ≤ R.slots) (fun A _ v B => ∃ L, Qc v B.U.heap L ∧ B.locs = A.locs ++ L ∧ B.cells = A.cells + kc ∧ B.slots = A.slots + ks))
    (hd : decode bytes pc = .ok (ig, len)) (hsz : Ls.size = mx) (hW : (S.map fun v => v.category).sum ≤ W) (hcl : cells + kc ≤ R.cells) (hsl : slots + ks ≤ R.slots) {ws : List Addr} (hK : ∀ v h' L, Qc v h' L → Keep h h' ws) (hws : ∀ x ∈ ws, Sf Z EL SL h x)
    (r : ∀ (v : Option Value) (h' : Heap) (L : List Loc), Qc v h' L → Go b p l e R s m args below meth c Z EL own Q SL (mkF m (pc + len) Ls (v.toList ++ S)) h' (locs ++ L) (cells + kc) (slots + ks)) :
    Go b p l e R s m args below meth c Z EL own Q SL g h locs cells slots := fun T vm0 X eT cx hZ ho ch sl => by
  obtain ⟨mk, vm1, X1, hn, st⟩ := I T vm0 X eT hZ ho
  obtain ⟨v, ⟨T', L', k', n'⟩, X', ⟨L, hq, e1, e2, e3⟩, st2⟩ := hB (s.setVm vm0) hZ m meth c ⟨T.setVm vm1, locs, cells, slots⟩ (mkF m pc Ls S) ig mk as' X1 rfl (hsz.trans K.2.2.1.symm) (hb K.2.1 hd) (by show 2 * 0 + (S.map fun v => v.category).sum ≤ _; omega) hn ⟨rfl, eT, hcl, hsl⟩
  dsimp only [Pt.U, Pt.locs, Pt.cells, Pt.slots] at X' hq e1 e2 e3 st2
  subst e1 e2 e3
  have ch' := CHr.keep (hK _ _ _ hq) (fun x q => hws x q vm0 hZ sl) ch.1
  obtain ⟨s₂, v2, L2, A2, h1, hr⟩ := r v T'.heap L hq T' vm0 X' rfl (cx.mono ch'.2.1) hZ ho (ch.trans ch') (sl.step ch')
  exact ⟨s₂, v2, L2, A2, st.trans (st2.trans h1), hr⟩
end W
end Jvm.Pilot.@@N@@.Own
/- laws to paste: Road.backV, Road.eqW (cut by pick.py; bodies as the Statement names them) -/
namespace Jvm.Pilot.@@N@@
namespace StrChars
open Jvm Sem ClassFile Op Lib Jvm.Stand Jvm.Free.XT Jvm.Free.ALB Jvm.Free.JM Jvm.Free
open Jvm.Lib.Cold (StaticIs)
/-- a char array whose places are chars -/
def Ch (a : Addr) (A : Cell) (U : State) : Prop := Arr .char a A U ∧ Typed .char A
theorem Ch.mv {a : Addr} {A : Cell} {U U' : State} (h : Ch a A U) (hal : U.vm.Alike U'.vm) (hh : U'.heap = U.heap) : Ch a A U' := ⟨h.1.mv hal hh, h.2⟩
theorem Ch.keep {a : Addr} {A : Cell} {U U' : State} (h : Ch a A U) (hal : U.vm.Alike U'.vm) (hk : U'.heap[a]? = some A) : Ch a A U' := ⟨h.1.keep hal hk, h.2⟩
/-- what place i of a char[]'s cell holds -/
def cv (A : Cell) (i : Nat) : Int32 := match A.slots[i]? with | some (.int x) => x | _ => 0
theorem Ch.get {a : Addr} {A : Cell} {U : State} (h : Ch a A U) {i : Nat} (hi : i < A.slots.size) : A.slots[i]? = some (.int (cv A i)) := by
  have e := Array.getElem?_eq_getElem hi
  have f := h.2 i _ e
  unfold cv; rw [e]
  generalize A.slots[i] = v at f
  cases v <;> simp [fits] at f ⊢
/-- the byte that i2b leaves of a char -/
def lo8 (x : Int32) : Int32 := x.toInt8.toInt32
theorem fits_lo8 (y : Int32) : fits .byte (.int (lo8 y)) = true := by
  have h1 := y.toInt8.le_toInt
  have h2 := y.toInt8.toInt_lt
  simp only [lo8, fits, Bool.and_eq_true, decide_eq_true_eq, Int32.le_iff_toInt_le, Int8.toInt_toInt32, show (-128 : Int32).toInt = -128 from by decide, show (127 : Int32).toInt = 127 from by decide]
  omega
/-- A' is A but that each place j of lo .. hi - 1 holds f j -/
def Laid (A A' : Cell) (lo hi : Nat) (f : Nat → Value) : Prop := A'.cls = A.cls ∧ A'.vm = A.vm ∧ A'.slots.size = A.slots.size ∧ ∀ i, A'.slots[i]? = if lo ≤ i ∧ i < hi then some (f i) else A.slots[i]?
theorem Laid.zero (A : Cell) (lo : Nat) (f : Nat → Value) : Laid A A lo (lo + 0) f := ⟨rfl, rfl, rfl, fun i => by rw [if_neg (by omega)]⟩
theorem Laid.step {A Ak : Cell} {lo k : Nat} {f : Nat → Value} {v : Value} (h : Laid A Ak lo k f) (hlo : lo ≤ k) (hk : k < Ak.slots.size) (hv : v = f k) : Laid A (Ak.setSlot k v) lo (k + 1) f := by
  refine ⟨h.1, h.2.1, by simpa [Cell.setSlot] using h.2.2.1, fun i => ?_⟩
  by_cases e : k = i
  · subst e; rw [Cell.slots_setSlot_self v hk, if_pos (by omega), hv]
  · rw [Cell.slots_setSlot_ne v e, h.2.2.2 i]
    by_cases q : lo ≤ i ∧ i < k
    · rw [if_pos q, if_pos (by omega)]
    · rw [if_neg q, if_neg (by omega)]
def U16 : String := "java/lang/StringUTF16"
namespace Cmp5
def yN : MethodName := ⟨"java/lang/StringUTF16", "compress", "([CI[BII)I"⟩
abbrev yB : ByteArray := jdk_52_method_21_code
theorem d0 : decode yB 0 = .ok (.iconst 0, 1) := by decide +kernel
theorem d1 : decode yB 1 = .ok (.istore 5, 2) := by decide +kernel
theorem d3 : decode yB 3 = .ok (.iload 5, 2) := by decide +kernel
theorem d5 : decode yB 5 = .ok (.iload 4, 2) := by decide +kernel
theorem d7 : decode yB 7 = .ok (.if_icmp (.ge) 37, 3) := by decide +kernel
theorem d10 : decode yB 10 = .ok (.aload_n 0, 1) := by decide +kernel
theorem d11 : decode yB 11 = .ok (.iload_n 1, 1) := by decide +kernel
theorem d12 : decode yB 12 = .ok (.caload, 1) := by decide +kernel
theorem d13 : decode yB 13 = .ok (.istore 6, 2) := by decide +kernel
theorem d15 : decode yB 15 = .ok (.iload 6, 2) := by decide +kernel
theorem d17 : decode yB 17 = .ok (.sipush 255, 3) := by decide +kernel
theorem d20 : decode yB 20 = .ok (.if_icmp (.le) 6, 3) := by decide +kernel
theorem d26 : decode yB 26 = .ok (.aload_n 2, 1) := by decide +kernel
theorem d27 : decode yB 27 = .ok (.iload_n 3, 1) := by decide +kernel
theorem d28 : decode yB 28 = .ok (.iload 6, 2) := by decide +kernel
theorem d30 : decode yB 30 = .ok (.i2b, 1) := by decide +kernel
theorem d31 : decode yB 31 = .ok (.bastore, 1) := by decide +kernel
theorem d32 : decode yB 32 = .ok (.iinc 1 1, 3) := by decide +kernel
theorem d35 : decode yB 35 = .ok (.iinc 3 1, 3) := by decide +kernel
theorem d38 : decode yB 38 = .ok (.iinc 5 1, 3) := by decide +kernel
theorem d41 : decode yB 41 = .ok (.goto (-38), 3) := by decide +kernel
theorem d44 : decode yB 44 = .ok (.iload 4, 2) := by decide +kernel
theorem d46 : decode yB 46 = .ok (.ireturn, 1) := by decide +kernel
def site : List Cond := []
def tab : Cond := tabOf yN yB 7 (some .int) site
def P (b : Addr) (A : Cell) (d : Addr) (B : Cell) (o q len : Nat) (args : Array Value) (s : State) : Prop := args = #[.ref b, .int (Int32.ofNat o), .ref d, .int (Int32.ofNat q), .int (Int32.ofNat len)] ∧ Ch b A s ∧ Arr .byte d B s ∧ b ≠ d ∧ o + len ≤ A.slots.size ∧ q + len ≤ B.slots.size ∧ ∀ i, i < len → ¬ 255 < cv A (o + i)
def E (b : Addr) (A : Cell) (d : Addr) (B : Cell) (o q len : Nat) (r : Option Value) (s u : State) : Prop := r = some (.int (Int32.ofNat len)) ∧ ∃ B', Put d B' s u ∧ Laid B B' q (q + len) (fun j => Value.int (lo8 (cv A (o + (j - q)))))
/-- no char of the range above 255: len; the places written hold each char's low byte -/
theorem law (l : Launch) (b : Addr) (A : Cell) (d : Addr) (B : Cell) (o q len : Nat) : Law l yN 5 5 0 0 yB 7 (some .int) site (P b A d B o q len) (E b A d B o q len) (copyLocs d q len) 0 0 := by
  refine Law.of_walk (plainFor_of_name (by decide +kernel)) (by decide +kernel) (by decide +kernel) (by decide) (fun _ _ h => by rw [h.1]; rfl) (fun _ U U' hal hh h => ⟨h.1, h.2.1.mv hal hh, h.2.2.1.mv hal hh, h.2.2.2⟩) (fun r U U' V V' h1 hal h2 h => ⟨h.1, h.2.elim fun B' q => ⟨B', q.1.mv h1 h2, q.2⟩⟩) ?_
  intro p e s m args below meth c s₁ X0 hexec hbytes hml hret hlk hnm hown hh0 W hP
  obtain ⟨rfl, hA, hB, hne, l1, l2, hp⟩ := hP
  have c1 : Steps p.tables e below (s₁.setTop (entryFrame m #[.ref b, .int (Int32.ofNat o), .ref d, .int (Int32.ofNat q), .int (Int32.ofNat len)] 7)) (s₁.setTop (mkF m 0 #[.val (.ref b), .val (.int (Int32.ofNat o)), .val (.ref d), .val (.int (Int32.ofNat q)), .val (.int (Int32.ofNat len)), .unset, .unset] [])) := entry rfl
  have hA0 := hA.1.mv X0.warmed.alike hh0
  have hB0 := hB.mv X0.warmed.alike hh0
  have a31 := hA.1.2.2.2
  have c2 : Steps p.tables e below (s₁.setTop (entryFrame m #[.ref b, .int (Int32.ofNat o), .ref d, .int (Int32.ofNat q), .int (Int32.ofNat len)] 7)) (s₁.setTop (mkF m 3 #[.val (.ref b), .val (.int (Int32.ofNat o)), .val (.ref d), .val (.int (Int32.ofNat q)), .val (.int (Int32.ofNat len)), .val (.int 0), .unset] [])) := c1.trans (by
    refine iconstV X0.here hexec rfl 0 (hb hbytes d0) (by decide) ?_
    refine XS.istore X0.here hexec rfl (hb hbytes d1) rfl rfl ?_
    exact Steps.refl _)
  have loop : ∀ (r i : Nat), i + r = len → ∀ (z : Slot), (z = .unset ∨ ∃ w, z = .val w ∧ w.category = 1) → ∀ (Tl : State) (Bk : Cell), Stand p l e { frames := 0, locals := 0, cells := 0, slots := 0 } s m #[.ref b, .int (Int32.ofNat o), .ref d, .int (Int32.ofNat q), .int (Int32.ofNat len)] below meth c Tl ([] ++ copyLocs d q i) 0 0 → Put d Bk s₁ Tl → Laid B Bk q (q + i) (fun j => Value.int (lo8 (cv A (o + (j - q))))) →
      Steps p.tables e below (s₁.setTop (entryFrame m #[.ref b, .int (Int32.ofNat o), .ref d, .int (Int32.ofNat q), .int (Int32.ofNat len)] 7)) (Tl.setTop (mkF m 3 #[.val (.ref b), .val (.int (Int32.ofNat (o + i))), .val (.ref d), .val (.int (Int32.ofNat (q + i))), .val (.int (Int32.ofNat len)), .val (.int (Int32.ofNat i)), z] [])) → ∃ (T' : State) (B' : Cell) (z' : Slot), Stand p l e { frames := 0, locals := 0, cells := 0, slots := 0 } s m #[.ref b, .int (Int32.ofNat o), .ref d, .int (Int32.ofNat q), .int (Int32.ofNat len)] below meth c T' ([] ++ copyLocs d q len) 0 0 ∧ Put d B' s₁ T' ∧ Laid B B' q (q + len) (fun j => Value.int (lo8 (cv A (o + (j - q))))) ∧
      Steps p.tables e below (s₁.setTop (entryFrame m #[.ref b, .int (Int32.ofNat o), .ref d, .int (Int32.ofNat q), .int (Int32.ofNat len)] 7)) (T'.setTop (mkF m 3 #[.val (.ref b), .val (.int (Int32.ofNat (o + len))), .val (.ref d), .val (.int (Int32.ofNat (q + len))), .val (.int (Int32.ofNat len)), .val (.int (Int32.ofNat len)), z'] [])) := by
    intro r
    induction r with
    | zero =>
      intro i hi z hz Tl Bk Xl pl fl cl
      have hil : i = len := by omega
      rw [hil] at Xl fl cl
      exact ⟨Tl, Bk, z, Xl, pl, fl, cl⟩
    | succ r ih =>
      intro i hi z hz Tl Bk Xl pl fl cl
      have all := X0.warmed.alike.symm.trans Xl.warmed.alike
      have hAl := hA0.keep all (pl.other hne hA0.1)
      have hBk := hB0.like all pl.1 fl.1 fl.2.1 fl.2.2.1
      have hlt : q + i < Bk.slots.size := by rw [fl.2.2.1]; omega
      have c3 : Steps p.tables e below (s₁.setTop (entryFrame m #[.ref b, .int (Int32.ofNat o), .ref d, .int (Int32.ofNat q), .int (Int32.ofNat len)] 7)) (Tl.setTop (mkF m 12 #[.val (.ref b), .val (.int (Int32.ofNat (o + i))), .val (.ref d), .val (.int (Int32.ofNat (q + i))), .val (.int (Int32.ofNat len)), .val (.int (Int32.ofNat i)), z] [.int (Int32.ofNat (o + i)), .ref b])) := cl.trans (by
        refine XS.iload Xl.here hexec rfl (hb hbytes d3) rfl ?_
        refine XS.iload Xl.here hexec rfl (hb hbytes d5) rfl ?_
        refine XS.icmpNo Xl.here hexec rfl (hb hbytes d7) rfl (ii_ge_f (lt32 (by omega) (by omega))) ?_
        refine XS.aloadN Xl.here hexec rfl (hb hbytes d10) rfl rfl ?_
        refine XS.iloadN Xl.here hexec rfl (hb hbytes d11) rfl ?_
        exact Steps.refl _)
      have c4 : Steps p.tables e below (s₁.setTop (entryFrame m #[.ref b, .int (Int32.ofNat o), .ref d, .int (Int32.ofNat q), .int (Int32.ofNat len)] 7)) (Tl.setTop (mkF m 13 #[.val (.ref b), .val (.int (Int32.ofNat (o + i))), .val (.ref d), .val (.int (Int32.ofNat (q + i))), .val (.int (Int32.ofNat len)), .val (.int (Int32.ofNat i)), z] [.int (cv A (o + i))])) := c3.trans (by
        refine Xl.aget hexec hAl rfl (hA.get (i := o + i) (by omega)) rfl rfl (hb hbytes d12) ?_
        exact Steps.refl _)
      have c5 : Steps p.tables e below (s₁.setTop (entryFrame m #[.ref b, .int (Int32.ofNat o), .ref d, .int (Int32.ofNat q), .int (Int32.ofNat len)] 7)) (Tl.setTop (mkF m 15 #[.val (.ref b), .val (.int (Int32.ofNat (o + i))), .val (.ref d), .val (.int (Int32.ofNat (q + i))), .val (.int (Int32.ofNat len)), .val (.int (Int32.ofNat i)), .val (.int (cv A (o + i)))] [])) := c4.trans (by
        refine XS.istoreS Xl.here hexec rfl (hb hbytes d13) rfl rfl hz ?_
        exact Steps.refl _)
      have c6 : Steps p.tables e below (s₁.setTop (entryFrame m #[.ref b, .int (Int32.ofNat o), .ref d, .int (Int32.ofNat q), .int (Int32.ofNat len)] 7)) (Tl.setTop (mkF m 31 #[.val (.ref b), .val (.int (Int32.ofNat (o + i))), .val (.ref d), .val (.int (Int32.ofNat (q + i))), .val (.int (Int32.ofNat len)), .val (.int (Int32.ofNat i)), .val (.int (cv A (o + i)))] [.int (lo8 (cv A (o + i))), .int (Int32.ofNat (q + i)), .ref d])) := c5.trans (by
        refine XS.iload Xl.here hexec rfl (hb hbytes d15) rfl ?_
        refine sipushV Xl.here hexec rfl 255 (hb hbytes d17) (by decide) ?_
        refine XS.icmpYes Xl.here hexec rfl (pc0 := 20) rfl (hb hbytes d20) rfl (ii_le_t (hp i (by omega))) (by decide) rfl ?_
        refine XS.aloadN Xl.here hexec rfl (hb hbytes d26) rfl rfl ?_
        refine XS.iloadN Xl.here hexec rfl (hb hbytes d27) rfl ?_
        refine XS.iload Xl.here hexec rfl (hb hbytes d28) rfl ?_
        refine i2b Xl.here hexec rfl (hb hbytes d30) rfl ?_
        exact Steps.refl _)
      obtain ⟨T7, X7, p7, st7⟩ := Xl.aput hexec hBk rfl hlt rfl (fits_lo8 (cv A (o + i))) (g := (mkF m 31 #[.val (.ref b), .val (.int (Int32.ofNat (o + i))), .val (.ref d), .val (.int (Int32.ofNat (q + i))), .val (.int (Int32.ofNat len)), .val (.int (Int32.ofNat i)), .val (.int (cv A (o + i)))] [.int (lo8 (cv A (o + i))), .int (Int32.ofNat (q + i)), .ref d])) rfl (rest := []) rfl (hb hbytes d31)
      have c8 : Steps p.tables e below (s₁.setTop (entryFrame m #[.ref b, .int (Int32.ofNat o), .ref d, .int (Int32.ofNat q), .int (Int32.ofNat len)] 7)) (T7.setTop (mkF m 32 #[.val (.ref b), .val (.int (Int32.ofNat (o + i))), .val (.ref d), .val (.int (Int32.ofNat (q + i))), .val (.int (Int32.ofNat len)), .val (.int (Int32.ofNat i)), .val (.int (cv A (o + i)))] [])) := c6.trans (st7 _ (Steps.refl _))
      have c9 : Steps p.tables e below (s₁.setTop (entryFrame m #[.ref b, .int (Int32.ofNat o), .ref d, .int (Int32.ofNat q), .int (Int32.ofNat len)] 7)) (T7.setTop (mkF m 3 #[.val (.ref b), .val (.int (Int32.ofNat (o + i) + 1)), .val (.ref d), .val (.int (Int32.ofNat (q + i) + 1)), .val (.int (Int32.ofNat len)), .val (.int (Int32.ofNat i + 1)), .val (.int (cv A (o + i)))] [])) := c8.trans (by
        refine iincV X7.here hexec rfl 1 (hb hbytes d32) (by decide) rfl rfl ?_
        refine iincV X7.here hexec rfl 1 (hb hbytes d35) (by decide) rfl rfl ?_
        refine iincV X7.here hexec rfl 1 (hb hbytes d38) (by decide) rfl rfl ?_
        refine XS.goto X7.here hexec rfl (pc0 := 41) rfl (hb hbytes d41) (by decide) rfl ?_
        exact Steps.refl _)
      have c10 : Steps p.tables e below (s₁.setTop (entryFrame m #[.ref b, .int (Int32.ofNat o), .ref d, .int (Int32.ofNat q), .int (Int32.ofNat len)] 7)) (T7.setTop (mkF m 3 #[.val (.ref b), .val (.int (Int32.ofNat (o + (i + 1)))), .val (.ref d), .val (.int (Int32.ofNat (q + (i + 1)))), .val (.int (Int32.ofNat len)), .val (.int (Int32.ofNat (i + 1))), .val (.int (cv A (o + i)))] [])) := by
        have := c9
        rw [succ32, succ32, succ32] at this
        exact this
      exact ih (i + 1) (by omega) _ (Or.inr ⟨_, rfl, rfl⟩) T7 _ (by rw [copyLocs_step, ← List.append_assoc]; exact X7) (pl.trans p7) (fl.step (by omega) hlt (by simp)) c10
  obtain ⟨T9, B9, z9, X9, p9, f9, g9⟩ := loop len 0 (by omega) .unset (Or.inl rfl) s₁ B (by simpa [copyLocs] using X0) ⟨hB0.1, fun _ _ => rfl, rfl⟩ (Laid.zero _ _ _) c2
  have c11 : Steps p.tables e below (s₁.setTop (entryFrame m #[.ref b, .int (Int32.ofNat o), .ref d, .int (Int32.ofNat q), .int (Int32.ofNat len)] 7)) (T9.setTop (mkF m 46 #[.val (.ref b), .val (.int (Int32.ofNat (o + len))), .val (.ref d), .val (.int (Int32.ofNat (q + len))), .val (.int (Int32.ofNat len)), .val (.int (Int32.ofNat len)), z9] [.int (Int32.ofNat len)])) := g9.trans (by
    refine XS.iload X9.here hexec rfl (hb hbytes d3) rfl ?_
    refine XS.iload X9.here hexec rfl (hb hbytes d5) rfl ?_
    refine XS.icmpYes X9.here hexec rfl (pc0 := 7) rfl (hb hbytes d7) rfl (ii_ge_t (nlt32 (by omega) (Nat.le_refl _))) (by decide) rfl ?_
    refine XS.iload X9.here hexec rfl (hb hbytes d44) rfl ?_
    exact Steps.refl _)
  exact ⟨T9, some (.int (Int32.ofNat len)), _, _, _, X9, by simp, rfl, rfl, (fun h => by cases h), ⟨rfl, B9, p9.from hh0, f9⟩, fun fs hl => c11.trans (X9.ireturnOut hexec hret rfl (Or.inl rfl) (hb hbytes d46) hl)⟩
end Cmp5
namespace Cmp3
def yN : MethodName := ⟨"java/lang/StringUTF16", "compress", "([CII)[B"⟩
abbrev yB : ByteArray := jdk_52_method_16_code
theorem d0 : decode yB 0 = .ok (.iload_n 2, 1) := by decide +kernel
theorem d1 : decode yB 1 = .ok (.newarray .byte, 2) := by decide +kernel
theorem d3 : decode yB 3 = .ok (.astore_n 3, 1) := by decide +kernel
theorem d4 : decode yB 4 = .ok (.aload_n 0, 1) := by decide +kernel
theorem d5 : decode yB 5 = .ok (.iload_n 1, 1) := by decide +kernel
theorem d6 : decode yB 6 = .ok (.aload_n 3, 1) := by decide +kernel
theorem d7 : decode yB 7 = .ok (.iconst 0, 1) := by decide +kernel
theorem d8 : decode yB 8 = .ok (.iload_n 2, 1) := by decide +kernel
theorem d9 : decode yB 9 = .ok (.invokestatic 115, 3) := by decide +kernel
theorem d12 : decode yB 12 = .ok (.istore 4, 2) := by decide +kernel
theorem d14 : decode yB 14 = .ok (.iload 4, 2) := by decide +kernel
theorem d16 : decode yB 16 = .ok (.iload_n 2, 1) := by decide +kernel
theorem d17 : decode yB 17 = .ok (.if_icmp (.eq) 40, 3) := by decide +kernel
theorem d57 : decode yB 57 = .ok (.aload_n 3, 1) := by decide +kernel
theorem d58 : decode yB 58 = .ok (.areturn, 1) := by decide +kernel
def site : List Cond := [.arrayClass .byte, Cmp5.tab] ++ staticW U16 115 Cmp5.yN
def tab : Cond := tabOf yN yB 6 (some (.array .byte)) site
def P (b : Addr) (A : Cell) (o len : Nat) (args : Array Value) (s : State) : Prop := args = #[.ref b, .int (Int32.ofNat o), .int (Int32.ofNat len)] ∧ Ch b A s ∧ o + len ≤ A.slots.size ∧ len ≤ 536870912 ∧ ∀ i, i < len → ¬ 255 < cv A (o + i)
def E (b : Addr) (A : Cell) (o len : Nat) (r : Option Value) (s u : State) : Prop := NewArr .byte "[B" len (fun j => .int (lo8 (cv A (o + j)))) r s u ∧ u.heap.size = s.heap.size + 1
/-- no char of the range above 255: a new byte[] of their low bytes -/
theorem law (l : Launch) (b : Addr) (A : Cell) (o len : Nat) : Law l yN 3 3 1 18 yB 6 (some (.array .byte)) site (P b A o len) (E b A o len) [] 1 len := by
  refine Law.of_walk (plainFor_of_name (by decide +kernel)) (by decide +kernel) (by decide +kernel) (by decide) (fun _ _ h => by rw [h.1]; rfl) (fun _ U U' hal hh h => ⟨h.1, h.2.1.mv hal hh, h.2.2⟩) (fun r U U' V V' h1 hal h2 h => ⟨NewArr.mv r U U' V V' h1 hal h2 h.1, by rw [h1, h2]; exact h.2⟩) ?_
  intro p e s m args below meth c s₁ X0 hexec hbytes hml hret hlk hnm hown hh0 W hP
  obtain ⟨rfl, hA, l1, l2, hp⟩ := hP
  have a31 := hA.1.2.2.2
  have c1 : Steps p.tables e below (s₁.setTop (entryFrame m #[.ref b, .int (Int32.ofNat o), .int (Int32.ofNat len)] 6)) (s₁.setTop (mkF m 0 #[.val (.ref b), .val (.int (Int32.ofNat o)), .val (.int (Int32.ofNat len)), .unset, .unset, .unset] [])) := entry rfl
  have c2 : Steps p.tables e below (s₁.setTop (entryFrame m #[.ref b, .int (Int32.ofNat o), .int (Int32.ofNat len)] 6)) (s₁.setTop (mkF m 1 #[.val (.ref b), .val (.int (Int32.ofNat o)), .val (.int (Int32.ofNat len)), .unset, .unset, .unset] [.int (Int32.ofNat len)])) := c1.trans (by
    refine XS.iloadN X0.here hexec rfl (hb hbytes d0) rfl ?_
    exact Steps.refl _)
  obtain ⟨T3, B3, X3, ba3, bs3, bv3, bh3, bf3, st3⟩ := X0.anew hexec (atype := .byte) (wk W (.arrayClass .byte)) rfl (by show len * 1 ≤ _; omega) (by omega) (g := (mkF m 1 #[.val (.ref b), .val (.int (Int32.ofNat o)), .val (.int (Int32.ofNat len)), .unset, .unset, .unset] [.int (Int32.ofNat len)])) rfl (hb hbytes d1) (rest := []) rfl (Nat.le_refl _) (by show 0 + len ≤ len; omega)
  rw [hh0] at ba3 st3
  have kp3 : XT.Kept s T3 := (XT.Kept.of_eq hh0).push bh3
  have hA3 := hA.keep X3.warmed.alike (kp3 _ _ hA.1.1)
  have hne : b ≠ s.heap.size := hA.1.ne
  have c4 : Steps p.tables e below (s₁.setTop (entryFrame m #[.ref b, .int (Int32.ofNat o), .int (Int32.ofNat len)] 6)) (T3.setTop (mkF m 3 #[.val (.ref b), .val (.int (Int32.ofNat o)), .val (.int (Int32.ofNat len)), .unset, .unset, .unset] [.ref s.heap.size])) := c2.trans (st3 _ (Steps.refl _))
  have c5 : Steps p.tables e below (s₁.setTop (entryFrame m #[.ref b, .int (Int32.ofNat o), .int (Int32.ofNat len)] 6)) (T3.setTop (mkF m 9 #[.val (.ref b), .val (.int (Int32.ofNat o)), .val (.int (Int32.ofNat len)), .val (.ref s.heap.size), .unset, .unset] [.int (Int32.ofNat len), .int 0, .ref s.heap.size, .int (Int32.ofNat o), .ref b])) := c4.trans (by
    refine XS.astoreN X3.here hexec rfl (hb hbytes d3) rfl rfl rfl ?_
    refine XS.aloadN X3.here hexec rfl (hb hbytes d4) rfl rfl ?_
    refine XS.iloadN X3.here hexec rfl (hb hbytes d5) rfl ?_
    refine XS.aloadN X3.here hexec rfl (hb hbytes d6) rfl rfl ?_
    refine iconstV X3.here hexec rfl 0 (hb hbytes d7) (by decide) ?_
    refine XS.iloadN X3.here hexec rfl (hb hbytes d8) rfl ?_
    exact Steps.refl _)
  obtain ⟨v6, T6, X6, E6, g6⟩ := X3.callS hexec (Cmp5.law l b A s.heap.size B3 o 0 len) hown (wks W (staticW U16 115 Cmp5.yN)) (wk W Cmp5.tab) (W := 0) (Nat.le_of_ble_eq_true rfl) (Nat.le_of_ble_eq_true rfl) (Nat.le_refl _) (by show 0 + len + 0 ≤ len; omega) (g := (mkF m 9 #[.val (.ref b), .val (.int (Int32.ofNat o)), .val (.int (Int32.ofNat len)), .val (.ref s.heap.size), .unset, .unset] [.int (Int32.ofNat len), .int (Int32.ofNat 0), .ref s.heap.size, .int (Int32.ofNat o), .ref b])) rfl (by rw [hml]; rfl) c5 (argsL := [.ref b, .int (Int32.ofNat o), .ref s.heap.size, .int (Int32.ofNat 0), .int (Int32.ofNat len)]) (rest := []) rfl rfl (by show 2 * 0 + 0 ≤ _; decide) (hb hbytes d9) (⟨rfl, hA3, ba3, hne, l1, by rw [bs3]; simp, hp⟩)
  obtain ⟨rfl, B6, p6, f6⟩ := E6
  have c7 : Steps p.tables e below (s₁.setTop (entryFrame m #[.ref b, .int (Int32.ofNat o), .int (Int32.ofNat len)] 6)) (T6.setTop (mkF m 12 #[.val (.ref b), .val (.int (Int32.ofNat o)), .val (.int (Int32.ofNat len)), .val (.ref s.heap.size), .unset, .unset] [.int (Int32.ofNat len)])) := g6
  have c8 : Steps p.tables e below (s₁.setTop (entryFrame m #[.ref b, .int (Int32.ofNat o), .int (Int32.ofNat len)] 6)) (T6.setTop (mkF m 58 #[.val (.ref b), .val (.int (Int32.ofNat o)), .val (.int (Int32.ofNat len)), .val (.ref s.heap.size), .val (.int (Int32.ofNat len)), .unset] [.ref s.heap.size])) := c7.trans (by
    refine XS.istore X6.here hexec rfl (hb hbytes d12) rfl rfl ?_
    refine XS.iload X6.here hexec rfl (hb hbytes d14) rfl ?_
    refine XS.iloadN X6.here hexec rfl (hb hbytes d16) rfl ?_
    refine XS.icmpYes X6.here hexec rfl (pc0 := 17) rfl (hb hbytes d17) rfl (ii_eq_t rfl) (by decide) rfl ?_
    refine XS.aloadN X6.here hexec rfl (hb hbytes d57) rfl rfl ?_
    exact Steps.refl _)
  have X8 := X6.wide (L' := []) (cells' := 1) (slots' := len) (fun x hx hlt => by
    simp only [List.nil_append, copyLocs, List.mem_map, List.mem_range] at hx
    obtain ⟨i, -, rfl⟩ := hx
    exact absurd hlt (Nat.lt_irrefl _)) (Nat.le_refl _) (by omega)
  exact ⟨T6, some (.ref s.heap.size), _, _, _, X8, rfl, rfl, rfl, (fun h => by cases h), ⟨⟨rfl, B6, ba3.like (X3.warmed.alike.symm.trans X6.warmed.alike) p6.1 f6.1 f6.2.1 f6.2.2.1, f6.2.1.trans bv3, by rw [X6.warmed.alike.findClass, f6.1]; exact bf3, by rw [f6.2.2.1, bs3]; simp, fun j hj => by rw [f6.2.2.2 j, if_pos (by omega)]; rfl, kp3.put p6 (Nat.le_refl _)⟩, by rw [p6.2.2, bh3, hh0]; simp⟩, fun fs hl => c8.trans (X8.areturnOut hexec rfl hret rfl (hb hbytes d58) hl)⟩
end Cmp3
namespace CodL
def yN : MethodName := ⟨"java/lang/StringUTF16", "coderFromArrayLen", "([BI)B"⟩
abbrev yB : ByteArray := jdk_52_method_15_code
theorem d0 : decode yB 0 = .ok (.iload_n 1, 1) := by decide +kernel
theorem d1 : decode yB 1 = .ok (.aload_n 0, 1) := by decide +kernel
theorem d2 : decode yB 2 = .ok (.arraylength, 1) := by decide +kernel
theorem d3 : decode yB 3 = .ok (.isub, 1) := by decide +kernel
theorem d4 : decode yB 4 = .ok (.bipush 31, 2) := by decide +kernel
theorem d6 : decode yB 6 = .ok (.iushr, 1) := by decide +kernel
theorem d7 : decode yB 7 = .ok (.i2b, 1) := by decide +kernel
theorem d8 : decode yB 8 = .ok (.ireturn, 1) := by decide +kernel
def site : List Cond := []
def tab : Cond := tabOf yN yB 2 (some .byte) site
def P (d : Addr) (B : Cell) (args : Array Value) (s : State) : Prop := args = #[.ref d, .int (Int32.ofNat B.slots.size)] ∧ Arr .byte d B s
def E (r : Option Value) (s u : State) : Prop := XT.PureE (some (.int 0)) r s u
/-- an array as long as the number of chars: LATIN1 -/
theorem law (l : Launch) (d : Addr) (B : Cell) : Law l yN 2 2 0 0 yB 2 (some .byte) site (P d B) E [] 0 0 := by
  refine Law.of_walk (plainFor_of_name (by decide +kernel)) (by decide +kernel) (by decide +kernel) (by decide) (fun _ _ h => by rw [h.1]; rfl) (fun _ U U' hal hh h => ⟨h.1, h.2.mv hal hh⟩) (fun r U U' V V' h1 hal h2 h => XT.PureE.mv r U U' V V' h1 hal h2 h) ?_
  intro p e s m args below meth c s₁ X0 hexec hbytes hml hret hlk hnm hown hh0 W hP
  obtain ⟨rfl, hB⟩ := hP
  have hB0 := hB.mv X0.warmed.alike hh0
  have c1 : Steps p.tables e below (s₁.setTop (entryFrame m #[.ref d, .int (Int32.ofNat B.slots.size)] 2)) (s₁.setTop (mkF m 0 #[.val (.ref d), .val (.int (Int32.ofNat B.slots.size))] [])) := entry rfl
  have c2 : Steps p.tables e below (s₁.setTop (entryFrame m #[.ref d, .int (Int32.ofNat B.slots.size)] 2)) (s₁.setTop (mkF m 2 #[.val (.ref d), .val (.int (Int32.ofNat B.slots.size))] [.ref d, .int (Int32.ofNat B.slots.size)])) := c1.trans (by
    refine XS.iloadN X0.here hexec rfl (hb hbytes d0) rfl ?_
    refine XS.aloadN X0.here hexec rfl (hb hbytes d1) rfl rfl ?_
    exact Steps.refl _)
  have c3 : Steps p.tables e below (s₁.setTop (entryFrame m #[.ref d, .int (Int32.ofNat B.slots.size)] 2)) (s₁.setTop (mkF m 8 #[.val (.ref d), .val (.int (Int32.ofNat B.slots.size))] [.int (lo8 (ushr (Int32.ofNat B.slots.size - Int32.ofNat B.slots.size) 31))])) := c2.trans (by
    refine X0.alen hexec hB0 rfl rfl (hb hbytes d2) ?_
    refine XS.isub X0.here hexec rfl (hb hbytes d3) rfl ?_
    refine bipushV X0.here hexec rfl 31 (hb hbytes d4) (by decide) ?_
    refine iushr X0.here hexec rfl (hb hbytes d6) rfl ?_
    refine i2b X0.here hexec rfl (hb hbytes d7) rfl ?_
    exact Steps.refl _)
  have e0 : lo8 (ushr (Int32.ofNat B.slots.size - Int32.ofNat B.slots.size) 31) = 0 := by rw [Int32.sub_self]; decide
  rw [e0] at c3
  exact ⟨s₁, some (.int 0), _, _, _, X0, rfl, rfl, rfl, (fun h => by cases h), ⟨rfl, hh0⟩, fun fs hl => c3.trans (X0.ireturnOut hexec hret rfl (Or.inr (Or.inr (Or.inl rfl))) (hb hbytes d8) hl)⟩
end CodL
/-- the String at a is Latin-1 over a new byte[] (the heap's one new cell): the low bytes of the len chars of A from o on; every cell but a is kept -/
def Got (a : Addr) (D : Cell) (fV fC : Field) (A : Cell) (o len : Nat) (r : Option Value) (s u : State) : Prop := r = none ∧ ∃ D' V : Cell, Blank "java/lang/String" a D' u ∧ Same D D' [fV.slot, fC.slot] ∧ D'.slots[fV.slot]? = some (.ref s.heap.size) ∧ D'.slots[fC.slot]? = some (.int 0) ∧ Arr .byte s.heap.size V u ∧ V.vm = .none ∧ u.vm.findClass "[B" = some V.cls ∧ V.slots.size = len ∧ (∀ j, j < len → V.slots[j]? = some (.int (lo8 (cv A (o + j))))) ∧ (∀ (y : Addr) (c : Cell), y ≠ a → s.heap[y]? = some c → u.heap[y]? = some c) ∧ u.heap.size = s.heap.size + 1
theorem Got.mv {a : Addr} {D A : Cell} {fV fC : Field} {o len : Nat} : ∀ r (U U' V V' : State), U'.heap = U.heap → V.vm.Alike V'.vm → V'.heap = V.heap → Got a D fV fC A o len r U V → Got a D fV fC A o len r U' V' :=
  fun r U U' V V' h1 hal h2 ⟨e0, D', X, a1, a2, a3, a4, a5, a6, a7, a8, a9, a10, a11⟩ => ⟨e0, D', X, a1.mv hal h2, a2, by rw [h1]; exact a3, a4, by rw [h1]; exact a5.mv hal h2, a6, by rw [hal.findClass]; exact a7, a8, a9, by rw [h1, h2]; exact a10, by rw [h1, h2]; exact a11⟩
namespace New4
def yN : MethodName := ⟨"java/lang/String", "<init>", "([CIILjava/lang/Void;)V"⟩
abbrev yB : ByteArray := jdk_42_method_149_code
theorem d0 : decode yB 0 = .ok (.aload_n 0, 1) := by decide +kernel
theorem d1 : decode yB 1 = .ok (.invokespecial 1, 3) := by decide +kernel
theorem d4 : decode yB 4 = .ok (.iload_n 3, 1) := by decide +kernel
theorem d5 : decode yB 5 = .ok (.ifCond (.ne) 22, 3) := by decide +kernel
theorem d27 : decode yB 27 = .ok (.getstatic 38, 3) := by decide +kernel
theorem d30 : decode yB 30 = .ok (.ifCond (.eq) 28, 3) := by decide +kernel
theorem d33 : decode yB 33 = .ok (.aload_n 1, 1) := by decide +kernel
theorem d34 : decode yB 34 = .ok (.iload_n 2, 1) := by decide +kernel
theorem d35 : decode yB 35 = .ok (.iload_n 3, 1) := by decide +kernel
theorem d36 : decode yB 36 = .ok (.invokestatic 177, 3) := by decide +kernel
theorem d39 : decode yB 39 = .ok (.astore 5, 2) := by decide +kernel
theorem d41 : decode yB 41 = .ok (.aload_n 0, 1) := by decide +kernel
theorem d42 : decode yB 42 = .ok (.aload 5, 2) := by decide +kernel
theorem d44 : decode yB 44 = .ok (.iload_n 3, 1) := by decide +kernel
theorem d45 : decode yB 45 = .ok (.invokestatic 47, 3) := by decide +kernel
theorem d48 : decode yB 48 = .ok (.putfield 15, 3) := by decide +kernel
theorem d51 : decode yB 51 = .ok (.aload_n 0, 1) := by decide +kernel
theorem d52 : decode yB 52 = .ok (.aload 5, 2) := by decide +kernel
theorem d54 : decode yB 54 = .ok (.putfield 9, 3) := by decide +kernel
theorem d57 : decode yB 57 = .ok (.return_, 1) := by decide +kernel
def site : List Cond := [.fieldLink "java/lang/String" 38 "java/lang/String" "COMPACT_STRINGS" "Z", Cmp3.tab, CodL.tab, .laysFinal "java/lang/String" "java/lang/String" "value" "[B", .fieldLink "java/lang/String" 9 "java/lang/String" "value" "[B", .laysFinal "java/lang/String" "java/lang/String" "coder" "B", .fieldLink "java/lang/String" 15 "java/lang/String" "coder" "B"] ++ objW "java/lang/String" 1 ++ staticW "java/lang/String" 177 Cmp3.yN ++ staticW "java/lang/String" 47 CodL.yN
def tab : Cond := tabOf yN yB 6 none site
def P (a : Addr) (D : Cell) (fV fC : Field) (b : Addr) (A : Cell) (z : Int32) (o len : Nat) (args : Array Value) (s : State) : Prop := args = #[.ref a, .ref b, .int (Int32.ofNat o), .int (Int32.ofNat len), .null] ∧ Blank "java/lang/String" a D s ∧ Found "java/lang/String" "value" "[B" fV s ∧ Found "java/lang/String" "coder" "B" fC s ∧ Ch b A s ∧ StaticIs s "java/lang/String" "COMPACT_STRINGS" "Z" (.int z) ∧ ¬ z = 0 ∧ 0 < len ∧ o + len ≤ A.slots.size ∧ len ≤ 536870912 ∧ ∀ i, i < len → ¬ 255 < cv A (o + i)
def E (a : Addr) (D : Cell) (fV fC : Field) (A : Cell) (o len : Nat) (r : Option Value) (s u : State) : Prop := Got a D fV fC A o len r s u
/-- len > 0, no char of the range above 255: a Latin-1 String of their low bytes -/
theorem law (l : Launch) (a : Addr) (D : Cell) (fV fC : Field) (b : Addr) (A : Cell) (z : Int32) (o len : Nat) : Law l yN 5 4 2 35 yB 6 none site (P a D fV fC b A z o len) (E a D fV fC A o len) [⟨a, fC.slot⟩, ⟨a, fV.slot⟩] 1 len := by
  refine Law.of_walk (plainFor_of_name (by decide +kernel)) (by decide +kernel) (by decide +kernel) (by decide) (fun _ _ h => by rw [h.1]; rfl) (fun _ U U' hal hh h => ⟨h.1, h.2.1.mv hal hh, h.2.2.1.al hal, h.2.2.2.1.al hal, h.2.2.2.2.1.mv hal hh, h.2.2.2.2.2.1.there hal hh, h.2.2.2.2.2.2⟩) (fun r U U' V V' h1 hal h2 h => Got.mv r U U' V V' h1 hal h2 h) ?_
  intro p e s m args below meth c s₁ X0 hexec hbytes hml hret hlk hnm hown hh0 W hP
  obtain ⟨rfl, hB, f1, f2, hA, s1, hz, l0, l1, l2, hp⟩ := hP
  have a31 := hA.1.2.2.2
  have c1 : Steps p.tables e below (s₁.setTop (entryFrame m #[.ref a, .ref b, .int (Int32.ofNat o), .int (Int32.ofNat len), .null] 6)) (s₁.setTop (mkF m 0 #[.val (.ref a), .val (.ref b), .val (.int (Int32.ofNat o)), .val (.int (Int32.ofNat len)), .val .null, .unset] [])) := entry rfl
  have c2 : Steps p.tables e below (s₁.setTop (entryFrame m #[.ref a, .ref b, .int (Int32.ofNat o), .int (Int32.ofNat len), .null] 6)) (s₁.setTop (mkF m 1 #[.val (.ref a), .val (.ref b), .val (.int (Int32.ofNat o)), .val (.int (Int32.ofNat len)), .val .null, .unset] [.ref a])) := c1.trans (by
    refine XS.aloadN X0.here hexec rfl (hb hbytes d0) rfl rfl ?_
    exact Steps.refl _)
  obtain ⟨T3, X3, q3, st3⟩ := X0.oinit hexec hown (wks W (objW "java/lang/String" 1)) (g := (mkF m 1 #[.val (.ref a), .val (.ref b), .val (.int (Int32.ofNat o)), .val (.int (Int32.ofNat len)), .val .null, .unset] [.ref a])) rfl (by rw [hml]; rfl) (rest := []) rfl (hb hbytes d1) (W := 0) (by show 2 * 0 + 0 ≤ _; decide) (Nat.le_of_ble_eq_true rfl) (Nat.le_of_ble_eq_true rfl)
  have hh3 := q3.trans hh0
  have c4 : Steps p.tables e below (s₁.setTop (entryFrame m #[.ref a, .ref b, .int (Int32.ofNat o), .int (Int32.ofNat len), .null] 6)) (T3.setTop (mkF m 27 #[.val (.ref a), .val (.ref b), .val (.int (Int32.ofNat o)), .val (.int (Int32.ofNat len)), .val .null, .unset] [])) := (c2.trans (st3 _ (Steps.refl _))).trans (by
    refine XS.iloadN X3.here hexec rfl (hb hbytes d4) rfl ?_
    refine XS.ifYes X3.here hexec rfl (pc0 := 5) rfl (hb hbytes d5) rfl (i0_ne_t (nz32 (by omega) l0)) (by decide) rfl ?_
    exact Steps.refl _)
  obtain ⟨T5, X5, q5, st5⟩ := X3.sget hexec hown (wk W (.fieldLink "java/lang/String" 38 "java/lang/String" "COMPACT_STRINGS" "Z")) s1 (fun _ _ h => by rw [hh3]; exact h) (g := (mkF m 27 #[.val (.ref a), .val (.ref b), .val (.int (Int32.ofNat o)), .val (.int (Int32.ofNat len)), .val .null, .unset] [])) rfl (hb hbytes d27)
  have hh5 := q5.trans hh3
  have c6 : Steps p.tables e below (s₁.setTop (entryFrame m #[.ref a, .ref b, .int (Int32.ofNat o), .int (Int32.ofNat len), .null] 6)) (T5.setTop (mkF m 30 #[.val (.ref a), .val (.ref b), .val (.int (Int32.ofNat o)), .val (.int (Int32.ofNat len)), .val .null, .unset] [.int z])) := c4.trans (st5 _ (Steps.refl _))
  have c7 : Steps p.tables e below (s₁.setTop (entryFrame m #[.ref a, .ref b, .int (Int32.ofNat o), .int (Int32.ofNat len), .null] 6)) (T5.setTop (mkF m 36 #[.val (.ref a), .val (.ref b), .val (.int (Int32.ofNat o)), .val (.int (Int32.ofNat len)), .val .null, .unset] [.int (Int32.ofNat len), .int (Int32.ofNat o), .ref b])) := c6.trans (by
    refine XS.ifNo X5.here hexec rfl (hb hbytes d30) rfl (i0_eq_f hz) ?_
    refine XS.aloadN X5.here hexec rfl (hb hbytes d33) rfl rfl ?_
    refine XS.iloadN X5.here hexec rfl (hb hbytes d34) rfl ?_
    refine XS.iloadN X5.here hexec rfl (hb hbytes d35) rfl ?_
    exact Steps.refl _)
  obtain ⟨v8, T8, X8, E8, g8⟩ := X5.callS hexec (Cmp3.law l b A o len) hown (wks W (staticW "java/lang/String" 177 Cmp3.yN)) (wk W Cmp3.tab) (W := 0) (Nat.le_of_ble_eq_true rfl) (Nat.le_of_ble_eq_true rfl) (Nat.le_refl _) (by show 0 + len ≤ len; omega) (g := (mkF m 36 #[.val (.ref a), .val (.ref b), .val (.int (Int32.ofNat o)), .val (.int (Int32.ofNat len)), .val .null, .unset] [.int (Int32.ofNat len), .int (Int32.ofNat o), .ref b])) rfl (by rw [hml]; rfl) c7 (argsL := [.ref b, .int (Int32.ofNat o), .int (Int32.ofNat len)]) (rest := []) rfl rfl (by show 2 * 0 + 0 ≤ _; decide) (hb hbytes d36) (⟨rfl, hA.mv X5.warmed.alike hh5, l1, l2, hp⟩)
  obtain ⟨e8, z8⟩ := E8
  obtain ⟨rfl, N, n1, n2, n3, n4, n5, n6⟩ := NewArr.mv _ T5 s _ _ hh5.symm (Vm.Alike.refl _) rfl e8
  rw [hh5] at z8
  have hB1 := hB.keep X8.warmed.alike (n6 _ _ hB.1)
  have hne : s.heap.size ≠ a := (Nat.ne_of_lt (Array.getElem?_eq_some_iff.mp hB.1).1).symm
  have c9 : Steps p.tables e below (s₁.setTop (entryFrame m #[.ref a, .ref b, .int (Int32.ofNat o), .int (Int32.ofNat len), .null] 6)) (T8.setTop (mkF m 39 #[.val (.ref a), .val (.ref b), .val (.int (Int32.ofNat o)), .val (.int (Int32.ofNat len)), .val .null, .unset] [.ref s.heap.size])) := g8
  have c10 : Steps p.tables e below (s₁.setTop (entryFrame m #[.ref a, .ref b, .int (Int32.ofNat o), .int (Int32.ofNat len), .null] 6)) (T8.setTop (mkF m 45 #[.val (.ref a), .val (.ref b), .val (.int (Int32.ofNat o)), .val (.int (Int32.ofNat len)), .val .null, .val (.ref s.heap.size)] [.int (Int32.ofNat N.slots.size), .ref s.heap.size, .ref a])) := by
    have hc : Steps p.tables e below (s₁.setTop (entryFrame m #[.ref a, .ref b, .int (Int32.ofNat o), .int (Int32.ofNat len), .null] 6)) (T8.setTop (mkF m 45 #[.val (.ref a), .val (.ref b), .val (.int (Int32.ofNat o)), .val (.int (Int32.ofNat len)), .val .null, .val (.ref s.heap.size)] [.int (Int32.ofNat len), .ref s.heap.size, .ref a])) := c9.trans (by
      refine XS.astore X8.here hexec rfl (hb hbytes d39) rfl rfl rfl ?_
      refine XS.aloadN X8.here hexec rfl (hb hbytes d41) rfl rfl ?_
      refine XS.aload X8.here hexec rfl (hb hbytes d42) rfl rfl ?_
      refine XS.iloadN X8.here hexec rfl (hb hbytes d44) rfl ?_
      exact Steps.refl _)
    rw [n4]; exact hc
  obtain ⟨v11, T11, X11, E11, g11⟩ := X8.callS hexec (CodL.law l s.heap.size N) hown (wks W (staticW "java/lang/String" 47 CodL.yN)) (wk W CodL.tab) (W := 1) (Nat.le_of_ble_eq_true rfl) (Nat.le_of_ble_eq_true rfl) (Nat.le_refl _) (by show 0 + len + 0 ≤ len; omega) (g := (mkF m 45 #[.val (.ref a), .val (.ref b), .val (.int (Int32.ofNat o)), .val (.int (Int32.ofNat len)), .val .null, .val (.ref s.heap.size)] [.int (Int32.ofNat N.slots.size), .ref s.heap.size, .ref a])) rfl (by rw [hml]; rfl) c10 (argsL := [.ref s.heap.size, .int (Int32.ofNat N.slots.size)]) (rest := [.ref a]) rfl rfl (by show 2 * 0 + (1 + 0) ≤ _; decide) (hb hbytes d45) (⟨rfl, n1⟩)
  obtain ⟨rfl, q11⟩ := E11
  have hB11 := hB1.mv (X8.warmed.alike.symm.trans X11.warmed.alike) q11
  have c12 : Steps p.tables e below (s₁.setTop (entryFrame m #[.ref a, .ref b, .int (Int32.ofNat o), .int (Int32.ofNat len), .null] 6)) (T11.setTop (mkF m 48 #[.val (.ref a), .val (.ref b), .val (.int (Int32.ofNat o)), .val (.int (Int32.ofNat len)), .val .null, .val (.ref s.heap.size)] [.int 0, .ref a])) := g11
  obtain ⟨T13, X13, p13, bl13, sl13, st13⟩ := X11.finit hexec hown (wk W (.fieldLink "java/lang/String" 15 "java/lang/String" "coder" "B")) (Or.inr ⟨_, (wk W (.laysFinal "java/lang/String" "java/lang/String" "coder" "B"))⟩) (Or.inl ⟨rfl, hnm⟩) f2 (Or.inl rfl) hB11 (t := .byte) (by decide +kernel) rfl (g := (mkF m 48 #[.val (.ref a), .val (.ref b), .val (.int (Int32.ofNat o)), .val (.int (Int32.ofNat len)), .val .null, .val (.ref s.heap.size)] [.int 0, .ref a])) rfl (rest := []) rfl (hb hbytes d48)
  have c14 : Steps p.tables e below (s₁.setTop (entryFrame m #[.ref a, .ref b, .int (Int32.ofNat o), .int (Int32.ofNat len), .null] 6)) (T13.setTop (mkF m 54 #[.val (.ref a), .val (.ref b), .val (.int (Int32.ofNat o)), .val (.int (Int32.ofNat len)), .val .null, .val (.ref s.heap.size)] [.ref s.heap.size, .ref a])) := (c12.trans (st13 _ (Steps.refl _))).trans (by
    refine XS.aloadN X13.here hexec rfl (hb hbytes d51) rfl rfl ?_
    refine XS.aload X13.here hexec rfl (hb hbytes d52) rfl rfl ?_
    exact Steps.refl _)
  obtain ⟨T15, X15, p15, bl15, sl15, st15⟩ := X13.finit hexec hown (wk W (.fieldLink "java/lang/String" 9 "java/lang/String" "value" "[B")) (Or.inr ⟨_, (wk W (.laysFinal "java/lang/String" "java/lang/String" "value" "[B"))⟩) (Or.inl ⟨rfl, hnm⟩) f1 (Or.inl rfl) bl13 (t := (.array .byte)) (by decide +kernel) rfl (g := (mkF m 54 #[.val (.ref a), .val (.ref b), .val (.int (Int32.ofNat o)), .val (.int (Int32.ofNat len)), .val .null, .val (.ref s.heap.size)] [.ref s.heap.size, .ref a])) rfl (rest := []) rfl (hb hbytes d54)
  have c16 : Steps p.tables e below (s₁.setTop (entryFrame m #[.ref a, .ref b, .int (Int32.ofNat o), .int (Int32.ofNat len), .null] 6)) (T15.setTop (mkF m 57 #[.val (.ref a), .val (.ref b), .val (.int (Int32.ofNat o)), .val (.int (Int32.ofNat len)), .val .null, .val (.ref s.heap.size)] [])) := c14.trans (st15 _ (Steps.refl _))
  have ap := apart (Or.inr ⟨_, (wk W (.laysFinal "java/lang/String" "java/lang/String" "value" "[B"))⟩) (Or.inr ⟨_, (wk W (.laysFinal "java/lang/String" "java/lang/String" "coder" "B"))⟩) f1 f2 (t₁ := .array .byte) (t₂ := .byte) (by decide +kernel) (by decide +kernel) (by decide)
  have al := X8.warmed.alike.symm.trans X15.warmed.alike
  have n7 : T11.heap[s.heap.size]? = some N := by rw [q11]; exact n1.1
  exact ⟨T15, none, _, _, _, X15, by simp, rfl, by omega, (fun _ => rfl), ⟨rfl, _, N, bl15, ((Same.refl D _).set _ (by simp)).set _ (by simp), sl15, (Cell.slots_setSlot_ne _ ap).trans sl13, n1.keep al (p15.other hne (p13.other hne n7)), n2, by rw [al.findClass]; exact n3, n4, n5, fun y c h1 h2 => p15.other h1 (p13.other h1 (by rw [q11]; exact n6 y c h2)), by rw [p15.2.2, p13.2.2, q11]; exact z8⟩, fun fs hl => c16.trans (X15.returnOut hexec hret (hb hbytes d57) hl)⟩
end New4
namespace New1
def yN : MethodName := ⟨"java/lang/String", "<init>", "([C)V"⟩
abbrev yB : ByteArray := jdk_42_method_3_code
theorem d0 : decode yB 0 = .ok (.aload_n 0, 1) := by decide +kernel
theorem d1 : decode yB 1 = .ok (.aload_n 1, 1) := by decide +kernel
theorem d2 : decode yB 2 = .ok (.iconst 0, 1) := by decide +kernel
theorem d3 : decode yB 3 = .ok (.aload_n 1, 1) := by decide +kernel
theorem d4 : decode yB 4 = .ok (.arraylength, 1) := by decide +kernel
theorem d5 : decode yB 5 = .ok (.aconst_null, 1) := by decide +kernel
theorem d6 : decode yB 6 = .ok (.invokespecial 27, 3) := by decide +kernel
theorem d9 : decode yB 9 = .ok (.return_, 1) := by decide +kernel
def site : List Cond := [New4.tab] ++ initW "java/lang/String" 27 New4.yN
def tab : Cond := tabOf yN yB 2 none site
def P (a : Addr) (D : Cell) (fV fC : Field) (b : Addr) (A : Cell) (z : Int32) (args : Array Value) (s : State) : Prop := args = #[.ref a, .ref b] ∧ Blank "java/lang/String" a D s ∧ Found "java/lang/String" "value" "[B" fV s ∧ Found "java/lang/String" "coder" "B" fC s ∧ Ch b A s ∧ StaticIs s "java/lang/String" "COMPACT_STRINGS" "Z" (.int z) ∧ ¬ z = 0 ∧ 0 < A.slots.size ∧ A.slots.size ≤ 536870912 ∧ ∀ i, i < A.slots.size → ¬ 255 < cv A i
def E (a : Addr) (D : Cell) (fV fC : Field) (A : Cell) (r : Option Value) (s u : State) : Prop := Got a D fV fC A 0 A.slots.size r s u
/-- new String(chars), not empty, no char above 255: a Latin-1 String of their low bytes -/
theorem law (l : Launch) (a : Addr) (D : Cell) (fV fC : Field) (b : Addr) (A : Cell) (z : Int32) : Law l yN 2 1 3 52 yB 2 none site (P a D fV fC b A z) (E a D fV fC A) [⟨a, fC.slot⟩, ⟨a, fV.slot⟩] 1 A.slots.size := by
  refine Law.of_walk (plainFor_of_name (by decide +kernel)) (by decide +kernel) (by decide +kernel) (by decide) (fun _ _ h => by rw [h.1]; rfl) (fun _ U U' hal hh h => ⟨h.1, h.2.1.mv hal hh, h.2.2.1.al hal, h.2.2.2.1.al hal, h.2.2.2.2.1.mv hal hh, h.2.2.2.2.2.1.there hal hh, h.2.2.2.2.2.2⟩) (fun r U U' V V' h1 hal h2 h => Got.mv r U U' V V' h1 hal h2 h) ?_
  intro p e s m args below meth c s₁ X0 hexec hbytes hml hret hlk hnm hown hh0 W hP
  obtain ⟨rfl, hB, f1, f2, hA, s1, hz, l0, l2, hp⟩ := hP
  have c1 : Steps p.tables e below (s₁.setTop (entryFrame m #[.ref a, .ref b] 2)) (s₁.setTop (mkF m 0 #[.val (.ref a), .val (.ref b)] [])) := entry rfl
  have c2 : Steps p.tables e below (s₁.setTop (entryFrame m #[.ref a, .ref b] 2)) (s₁.setTop (mkF m 6 #[.val (.ref a), .val (.ref b)] [.null, .int (Int32.ofNat A.slots.size), .int 0, .ref b, .ref a])) := c1.trans (by
    refine XS.aloadN X0.here hexec rfl (hb hbytes d0) rfl rfl ?_
    refine XS.aloadN X0.here hexec rfl (hb hbytes d1) rfl rfl ?_
    refine iconstV X0.here hexec rfl 0 (hb hbytes d2) (by decide) ?_
    refine XS.aloadN X0.here hexec rfl (hb hbytes d3) rfl rfl ?_
    refine X0.alen hexec (hA.1.mv X0.warmed.alike hh0) rfl rfl (hb hbytes d4) ?_
    refine XS.aconstNull X0.here hexec rfl (hb hbytes d5) ?_
    exact Steps.refl _)
  obtain ⟨v3, T3, X3, E3, g3⟩ := X0.callN hexec (New4.law l a D fV fC b A z 0 A.slots.size) rfl hown (wks W (initW "java/lang/String" 27 New4.yN)) (W New4.tab (by simp only [site, List.mem_cons, List.mem_append, true_or, or_true])) (W := 0) (Nat.le_of_ble_eq_true rfl) (Nat.le_of_ble_eq_true rfl) (Nat.le_refl _) (by show 0 + A.slots.size ≤ A.slots.size; omega) (g := (mkF m 6 #[.val (.ref a), .val (.ref b)] [.null, .int (Int32.ofNat A.slots.size), .int (Int32.ofNat 0), .ref b, .ref a])) rfl (by rw [hml]; rfl) c2 (argsL := [.ref b, .int (Int32.ofNat 0), .int (Int32.ofNat A.slots.size), .null]) (rest := []) rfl rfl (by show 2 * 0 + 0 ≤ _; decide) (hb hbytes d6) (⟨rfl, hB.mv X0.warmed.alike hh0, f1.al X0.warmed.alike, f2.al X0.warmed.alike, hA.mv X0.warmed.alike hh0, s1.there X0.warmed.alike hh0, hz, l0, by omega, l2, fun i hi => by rw [Nat.zero_add]; exact hp i hi⟩)
  have e0 := Got.mv _ s₁ s _ _ hh0.symm (Vm.Alike.refl _) rfl E3
  obtain rfl := e0.1
  have c4 : Steps p.tables e below (s₁.setTop (entryFrame m #[.ref a, .ref b] 2)) (T3.setTop (mkF m 9 #[.val (.ref a), .val (.ref b)] [])) := g3
  exact ⟨T3, none, _, _, _, X3, by simp, rfl, by omega, (fun _ => rfl), e0, fun fs hl => c4.trans (X3.returnOut hexec hret (hb hbytes d9) hl)⟩
theorem pays {l : Launch} {R : Room} {p : Program} {e : Env} {below : List Frame} {s : State} {sargs : Array Value} {len W : Nat} (a : Addr) (D : Cell) (fV fC : Field) (b : Addr) (A : Cell) (z : Int32) (htab : tab.before sargs s = true) (hfr : 4 ≤ R.frames) (hlo : W + 65 ≤ R.locals) :
    Back l R p e below s sargs yN len W (fun A₁ a₁ => A₁.cells + 1 ≤ R.cells ∧ A₁.slots + A.slots.size ≤ R.slots ∧ P a D fV fC b A z a₁ A₁.U) (fun A₁ _ v₁ B₁ => E a D fV fC A v₁ A₁.U B₁.U ∧ B₁.locs = A₁.locs ++ [⟨a, fC.slot⟩, ⟨a, fV.slot⟩] ∧ B₁.cells = A₁.cells + 1 ∧ B₁.slots = A₁.slots + A.slots.size) :=
  (law l a D fV fC b A z).pays htab hfr (by omega)
end New1
/-- the byte, read back as charAt reads it, is the char -/
theorem lo8_mask {x : Int32} (h0 : ¬ x < 0) (h1 : ¬ 255 < x) : lo8 x &&& 255 = x := by
  have t : ∀ k : Fin 256, lo8 (Int32.ofNat k.val) &&& 255 = Int32.ofNat k.val := by decide +kernel
  rw [Int32.lt_iff_toInt_lt] at h0 h1
  have e0 : (0 : Int32).toInt = 0 := rfl
  have e1 : (255 : Int32).toInt = 255 := rfl
  obtain ⟨k, hk⟩ : ∃ k : Nat, x.toInt = k := ⟨x.toInt.toNat, by omega⟩
  have hx : x = Int32.ofNat k := Int32.toInt_inj.mp (by rw [hk, Int32.toInt_ofNat_small (by omega)])
  rw [hx]
  exact t ⟨k, by omega⟩
end StrChars
namespace StrChars.Road
open Jvm Sem ClassFile Op Lib Jvm.Stand Jvm.Free Jvm.Free.XT
open Jvm.Lib.Cold (StaticIs)
abbrev ST : String := "java/lang/String"
/-- every table word that New1's law asks, flat -/
abbrev words : List Jvm.Cond := [.code New1.yN New1.yB 2 none, .initialized ST, .methodLink ST 27 New4.yN, .instanceMethod New4.yN,
  .code New4.yN New4.yB 6 none, .fieldLink ST 38 ST "COMPACT_STRINGS" "Z", .laysFinal ST ST "value" "[B", .fieldLink ST 9 ST "value" "[B", .laysFinal ST ST "coder" "B", .fieldLink ST 15 ST "coder" "B",
  .methodLink ST 1 Lib.objectInit, .instanceMethod Lib.objectInit, .code Lib.objectInit ⟨#[0xb1]⟩ 1 none, .methodLink ST 177 Cmp3.yN, .static Cmp3.yN, .methodLink ST 47 CodL.yN, .static CodL.yN,
  .code Cmp3.yN Cmp3.yB 6 (some (.array .byte)), .initialized U16, .arrayClass .byte, .methodLink U16 115 Cmp5.yN, .static Cmp5.yN, .code Cmp5.yN Cmp5.yB 7 (some .int), .code CodL.yN CodL.yB 2 (some .byte)]
theorem tab_of {a : Array Value} {s : State} (h : ∀ w ∈ words, w.before a s = true) : New1.tab.before a s = true := by
  have h5 : Cmp5.tab.before a s = true := unparts (wk h (.code Cmp5.yN Cmp5.yB 7 (some .int))) (wks h (.initialized Cmp5.yN.cls :: Cmp5.site))
  have hc : CodL.tab.before a s = true := unparts (wk h (.code CodL.yN CodL.yB 2 (some .byte))) (wks h (.initialized CodL.yN.cls :: CodL.site))
  have q5 : ∀ w ∈ Cmp5.tab :: words, w.before a s = true := fun w hw => (List.mem_cons.mp hw).elim (fun e => e ▸ h5) (h w)
  have h3 : Cmp3.tab.before a s = true := unparts (wk q5 (.code Cmp3.yN Cmp3.yB 6 (some (.array .byte)))) (wks q5 (.initialized Cmp3.yN.cls :: Cmp3.site))
  have q3 : ∀ w ∈ Cmp3.tab :: CodL.tab :: words, w.before a s = true := fun w hw => (List.mem_cons.mp hw).elim (fun e => e ▸ h3) fun hw => (List.mem_cons.mp hw).elim (fun e => e ▸ hc) (h w)
  have h4 : New4.tab.before a s = true := unparts (wk q3 (.code New4.yN New4.yB 6 none)) (wks q3 (.initialized New4.yN.cls :: New4.site))
  have q4 : ∀ w ∈ New4.tab :: words, w.before a s = true := fun w hw => (List.mem_cons.mp hw).elim (fun e => e ▸ h4) (h w)
  exact unparts (wk q4 (.code New1.yN New1.yB 2 none)) (wks q4 (.initialized New1.yN.cls :: New1.site))
/-- the words ride from the start Z to the walk's own state -/
theorem moved {Z s : State} {a0 args : Array Value} (hZ : Z.Warmed39 s.vm) (hw : ∀ d ∈ words, d.before a0 Z = true) : ∀ d ∈ words, d.before args s = true := fun d hd => by
  have q := hw d hd
  have t : ∀ d ∈ words, d = .arrayClass .byte ∨ (d.onTables && d.keepsFace) = true := by decide +kernel
  rcases t d hd with rfl | t
  · exact RoadKit.mvA hZ q
  · exact RoadKit.mv hZ q t
/-- WHAT COMES BACK, over the tables of the start Z: h the heap at the call, h' behind it -/
def Q (Z : State) (x : Addr) (A : Cell) (h : Heap) (v : Option Value) (h' : Heap) (L : List Loc) : Prop := v = none ∧ (∀ y ∈ L, y.base = x) ∧ RoadKit.Keep h h' [x] ∧ h'.size = h.size + 1 ∧ RoadKit.Exa Z h' x ST ∧ RoadKit.Fld Z h' x ST "value" "[B" (.ref h.size) ∧ RoadKit.Fld Z h' x ST "coder" "B" (.int 0) ∧
  (∃ V : Cell, RoadKit.Arr Z h' h.size V .byte ∧ V.vm = .none ∧ Z.vm.findClass "[B" = some V.cls ∧ V.slots.size = A.slots.size ∧ ∀ j, j < A.slots.size → V.slots[j]? = some (.int (lo8 (cv A j)))) ∧
  ∀ (O n d : String) (w : Value), RoadKit.Fld Z h x O n d w → RoadKit.slotOf Z O n d ≠ RoadKit.slotOf Z ST "value" "[B" → RoadKit.slotOf Z O n d ≠ RoadKit.slotOf Z ST "coder" "B" → RoadKit.Fld Z h' x O n d w
/-- **new String(chars) AT A CALL, IN THE ROAD'S FORM**: for specialBack behind newO: x the fresh String, b the char[] with the cell A -/
theorem back {p : Program} {l : Launch} {e : Env} {R : Room} {s : State} {args : Array Value} {below : List Frame} {len W : Nat} {Z : State} {a0 : Array Value} {h : Heap} (hZ : Z.Warmed39 s.vm) (hw : ∀ d ∈ words, d.before a0 Z = true) {kI : Nat} (wi : (Jvm.Cond.instantiable ST kI).before a0 Z = true)
    {x b : Addr} {A : Cell} {z : Int32} {v0 c0 : Value} (E : RoadKit.Exa Z h x ST) (V : RoadKit.Fld Z h x ST "value" "[B" v0) (C : RoadKit.Fld Z h x ST "coder" "B" c0) (K : RoadKit.Arr Z h b A .char) (hty : Typed .char A) (S : RoadKit.Sta Z h ST "COMPACT_STRINGS" "Z" (.int z)) (hz : ¬ z = 0)
    (l0 : 0 < A.slots.size) (l2 : A.slots.size ≤ 536870912) (hp : ∀ i, i < A.slots.size → ¬ 255 < cv A i) (hfr : 4 ≤ R.frames) (hlo : W + 65 ≤ R.locals) :
    Back l R p e below s args New1.yN len W (fun P a => a = #[.ref x, .ref b] ∧ P.U.heap = h ∧ P.cells + 1 ≤ R.cells ∧ P.slots + A.slots.size ≤ R.slots)
      (fun P _ v B => ∃ L, Q Z x A h v B.U.heap L ∧ B.locs = P.locs ++ L ∧ B.cells = P.cells + 1 ∧ B.slots = P.slots + A.slots.size) := by
  intro m meth c P g ig mk a X hg hsize hdg hW hn hp'
  obtain ⟨rfl, rfl, r1, r2⟩ := hp'
  have al : Z.vm.Alike P.U.vm := hZ.alike.trans X.warmed.alike
  obtain ⟨D, cfV, kV, iV, fV, hD, gV, stV, knV, obV, asV, slV⟩ := id V
  obtain ⟨D', cfC, kC, iC, fC, hD', gC, stC, -, -, asC, slC⟩ := id C
  cases hD.symm.trans hD'
  obtain ⟨D2, kD, e1, e2, e3, e4, e5⟩ := id E
  cases hD.symm.trans e1
  obtain ⟨c2, k2, i1, i2, i3, -⟩ := Cond.instantiable_spec wi
  cases e2.symm.trans i1
  cases e3.symm.trans i2
  obtain ⟨kU, u1, u2⟩ := al.2.2 _ _ e3
  have hB : Blank ST x D P.U := ⟨hD, ⟨knV, fun q hq => by rw [hq] at obV; cases obV⟩, by rw [al.findClass]; exact e2, kU, u1, by rw [u2]; exact i3, by rw [u2]; exact e5 i3⟩
  have F1 : Found ST "value" "[B" fV P.U := ⟨SBG.found_only al ⟨cfV, kV, iV, gV⟩, stV⟩
  have F2 : Found ST "coder" "B" fC P.U := ⟨SBG.found_only al ⟨cfC, kC, iC, gC⟩, stC⟩
  have hA : Ch b A P.U := ⟨⟨K.1, State.isArrayOf_alike al K.2.1, K.2.2, by omega⟩, hty⟩
  have hS : StaticIs P.U ST "COMPACT_STRINGS" "Z" (.int z) := by
    obtain ⟨cfS, iS, kS, fS, st, cS, t1, t2, t3, t4, t5, t6, t7⟩ := S
    exact StaticIs.there (s := { Z with heap := P.U.heap }) ⟨cfS, iS, kS, fS, st, cS, t1, t2, t3, t4, t5, (fun q => by rw [q] at t6; cases t6), t7⟩ al rfl
  obtain ⟨v, B, X', ⟨⟨hv, E', V', q1, q2, q3, q4, q5, q6, q7, q8, q9, q10, q11⟩, hl, hc, hs⟩, st⟩ := New1.pays x D fV fC b A z (tab_of (moved hZ hw)) hfr hlo m meth c P g ig mk _ X hg hsize hdg hW hn ⟨r1, r2, rfl, hB, F1, F2, hA, hS, hz, l0, l2, hp⟩
  have al' : Z.vm.Alike B.U.vm := hZ.alike.trans X'.warmed.alike
  have hsz : E'.slots.size = D.slots.size := by
    obtain ⟨-, -, -, kB, w1, w2, w3⟩ := q1
    obtain ⟨kB', y1, y2⟩ := al'.2.2 _ _ e3
    rw [q2.2.1] at w1
    cases w1.symm.trans y1
    rw [w3, e5 i3, y2]
  refine ⟨v, B, X', ⟨_, ⟨hv, ?_, ⟨by omega, fun y cy hy hn' => q10 y cy (by simpa using hn') hy, fun y cy hy => ?_⟩, q11, ⟨E', _, q1.1, by rw [q2.2.1]; exact e2, by rw [q2.2.1]; exact e3, by rw [q2.1]; exact obV, fun _ => by rw [hsz]; exact e5 i3⟩,
    ⟨E', cfV, kV, iV, fV, q1.1, gV, stV, by rw [q2.1]; exact knV, by rw [q2.1]; exact obV, by rw [q2.2.1]; exact asV, q3⟩, ⟨E', cfC, kC, iC, fC, q1.1, gC, stC, by rw [q2.1]; exact knV, by rw [q2.1]; exact obV, by rw [q2.2.1]; exact asC, q4⟩,
    ⟨V', ⟨q5.1, State.isArrayOf_alike al'.symm q5.2.1, q5.2.2.1⟩, q6, by rw [← al'.findClass]; exact q7, q8, fun j hj => by have := q9 j hj; rwa [Nat.zero_add] at this⟩, fun O n d w F n1 n2 => ?_⟩, hl, hc, hs⟩, st⟩
  · intro y hy
    simp only [List.mem_cons, List.not_mem_nil, or_false] at hy
    rcases hy with rfl | rfl <;> rfl
  · by_cases q : y = x
    · subst q
      cases hD.symm.trans hy
      exact ⟨E', q1.1, q2.2.1, q2.1, hsz⟩
    · exact ⟨cy, q10 y cy q hy, rfl, rfl, rfl⟩
  · obtain ⟨D3, cf, k, i, f, g1, g2, g3, g4, g5, g6, g7⟩ := F
    cases hD.symm.trans g1
    simp only [RoadKit.slotOf, g2, gV, gC, Option.map_some, Option.getD_some] at n1 n2
    exact ⟨E', cf, k, i, f, q1.1, g2, g3, by rw [q2.1]; exact g4, by rw [q2.1]; exact g5, by rw [q2.2.1]; exact g6, by rw [q2.2.2 f.slot (by simp [n1, n2])]; exact g7⟩
end StrChars.Road
namespace StrChars.Road
open Jvm Sem ClassFile Op Lib Jvm.Stand Jvm.Free Jvm.Free.XT
/-- WHAT COMES BACK, the byte[] as a list of values -/
def QA (Z : State) (x : Addr) (zn : Int32) (cs : List Int32) (h : Heap) (v : Option Value) (h' : Heap) (L : List Loc) : Prop := v = none ∧ (∀ y ∈ L, y.base = x) ∧ RoadKit.Keep h h' [x] ∧ h'.size = h.size + 1 ∧ RoadKit.Exa Z h' x ST ∧ RoadKit.Fld Z h' x ST "value" "[B" (.ref h.size) ∧ RoadKit.Fld Z h' x ST "coder" "B" (.int 0) ∧
  (∃ kb, Z.vm.findClass "[B" = some kb ∧ RoadKit.Arv Z h' h.size kb .byte zn (cs.map fun c => .int (lo8 c)) (.int 0)) ∧
  ∀ (O n d : String) (w : Value), RoadKit.Fld Z h x O n d w → RoadKit.slotOf Z O n d ≠ RoadKit.slotOf Z ST "value" "[B" → RoadKit.slotOf Z O n d ≠ RoadKit.slotOf Z ST "coder" "B" → RoadKit.Fld Z h' x O n d w
/-- **new String(chars) AT A CALL, THE ARRAYS AS LISTS**: the char[] at b holds cs, not empty, no char above 255 -/
theorem backArv {p : Program} {l : Launch} {e : Env} {R : Room} {s : State} {args : Array Value} {below : List Frame} {len W : Nat} {Z : State} {a0 : Array Value} {h : Heap} (hZ : Z.Warmed39 s.vm) (hw : ∀ d ∈ words, d.before a0 Z = true) {kI : Nat} (wi : (Jvm.Cond.instantiable ST kI).before a0 Z = true)
    {x b : Addr} {k : ClassId} {zn z : Int32} {cs : List Int32} {dv v0 c0 : Value} (E : RoadKit.Exa Z h x ST) (V : RoadKit.Fld Z h x ST "value" "[B" v0) (C : RoadKit.Fld Z h x ST "coder" "B" c0) (K : RoadKit.Arv Z h b k .char zn (cs.map Value.int) dv) (S : RoadKit.Sta Z h ST "COMPACT_STRINGS" "Z" (.int z)) (hz : ¬ z = 0)
    (hlen : zn.toNatClampNeg = cs.length) (h0 : 0 < cs.length) (hbig : cs.length ≤ 536870912) (hall : ∀ c ∈ cs, ¬ 255 < c) (hfr : 4 ≤ R.frames) (hlo : W + 65 ≤ R.locals) :
    Back l R p e below s args New1.yN len W (fun P a => a = #[.ref x, .ref b] ∧ P.U.heap = h ∧ P.cells + 1 ≤ R.cells ∧ P.slots + cs.length ≤ R.slots)
      (fun P _ v B => ∃ L, QA Z x zn cs h v B.U.heap L ∧ B.locs = P.locs ++ L ∧ B.cells = P.cells + 1 ∧ B.slots = P.slots + cs.length) := by
  obtain ⟨A, K1, K2, K3, K4, K5, K6⟩ := K
  have e : A.slots.size = cs.length := K3.trans hlen
  have hat : ∀ (i : Nat) (hi : i < cs.length), A.slots[i]? = some (.int cs[i]) := fun i hi => by rw [K5 i (by omega)]; simp [List.getD_eq_getElem?_getD, hi]
  have hcv : ∀ (i : Nat) (hi : i < cs.length), cv A i = cs[i] := fun i hi => by unfold cv; rw [hat i hi]
  have hty : Typed .char A := fun i v hv => by
    have hi : i < A.slots.size := (Array.getElem?_eq_some_iff.mp hv).1
    have q := K5 i hi
    rw [hv] at q
    rw [Option.some.inj q]
    exact K6 i hi
  refine Back.mono (back hZ hw wi E V C K1 hty S hz (by omega) (by omega) (fun i hi => by rw [hcv i (by omega)]; exact hall _ (List.getElem_mem _)) hfr hlo) (fun P a hp => ⟨hp.1, hp.2.1, hp.2.2.1, by rw [e]; exact hp.2.2.2⟩) (fun P a v B hp hq => ?_)
  obtain ⟨L, ⟨q1, q2, q3, q4, q5, q6, q7, ⟨V', v1, v2, v3, v4, v5⟩, q9⟩, hl, hc, hs⟩ := hq
  refine ⟨L, ⟨q1, q2, q3, q4, q5, q6, q7, ⟨V'.cls, v3, V', v1, rfl, by rw [v4, e, hlen], K4, fun i hi => ?_, fun i hi => ?_⟩, q9⟩, hl, hc, by rw [hs, e]⟩
  · have hi' : i < cs.length := by omega
    rw [v5 i (by omega), hcv i hi']; simp [List.getD_eq_getElem?_getD, hi']
  · have hi' : i < cs.length := by omega
    simp only [List.getD_eq_getElem?_getD, List.getElem?_map, List.getElem?_eq_getElem hi', Option.map_some, Option.getD_some]
    exact fits_lo8 _
end StrChars.Road
namespace StrChars.Road
open Jvm Sem ClassFile Op Lib Jvm.Stand Jvm.Free Jvm.Free.XT
/-- WHAT COMES BACK, in the writer's own shape -/
def QV (Z : State) (x : Addr) (N : Int32) (bs : List Int32) (h : Heap) (n0 : Nat) (v : Option Value) (h' : Heap) (L : List Loc) : Prop := v = none ∧ RoadKit.Fr n0 L ∧ RoadKit.Keep h h' [x] ∧ RoadKit.Exa Z h' x ST ∧ RoadKit.Fld Z h' x ST "coder" "B" (.int 0) ∧
  ∃ (t : Addr) (kb : ClassId), n0 ≤ t ∧ h.size ≤ t ∧ ¬ t = x ∧ RoadKit.Fld Z h' x ST "value" "[B" (.ref t) ∧ RoadKit.Arv Z h' t kb .byte N (bs.map Value.int) (.int 0)
/-- **new String(chars) AT A CALL, FOR THE WRITER**: a char[] of n known ints, each 0 to 255 -/
theorem backV {p : Program} {l : Launch} {e : Env} {R : Room} {s : State} {args : Array Value} {below : List Frame} {len W : Nat} {Z : State} {a0 : Array Value} {h : Heap} (hZ : Z.Warmed39 s.vm) (hw : ∀ d ∈ words, d.before a0 Z = true) {kI : Nat} (wi : (Jvm.Cond.instantiable ST kI).before a0 Z = true)
    {x b : Addr} {kC : ClassId} {cs bs : List Int32} {d v0 c0 : Value} {z N : Int32} {n n0 : Nat} (hx0 : n0 ≤ x) (hh0 : n0 ≤ h.size) (E : RoadKit.Exa Z h x ST) (V : RoadKit.Fld Z h x ST "value" "[B" v0) (C : RoadKit.Fld Z h x ST "coder" "B" c0) (K : RoadKit.Arv Z h b kC .char N (cs.map Value.int) d) (S : RoadKit.Sta Z h ST "COMPACT_STRINGS" "Z" (.int z)) (hz : ¬ z = 0)
    (hn : cs.length = n) (hN : N = Int32.ofNat n) (l0 : 0 < n) (l2 : n ≤ 4000) (hp : ∀ c ∈ cs, ¬ c < 0 ∧ ¬ (255 : Int32) < c) (hb : bs = cs.map (fun c => c.toInt8.toInt32)) (hfr : 4 ≤ R.frames) (hlo : W + 65 ≤ R.locals) :
    Back l R p e below s args (⟨"java/lang/String", "<init>", "([C)V"⟩ : MethodName) len W (fun P a => a = #[.ref x, .ref b] ∧ P.U.heap = h ∧ P.cells + 1 ≤ R.cells ∧ P.slots + n ≤ R.slots)
      (fun P _ v B => ∃ L, QV Z x N bs h n0 v B.U.heap L ∧ B.locs = P.locs ++ L ∧ B.cells = P.cells + 1 ∧ B.slots = P.slots + n) := by
  subst hn hN hb
  refine Back.mono (backArv hZ hw wi E V C K S hz (n32 (by omega)) l0 (by omega) (fun c hc => (hp c hc).2) hfr hlo) (fun P a hp => hp) (fun P a v B hp hq => ?_)
  obtain ⟨L, ⟨q1, q2, q3, q4, q5, q6, q7, ⟨kb, v1, v2⟩, q9⟩, hl, hc, hs⟩ := hq
  exact ⟨L, ⟨q1, fun y hy => by rw [q2 y hy]; exact hx0, q3, q5, q7, h.size, kb, hh0, Nat.le_refl _, Nat.ne_of_gt E.lt, q6, by rw [List.map_map]; exact v2⟩, hl, hc, hs⟩
end StrChars.Road
namespace StrChars
open Jvm Sem ClassFile Op Lib Jvm.Stand Jvm.Free.XT Jvm.Free.ALB Jvm.Free.JM Jvm.Free
open Jvm.Lib.Cold (StaticIs)
def hi8 (x : Int32) : Int32 := lo8 (x >>> ((8 : Int32) &&& 31))
/-- what StringUTF16.getChar makes of two bytes -/
def pairCh (u v : Int32) : Int32 := (((u &&& 255) <<< ((0 : Int32) &&& 31)) ||| ((v &&& 255) <<< ((8 : Int32) &&& 31))).toUInt32.toUInt16.toUInt32.toInt32
theorem lo8_and (x : Int32) : (lo8 x &&& 255).toBitVec.toNat = x.toBitVec.toNat % 256 := by
  have h : (lo8 x).toBitVec = (x.toBitVec.signExtend 8).signExtend 32 := by rw [lo8, Int8.toBitVec_toInt32, Int32.toBitVec_toInt8]
  rw [Int32.toBitVec_and, BitVec.toNat_and, h]
  have e : ((x.toBitVec.signExtend 8).signExtend 32).toNat % 256 = x.toBitVec.toNat % 256 := by
    rw [BitVec.toNat_signExtend]
    have hlt := x.toBitVec.isLt
    simp only [BitVec.toNat_setWidth, BitVec.toNat_signExtend]
    split <;> split <;> omega
  rw [← e]
  exact Nat.and_two_pow_sub_one_eq_mod _ 8
theorem pair_says {c : Int32} (h0 : ¬ c < 0) (h1 : ¬ 65535 < c) : pairCh (lo8 c) (hi8 c) = c := by
  rw [Int32.lt_iff_toInt_lt] at h0 h1
  have e0 : (0 : Int32).toInt = 0 := rfl
  have e1 : (65535 : Int32).toInt = 65535 := rfl
  have hc : c.toInt = c.toBitVec.toNat := by
    have := c.toBitVec.isLt
    have e : c.toInt = c.toBitVec.toInt := rfl
    rw [e] at h0 h1
    rw [e]
    rw [BitVec.toInt_eq_toNat_cond] at h0 h1 ⊢
    split at h0 <;> split <;> omega
  have hn : c.toBitVec.toNat < 65536 := by omega
  have a1 := lo8_and c
  have a2 : (hi8 c &&& 255).toBitVec.toNat = c.toBitVec.toNat / 256 := by
    rw [hi8, lo8_and]
    have e : ((8 : Int32) &&& 31) = 8 := by decide
    rw [e, Int32.toBitVec_shiftRight]
    have e2 : ((8 : Int32).toBitVec.smod 32) = 8#32 := by decide
    rw [e2, BitVec.sshiftRight_eq', BitVec.toNat_sshiftRight_of_msb_false (by rw [BitVec.msb_eq_false_iff_two_mul_lt]; omega)]
    show c.toBitVec.toNat >>> 8 % 256 = _
    rw [Nat.shiftRight_eq_div_pow]
    omega
  unfold pairCh
  apply Int32.toBitVec_inj.mp
  apply BitVec.eq_of_toNat_eq
  have f0 : ((0 : Int32) &&& 31) = 0 := by decide
  have f8 : ((8 : Int32) &&& 31) = 8 := by decide
  rw [f0, f8]
  have g : (((lo8 c &&& 255) <<< (0 : Int32)) ||| ((hi8 c &&& 255) <<< (8 : Int32))).toBitVec.toNat = c.toBitVec.toNat := by
    rw [Int32.toBitVec_or, Int32.toBitVec_shiftLeft, Int32.toBitVec_shiftLeft]
    have s0 : ((0 : Int32).toBitVec.smod 32) = 0#32 := by decide
    have s8 : ((8 : Int32).toBitVec.smod 32) = 8#32 := by decide
    rw [s0, s8, BitVec.toNat_or]
    simp only [BitVec.shiftLeft_eq', BitVec.toNat_shiftLeft, a1, a2]
    show (c.toBitVec.toNat % 256) <<< 0 % 2 ^ 32 ||| (c.toBitVec.toNat / 256) <<< 8 % 2 ^ 32 = _
    rw [Nat.shiftLeft_zero, Nat.mod_eq_of_lt (show c.toBitVec.toNat % 256 < 2 ^ 32 by omega), Nat.mod_eq_of_lt (show (c.toBitVec.toNat / 256) <<< 8 < 2 ^ 32 by rw [Nat.shiftLeft_eq]; omega), Nat.or_comm, ← Nat.shiftLeft_add_eq_or_of_lt (by omega), Nat.shiftLeft_eq]
    omega
  show BitVec.toNat (((((lo8 c &&& 255) <<< (0 : Int32)) ||| ((hi8 c &&& 255) <<< (8 : Int32))).toBitVec.setWidth 16).setWidth 32) = _
  rw [BitVec.toNat_setWidth, BitVec.toNat_setWidth, g]
  omega
end StrChars
namespace StrChars
open Jvm Sem ClassFile Op Lib Jvm.Stand Jvm.Free.XT Jvm.Free.ALB Jvm.Free.JM Jvm.Free
open Jvm.Lib.Cold (StaticIs)
/-- the array's cell V codes the n chars f 0 .. f (n - 1) by the coder cd, as the JDK does: coder 1 just where some char is above 255 -/
def Cod (cd : Int32) (n : Nat) (f : Nat → Int32) (V : Cell) : Prop := (cd = 0 ∧ V.slots.size = n ∧ ∀ j, j < n → V.slots[j]? = some (.int (lo8 (f j))) ∧ ¬ 255 < f j) ∨ (cd = 1 ∧ V.slots.size = 2 * n ∧ (∀ j, j < n → V.slots[2 * j]? = some (.int (lo8 (f j))) ∧ V.slots[2 * j + 1]? = some (.int (hi8 (f j)))) ∧ ∃ j, j < n ∧ 255 < f j)
/-- **x is a String of the n chars f 0 .. f (n - 1)**, Latin-1 or UTF-16; its array at t has the cell V -/
def Txt (x t : Addr) (V : Cell) (cd : Int32) (n : Nat) (f : Nat → Int32) (U : State) : Prop := Exact "java/lang/String" x U ∧ Has x "java/lang/String" "value" "[B" (.ref t) U ∧ Has x "java/lang/String" "coder" "B" (.int cd) U ∧ XT.Arr .byte t V U ∧ Cod cd n f V ∧ ∀ j, j < n → ¬ f j < 0 ∧ ¬ 65535 < f j
theorem Txt.mv {x t : Addr} {V : Cell} {cd : Int32} {n : Nat} {f : Nat → Int32} {U U' : State} (h : Txt x t V cd n f U) (hal : U.vm.Alike U'.vm) (hh : U'.heap = U.heap) : Txt x t V cd n f U' := ⟨h.1.mv hal hh, h.2.1.mv hal hh, h.2.2.1.mv hal hh, h.2.2.2.1.mv hal hh, h.2.2.2.2⟩
end StrChars
namespace StrChars.Road
open Jvm Sem ClassFile Op Lib Jvm.Stand Jvm.Free Jvm.Free.XT
open Jvm.Lib.Cold (StaticIs)
theorem consq {a : Array Value} {s : State} {c : Jvm.Cond} {L : List Jvm.Cond} (h0 : c.before a s = true) (h : ∀ w ∈ L, w.before a s = true) : ∀ w ∈ c :: L, w.before a s = true := fun w hw => (List.mem_cons.mp hw).elim (fun e => e ▸ h0) (h w)
/-- the bytes of the chars cs, low before high -/
def wideBytes : List Int32 → List Value
  | [] => []
  | c :: cs => .int (lo8 c) :: .int (hi8 c) :: wideBytes cs
theorem wide_lo (d : Value) : ∀ (cs : List Int32) (j : Nat), j < cs.length → (wideBytes cs).getD (2 * j) d = .int (lo8 (cs.getD j 0))
  | [], j, h => absurd h (Nat.not_lt_zero j)
  | c :: cs, 0, _ => rfl
  | c :: cs, j + 1, h => by
    have q := wide_lo d cs j (by simpa using h)
    rw [show 2 * (j + 1) = 2 * j + 1 + 1 from by omega]
    simpa [wideBytes] using q
theorem wide_hi (d : Value) : ∀ (cs : List Int32) (j : Nat), j < cs.length → (wideBytes cs).getD (2 * j + 1) d = .int (hi8 (cs.getD j 0))
  | [], j, h => absurd h (Nat.not_lt_zero j)
  | c :: cs, 0, _ => rfl
  | c :: cs, j + 1, h => by
    have q := wide_hi d cs j (by simpa using h)
    rw [show 2 * (j + 1) + 1 = 2 * j + 1 + 1 + 1 from by omega]
    simpa [wideBytes] using q
theorem low_at (d : Value) (cs : List Int32) (j : Nat) (h : j < cs.length) : (cs.map fun c => Value.int (lo8 c)).getD j d = .int (lo8 (cs.getD j 0)) := by
  simp [List.getD_eq_getElem?_getD, h]
/-- an array of N2 bytes vs codes the chars cs by the coder cd -/
def CodA (cs : List Int32) (cd N2 : Int32) (vs : List Value) : Prop := (cd = 0 ∧ N2 = Int32.ofNat cs.length ∧ vs = (cs.map fun c => Value.int (lo8 c)) ∧ ∀ c ∈ cs, ¬ 255 < c) ∨ (cd = 1 ∧ N2 = Int32.ofNat (2 * cs.length) ∧ vs = wideBytes cs ∧ ∃ c ∈ cs, 255 < c)
theorem CodA.cod {cs : List Int32} {cd N2 : Int32} {vs : List Value} {V : Cell} (h : CodA cs cd N2 vs) (hn : 2 * cs.length < 2 ^ 31) (hs : V.slots.size = N2.toNatClampNeg) (hv : RoadKit.Has V vs (.int 0)) : Cod cd cs.length (fun j => cs.getD j 0) V := by
  rcases h with ⟨rfl, rfl, rfl, h⟩ | ⟨rfl, rfl, rfl, c, hc, hw⟩
  · rw [n32 (by omega)] at hs
    exact Or.inl ⟨rfl, hs, fun j hj => ⟨by rw [hv j (by omega), low_at _ _ _ hj], by
      have e : cs.getD j 0 = cs[j] := by simp [List.getD_eq_getElem?_getD, hj]
      show ¬ 255 < cs.getD j 0
      rw [e]; exact h _ (List.getElem_mem _)⟩⟩
  · rw [n32 (by omega)] at hs
    obtain ⟨j, hj, rfl⟩ := List.getElem_of_mem hc
    exact Or.inr ⟨rfl, hs, fun j hj => ⟨by rw [hv _ (by omega), wide_lo _ _ _ hj], by rw [hv _ (by omega), wide_hi _ _ _ hj]⟩, j, hj, by
      have e : cs.getD j 0 = cs[j] := by simp [List.getD_eq_getElem?_getD, hj]
      show 255 < cs.getD j 0
      rw [e]; exact hw⟩
/-- an object of exactly java/lang/String, its two fields found: as the laws ask it -/
theorem strObj {Z U : State} {a0 : Array Value} {kI : Nat} (wi : (Jvm.Cond.instantiable ST kI).before a0 Z = true) (al : Z.vm.Alike U.vm) {x : Addr} {v0 c0 : Value} (E : RoadKit.Exa Z U.heap x ST) (V : RoadKit.Fld Z U.heap x ST "value" "[B" v0) (C : RoadKit.Fld Z U.heap x ST "coder" "B" c0) :
    ∃ (D : Cell) (fV fC : Field), Blank ST x D U ∧ Found ST "value" "[B" fV U ∧ Found ST "coder" "B" fC U ∧ D.slots[fV.slot]? = some v0 ∧ D.slots[fC.slot]? = some c0 ∧ RoadKit.slotOf Z ST "value" "[B" = fV.slot ∧ RoadKit.slotOf Z ST "coder" "B" = fC.slot := by
  obtain ⟨D, cfV, kV, iV, fV, hD, gV, stV, knV, obV, asV, slV⟩ := V
  obtain ⟨D', cfC, kC, iC, fC, hD', gC, stC, -, -, asC, slC⟩ := C
  cases hD.symm.trans hD'
  obtain ⟨D2, kD, e1, e2, e3, e4, e5⟩ := E
  cases hD.symm.trans e1
  obtain ⟨c2, k2, i1, i2, i3, -⟩ := Cond.instantiable_spec wi
  cases e2.symm.trans i1
  cases e3.symm.trans i2
  obtain ⟨kU, u1, u2⟩ := al.2.2 _ _ e3
  exact ⟨D, fV, fC, ⟨hD, ⟨knV, fun q hq => by rw [hq] at obV; cases obV⟩, by rw [al.findClass]; exact e2, kU, u1, by rw [u2]; exact i3, by rw [u2]; exact e5 i3⟩, ⟨SBG.found_only al ⟨cfV, kV, iV, gV⟩, stV⟩, ⟨SBG.found_only al ⟨cfC, kC, iC, gC⟩, stC⟩, slV, slC, by simp [RoadKit.slotOf, gV], by simp [RoadKit.slotOf, gC]⟩
theorem sta_is {Z U : State} (al : Z.vm.Alike U.vm) {C n d : String} {v : Value} (S : RoadKit.Sta Z U.heap C n d v) : StaticIs U C n d v := by
  obtain ⟨cfS, iS, kS, fS, st, cS, t1, t2, t3, t4, t5, t6, t7⟩ := S
  exact StaticIs.there (s := { Z with heap := U.heap }) ⟨cfS, iS, kS, fS, st, cS, t1, t2, t3, t4, t5, (fun q => by rw [q] at t6; cases t6), t7⟩ al rfl
end StrChars.Road
namespace StrChars
open Jvm Sem ClassFile Op Lib Jvm.Stand Jvm.Free.XT Jvm.Free.ALB Jvm.Free.JM Jvm.Free
open Jvm.Lib.Cold (StaticIs)
/-- what place i of a byte[]'s cell holds -/
def yv (A : Cell) (i : Nat) : Int32 := match A.slots[i]? with | some (.int x) => x | _ => 0
theorem yv_get {a : Addr} {A : Cell} {U : State} (h : XT.Arr .byte a A U) (ht : Typed .byte A) {i : Nat} (hi : i < A.slots.size) : A.slots[i]? = some (.int (yv A i)) := by
  have e := Array.getElem?_eq_getElem hi
  have f := ht i _ e
  unfold yv; rw [e]
  generalize A.slots[i] = v at f
  cases v <;> simp [fits] at f ⊢
/-- the two arrays are equal, place for place -/
def EqC (A B : Cell) : Prop := A.slots.size = B.slots.size ∧ ∀ i, i < A.slots.size → yv A i = yv B i
/-- a boolean that says whether p -/
def Says01 (q : Prop) (r : Option Value) (s u : State) : Prop := ∃ v : Int32, r = some (.int v) ∧ u.heap = s.heap ∧ ((v = 1 ∧ q) ∨ (v = 0 ∧ ¬ q))
theorem Says01.mv {q : Prop} : ∀ r (U U' V V' : State), U'.heap = U.heap → V.vm.Alike V'.vm → V'.heap = V.heap → Says01 q r U V → Says01 q r U' V' :=
  fun r U U' V V' h1 _ h2 ⟨v, a, b, c⟩ => ⟨v, a, by rw [h1, h2]; exact b, c⟩
namespace LEq
def yN : MethodName := ⟨"java/lang/StringLatin1", "equals", "([B[B)Z"⟩
abbrev yB : ByteArray := jdk_43_method_13_code
theorem d0 : decode yB 0 = .ok (.aload_n 0, 1) := by decide +kernel
theorem d1 : decode yB 1 = .ok (.arraylength, 1) := by decide +kernel
theorem d2 : decode yB 2 = .ok (.aload_n 1, 1) := by decide +kernel
theorem d3 : decode yB 3 = .ok (.arraylength, 1) := by decide +kernel
theorem d4 : decode yB 4 = .ok (.if_icmp (.ne) 30, 3) := by decide +kernel
theorem d7 : decode yB 7 = .ok (.iconst 0, 1) := by decide +kernel
theorem d8 : decode yB 8 = .ok (.istore_n 2, 1) := by decide +kernel
theorem d9 : decode yB 9 = .ok (.iload_n 2, 1) := by decide +kernel
theorem d10 : decode yB 10 = .ok (.aload_n 0, 1) := by decide +kernel
theorem d11 : decode yB 11 = .ok (.arraylength, 1) := by decide +kernel
theorem d12 : decode yB 12 = .ok (.if_icmp (.ge) 20, 3) := by decide +kernel
theorem d15 : decode yB 15 = .ok (.aload_n 0, 1) := by decide +kernel
theorem d16 : decode yB 16 = .ok (.iload_n 2, 1) := by decide +kernel
theorem d17 : decode yB 17 = .ok (.baload, 1) := by decide +kernel
theorem d18 : decode yB 18 = .ok (.aload_n 1, 1) := by decide +kernel
theorem d19 : decode yB 19 = .ok (.iload_n 2, 1) := by decide +kernel
theorem d20 : decode yB 20 = .ok (.baload, 1) := by decide +kernel
theorem d21 : decode yB 21 = .ok (.if_icmp (.eq) 5, 3) := by decide +kernel
theorem d24 : decode yB 24 = .ok (.iconst 0, 1) := by decide +kernel
theorem d25 : decode yB 25 = .ok (.ireturn, 1) := by decide +kernel
theorem d26 : decode yB 26 = .ok (.iinc 2 1, 3) := by decide +kernel
theorem d29 : decode yB 29 = .ok (.goto (-20), 3) := by decide +kernel
theorem d32 : decode yB 32 = .ok (.iconst 1, 1) := by decide +kernel
theorem d33 : decode yB 33 = .ok (.ireturn, 1) := by decide +kernel
theorem d34 : decode yB 34 = .ok (.iconst 0, 1) := by decide +kernel
theorem d35 : decode yB 35 = .ok (.ireturn, 1) := by decide +kernel
def site : List Cond := []
def tab : Cond := tabOf yN yB 3 (some .boolean) site
def P (a : Addr) (A : Cell) (b : Addr) (B : Cell) (args : Array Value) (s : State) : Prop := args = #[.ref a, .ref b] ∧ XT.Arr .byte a A s ∧ Typed .byte A ∧ XT.Arr .byte b B s ∧ Typed .byte B
/-- whether two byte[] are equal, place for place -/
theorem law (l : Launch) (a : Addr) (A : Cell) (b : Addr) (B : Cell) : Law l yN 2 2 0 0 yB 3 (some .boolean) site (P a A b B) (Says01 (EqC A B)) [] 0 0 := by
  refine Law.of_walk (plainFor_of_name (by decide +kernel)) (by decide +kernel) (by decide +kernel) (by decide) (fun _ _ h => by rw [h.1]; rfl) (fun _ U U' hal hh h => ⟨h.1, h.2.1.mv hal hh, h.2.2.1, h.2.2.2.1.mv hal hh, h.2.2.2.2⟩) (fun r U U' V V' h1 hal h2 h => Says01.mv r U U' V V' h1 hal h2 h) ?_
  intro p e s m args below meth c s₁ X0 hexec hbytes hml hret hlk hnm hown hh0 W hP
  obtain ⟨rfl, hA, tA, hB, tB⟩ := hP
  have a31 := hA.2.2.2
  have b31 := hB.2.2.2
  have hA0 := hA.mv X0.warmed.alike hh0
  have hB0 := hB.mv X0.warmed.alike hh0
  have c1 : Steps p.tables e below (s₁.setTop (entryFrame m #[.ref a, .ref b] 3)) (s₁.setTop (mkF m 0 #[.val (.ref a), .val (.ref b), .unset] [])) := entry rfl
  have c2 : Steps p.tables e below (s₁.setTop (entryFrame m #[.ref a, .ref b] 3)) (s₁.setTop (mkF m 4 #[.val (.ref a), .val (.ref b), .unset] [.int (Int32.ofNat B.slots.size), .int (Int32.ofNat A.slots.size)])) := c1.trans (by
    refine XS.aloadN X0.here hexec rfl (hb hbytes d0) rfl rfl ?_
    refine X0.alen hexec hA0 rfl rfl (hb hbytes d1) ?_
    refine XS.aloadN X0.here hexec rfl (hb hbytes d2) rfl rfl ?_
    refine X0.alen hexec hB0 rfl rfl (hb hbytes d3) ?_
    exact Steps.refl _)
  by_cases hs : A.slots.size = B.slots.size
  · have c3 : Steps p.tables e below (s₁.setTop (entryFrame m #[.ref a, .ref b] 3)) (s₁.setTop (mkF m 9 #[.val (.ref a), .val (.ref b), .val (.int 0)] [])) := c2.trans (by
      refine XS.icmpNo X0.here hexec rfl (hb hbytes d4) rfl (ii_ne_f (by rw [hs])) ?_
      refine iconstV X0.here hexec rfl 0 (hb hbytes d7) (by decide) ?_
      refine XS.istoreN X0.here hexec rfl (hb hbytes d8) rfl rfl ?_
      exact Steps.refl _)
    have loop : ∀ (r i : Nat), i + r = A.slots.size → (∀ j, j < i → yv A j = yv B j) → Steps p.tables e below (s₁.setTop (entryFrame m #[.ref a, .ref b] 3)) (s₁.setTop (mkF m 9 #[.val (.ref a), .val (.ref b), .val (.int (Int32.ofNat i))] [])) → ∃ (pc : Nat) (Ls : Array Slot) (v : Int32), (pc = 25 ∨ pc = 33) ∧ ((v = 1 ∧ EqC A B) ∨ (v = 0 ∧ ¬ EqC A B)) ∧ Steps p.tables e below (s₁.setTop (entryFrame m #[.ref a, .ref b] 3)) (s₁.setTop (mkF m pc Ls [.int v])) := by
      intro r
      induction r with
      | zero =>
        intro i hi he cl
        exact ⟨33, _, 1, Or.inr rfl, Or.inl ⟨rfl, hs, fun j hj => he j (by omega)⟩, cl.trans (by
          refine XS.iloadN X0.here hexec rfl (hb hbytes d9) rfl ?_
          refine XS.aloadN X0.here hexec rfl (hb hbytes d10) rfl rfl ?_
          refine X0.alen hexec hA0 rfl rfl (hb hbytes d11) ?_
          refine XS.icmpYes X0.here hexec rfl (pc0 := 12) rfl (hb hbytes d12) rfl (ii_ge_t (nlt32 (by omega) (by omega))) (by decide) rfl ?_
          refine iconstV X0.here hexec rfl 1 (hb hbytes d32) (by decide) ?_
          exact Steps.refl _)⟩
      | succ r ih =>
        intro i hi he cl
        have c4 : Steps p.tables e below (s₁.setTop (entryFrame m #[.ref a, .ref b] 3)) (s₁.setTop (mkF m 21 #[.val (.ref a), .val (.ref b), .val (.int (Int32.ofNat i))] [.int (yv B i), .int (yv A i)])) := cl.trans (by
          refine XS.iloadN X0.here hexec rfl (hb hbytes d9) rfl ?_
          refine XS.aloadN X0.here hexec rfl (hb hbytes d10) rfl rfl ?_
          refine X0.alen hexec hA0 rfl rfl (hb hbytes d11) ?_
          refine XS.icmpNo X0.here hexec rfl (hb hbytes d12) rfl (ii_ge_f (lt32 (by omega) (by omega))) ?_
          refine XS.aloadN X0.here hexec rfl (hb hbytes d15) rfl rfl ?_
          refine XS.iloadN X0.here hexec rfl (hb hbytes d16) rfl ?_
          refine X0.aget hexec hA0 rfl (yv_get hA tA (i := i) (by omega)) rfl rfl (hb hbytes d17) ?_
          refine XS.aloadN X0.here hexec rfl (hb hbytes d18) rfl rfl ?_
          refine XS.iloadN X0.here hexec rfl (hb hbytes d19) rfl ?_
          refine X0.aget hexec hB0 rfl (yv_get hB tB (i := i) (by omega)) rfl rfl (hb hbytes d20) ?_
          exact Steps.refl _)
        by_cases hv : yv A i = yv B i
        · have c5 : Steps p.tables e below (s₁.setTop (entryFrame m #[.ref a, .ref b] 3)) (s₁.setTop (mkF m 9 #[.val (.ref a), .val (.ref b), .val (.int (Int32.ofNat i + 1))] [])) := c4.trans (by
            refine XS.icmpYes X0.here hexec rfl (pc0 := 21) rfl (hb hbytes d21) rfl (ii_eq_t hv) (by decide) rfl ?_
            refine iincV X0.here hexec rfl 1 (hb hbytes d26) (by decide) rfl rfl ?_
            refine XS.goto X0.here hexec rfl (pc0 := 29) rfl (hb hbytes d29) (by decide) rfl ?_
            exact Steps.refl _)
          rw [succ32] at c5
          exact ih (i + 1) (by omega) (fun j hj => by
            by_cases e : j = i
            · rw [e]; exact hv
            · exact he j (by omega)) c5
        · exact ⟨25, _, 0, Or.inl rfl, Or.inr ⟨rfl, fun q => hv (q.2 i (by omega))⟩, c4.trans (by
            refine XS.icmpNo X0.here hexec rfl (hb hbytes d21) rfl (ii_eq_f hv) ?_
            refine iconstV X0.here hexec rfl 0 (hb hbytes d24) (by decide) ?_
            exact Steps.refl _)⟩
    obtain ⟨pc, Ls, v, hpc, hv, cz⟩ := loop A.slots.size 0 (by omega) (fun j hj => absurd hj (Nat.not_lt_zero j)) c3
    have nv : narrow .boolean (.int v) = .int v := by rcases hv with ⟨rfl, -⟩ | ⟨rfl, -⟩ <;> rfl
    rcases hpc with rfl | rfl
    · exact ⟨s₁, some (.int v), _, _, _, X0, rfl, rfl, rfl, (fun h => by cases h), ⟨v, rfl, hh0, hv⟩, fun fs hl => cz.trans (X0.ireturnOut hexec hret nv (Or.inr (Or.inl rfl)) (hb hbytes d25) hl)⟩
    · exact ⟨s₁, some (.int v), _, _, _, X0, rfl, rfl, rfl, (fun h => by cases h), ⟨v, rfl, hh0, hv⟩, fun fs hl => cz.trans (X0.ireturnOut hexec hret nv (Or.inr (Or.inl rfl)) (hb hbytes d33) hl)⟩
  · have c3 : Steps p.tables e below (s₁.setTop (entryFrame m #[.ref a, .ref b] 3)) (s₁.setTop (mkF m 35 #[.val (.ref a), .val (.ref b), .unset] [.int 0])) := c2.trans (by
      refine XS.icmpYes X0.here hexec rfl (pc0 := 4) rfl (hb hbytes d4) rfl (ii_ne_t (ne32 a31 b31 hs)) (by decide) rfl ?_
      refine iconstV X0.here hexec rfl 0 (hb hbytes d34) (by decide) ?_
      exact Steps.refl _)
    exact ⟨s₁, some (.int 0), _, _, _, X0, rfl, rfl, rfl, (fun h => by cases h), ⟨0, rfl, hh0, Or.inr ⟨rfl, fun q => hs q.1⟩⟩, fun fs hl => c3.trans (X0.ireturnOut hexec hret rfl (Or.inr (Or.inl rfl)) (hb hbytes d35) hl)⟩
end LEq
theorem Cod.ty {cd : Int32} {n : Nat} {f : Nat → Int32} {V : Cell} (h : Cod cd n f V) : Typed .byte V := fun i v hv => by
  have hi : i < V.slots.size := (Array.getElem?_eq_some_iff.mp hv).1
  rcases h with ⟨-, k1, k2⟩ | ⟨-, k1, k2, -⟩
  · rw [(k2 i (by omega)).1] at hv; cases hv; exact fits_lo8 _
  · rcases Nat.mod_two_eq_zero_or_one i with e | e
    · obtain ⟨j, rfl⟩ : ∃ j, i = 2 * j := ⟨i / 2, by omega⟩
      rw [(k2 j (by omega)).1] at hv; cases hv; exact fits_lo8 _
    · obtain ⟨j, rfl⟩ : ∃ j, i = 2 * j + 1 := ⟨i / 2, by omega⟩
      rw [(k2 j (by omega)).2] at hv; cases hv; exact fits_lo8 _
/-- the same text -/
def SameT (n : Nat) (f : Nat → Int32) (k : Nat) (g : Nat → Int32) : Prop := n = k ∧ ∀ j, j < n → f j = g j
theorem lo8_inj {x y : Int32} (h0 : ¬ x < 0) (h1 : ¬ 255 < x) (k0 : ¬ y < 0) (k1 : ¬ 255 < y) (h : lo8 x = lo8 y) : x = y := by
  rw [← lo8_mask h0 h1, ← lo8_mask k0 k1, h]
/-- arrays coded by one coder are equal just where the texts are -/
theorem Cod.eqv {cd : Int32} {n k : Nat} {f g : Nat → Int32} {V V' : Cell} (h : Cod cd n f V) (h' : Cod cd k g V') (hf : ∀ j, j < n → ¬ f j < 0 ∧ ¬ 65535 < f j) (hg : ∀ j, j < k → ¬ g j < 0 ∧ ¬ 65535 < g j) : EqC V V' ↔ SameT n f k g := by
  have yvv : ∀ {W : Cell} {i : Nat} {x : Int32}, W.slots[i]? = some (.int x) → yv W i = x := fun q => by unfold yv; rw [q]
  rcases h with ⟨rfl, k1, k2⟩ | ⟨rfl, k1, k2, -⟩
  · rcases h' with ⟨-, m1, m2⟩ | ⟨e, -⟩
    · constructor
      · rintro ⟨e1, e2⟩
        refine ⟨by omega, fun j hj => ?_⟩
        have q := e2 j (by omega)
        rw [yvv (k2 j hj).1, yvv (m2 j (by omega)).1] at q
        exact lo8_inj (hf j hj).1 (k2 j hj).2 (hg j (by omega)).1 (m2 j (by omega)).2 q
      · rintro ⟨rfl, e2⟩
        refine ⟨by omega, fun j hj => ?_⟩
        rw [yvv (k2 j (by omega)).1, yvv (m2 j (by omega)).1, e2 j (by omega)]
    · exact absurd e (by decide)
  · rcases h' with ⟨e, -⟩ | ⟨-, m1, m2, -⟩
    · exact absurd e (by decide)
    · constructor
      · rintro ⟨e1, e2⟩
        refine ⟨by omega, fun j hj => ?_⟩
        have q1 := e2 (2 * j) (by omega)
        have q2 := e2 (2 * j + 1) (by omega)
        rw [yvv (k2 j hj).1, yvv (m2 j (by omega)).1] at q1
        rw [yvv (k2 j hj).2, yvv (m2 j (by omega)).2] at q2
        rw [← pair_says (hf j hj).1 (hf j hj).2, ← pair_says (hg j (by omega)).1 (hg j (by omega)).2, q1, q2]
      · rintro ⟨rfl, e2⟩
        refine ⟨by omega, fun i hi => ?_⟩
        rcases Nat.mod_two_eq_zero_or_one i with e | e
        · obtain ⟨j, rfl⟩ : ∃ j, i = 2 * j := ⟨i / 2, by omega⟩
          rw [yvv (k2 j (by omega)).1, yvv (m2 j (by omega)).1, e2 j (by omega)]
        · obtain ⟨j, rfl⟩ : ∃ j, i = 2 * j + 1 := ⟨i / 2, by omega⟩
          rw [yvv (k2 j (by omega)).2, yvv (m2 j (by omega)).2, e2 j (by omega)]
/-- two codings differ: so do the texts -/
theorem Cod.dif {cd cd' : Int32} {n k : Nat} {f g : Nat → Int32} {V V' : Cell} (h : Cod cd n f V) (h' : Cod cd' k g V') (hne : ¬ cd = cd') : ¬ SameT n f k g := by
  rintro ⟨rfl, e⟩
  rcases h with ⟨rfl, -, k2⟩ | ⟨rfl, -, -, j, hj, hw⟩
  · rcases h' with ⟨rfl, -⟩ | ⟨-, -, -, j, hj, hw⟩
    · exact hne rfl
    · exact (k2 j hj).2 (by rw [e j hj]; exact hw)
  · rcases h' with ⟨-, -, m2⟩ | ⟨rfl, -⟩
    · exact (m2 j hj).2 (by rw [← e j hj]; exact hw)
    · exact hne rfl
/-- an object of exactly C is an instance of C -/
theorem cinst {p : Program} {l : Launch} {e : Env} {R : Room} {s : State} {m : MethodId} {args : Array Value} {below : List Frame} {meth : Method} {c : Code} {T : State} {locs : List Loc} {cells slots : Nat} (X : Stand p l e R s m args below meth c T locs cells slots) (hexec : p.tables.exec = Jvm.exec) {own C : String} {index : Nat} (hown : s.vm.findClass own = some m.cls) (hlink : (Cond.classLink own index C).before args s = true) {a : Addr} (hE : Exact C a T)
    {g : JFrame} (hg : g.method = m) {rest : List Value} (hstack : g.stack = .ref a :: rest) (hdg : decode c.code g.pc = .ok (.instanceof index, 3)) :
    ∃ T', Stand p l e R s m args below meth c T' locs cells slots ∧ T'.heap = T.heap ∧ ∀ target, Steps p.tables e below (T'.setTop { g with pc := g.pc + 3, stack := .int 1 :: rest }) target → Steps p.tables e below (T.setTop g) target := by
  obtain ⟨cB, h1, D, h2, h3, h4⟩ := hE
  have h1' : s.vm.findClass C = some cB := by rw [← X.warmed.alike.findClass]; exact h1
  obtain ⟨vm', X', st⟩ := X.instanceofYes hexec hown hlink h2 h4 h1' (by rw [h3]; exact Jvm.Free.SB.assignable_self _ _) hg hstack hdg
  exact ⟨_, X', rfl, st⟩
theorem cself {p : Program} {l : Launch} {e : Env} {R : Room} {s : State} {m : MethodId} {args : Array Value} {below : List Frame} {meth : Method} {c : Code} {T : State} {locs : List Loc} {cells slots : Nat} (X : Stand p l e R s m args below meth c T locs cells slots) (hexec : p.tables.exec = Jvm.exec) {own C : String} {index : Nat} (hown : s.vm.findClass own = some m.cls) (hlink : (Cond.classLink own index C).before args s = true) {a : Addr} (hE : Exact C a T)
    {g : JFrame} (hg : g.method = m) {rest : List Value} (hstack : g.stack = .ref a :: rest) (hdg : decode c.code g.pc = .ok (.checkcast index, 3)) :
    ∃ T', Stand p l e R s m args below meth c T' locs cells slots ∧ T'.heap = T.heap ∧ ∀ target, Steps p.tables e below (T'.setTop { g with pc := g.pc + 3, stack := .ref a :: rest }) target → Steps p.tables e below (T.setTop g) target := by
  obtain ⟨cB, h1, D, h2, h3, h4⟩ := hE
  have h1' : s.vm.findClass C = some cB := by rw [← X.warmed.alike.findClass]; exact h1
  obtain ⟨vm', X', st⟩ := X.checkcastYes hexec hown hlink h2 h4 h1' (by rw [h3]; exact Jvm.Free.SB.assignable_self _ _) hg hstack hdg
  exact ⟨_, X', rfl, fun t h => st t (by rw [← hstack] at h; exact h)⟩
namespace SEq
def yN : MethodName := ⟨"java/lang/String", "equals", "(Ljava/lang/Object;)Z"⟩
abbrev yB : ByteArray := jdk_42_method_66_code
theorem d0 : decode yB 0 = .ok (.aload_n 0, 1) := by decide +kernel
theorem d1 : decode yB 1 = .ok (.aload_n 1, 1) := by decide +kernel
theorem d2 : decode yB 2 = .ok (.if_acmp (.ne) 5, 3) := by decide +kernel
theorem d5 : decode yB 5 = .ok (.iconst 1, 1) := by decide +kernel
theorem d6 : decode yB 6 = .ok (.ireturn, 1) := by decide +kernel
theorem d7 : decode yB 7 = .ok (.aload_n 1, 1) := by decide +kernel
theorem d8 : decode yB 8 = .ok (.instanceof 10, 3) := by decide +kernel
theorem d11 : decode yB 11 = .ok (.ifCond (.eq) 43, 3) := by decide +kernel
theorem d14 : decode yB 14 = .ok (.aload_n 1, 1) := by decide +kernel
theorem d15 : decode yB 15 = .ok (.checkcast 10, 3) := by decide +kernel
theorem d18 : decode yB 18 = .ok (.astore_n 2, 1) := by decide +kernel
theorem d19 : decode yB 19 = .ok (.getstatic 38, 3) := by decide +kernel
theorem d22 : decode yB 22 = .ok (.ifCond (.eq) 14, 3) := by decide +kernel
theorem d25 : decode yB 25 = .ok (.aload_n 0, 1) := by decide +kernel
theorem d26 : decode yB 26 = .ok (.getfield 15, 3) := by decide +kernel
theorem d29 : decode yB 29 = .ok (.aload_n 2, 1) := by decide +kernel
theorem d30 : decode yB 30 = .ok (.getfield 15, 3) := by decide +kernel
theorem d33 : decode yB 33 = .ok (.if_icmp (.ne) 21, 3) := by decide +kernel
theorem d36 : decode yB 36 = .ok (.aload_n 0, 1) := by decide +kernel
theorem d37 : decode yB 37 = .ok (.getfield 9, 3) := by decide +kernel
theorem d40 : decode yB 40 = .ok (.aload_n 2, 1) := by decide +kernel
theorem d41 : decode yB 41 = .ok (.getfield 9, 3) := by decide +kernel
theorem d44 : decode yB 44 = .ok (.invokestatic 541, 3) := by decide +kernel
theorem d47 : decode yB 47 = .ok (.ifCond (.eq) 7, 3) := by decide +kernel
theorem d50 : decode yB 50 = .ok (.iconst 1, 1) := by decide +kernel
theorem d51 : decode yB 51 = .ok (.goto 4, 3) := by decide +kernel
theorem d54 : decode yB 54 = .ok (.iconst 0, 1) := by decide +kernel
theorem d55 : decode yB 55 = .ok (.ireturn, 1) := by decide +kernel
def site : List Cond := [.classLink "java/lang/String" 10 "java/lang/String", .fieldLink "java/lang/String" 38 "java/lang/String" "COMPACT_STRINGS" "Z", .fieldLink "java/lang/String" 15 "java/lang/String" "coder" "B", .fieldLink "java/lang/String" 9 "java/lang/String" "value" "[B", LEq.tab] ++ staticW "java/lang/String" 541 LEq.yN
def tab : Cond := tabOf yN yB 3 (some .boolean) site
def P (x t : Addr) (V : Cell) (cd : Int32) (n : Nat) (f : Nat → Int32) (y t' : Addr) (V' : Cell) (cd' : Int32) (k : Nat) (g : Nat → Int32) (z : Int32) (args : Array Value) (s : State) : Prop := args = #[.ref x, .ref y] ∧ Txt x t V cd n f s ∧ Txt y t' V' cd' k g s ∧ StaticIs s "java/lang/String" "COMPACT_STRINGS" "Z" (.int z) ∧ ¬ z = 0
/-- equals(Object) of two Strings: whether the texts are the same -/
theorem law (l : Launch) (x t : Addr) (V : Cell) (cd : Int32) (n : Nat) (f : Nat → Int32) (y t' : Addr) (V' : Cell) (cd' : Int32) (k : Nat) (g : Nat → Int32) (z : Int32) : Law l yN 2 1 1 14 yB 3 (some .boolean) site (P x t V cd n f y t' V' cd' k g z) (Says01 (SameT n f k g)) [] 0 0 := by
  refine Law.of_walk (plainFor_of_name (by decide +kernel)) (by decide +kernel) (by decide +kernel) (by decide) (fun _ _ h => by rw [h.1]; rfl) (fun _ U U' hal hh h => ⟨h.1, h.2.1.mv hal hh, h.2.2.1.mv hal hh, h.2.2.2.1.there hal hh, h.2.2.2.2⟩) (fun r U U' V V' h1 hal h2 h => Says01.mv r U U' V V' h1 hal h2 h) ?_
  intro p e s m args below meth c s₁ X0 hexec hbytes hml hret hlk hnm hown hh0 W hP
  obtain ⟨rfl, hx, hy, s1, hz⟩ := hP
  have c1 : Steps p.tables e below (s₁.setTop (entryFrame m #[.ref x, .ref y] 3)) (s₁.setTop (mkF m 2 #[.val (.ref x), .val (.ref y), .unset] [.ref y, .ref x])) := Steps.trans (entry rfl) (by
    show Steps p.tables e below (s₁.setTop (mkF m 0 #[.val (.ref x), .val (.ref y), .unset] [])) _
    refine XS.aloadN X0.here hexec rfl (hb hbytes d0) rfl rfl ?_
    refine XS.aloadN X0.here hexec rfl (hb hbytes d1) rfl rfl ?_
    exact Steps.refl _)
  by_cases hxy : x = y
  · have c2 : Steps p.tables e below (s₁.setTop (entryFrame m #[.ref x, .ref y] 3)) (s₁.setTop (mkF m 6 #[.val (.ref x), .val (.ref y), .unset] [.int 1])) := c1.trans (by
      refine acmpNo X0.here hexec rfl (hb hbytes d2) rfl rfl rfl (by simp [acmp, hxy]) ?_
      refine iconstV X0.here hexec rfl 1 (hb hbytes d5) (by decide) ?_
      exact Steps.refl _)
    subst hxy
    have ec : cd = cd' := by
      obtain ⟨D, fd, a1, a2, a3⟩ := hx.2.2.1
      obtain ⟨D', fd', b1, b2, b3⟩ := hy.2.2.1
      cases a1.symm.trans b1
      obtain ⟨q1, q2, q3, q4⟩ := a2.1
      obtain ⟨r1, r2, r3, r4⟩ := b2.1
      cases q4.symm.trans r4
      cases a3.symm.trans b3; rfl
    have et : t = t' := by
      obtain ⟨D, fd, a1, a2, a3⟩ := hx.2.1
      obtain ⟨D', fd', b1, b2, b3⟩ := hy.2.1
      cases a1.symm.trans b1
      obtain ⟨q1, q2, q3, q4⟩ := a2.1
      obtain ⟨r1, r2, r3, r4⟩ := b2.1
      cases q4.symm.trans r4
      cases a3.symm.trans b3; rfl
    subst ec et
    have ev : V = V' := by cases hx.2.2.2.1.1.symm.trans hy.2.2.2.1.1; rfl
    subst ev
    have hs : SameT n f k g := (Cod.eqv hx.2.2.2.2.1 hy.2.2.2.2.1 hx.2.2.2.2.2 hy.2.2.2.2.2).mp ⟨rfl, fun _ _ => rfl⟩
    exact ⟨s₁, some (.int 1), _, _, _, X0, rfl, rfl, rfl, (fun h => by cases h), ⟨1, rfl, hh0, Or.inl ⟨rfl, hs⟩⟩, fun fs hl => c2.trans (X0.ireturnOut hexec hret rfl (Or.inr (Or.inl rfl)) (hb hbytes d6) hl)⟩
  · have c2 : Steps p.tables e below (s₁.setTop (entryFrame m #[.ref x, .ref y] 3)) (s₁.setTop (mkF m 8 #[.val (.ref x), .val (.ref y), .unset] [.ref y])) := c1.trans (by
      refine acmpYes X0.here hexec rfl (pc0 := 2) rfl (hb hbytes d2) rfl rfl rfl (by simp [acmp, hxy]) (by decide) rfl ?_
      refine XS.aloadN X0.here hexec rfl (hb hbytes d7) rfl rfl ?_
      exact Steps.refl _)
    obtain ⟨T3, X3, q3, st3⟩ := cinst X0 hexec hown (wk W (.classLink "java/lang/String" 10 "java/lang/String")) (hy.mv X0.warmed.alike hh0).1 (g := (mkF m 8 #[.val (.ref x), .val (.ref y), .unset] [.ref y])) rfl (rest := []) rfl (hb hbytes d8)
    have hh3 := q3.trans hh0
    have c4 : Steps p.tables e below (s₁.setTop (entryFrame m #[.ref x, .ref y] 3)) (T3.setTop (mkF m 15 #[.val (.ref x), .val (.ref y), .unset] [.ref y])) := (c2.trans (st3 _ (Steps.refl _))).trans (by
      refine XS.ifNo X3.here hexec rfl (hb hbytes d11) rfl (i0_eq_f (by decide)) ?_
      refine XS.aloadN X3.here hexec rfl (hb hbytes d14) rfl rfl ?_
      exact Steps.refl _)
    obtain ⟨T5, X5, q5, st5⟩ := cself X3 hexec hown (wk W (.classLink "java/lang/String" 10 "java/lang/String")) (hy.mv X3.warmed.alike hh3).1 (g := (mkF m 15 #[.val (.ref x), .val (.ref y), .unset] [.ref y])) rfl (rest := []) rfl (hb hbytes d15)
    have hh5 := q5.trans hh3
    have c6 : Steps p.tables e below (s₁.setTop (entryFrame m #[.ref x, .ref y] 3)) (T5.setTop (mkF m 19 #[.val (.ref x), .val (.ref y), .val (.ref y)] [])) := (c4.trans (st5 _ (Steps.refl _))).trans (by
      refine XS.astoreN X5.here hexec rfl (hb hbytes d18) rfl rfl rfl ?_
      exact Steps.refl _)
    obtain ⟨T7, X7, q7, st7⟩ := X5.sget hexec hown (wk W (.fieldLink "java/lang/String" 38 "java/lang/String" "COMPACT_STRINGS" "Z")) s1 (fun _ _ h => by rw [hh5]; exact h) (g := (mkF m 19 #[.val (.ref x), .val (.ref y), .val (.ref y)] [])) rfl (hb hbytes d19)
    have hh7 := q7.trans hh5
    have c8 : Steps p.tables e below (s₁.setTop (entryFrame m #[.ref x, .ref y] 3)) (T7.setTop (mkF m 26 #[.val (.ref x), .val (.ref y), .val (.ref y)] [.ref x])) := (c6.trans (st7 _ (Steps.refl _))).trans (by
      refine XS.ifNo X7.here hexec rfl (hb hbytes d22) rfl (i0_eq_f hz) ?_
      refine XS.aloadN X7.here hexec rfl (hb hbytes d25) rfl rfl ?_
      exact Steps.refl _)
    obtain ⟨T9, X9, q9, st9⟩ := X7.hget hexec hown (wk W (.fieldLink "java/lang/String" 15 "java/lang/String" "coder" "B")) (hx.mv X7.warmed.alike hh7).2.2.1 (g := (mkF m 26 #[.val (.ref x), .val (.ref y), .val (.ref y)] [.ref x])) rfl (rest := []) rfl (hb hbytes d26)
    have hh9 := q9.trans hh7
    have c10 : Steps p.tables e below (s₁.setTop (entryFrame m #[.ref x, .ref y] 3)) (T9.setTop (mkF m 30 #[.val (.ref x), .val (.ref y), .val (.ref y)] [.ref y, .int cd])) := (c8.trans (st9 _ (Steps.refl _))).trans (by
      refine XS.aloadN X9.here hexec rfl (hb hbytes d29) rfl rfl ?_
      exact Steps.refl _)
    obtain ⟨T11, X11, q11, st11⟩ := X9.hget hexec hown (wk W (.fieldLink "java/lang/String" 15 "java/lang/String" "coder" "B")) (hy.mv X9.warmed.alike hh9).2.2.1 (g := (mkF m 30 #[.val (.ref x), .val (.ref y), .val (.ref y)] [.ref y, .int cd])) rfl (rest := [.int cd]) rfl (hb hbytes d30)
    have hh11 := q11.trans hh9
    have c12 : Steps p.tables e below (s₁.setTop (entryFrame m #[.ref x, .ref y] 3)) (T11.setTop (mkF m 33 #[.val (.ref x), .val (.ref y), .val (.ref y)] [.int cd', .int cd])) := c10.trans (st11 _ (Steps.refl _))
    by_cases hcd : cd = cd'
    · subst hcd
      have c13 : Steps p.tables e below (s₁.setTop (entryFrame m #[.ref x, .ref y] 3)) (T11.setTop (mkF m 37 #[.val (.ref x), .val (.ref y), .val (.ref y)] [.ref x])) := c12.trans (by
        refine XS.icmpNo X11.here hexec rfl (hb hbytes d33) rfl (ii_ne_f rfl) ?_
        refine XS.aloadN X11.here hexec rfl (hb hbytes d36) rfl rfl ?_
        exact Steps.refl _)
      obtain ⟨T14, X14, q14, st14⟩ := X11.hget hexec hown (wk W (.fieldLink "java/lang/String" 9 "java/lang/String" "value" "[B")) (hx.mv X11.warmed.alike hh11).2.1 (g := (mkF m 37 #[.val (.ref x), .val (.ref y), .val (.ref y)] [.ref x])) rfl (rest := []) rfl (hb hbytes d37)
      have hh14 := q14.trans hh11
      have c15 : Steps p.tables e below (s₁.setTop (entryFrame m #[.ref x, .ref y] 3)) (T14.setTop (mkF m 41 #[.val (.ref x), .val (.ref y), .val (.ref y)] [.ref y, .ref t])) := (c13.trans (st14 _ (Steps.refl _))).trans (by
        refine XS.aloadN X14.here hexec rfl (hb hbytes d40) rfl rfl ?_
        exact Steps.refl _)
      obtain ⟨T16, X16, q16, st16⟩ := X14.hget hexec hown (wk W (.fieldLink "java/lang/String" 9 "java/lang/String" "value" "[B")) (hy.mv X14.warmed.alike hh14).2.1 (g := (mkF m 41 #[.val (.ref x), .val (.ref y), .val (.ref y)] [.ref y, .ref t])) rfl (rest := [.ref t]) rfl (hb hbytes d41)
      have hh16 := q16.trans hh14
      have c17 : Steps p.tables e below (s₁.setTop (entryFrame m #[.ref x, .ref y] 3)) (T16.setTop (mkF m 44 #[.val (.ref x), .val (.ref y), .val (.ref y)] [.ref t', .ref t])) := c15.trans (st16 _ (Steps.refl _))
      obtain ⟨v18, T18, X18, E18, g18⟩ := X16.callS hexec (LEq.law l t V t' V') hown (wks W (staticW "java/lang/String" 541 LEq.yN)) (wk W LEq.tab) (W := 0) (Nat.le_of_ble_eq_true rfl) (Nat.le_of_ble_eq_true rfl) (Nat.le_refl _) (Nat.le_refl _) (g := (mkF m 44 #[.val (.ref x), .val (.ref y), .val (.ref y)] [.ref t', .ref t])) rfl (by rw [hml]; rfl) c17 (argsL := [.ref t, .ref t']) (rest := []) rfl rfl (by show 2 * 0 + 0 ≤ _; decide) (hb hbytes d44) (⟨rfl, hx.2.2.2.1.mv X16.warmed.alike hh16, hx.2.2.2.2.1.ty, hy.2.2.2.1.mv X16.warmed.alike hh16, hy.2.2.2.2.1.ty⟩)
      obtain ⟨v, rfl, q18, hv⟩ := E18
      have iff := Cod.eqv hx.2.2.2.2.1 hy.2.2.2.2.1 hx.2.2.2.2.2 hy.2.2.2.2.2
      rcases hv with ⟨rfl, he⟩ | ⟨rfl, he⟩
      · have c19 : Steps p.tables e below (s₁.setTop (entryFrame m #[.ref x, .ref y] 3)) (T18.setTop (mkF m 55 #[.val (.ref x), .val (.ref y), .val (.ref y)] [.int 1])) := Steps.trans g18 (by
          refine XS.ifNo X18.here hexec rfl (hb hbytes d47) rfl (i0_eq_f (by decide)) ?_
          refine iconstV X18.here hexec rfl 1 (hb hbytes d50) (by decide) ?_
          refine XS.goto X18.here hexec rfl (pc0 := 51) rfl (hb hbytes d51) (by decide) rfl ?_
          exact Steps.refl _)
        exact ⟨T18, some (.int 1), _, _, _, X18, rfl, rfl, rfl, (fun h => by cases h), ⟨1, rfl, q18.trans hh16, Or.inl ⟨rfl, iff.mp he⟩⟩, fun fs hl => c19.trans (X18.ireturnOut hexec hret rfl (Or.inr (Or.inl rfl)) (hb hbytes d55) hl)⟩
      · have c19 : Steps p.tables e below (s₁.setTop (entryFrame m #[.ref x, .ref y] 3)) (T18.setTop (mkF m 55 #[.val (.ref x), .val (.ref y), .val (.ref y)] [.int 0])) := Steps.trans g18 (by
          refine XS.ifYes X18.here hexec rfl (pc0 := 47) rfl (hb hbytes d47) rfl (i0_eq_t rfl) (by decide) rfl ?_
          refine iconstV X18.here hexec rfl 0 (hb hbytes d54) (by decide) ?_
          exact Steps.refl _)
        exact ⟨T18, some (.int 0), _, _, _, X18, rfl, rfl, rfl, (fun h => by cases h), ⟨0, rfl, q18.trans hh16, Or.inr ⟨rfl, fun q => he (iff.mpr q)⟩⟩, fun fs hl => c19.trans (X18.ireturnOut hexec hret rfl (Or.inr (Or.inl rfl)) (hb hbytes d55) hl)⟩
    · have c13 : Steps p.tables e below (s₁.setTop (entryFrame m #[.ref x, .ref y] 3)) (T11.setTop (mkF m 55 #[.val (.ref x), .val (.ref y), .val (.ref y)] [.int 0])) := c12.trans (by
        refine XS.icmpYes X11.here hexec rfl (pc0 := 33) rfl (hb hbytes d33) rfl (ii_ne_t hcd) (by decide) rfl ?_
        refine iconstV X11.here hexec rfl 0 (hb hbytes d54) (by decide) ?_
        exact Steps.refl _)
      exact ⟨T11, some (.int 0), _, _, _, X11, rfl, rfl, rfl, (fun h => by cases h), ⟨0, rfl, hh11, Or.inr ⟨rfl, Cod.dif hx.2.2.2.2.1 hy.2.2.2.2.1 hcd⟩⟩, fun fs hl => c13.trans (X11.ireturnOut hexec hret rfl (Or.inr (Or.inl rfl)) (hb hbytes d55) hl)⟩
theorem pays {l : Launch} {R : Room} {p : Program} {e : Env} {below : List Frame} {s : State} {sargs : Array Value} {len W : Nat} (x t : Addr) (V : Cell) (cd : Int32) (n : Nat) (f : Nat → Int32) (y t' : Addr) (V' : Cell) (cd' : Int32) (k : Nat) (g : Nat → Int32) (z : Int32) (htab : tab.before sargs s = true) (hfr : 2 ≤ R.frames) (hlo : W + 28 ≤ R.locals) :
    Back l R p e below s sargs yN len W (fun A₁ a₁ => A₁.cells + 0 ≤ R.cells ∧ A₁.slots + 0 ≤ R.slots ∧ P x t V cd n f y t' V' cd' k g z a₁ A₁.U) (fun A₁ _ v₁ B₁ => Says01 (SameT n f k g) v₁ A₁.U B₁.U ∧ B₁.locs = A₁.locs ++ [] ∧ B₁.cells = A₁.cells + 0 ∧ B₁.slots = A₁.slots + 0) :=
  (law l x t V cd n f y t' V' cd' k g z).pays htab hfr (by omega)
end SEq
end StrChars
namespace StrChars.Road
open Jvm Sem ClassFile Op Lib Jvm.Stand Jvm.Free Jvm.Free.XT
open Jvm.Lib.Cold (StaticIs)
/-- the words of String.equals(Object) -/
abbrev wordsEq : List Jvm.Cond := [.code SEq.yN SEq.yB 3 (some .boolean), .initialized ST, .classLink ST 10 ST, .fieldLink ST 38 ST "COMPACT_STRINGS" "Z", .fieldLink ST 15 ST "coder" "B", .fieldLink ST 9 ST "value" "[B", .methodLink ST 541 LEq.yN, .static LEq.yN, .code LEq.yN LEq.yB 3 (some .boolean), .initialized "java/lang/StringLatin1"]
theorem tabEq_of {a : Array Value} {s : State} (h : ∀ w ∈ wordsEq, w.before a s = true) : SEq.tab.before a s = true := by
  have hl : LEq.tab.before a s = true := unparts (wk h (.code LEq.yN LEq.yB 3 (some .boolean))) (wks h (.initialized LEq.yN.cls :: LEq.site))
  have q := consq hl h
  exact unparts (wk q (.code SEq.yN SEq.yB 3 (some .boolean))) (wks q (.initialized SEq.yN.cls :: SEq.site))
theorem movedEq {Z s : State} {a0 args : Array Value} (hZ : Z.Warmed39 s.vm) (hw : ∀ d ∈ wordsEq, d.before a0 Z = true) : ∀ d ∈ wordsEq, d.before args s = true := fun d hd => by
  have t : ∀ d ∈ wordsEq, (d.onTables && d.keepsFace) = true := by decide +kernel
  exact RoadKit.mv hZ (hw d hd) (t d hd)
/-- the road's facts of a String, as the laws ask it -/
theorem txt_of {Z U : State} {a0 : Array Value} {kI : Nat} (wi : (Jvm.Cond.instantiable ST kI).before a0 Z = true) (al : Z.vm.Alike U.vm) {x t : Addr} {kb : ClassId} {cs : List Int32} {cd N2 : Int32} {vs : List Value} (E : RoadKit.Exa Z U.heap x ST) (V : RoadKit.Fld Z U.heap x ST "value" "[B" (.ref t)) (C : RoadKit.Fld Z U.heap x ST "coder" "B" (.int cd)) (K : RoadKit.Arv Z U.heap t kb .byte N2 vs (.int 0)) (hc : CodA cs cd N2 vs) (hb : ∀ c ∈ cs, ¬ c < 0 ∧ ¬ (65535 : Int32) < c) (l2 : cs.length ≤ 4000) :
    ∃ A, Txt x t A cd cs.length (fun j => cs.getD j 0) U := by
  obtain ⟨A, K1, K2, K3, K4, K5, K6⟩ := K
  have hcod := hc.cod (by omega) K3 K5
  obtain ⟨D, fV, fC, hB, F1, F2, g1, g2, -, -⟩ := strObj wi al E V C
  exact ⟨A, ⟨_, hB.2.2.1, D, hB.1, rfl, by cases q : D.vm <;> first | rfl | exact absurd q (hB.2.1.2 _)⟩, Has.of hB F1 g1, Has.of hB F2 g2, ⟨K1.1, State.isArrayOf_alike al K1.2.1, K1.2.2, by rcases hcod with ⟨-, q, -⟩ | ⟨-, q, -⟩ <;> omega⟩, hcod, fun j hj => by
    have e : cs.getD j 0 = cs[j] := by simp [List.getD_eq_getElem?_getD, hj]
    show ¬ cs.getD j 0 < 0 ∧ ¬ 65535 < cs.getD j 0
    rw [e]; exact hb _ (List.getElem_mem _)⟩
theorem same_list (cs ds : List Int32) : SameT cs.length (fun j => cs.getD j 0) ds.length (fun j => ds.getD j 0) ↔ cs = ds := by
  constructor
  · rintro ⟨e, q⟩
    refine List.ext_getElem e fun j h1 h2 => ?_
    have := q j h1
    simpa [List.getD_eq_getElem?_getD, h1, h2] using this
  · rintro rfl
    exact ⟨rfl, fun _ _ => rfl⟩
/-- **equals(Object) OF TWO SUCH STRINGS**: 1 just where the chars are the same -/
theorem eqW {p : Program} {l : Launch} {e : Env} {R : Room} {s : State} {args : Array Value} {below : List Frame} {len W : Nat} {Z : State} {a0 : Array Value} {h : Heap} (hZ : Z.Warmed39 s.vm) (hw : ∀ d ∈ wordsEq, d.before a0 Z = true) {kI : Nat} (wi : (Jvm.Cond.instantiable ST kI).before a0 Z = true)
    {x t : Addr} {kb : ClassId} {cs : List Int32} {cd N2 : Int32} {vs : List Value} (E : RoadKit.Exa Z h x ST) (V : RoadKit.Fld Z h x ST "value" "[B" (.ref t)) (C : RoadKit.Fld Z h x ST "coder" "B" (.int cd)) (K : RoadKit.Arv Z h t kb .byte N2 vs (.int 0)) (hc : CodA cs cd N2 vs) (hb : ∀ c ∈ cs, ¬ c < 0 ∧ ¬ (65535 : Int32) < c) (l2 : cs.length ≤ 4000)
    {y t' : Addr} {kb' : ClassId} {ds : List Int32} {cd' N2' : Int32} {vs' : List Value} (E' : RoadKit.Exa Z h y ST) (V' : RoadKit.Fld Z h y ST "value" "[B" (.ref t')) (C' : RoadKit.Fld Z h y ST "coder" "B" (.int cd')) (K' : RoadKit.Arv Z h t' kb' .byte N2' vs' (.int 0)) (hc' : CodA ds cd' N2' vs') (hb' : ∀ c ∈ ds, ¬ c < 0 ∧ ¬ (65535 : Int32) < c) (l2' : ds.length ≤ 4000)
    {z : Int32} (S : RoadKit.Sta Z h ST "COMPACT_STRINGS" "Z" (.int z)) (hz : ¬ z = 0) (hfr : 2 ≤ R.frames) (hlo : W + 28 ≤ R.locals) :
    Back l R p e below s args (⟨"java/lang/String", "equals", "(Ljava/lang/Object;)Z"⟩ : MethodName) len W (fun P a => a = #[.ref x, .ref y] ∧ P.U.heap = h ∧ P.cells + 0 ≤ R.cells ∧ P.slots + 0 ≤ R.slots)
      (fun P _ v B => ∃ L, (((v = some (.int 1) ∧ cs = ds) ∨ (v = some (.int 0) ∧ ¬ cs = ds)) ∧ L = [] ∧ B.U.heap = h) ∧ B.locs = P.locs ++ L ∧ B.cells = P.cells + 0 ∧ B.slots = P.slots + 0) := by
  intro m meth c P g ig mk a X hg hsize hdg hW hn hp'
  obtain ⟨rfl, rfl, r1, r2⟩ := hp'
  have al : Z.vm.Alike P.U.vm := hZ.alike.trans X.warmed.alike
  obtain ⟨A, hx⟩ := txt_of wi al E V C K hc hb l2
  obtain ⟨A', hy⟩ := txt_of wi al E' V' C' K' hc' hb' l2'
  obtain ⟨v, B, X', ⟨⟨w, hv, hh, hq⟩, hl, hk, hs⟩, st⟩ := SEq.pays x t A cd cs.length (fun j => cs.getD j 0) y t' A' cd' ds.length (fun j => ds.getD j 0) z (tabEq_of (movedEq hZ hw)) hfr hlo m meth c P g ig mk _ X hg hsize hdg hW hn ⟨r1, r2, rfl, hx, hy, sta_is al S, hz⟩
  refine ⟨v, B, X', ⟨[], ⟨?_, rfl, hh⟩, hl, hk, hs⟩, st⟩
  rcases hq with ⟨rfl, q⟩ | ⟨rfl, q⟩
  · exact Or.inl ⟨hv, (same_list cs ds).mp q⟩
  · exact Or.inr ⟨hv, fun e => q ((same_list cs ds).mpr e)⟩
end StrChars.Road
end Jvm.Pilot.@@N@@

namespace Jvm.Pilot.@@N@@.Own
open Jvm Jvm.ClassFile Sem Op Lib Jvm.Free Jvm.Stand Jvm.LawKit Jvm.RoadKit Bundle
section S
variable {b : Bool} {p : Program} {l : Launch} {e : Env} {R : Room} {s : State} {m : MethodId} {args : Array Value} {below : List Frame} {meth : Method} {c : Code} {Z : State} {EL : List (String × Nat)} {own : String}
  {Q : Option Value → Heap → List Loc → List Addr → Prop} {SL : List Addr} {h : Heap} {locs : List Loc} {cells slots : Nat} {bytes : ByteArray} {mx : Nat} {ret : Option FieldType} {nm : String} {a0 : Array Value}
theorem Old.le {n0 : Nat} (X : Old Z n0 h) : n0 ≤ h.size := X.1 ▸ X.2.1
theorem Old.base {n0 : Nat} (X : Old Z n0 h) : n0 = Z.heap.size := X.1.symm
theorem strD : parseMethodDescriptor "([C)V" = some ⟨[.array .char], none⟩ := by decide +kernel
/-- new String(char[]) behind 'new', 'dup', 'aload': 1 to 4,000 chars, each 0 to 255 -/
theorem Go.strInit (K : Kx p c meth bytes mx ret nm) {pc pc' index : Nat} {Ls : Array Slot} {S : List Value} (w1 : (Jvm.Cond.methodLink own index ⟨"java/lang/String", "<init>", "([C)V"⟩).before a0 Z = true) (w2 : (Jvm.Cond.instanceMethod ⟨"java/lang/String", "<init>", "([C)V"⟩).before a0 Z = true)
    (hws : ∀ d ∈ StrChars.Road.words, d.before a0 Z = true) {kI : Nat} (wi : (Jvm.Cond.instantiable "java/lang/String" kI).before a0 Z = true) {x bA : Addr} {kC : ClassId} {cs : List Int32} {dv v0 c0 : Value} {z N : Int32} {n n0 : Nat} (X : Old Z n0 h) (hx0 : n0 ≤ x)
    (E : Exa Z h x "java/lang/String") (V : Fld Z h x "java/lang/String" "value" "[B" v0) (C : Fld Z h x "java/lang/String" "coder" "B" c0) (A : Arv Z h bA kC .char N (cs.map Value.int) dv) (St : Sta Z Z.heap "java/lang/String" "COMPACT_STRINGS" "Z" (.int z)) (hz : ¬ z = 0)
    (hn : cs.length = n) (hN : N = Int32.ofNat n) (l0 : 0 < n) (l2 : n ≤ 4000) (hp : ∀ c ∈ cs, ¬ c < 0 ∧ ¬ (255 : Int32) < c) (hs : x ∈ SL) (d : Dec bytes pc (.invokespecial index) 3 pc') (hsz : Ls.size = mx) (hf : 4 ≤ R.frames) (hl : (S.map fun v => v.category).sum + 65 ≤ R.locals) (hcl : cells + 1 ≤ R.cells) (hsl : slots + n ≤ R.slots)
    (r : ∀ (h' : Heap) (L : List Loc) (t : Addr) (kb : ClassId), Fr n0 L → Keep h h' [x] → Old Z n0 h' → Exa Z h' x "java/lang/String" → Fld Z h' x "java/lang/String" "coder" "B" (.int 0) → n0 ≤ t → h.size ≤ t → Fld Z h' x "java/lang/String" "value" "[B" (.ref t) → Arv Z h' t kb .byte N ((cs.map (fun c => c.toInt8.toInt32)).map Value.int) (.int 0) →
      Go b p l e R s m args below meth c Z EL own Q SL (mkF m pc' Ls S) h' (locs ++ L) (cells + 1) (slots + n)) :
    Go b p l e R s m args below meth c Z EL own Q SL (mkF m pc Ls (.ref bA :: .ref x :: S)) h locs cells slots := by
  obtain ⟨d1, rfl⟩ := d
  refine Go.callB (as' := #[.ref x, .ref bA]) (y := ⟨"java/lang/String", "<init>", "([C)V"⟩) (kc := 1) (ks := n) (W := (S.map fun v => v.category).sum) (Qc := fun v h' L => StrChars.Road.QV Z x N (cs.map (fun c => c.toInt8.toInt32)) h n0 v h' L) (ws := [x]) K
    (Inv.special (argsL := [.ref bA]) (bytesY := StrChars.New1.yB) (maxL := 2) K.1 rfl w1 w2 (hws _ (List.mem_cons_self ..)) (by decide) (lenOf strD rfl) (hb K.2.1 d1))
    (fun s' hZ => StrChars.Road.backV hZ hws wi hx0 (Old.le X) E V C A (St.ext X.2) hz hn hN l0 l2 hp rfl hf hl) d1 hsz (Nat.le_refl _) hcl hsl (fun v h' L q => q.2.2.1) (fun y q => by cases List.mem_singleton.mp q; exact Sf.mem hs) ?_
  rintro v h' L ⟨rfl, q2, q3, q4, q5, t, kb, q6, q7, q8, q9, q10⟩
  exact r h' L t kb q2 q3 (X.keep q3 fun y q => by cases List.mem_singleton.mp q; exact hx0) q4 q5 q6 q7 q9 q10
end S
end Jvm.Pilot.@@N@@.Own
namespace Jvm.Pilot.@@N@@.Own
open Jvm Jvm.ClassFile Sem Op Lib Jvm.Free Jvm.Stand Jvm.LawKit Jvm.RoadKit Bundle
theorem pad_rep' (n : Nat) {dv : Value} : ∀ i, (List.replicate n dv).getD i dv = ([] : List Value).getD i dv := fun i => by
  have q := pad_rep [] dv n i
  simpa using q
theorem Fr.s {k : Nat} {L : List Loc} {a : Addr} {i : Nat} (N : Fr k L) (q : k ≤ a) : Fr k (L ++ [⟨a, i⟩]) := N.app fun y hy => by cases List.mem_singleton.mp hy; exact q
theorem nar_c8 (t : Int32) : nar .char ((Int32.toUInt32 (t &&& 255)).toUInt16.toUInt32.toInt32) = t &&& 255 := by simp only [nar, i2c_mask]
theorem c8 (t : Int32) : (Int32.toUInt32 (t &&& 255)).toUInt16.toUInt32.toInt32 = t &&& 255 := i2c_mask t
theorem and255 (x : Int32) : ¬ (x &&& 255) < 0 ∧ ¬ (255 : Int32) < (x &&& 255) := by
  have h := c_and x 255 (by decide)
  have e : (255 : Int32).toInt = 255 := by decide
  have e0 : (0 : Int32).toInt = 0 := by decide
  rw [Int32.lt_iff_toInt_lt, Int32.lt_iff_toInt_lt]
  omega
theorem Keep.nil_trans {h0 h h' : Heap} (K : Keep h0 h []) (K' : Keep h h' []) : Keep h0 h' [] := K.trans K' fun _ q => nomatch q
theorem Keep.of_ext {h h' : Heap} (E : Ext h h') : Keep h h' [] := (Keep.refl h []).ext E
section S2
variable {b : Bool} {p : Program} {l : Launch} {e : Env} {R : Room} {s : State} {m : MethodId} {args : Array Value} {below : List Frame} {meth : Method} {c : Code} {Z : State} {EL : List (String × Nat)} {own : String}
  {Q : Option Value → Heap → List Loc → List Addr → Prop} {SL : List Addr} {h : Heap} {locs : List Loc} {cells slots : Nat} {bytes : ByteArray} {mx : Nat} {ret : Option FieldType} {nm : String} {a0 : Array Value}
theorem Go.alen (K : Kx p c meth bytes mx ret nm) {pc pc' : Nat} {Ls : Array Slot} {S : List Value} {a : Addr} {k : ClassId} {ty : FieldType} {z : Int32} {vs : List Value} {dv : Value} (A : Arv Z h a k ty z vs dv) (d : Dec bytes pc .arraylength 1 pc') (r : Go b p l e R s m args below meth c Z EL own Q SL (mkF m pc' Ls (.int z :: S)) h locs cells slots) :
    Go b p l e R s m args below meth c Z EL own Q SL (mkF m pc Ls (.ref a :: S)) h locs cells slots := by
  obtain ⟨d1, rfl⟩ := d
  obtain ⟨cl, A1, A2, A3, A4, A5, A6⟩ := A
  have hz := len_of A3 A4
  refine Go.step (fun T vm0 X eT hZ ho t k => X.arraylength K.1 (by rw [eT]; exact A1.1) (State.isArrayOf_alike hZ.alike A1.2.1) (g := mkF m pc Ls (.ref a :: S)) rfl rfl (hb K.2.1 d1) t ?_) r
  rw [hz]; exact k
end S2
end Jvm.Pilot.@@N@@.Own
namespace Jvm.Pilot.@@N@@.Own
open Jvm Jvm.ClassFile Sem Op Lib Jvm.Free Jvm.Stand Jvm.LawKit Jvm.RoadKit Bundle
section H2
variable {b : Bool} {p : Program} {l : Launch} {e : Env} {R : Room} {s : State} {m : MethodId} {args : Array Value} {below : List Frame} {meth : Method} {c : Code} {Z : State} {EL : List (String × Nat)} {own : String}
  {Q : Option Value → Heap → List Loc → List Addr → Prop} {SL : List Addr} {h : Heap} {locs : List Loc} {cells slots : Nat} {bytes : ByteArray} {mx : Nat} {ret : Option FieldType} {nm : String} {a0 : Array Value}
theorem arv_in {a : Addr} {k : ClassId} {ty : FieldType} {z j : Int32} {vs : List Value} {dv v : Value} (A : Arv Z h a k ty z vs dv) (hj0 : ¬ j < 0) (hz : j.toNatClampNeg < z.toNatClampNeg) (hv : vs.getD j.toNatClampNeg dv = v) :
    ∃ cl, Arr Z h a cl ty ∧ ¬ (j < 0 ∨ cl.slots.size ≤ j.toNatClampNeg) ∧ cl.slots[j.toNatClampNeg]? = some v := by
  obtain ⟨cl, A1, A2, A3, A4, A5, A6⟩ := A
  have q : ¬ (j < 0 ∨ cl.slots.size ≤ j.toNatClampNeg) := fun q => q.elim hj0 fun r => by rw [A3] at r; omega
  exact ⟨cl, A1, q, A5.at q hv⟩
theorem Go.aaload (K : Kx p c meth bytes mx ret nm) {pc pc' : Nat} {Ls : Array Slot} {S : List Value} {a : Addr} {k : ClassId} {ty : FieldType} {z j : Int32} {vs : List Value} {dv v : Value} (A : Arv Z h a k ty z vs dv) (hty : ty.isReference = true) (hj0 : ¬ j < 0) (hz : j.toNatClampNeg < z.toNatClampNeg) (hv : vs.getD j.toNatClampNeg dv = v) (d : Dec bytes pc .aaload 1 pc')
    (r : Go b p l e R s m args below meth c Z EL own Q SL (mkF m pc' Ls (v :: S)) h locs cells slots) : Go b p l e R s m args below meth c Z EL own Q SL (mkF m pc Ls (.int j :: .ref a :: S)) h locs cells slots := by
  obtain ⟨d1, rfl⟩ := d
  obtain ⟨cl, A1, q1, q2⟩ := arv_in A hj0 hz hv
  exact Go.step (fun T vm0 X eT hZ ho t k => X.aaload K.1 (by rw [eT]; exact A1.1) (State.isArrayOf_alike hZ.alike A1.2.1) hty A1.2.2 q1 q2 (g := mkF m pc Ls (.int j :: .ref a :: S)) rfl rfl (hb K.2.1 d1) t k) r
theorem Go.caload (K : Kx p c meth bytes mx ret nm) {pc pc' : Nat} {Ls : Array Slot} {S : List Value} {a : Addr} {k : ClassId} {z j : Int32} {vs : List Value} {dv v : Value} (A : Arv Z h a k .char z vs dv) (hj0 : ¬ j < 0) (hz : j.toNatClampNeg < z.toNatClampNeg) (hv : vs.getD j.toNatClampNeg dv = v) (d : Dec bytes pc .caload 1 pc')
    (r : Go b p l e R s m args below meth c Z EL own Q SL (mkF m pc' Ls (v :: S)) h locs cells slots) : Go b p l e R s m args below meth c Z EL own Q SL (mkF m pc Ls (.int j :: .ref a :: S)) h locs cells slots := by
  obtain ⟨d1, rfl⟩ := d
  obtain ⟨cl, A1, q1, q2⟩ := arv_in A hj0 hz hv
  exact Go.step (fun T vm0 X eT hZ ho t k => X.caload K.1 (by rw [eT]; exact A1.1) (State.isArrayOf_alike hZ.alike A1.2.1) A1.2.2 q1 q2 (g := mkF m pc Ls (.int j :: .ref a :: S)) rfl rfl (hb K.2.1 d1) t k) r
theorem Go.baload (K : Kx p c meth bytes mx ret nm) {pc pc' : Nat} {Ls : Array Slot} {S : List Value} {a : Addr} {k : ClassId} {z j : Int32} {vs : List Value} {dv v : Value} (A : Arv Z h a k .byte z vs dv) (hj0 : ¬ j < 0) (hz : j.toNatClampNeg < z.toNatClampNeg) (hv : vs.getD j.toNatClampNeg dv = v) (d : Dec bytes pc .baload 1 pc')
    (r : Go b p l e R s m args below meth c Z EL own Q SL (mkF m pc' Ls (v :: S)) h locs cells slots) : Go b p l e R s m args below meth c Z EL own Q SL (mkF m pc Ls (.int j :: .ref a :: S)) h locs cells slots := by
  obtain ⟨d1, rfl⟩ := d
  obtain ⟨cl, A1, q1, q2⟩ := arv_in A hj0 hz hv
  exact Go.step (fun T vm0 X eT hZ ho t k => X.baloadBytes K.1 (by rw [eT]; exact A1.1) (State.isArrayOf_alike hZ.alike A1.2.1) A1.2.2 q1 q2 (g := mkF m pc Ls (.int j :: .ref a :: S)) rfl rfl (hb K.2.1 d1) t k) r
theorem Go.iaload (K : Kx p c meth bytes mx ret nm) {pc pc' : Nat} {Ls : Array Slot} {S : List Value} {a : Addr} {k : ClassId} {z j : Int32} {vs : List Value} {dv v : Value} (A : Arv Z h a k .int z vs dv) (hj0 : ¬ j < 0) (hz : j.toNatClampNeg < z.toNatClampNeg) (hv : vs.getD j.toNatClampNeg dv = v) (d : Dec bytes pc .iaload 1 pc')
    (r : Go b p l e R s m args below meth c Z EL own Q SL (mkF m pc' Ls (v :: S)) h locs cells slots) : Go b p l e R s m args below meth c Z EL own Q SL (mkF m pc Ls (.int j :: .ref a :: S)) h locs cells slots := by
  obtain ⟨d1, rfl⟩ := d
  obtain ⟨cl, A1, q1, q2⟩ := arv_in A hj0 hz hv
  exact Go.step (fun T vm0 X eT hZ ho t k => X.iaload K.1 (by rw [eT]; exact A1.1) (State.isArrayOf_alike hZ.alike A1.2.1) A1.2.2 q1 q2 (g := mkF m pc Ls (.int j :: .ref a :: S)) rfl rfl (hb K.2.1 d1) t k) r
theorem Go.castY (K : Kx p c meth bytes mx ret nm) {pc pc' : Nat} {Ls : Array Slot} {S : List Value} {index : Nat} {C : String} {a : Addr} (w : (Jvm.Cond.classLink own index C).before a0 Z = true) (F : Ins Z h a C true) (d : Dec bytes pc (.checkcast index) 3 pc')
    (r : Go b p l e R s m args below meth c Z EL own Q SL (mkF m pc' Ls (.ref a :: S)) h locs cells slots) : Go b p l e R s m args below meth c Z EL own Q SL (mkF m pc Ls (.ref a :: S)) h locs cells slots := by
  obtain ⟨d1, rfl⟩ := d
  exact Go.warm (fun T vm0 X eT hZ ho => Jvm.RoadKit.castY X K.1 hZ ho w eT F (g := mkF m pc Ls (.ref a :: S)) rfl rfl (hb K.2.1 d1)) r
theorem Go.instY (K : Kx p c meth bytes mx ret nm) {pc pc' : Nat} {Ls : Array Slot} {S : List Value} {index : Nat} {C : String} {a : Addr} (w : (Jvm.Cond.classLink own index C).before a0 Z = true) (F : Ins Z h a C true) (d : Dec bytes pc (.instanceof index) 3 pc')
    (r : Go b p l e R s m args below meth c Z EL own Q SL (mkF m pc' Ls (.int 1 :: S)) h locs cells slots) : Go b p l e R s m args below meth c Z EL own Q SL (mkF m pc Ls (.ref a :: S)) h locs cells slots := by
  obtain ⟨d1, rfl⟩ := d
  exact Go.warm (fun T vm0 X eT hZ ho => Jvm.RoadKit.instY X K.1 hZ ho w eT F (g := mkF m pc Ls (.ref a :: S)) rfl rfl (hb K.2.1 d1)) r
theorem Go.instNo (K : Kx p c meth bytes mx ret nm) {pc pc' : Nat} {Ls : Array Slot} {S : List Value} {index : Nat} {C K0 : String} {a : Addr} (w : (Jvm.Cond.classLink own index K0).before a0 Z = true) (E : Exa Z h a C) (F : ∃ c t, Z.vm.findClass C = some c ∧ Z.vm.findClass K0 = some t ∧ Z.vm.assignable c t = false) (d : Dec bytes pc (.instanceof index) 3 pc')
    (r : Go b p l e R s m args below meth c Z EL own Q SL (mkF m pc' Ls (.int 0 :: S)) h locs cells slots) : Go b p l e R s m args below meth c Z EL own Q SL (mkF m pc Ls (.ref a :: S)) h locs cells slots := by
  obtain ⟨d1, rfl⟩ := d
  exact Go.warm (fun T vm0 X eT hZ ho => Jvm.RoadKit.instNo X K.1 hZ ho w eT E F (g := mkF m pc Ls (.ref a :: S)) rfl rfl (hb K.2.1 d1)) r
theorem Go.cloneA (K : Kx p c meth bytes mx ret nm) {pc pc' : Nat} {Ls : Array Slot} {S : List Value} {index : Nat} {ad : String} {a : Addr} {cl : Cell} {ty : FieldType} (w1 : (Jvm.Cond.methodLink own index ⟨ad, "clone", "()Ljava/lang/Object;"⟩).before a0 Z = true) (w2 : (Jvm.Cond.sameMethod ad "java/lang/Object" "clone" "()Ljava/lang/Object;").before a0 Z = true) (w3 : (Jvm.Cond.native ⟨"java/lang/Object", "clone", "()Ljava/lang/Object;"⟩).before a0 Z = true)
    (w4 : (Jvm.Cond.instanceMethod ⟨"java/lang/Object", "clone", "()Ljava/lang/Object;"⟩).before a0 Z = true) (w5 : (Jvm.Cond.selects ad ⟨ad, "clone", "()Ljava/lang/Object;"⟩ ⟨"java/lang/Object", "clone", "()Ljava/lang/Object;"⟩).before a0 Z = true) (w6 : (Jvm.Cond.castable ad "java/lang/Cloneable").before a0 Z = true)
    (A : Arr Z h a cl ty) (E : Exa Z h a ad) (F : FitC Z cl) (d : Dec bytes pc (.invokevirtual index) 3 pc') (hsz : Ls.size = mx) (hf : 1 ≤ R.frames) (hl : (S.map fun v => v.category).sum + 14 ≤ R.locals) (cap : Nat) (hcap : cl.slots.size ≤ cap) (hc : cells + 1 ≤ R.cells) (hsl : slots + cap ≤ R.slots)
    (r : ∀ h', Ext h h' → (Arr Z h' h.size (cloneOf cl) ty ∧ Exa Z h' h.size ad) → Go b p l e R s m args below meth c Z EL own Q (h.size :: SL) (mkF m pc' Ls (.ref h.size :: S)) h' locs (cells + 1) (slots + cap)) : Go b p l e R s m args below meth c Z EL own Q SL (mkF m pc Ls (.ref a :: S)) h locs cells slots := by
  obtain ⟨d1, rfl⟩ := d
  refine Go.grew (fun T vm0 X eT hZ ho => ?_) r
  obtain ⟨T', h', X', e', Ex, A', E', st⟩ := Jvm.RoadKit.cloneA X K.1 hZ ho w1 w2 w3 w4 w5 w6 eT A E F (g := mkF m pc Ls (.ref a :: S)) rfl (hsz.trans K.2.2.1.symm) rfl (hb K.2.1 d1) hf (W := (S.map fun v => v.category).sum) (by show 2 * 0 + _ ≤ _; omega) hl hcap hc hsl
  exact ⟨T', h', X', e', Ex, A'.lt, ⟨A', E'⟩, st⟩
theorem Go.newR (K : Kx p c meth bytes mx ret nm) {pc pc' : Nat} {Ls : Array Slot} {S : List Value} {index : Nat} {C ad : String} {n : Int32} (w1 : (Jvm.Cond.classLink own index C).before a0 Z = true) (w2 : (Jvm.Cond.arrayOver (.object C)).before a0 Z = true) (had : "[" ++ (FieldType.object C).toString = ad) (d : Dec bytes pc (.anewarray index) 3 pc') (hn : ¬ n < 0) (cap : Nat) (hcap : n.toNatClampNeg ≤ cap) (hb8 : cap * 8 ≤ 536870912) (hc : cells + 1 ≤ R.cells) (hl : slots + cap ≤ R.slots)
    (r : ∀ h', Ext h h' → (Exa Z h' h.size ad ∧ ∃ k, Arv Z h' h.size k (.object C) n [] .null ∧ Ovr Z k C) → Go b p l e R s m args below meth c Z EL own Q (h.size :: SL) (mkF m pc' Ls (.ref h.size :: S)) h' locs (cells + 1) (slots + cap)) :
    Go b p l e R s m args below meth c Z EL own Q SL (mkF m pc Ls (.int n :: S)) h locs cells slots := by
  obtain ⟨d1, rfl⟩ := d
  refine Go.grew (fun T vm0 X eT hZ ho => ?_) r
  obtain ⟨T', h', cA, X', e', E, A, Ex, O, st⟩ := Jvm.RoadKit.newRE X K.1 hZ ho w1 w2 eT (g := mkF m pc Ls (.int n :: S)) rfl (hb K.2.1 d1) rfl hn hcap hb8 hc hl had
  exact ⟨T', h', X', e', E, A.lt, ⟨Ex, cA, Arv.new A hn, O⟩, st⟩
theorem Go.aastore (K : Kx p c meth bytes mx ret nm) {pc pc' : Nat} {Ls : Array Slot} {S : List Value} {a : Addr} {k : ClassId} {ty : FieldType} {z j : Int32} {vs : List Value} {dv v : Value} (A : Arv Z h a k ty z vs dv) (hty : ty.isReference = true) (F : Sto Z h a v) (hfit : fits ty v = true) (i : Nat) (hj : j.toNatClampNeg = i) (hj0 : ¬ j < 0) (hi : i < vs.length) (hz : i < z.toNatClampNeg) (hs : Sf Z EL SL h a) (d : Dec bytes pc .aastore 1 pc')
    (r : ∀ h', Wr h h' a i v → Arv Z h' a k ty z (vs.set i v) dv → Go b p l e R s m args below meth c Z EL own Q SL (mkF m pc' Ls S) h' (locs ++ [⟨a, i⟩]) cells slots) :
    Go b p l e R s m args below meth c Z EL own Q SL (mkF m pc Ls (v :: .int j :: .ref a :: S)) h locs cells slots := by
  obtain ⟨d1, rfl⟩ := d
  subst hj
  obtain ⟨cl, A1, A2, A3, A4, A5, A6⟩ := A
  exact Go.wrote hs (fun T vm0 X eT hZ ho => Jvm.RoadKit.stR X K.1 hZ eT A1 (fun q => q.elim hj0 fun r => by rw [A3] at r; omega) hty F (g := mkF m pc Ls (v :: .int j :: .ref a :: S)) rfl rfl (hb K.2.1 d1)) (fun h' W => r h' W (Arv.set A1 A2 A3 A4 A5 A6 hfit W _ rfl hi))
theorem Inv.iface (hx : p.tables.exec = Jvm.exec) {index count : Nat} {C : String} {xi y : MethodName} (w1 : (Jvm.Cond.methodLink own index xi).before a0 Z = true) (w2 : (Jvm.Cond.declares xi).before a0 Z = true) (w3 : (Jvm.Cond.interfaceMethod xi.cls xi.cls xi.name xi.desc).before a0 Z = true) (hd3 : ((Jvm.Cond.interfaceMethod xi.cls xi.cls xi.name xi.desc).onTables && (Jvm.Cond.interfaceMethod xi.cls xi.cls xi.name xi.desc).keepsFace) = true) (w4 : (Jvm.Cond.selects C xi y).before a0 Z = true) (w5 : (Jvm.Cond.instanceMethod y).before a0 Z = true)
    (w6 : (Jvm.Cond.publicMethod y).before a0 Z = true) (w7 : (Jvm.Cond.unhidden C xi.name xi.desc).before a0 Z = true) (w8 : (Jvm.Cond.castable C xi.cls).before a0 Z = true) (hy : xi.cls ≠ "java/lang/invoke/MethodHandle" ∧ xi.cls ≠ "java/lang/invoke/VarHandle") {a : Addr} (E : Exa Z h a C) {argsL S : List Value} {pc : Nat} {Ls : Array Slot} (hlen : ∀ sig, parseMethodDescriptor xi.desc = some sig → argsL.length = sig.parameters.length) (hd : decode c.code pc = .ok (.invokeinterface index count, 5)) :
    Inv p l e R s m args below meth c Z own y (.ref a :: argsL).toArray (mkF m pc Ls (argsL.reverse ++ .ref a :: S)) (mkF m pc Ls S) h locs cells slots := fun T vm0 X eT hZ ho => by
  obtain ⟨cB, kB, hcB, hkB, hrecv⟩ := isOf (s := s.setVm vm0) (T := T) hZ eT E
  obtain ⟨cellB, hcellT, hclsB, hstatB⟩ := hrecv
  obtain ⟨r0, r, hn, hrm, hstR, hsigR⟩ := Cond.declares_spec (mvT (s := s.setVm vm0) (args := args) hZ w2)
  obtain ⟨cL, kL, r1, hcL, hkL, hiL, hfoundL, hn1⟩ := Cond.interfaceMethod_spec (mvT (s := s.setVm vm0) (args := args) hZ w3 hd3)
  cases hn.symm.trans hn1
  have hr0cls : r0.cls = cL := Option.some.inj ((findClass_of_methodNamed hn).symm.trans hcL)
  obtain ⟨hnameR, hdescR⟩ := name_of_methodNamed hn hrm
  obtain ⟨mk, methM, hnamed, hmethM, -, habM⟩ := Cond.instanceMethod_spec (mvT (s := s.setVm vm0) (args := args) hZ w5)
  obtain ⟨c2, r2, m2, q1, q2, q3, q4, -⟩ := Cond.selects_spec (mvT (s := s.setVm vm0) (args := args) hZ w4)
  cases hcB.symm.trans q1
  cases hfoundL.symm.trans q2
  cases hnamed.symm.trans q3
  have hselP : selectMethod e.platform (s.setVm vm0).vm cellB.cls r0 = .method mk := by rw [Launch.admits_selectMethod X.admits, hclsB]; exact q4
  have hpubM : hasFlag methM.accessFlags Acc.public_ = true := Cond.publicMethod_spec hnamed hmethM (mvT (s := s.setVm vm0) (args := args) hZ w6)
  have hway : ((cellB.cls :: (s.setVm vm0).vm.superclasses cellB.cls).any fun k => (declaredIn (s.setVm vm0).vm r.name r.desc k).any fun (_, z) => z.isPrivate || z.isStatic) = false := by
    rw [hnameR, hdescR, hclsB]; exact Cond.unhidden_spec hcB (mvT (s := s.setVm vm0) (args := args) hZ w7)
  obtain ⟨c3, t3, u1, u2, u3⟩ := Cond.castable_spec (mvT (s := s.setVm vm0) (args := args) hZ w8)
  cases hcB.symm.trans u1
  cases hcL.symm.trans u2
  obtain ⟨vm₁, X₁, hstep₁⟩ := X.invokeinterface hx ho (mvT (s := s.setVm vm0) (args := args) hZ w1) hn hrm hstR (by rw [hr0cls]; exact hkL) hiL hy (a := a) (cell := cellB) (kcell := kB) hcellT
    (fun z h => by rw [h] at hstatB; cases hstatB) (by rw [hclsB]; exact hkB) (by rw [hclsB, hr0cls]; exact u3) hselP hmethM hway hpubM habM (g := mkF m pc Ls (argsL.reverse ++ .ref a :: S)) rfl (argsL := argsL) (rest := S) (hlen _ hsigR) rfl hd
  exact ⟨mk, vm₁, X₁, X₁.named hnamed, hstep₁ _ fun acts => by rw [doInvoke_state]; exact Steps.refl _⟩
end H2
end Jvm.Pilot.@@N@@.Own
namespace Jvm.Pilot.@@N@@.Own
open Jvm Jvm.ClassFile Sem Op Lib Jvm.Free Jvm.Stand Jvm.LawKit Jvm.RoadKit Bundle
section H3
variable {b : Bool} {p : Program} {l : Launch} {e : Env} {R : Room} {s : State} {m : MethodId} {args : Array Value} {below : List Frame} {meth : Method} {c : Code} {Z : State} {EL : List (String × Nat)} {own : String}
  {Q : Option Value → Heap → List Loc → List Addr → Prop} {SL SL' : List Addr} {g : JFrame} {h : Heap} {locs : List Loc} {cells slots cells' slots' : Nat} {bytes : ByteArray} {mx : Nat} {ret : Option FieldType} {nm : String} {a0 : Array Value}
theorem Go.mono (hc : cells ≤ cells') (hs : slots ≤ slots') (r : Go b p l e R s m args below meth c Z EL own Q SL g h locs cells' slots') : Go b p l e R s m args below meth c Z EL own Q SL g h locs cells slots := fun T vm0 X eT cx hZ ho ch sl => r T vm0 (X.mono hc hs) eT cx hZ ho ch sl
theorem Go.sub (q : ∀ x ∈ SL', x ∈ SL) (r : Go b p l e R s m args below meth c Z EL own Q SL' g h locs cells slots) : Go b p l e R s m args below meth c Z EL own Q SL g h locs cells slots := fun T vm0 X eT cx hZ ho ch sl => r T vm0 X eT cx hZ ho ch fun x k => sl x (q x k)
theorem Go.newPE (K : Kx p c meth bytes mx ret nm) {pc pc' : Nat} {Ls : Array Slot} {S : List Value} {aty : ArrayType} {n : Int32} {ad : String} (w : (Jvm.Cond.arrayClass (newarray.typeOf aty)).before a0 Z = true) (had : "[" ++ (newarray.typeOf aty).toString = ad) (d : Dec bytes pc (.newarray aty) 2 pc') (hn : ¬ n < 0) (cap : Nat) (hcap : n.toNatClampNeg ≤ cap) (hb8 : cap * 8 ≤ 536870912) (hc : cells + 1 ≤ R.cells) (hl : slots + cap ≤ R.slots)
    (r : ∀ h', Ext h h' → (Exa Z h' h.size ad ∧ ∃ k, Arv Z h' h.size k (newarray.typeOf aty) n [] (defaultValue (newarray.typeOf aty))) → Go b p l e R s m args below meth c Z EL own Q (h.size :: SL) (mkF m pc' Ls (.ref h.size :: S)) h' locs (cells + 1) (slots + cap)) :
    Go b p l e R s m args below meth c Z EL own Q SL (mkF m pc Ls (.int n :: S)) h locs cells slots := by
  obtain ⟨d1, rfl⟩ := d
  refine Go.grew (fun T vm0 X eT hZ ho => ?_) r
  obtain ⟨T', h', cA, X', e', E, A, Ex, st⟩ := Jvm.RoadKit.newPE X K.1 hZ w eT (g := mkF m pc Ls (.int n :: S)) rfl (hb K.2.1 d1) rfl hn hcap hb8 hc hl had
  exact ⟨T', h', X', e', E, A.lt, ⟨Ex, cA, Arv.new A hn⟩, st⟩
theorem Arv.fitC {a : Addr} {k : ClassId} {ty : FieldType} {z : Int32} {vs : List Value} {dv : Value} (A : Arv Z h a k ty z vs dv) : ∃ cl, Arr Z h a cl ty ∧ FitC Z cl ∧ cl.slots.size = z.toNatClampNeg := by
  obtain ⟨cl, A1, A2, A3, A4, A5, A6⟩ := A
  exact ⟨cl, A1, fitC_of A1 fun i hi v hv => by rw [A5 i hi] at hv; cases hv; exact A6 i hi, A3⟩
end H3
end Jvm.Pilot.@@N@@.Own
namespace Jvm.Pilot.@@N@@.Own
open Jvm Jvm.ClassFile Sem Op Lib Jvm.Free Jvm.Stand Jvm.LawKit Jvm.RoadKit Bundle
/-- a Latin-1 String of these chars -/
def Str (Z : State) (h : Heap) (x t : Addr) (kb : ClassId) (cs : List Int32) : Prop :=
  Exa Z h x "java/lang/String" ∧ Fld Z h x "java/lang/String" "value" "[B" (.ref t) ∧ Fld Z h x "java/lang/String" "coder" "B" (.int 0) ∧ Arv Z h t kb .byte (Int32.ofNat cs.length) (cs.map fun c => Value.int (StrChars.lo8 c)) (.int 0) ∧ (∀ c ∈ cs, ¬ c < 0 ∧ ¬ (255 : Int32) < c) ∧ cs.length ≤ 4000
theorem Str.ext {Z : State} {h h' : Heap} {x t : Addr} {kb : ClassId} {cs : List Int32} (X : Str Z h x t kb cs) (E : Ext h h') : Str Z h' x t kb cs := ⟨X.1.ext E, X.2.1.ext E, X.2.2.1.ext E, X.2.2.2.1.ext E, X.2.2.2.2⟩
theorem Str.keep {Z : State} {h h' : Heap} {x t : Addr} {kb : ClassId} {cs : List Int32} {ws : List Addr} (X : Str Z h x t kb cs) (K : Keep h h' ws) (q : x ∉ ws) (q' : t ∉ ws) : Str Z h' x t kb cs := ⟨X.1.keep K, X.2.1.keep K q, X.2.2.1.keep K q, X.2.2.2.1.keep K q', X.2.2.2.2⟩
theorem Str.cod {Z : State} {h : Heap} {x t : Addr} {kb : ClassId} {cs : List Int32} (X : Str Z h x t kb cs) : StrChars.Road.CodA cs 0 (Int32.ofNat cs.length) (cs.map fun c => Value.int (StrChars.lo8 c)) := Or.inl ⟨rfl, rfl, rfl, fun c q => (X.2.2.2.2.1 c q).2⟩
theorem lt255 {c : Int32} (q : ¬ (255 : Int32) < c) : ¬ (65535 : Int32) < c := fun r => q (by
  have e : (255 : Int32).toInt = 255 := by decide
  have e2 : (65535 : Int32).toInt = 65535 := by decide
  rw [Int32.lt_iff_toInt_lt] at r ⊢; omega)
theorem Str.wid {Z : State} {h : Heap} {x t : Addr} {kb : ClassId} {cs : List Int32} (X : Str Z h x t kb cs) : ∀ c ∈ cs, ¬ c < 0 ∧ ¬ (65535 : Int32) < c := fun c q => ⟨(X.2.2.2.2.1 c q).1, lt255 (X.2.2.2.2.1 c q).2⟩
section S3
variable {b : Bool} {p : Program} {l : Launch} {e : Env} {R : Room} {s : State} {m : MethodId} {args : Array Value} {below : List Frame} {meth : Method} {c : Code} {Z : State} {EL : List (String × Nat)} {own : String}
  {Q : Option Value → Heap → List Loc → List Addr → Prop} {SL : List Addr} {h : Heap} {locs : List Loc} {cells slots : Nat} {bytes : ByteArray} {mx : Nat} {ret : Option FieldType} {nm : String} {a0 : Array Value}
theorem eqD : parseMethodDescriptor "(Ljava/lang/Object;)Z" = some ⟨[.object "java/lang/Object"], some .boolean⟩ := by decide +kernel
/-- x.equals(y) of two such Strings -/
theorem Go.strEq (K : Kx p c meth bytes mx ret nm) {pc pc' index : Nat} {Ls : Array Slot} {S : List Value} (w1 : (Jvm.Cond.methodLink own index ⟨"java/lang/String", "equals", "(Ljava/lang/Object;)Z"⟩).before a0 Z = true) (w2 : (Jvm.Cond.declares ⟨"java/lang/String", "equals", "(Ljava/lang/Object;)Z"⟩).before a0 Z = true) (w3 : (Jvm.Cond.selects "java/lang/String" ⟨"java/lang/String", "equals", "(Ljava/lang/Object;)Z"⟩ ⟨"java/lang/String", "equals", "(Ljava/lang/Object;)Z"⟩).before a0 Z = true) (w4 : (Jvm.Cond.instanceMethod ⟨"java/lang/String", "equals", "(Ljava/lang/Object;)Z"⟩).before a0 Z = true)
    (hws : ∀ d ∈ StrChars.Road.wordsEq, d.before a0 Z = true) {kI : Nat} (wi : (Jvm.Cond.instantiable "java/lang/String" kI).before a0 Z = true) {x t y t' : Addr} {kb kb' : ClassId} {cs ds : List Int32} (X : Str Z h x t kb cs) (Y : Str Z h y t' kb' ds) {z : Int32} (St : Sta Z h "java/lang/String" "COMPACT_STRINGS" "Z" (.int z)) (hz : ¬ z = 0)
    (d : Dec bytes pc (.invokevirtual index) 3 pc') (hsz : Ls.size = mx) (hf : 2 ≤ R.frames) (hl : (S.map fun v => v.category).sum + 28 ≤ R.locals) (hcl : cells ≤ R.cells) (hsl : slots ≤ R.slots)
    (r1 : cs = ds → Go b p l e R s m args below meth c Z EL own Q SL (mkF m pc' Ls (.int 1 :: S)) h locs cells slots) (r0 : ¬ cs = ds → Go b p l e R s m args below meth c Z EL own Q SL (mkF m pc' Ls (.int 0 :: S)) h locs cells slots) :
    Go b p l e R s m args below meth c Z EL own Q SL (mkF m pc Ls (.ref y :: .ref x :: S)) h locs cells slots := by
  obtain ⟨d1, rfl⟩ := d
  refine Go.callB (as' := #[.ref x, .ref y]) (y := ⟨"java/lang/String", "equals", "(Ljava/lang/Object;)Z"⟩) (kc := 0) (ks := 0) (W := (S.map fun v => v.category).sum) (Qc := fun v h' L => ((v = some (.int 1) ∧ cs = ds) ∨ (v = some (.int 0) ∧ ¬ cs = ds)) ∧ L = [] ∧ h' = h) (ws := []) K
    (Inv.virtual (argsL := [.ref y]) K.1 w1 w2 (Inv.nf w3) w3 w4 (by decide) X.1 (lenOf eqD rfl) (hb K.2.1 d1))
    (fun s' hZ => StrChars.Road.eqW hZ hws wi X.1 X.2.1 X.2.2.1 X.2.2.2.1 X.cod X.wid X.2.2.2.2.2 Y.1 Y.2.1 Y.2.2.1 Y.2.2.2.1 Y.cod Y.wid Y.2.2.2.2.2 St hz hf hl) d1 hsz (Nat.le_refl _) hcl hsl (fun v h' L q => by rw [q.2.2]; exact Keep.refl h []) (fun y q => nomatch q) ?_
  rintro v h' L ⟨hv, rfl, rfl⟩
  rw [List.append_nil]
  rcases hv with ⟨rfl, q⟩ | ⟨rfl, q⟩
  · exact r1 q
  · exact r0 q
end S3
end Jvm.Pilot.@@N@@.Own
namespace Jvm.Pilot.@@N@@
open Jvm Jvm.ClassFile Sem Op Lib Jvm.Free Jvm.Stand Jvm.LawKit Jvm.RoadKit Bundle Jvm.Pilot.@@N@@.Jvm.D Jvm.Pilot.@@N@@.Own
theorem pn_1 : plainName "com/example/even_norm/evennorm/text/TermFilter" = true := by first | (simp [plainName, overriddenIn]; done) | decide +kernel
theorem pn_2 : plainName "com/example/even_norm/evennorm/text/TermFilterOfPinLaw" = true := by first | (simp [plainName, overriddenIn]; done) | decide +kernel
theorem pd_1 : parseMethodDescriptor "()[Lcom/example/even_norm/evennorm/text/TermFilter;" = some ⟨[], some (.array (.object "com/example/even_norm/evennorm/text/TermFilter"))⟩ := by decide +kernel
theorem pd_2 : parseMethodDescriptor "(Ljava/lang/String;)Lcom/example/even_norm/evennorm/text/TermFilter;" = some ⟨[.object "java/lang/String"], some (.object "com/example/even_norm/evennorm/text/TermFilter")⟩ := by decide +kernel
theorem pd_3 : parseMethodDescriptor "()Ljava/lang/String;" = some ⟨[], some (.object "java/lang/String")⟩ := by decide +kernel
theorem va_0 : Dec prog_28_method_1_code 0 (.getstatic 10) 3 3 := ⟨by decide +kernel, rfl⟩
theorem va_3 : Dec prog_28_method_1_code 3 (.invokevirtual 14) 3 6 := ⟨by decide +kernel, rfl⟩
theorem va_6 : Dec prog_28_method_1_code 6 (.checkcast 15) 3 9 := ⟨by decide +kernel, rfl⟩
theorem va_9 : Dec prog_28_method_1_code 9 (.areturn) 1 10 := ⟨by decide +kernel, rfl⟩
theorem of_0 : Dec prog_28_method_6_code 0 (.invokestatic 36) 3 3 := ⟨by decide +kernel, rfl⟩
theorem of_3 : Dec prog_28_method_6_code 3 (.astore_n 1) 1 4 := ⟨by decide +kernel, rfl⟩
theorem of_4 : Dec prog_28_method_6_code 4 (.aload_n 1) 1 5 := ⟨by decide +kernel, rfl⟩
theorem of_5 : Dec prog_28_method_6_code 5 (.arraylength) 1 6 := ⟨by decide +kernel, rfl⟩
theorem of_6 : Dec prog_28_method_6_code 6 (.istore_n 2) 1 7 := ⟨by decide +kernel, rfl⟩
theorem of_7 : Dec prog_28_method_6_code 7 (.iconst 0) 1 8 := ⟨by decide +kernel, rfl⟩
theorem of_8 : Dec prog_28_method_6_code 8 (.istore_n 3) 1 9 := ⟨by decide +kernel, rfl⟩
theorem of_9 : Dec prog_28_method_6_code 9 (.iload_n 3) 1 10 := ⟨by decide +kernel, rfl⟩
theorem of_10 : Dec prog_28_method_6_code 10 (.iload_n 2) 1 11 := ⟨by decide +kernel, rfl⟩
theorem of_11 : Dec prog_28_method_6_code 11 (.if_icmp .ge (((40 : Nat) : Int) - ((11 : Nat) : Int))) 3 14 := ⟨by decide +kernel, rfl⟩
theorem of_14 : Dec prog_28_method_6_code 14 (.aload_n 1) 1 15 := ⟨by decide +kernel, rfl⟩
theorem of_15 : Dec prog_28_method_6_code 15 (.iload_n 3) 1 16 := ⟨by decide +kernel, rfl⟩
theorem of_16 : Dec prog_28_method_6_code 16 (.aaload) 1 17 := ⟨by decide +kernel, rfl⟩
theorem of_17 : Dec prog_28_method_6_code 17 (.astore 4) 2 19 := ⟨by decide +kernel, rfl⟩
theorem of_19 : Dec prog_28_method_6_code 19 (.aload 4) 2 21 := ⟨by decide +kernel, rfl⟩
theorem of_21 : Dec prog_28_method_6_code 21 (.getfield 29) 3 24 := ⟨by decide +kernel, rfl⟩
theorem of_24 : Dec prog_28_method_6_code 24 (.aload_n 0) 1 25 := ⟨by decide +kernel, rfl⟩
theorem of_25 : Dec prog_28_method_6_code 25 (.invokevirtual 40) 3 28 := ⟨by decide +kernel, rfl⟩
theorem of_28 : Dec prog_28_method_6_code 28 (.ifCond .eq (((34 : Nat) : Int) - ((28 : Nat) : Int))) 3 31 := ⟨by decide +kernel, rfl⟩
theorem of_31 : Dec prog_28_method_6_code 31 (.aload 4) 2 33 := ⟨by decide +kernel, rfl⟩
theorem of_33 : Dec prog_28_method_6_code 33 (.areturn) 1 34 := ⟨by decide +kernel, rfl⟩
theorem of_34 : Dec prog_28_method_6_code 34 (.iinc 3 1) 3 37 := ⟨by decide +kernel, rfl⟩
theorem of_37 : Dec prog_28_method_6_code 37 (.goto (((9 : Nat) : Int) - ((37 : Nat) : Int))) 3 40 := ⟨by decide +kernel, rfl⟩
theorem ke_0 : Dec prog_28_method_4_code 0 (.aload_n 0) 1 1 := ⟨by decide +kernel, rfl⟩
theorem ke_1 : Dec prog_28_method_4_code 1 (.getfield 29) 3 4 := ⟨by decide +kernel, rfl⟩
theorem ke_4 : Dec prog_28_method_4_code 4 (.areturn) 1 5 := ⟨by decide +kernel, rfl⟩
theorem e0_0 : Dec code 0 (.iload_n 0) 1 1 := ⟨at_0, rfl⟩
theorem e0_1 : Dec code 1 (.iconst 1) 1 2 := ⟨at_1, rfl⟩
theorem e0_2 : Dec code 2 (.iand) 1 3 := ⟨at_2, rfl⟩
theorem e0_3 : Dec code 3 (.ifCond .eq (((10 : Nat) : Int) - ((3 : Nat) : Int))) 3 6 := ⟨at_3, rfl⟩
theorem e0_6 : Dec code 6 (.iconst 1) 1 7 := ⟨at_6, rfl⟩
theorem e0_7 : Dec code 7 (.goto (((11 : Nat) : Int) - ((7 : Nat) : Int))) 3 10 := ⟨at_7, rfl⟩
theorem e0_10 : Dec code 10 (.iconst 0) 1 11 := ⟨at_10, rfl⟩
theorem e0_11 : Dec code 11 (.istore_n 1) 1 12 := ⟨at_11, rfl⟩
theorem e0_12 : Dec code 12 (.iconst 4) 1 13 := ⟨at_12, rfl⟩
theorem e0_13 : Dec code 13 (.newarray .char) 2 15 := ⟨at_13, rfl⟩
theorem e0_15 : Dec code 15 (.astore_n 2) 1 16 := ⟨at_15, rfl⟩
theorem e0_16 : Dec code 16 (.aload_n 2) 1 17 := ⟨at_16, rfl⟩
theorem e0_17 : Dec code 17 (.iconst 0) 1 18 := ⟨at_17, rfl⟩
theorem e0_18 : Dec code 18 (.bipush 115) 2 20 := ⟨at_18, rfl⟩
theorem e0_20 : Dec code 20 (.castore) 1 21 := ⟨at_20, rfl⟩
theorem e0_21 : Dec code 21 (.aload_n 2) 1 22 := ⟨at_21, rfl⟩
theorem e0_22 : Dec code 22 (.iconst 1) 1 23 := ⟨at_22, rfl⟩
theorem e0_23 : Dec code 23 (.bipush 116) 2 25 := ⟨at_23, rfl⟩
theorem e0_25 : Dec code 25 (.castore) 1 26 := ⟨at_25, rfl⟩
theorem e0_26 : Dec code 26 (.aload_n 2) 1 27 := ⟨at_26, rfl⟩
theorem e0_27 : Dec code 27 (.iconst 2) 1 28 := ⟨at_27, rfl⟩
theorem e0_28 : Dec code 28 (.iload_n 1) 1 29 := ⟨at_28, rfl⟩
theorem e0_29 : Dec code 29 (.ifCond .eq (((37 : Nat) : Int) - ((29 : Nat) : Int))) 3 32 := ⟨at_29, rfl⟩
theorem e0_32 : Dec code 32 (.bipush 101) 2 34 := ⟨at_32, rfl⟩
theorem e0_34 : Dec code 34 (.goto (((39 : Nat) : Int) - ((34 : Nat) : Int))) 3 37 := ⟨at_34, rfl⟩
theorem e0_37 : Dec code 37 (.bipush 111) 2 39 := ⟨at_37, rfl⟩
theorem e0_39 : Dec code 39 (.castore) 1 40 := ⟨at_39, rfl⟩
theorem e0_40 : Dec code 40 (.aload_n 2) 1 41 := ⟨at_40, rfl⟩
theorem e0_41 : Dec code 41 (.iconst 3) 1 42 := ⟨at_41, rfl⟩
theorem e0_42 : Dec code 42 (.iload_n 1) 1 43 := ⟨at_42, rfl⟩
theorem e0_43 : Dec code 43 (.ifCond .eq (((51 : Nat) : Int) - ((43 : Nat) : Int))) 3 46 := ⟨at_43, rfl⟩
theorem e0_46 : Dec code 46 (.bipush 109) 2 48 := ⟨at_46, rfl⟩
theorem e0_48 : Dec code 48 (.goto (((53 : Nat) : Int) - ((48 : Nat) : Int))) 3 51 := ⟨at_48, rfl⟩
theorem e0_51 : Dec code 51 (.bipush 112) 2 53 := ⟨at_51, rfl⟩
theorem e0_53 : Dec code 53 (.castore) 1 54 := ⟨at_53, rfl⟩
theorem e0_54 : Dec code 54 (.new 7) 3 57 := ⟨at_54, rfl⟩
theorem e0_57 : Dec code 57 (.dup) 1 58 := ⟨at_57, rfl⟩
theorem e0_58 : Dec code 58 (.aload_n 2) 1 59 := ⟨at_58, rfl⟩
theorem e0_59 : Dec code 59 (.invokespecial 9) 3 62 := ⟨at_59, rfl⟩
theorem e0_62 : Dec code 62 (.astore_n 3) 1 63 := ⟨at_62, rfl⟩
theorem e0_63 : Dec code 63 (.iload_n 1) 1 64 := ⟨at_63, rfl⟩
theorem e0_64 : Dec code 64 (.ifCond .eq (((73 : Nat) : Int) - ((64 : Nat) : Int))) 3 67 := ⟨at_64, rfl⟩
theorem e0_67 : Dec code 67 (.getstatic 12) 3 70 := ⟨at_67, rfl⟩
theorem e0_70 : Dec code 70 (.goto (((76 : Nat) : Int) - ((70 : Nat) : Int))) 3 73 := ⟨at_70, rfl⟩
theorem e0_73 : Dec code 73 (.getstatic 18) 3 76 := ⟨at_73, rfl⟩
theorem e0_76 : Dec code 76 (.astore 4) 2 78 := ⟨at_76, rfl⟩
theorem e0_78 : Dec code 78 (.aload_n 3) 1 79 := ⟨at_78, rfl⟩
theorem e0_82 : Dec code 82 (.astore 5) 2 84 := ⟨at_82, rfl⟩
theorem e0_84 : Dec code 84 (.aload 5) 2 86 := ⟨at_84, rfl⟩
theorem e0_86 : Dec code 86 (.aload 4) 2 88 := ⟨at_86, rfl⟩
theorem e0_88 : Dec code 88 (.if_acmp .eq (((93 : Nat) : Int) - ((88 : Nat) : Int))) 3 91 := ⟨at_88, rfl⟩
theorem e0_93 : Dec code 93 (.aload 4) 2 95 := ⟨at_93, rfl⟩
theorem e0_101 : Dec code 101 (.aload 4) 2 103 := ⟨at_101, rfl⟩
theorem e0_103 : Dec code 103 (.if_acmp .eq (((108 : Nat) : Int) - ((103 : Nat) : Int))) 3 106 := ⟨at_103, rfl⟩
theorem e0_108 : Dec code 108 (.aload 5) 2 110 := ⟨at_108, rfl⟩
theorem e0_113 : Dec code 113 (.aload_n 3) 1 114 := ⟨at_113, rfl⟩
theorem e0_114 : Dec code 114 (.invokevirtual 29) 3 117 := ⟨at_114, rfl⟩
theorem e0_117 : Dec code 117 (.ireturn) 1 118 := ⟨at_117, rfl⟩
def stopC : List Int32 := [115, 116, 111, 112]
def stemC : List Int32 := [115, 116, 101, 109]
def csOf (f : Bool) : List Int32 := if f then stemC else stopC
def rsOf (f : Bool) (sp sm : Addr) : Addr := if f then sm else sp
/-- what the case says of the enum's statics -/
def Wd (Z : State) (va sp sm kp km tp tm : Addr) (clV : Cell) (kbp kbm : ClassId) : Prop :=
  Sta Z Z.heap "com/example/even_norm/evennorm/text/TermFilter" "$VALUES" "[Lcom/example/even_norm/evennorm/text/TermFilter;" (.ref va) ∧ Sta Z Z.heap "com/example/even_norm/evennorm/text/TermFilter" "STOP" "Lcom/example/even_norm/evennorm/text/TermFilter;" (.ref sp) ∧ Sta Z Z.heap "com/example/even_norm/evennorm/text/TermFilter" "STEM" "Lcom/example/even_norm/evennorm/text/TermFilter;" (.ref sm) ∧
  Arr Z Z.heap va clV (.object "com/example/even_norm/evennorm/text/TermFilter") ∧ Exa Z Z.heap va "[Lcom/example/even_norm/evennorm/text/TermFilter;" ∧ FitC Z clV ∧ clV.slots.size = 2 ∧ clV.slots[0]? = some (.ref sp) ∧ clV.slots[1]? = some (.ref sm) ∧
  Exa Z Z.heap sp "com/example/even_norm/evennorm/text/TermFilter$1" ∧ Exa Z Z.heap sm "com/example/even_norm/evennorm/text/TermFilter$2" ∧ Fld Z Z.heap sp "com/example/even_norm/evennorm/text/TermFilter" "key" "Ljava/lang/String;" (.ref kp) ∧ Fld Z Z.heap sm "com/example/even_norm/evennorm/text/TermFilter" "key" "Ljava/lang/String;" (.ref km) ∧ Str Z Z.heap kp tp kbp stopC ∧ Str Z Z.heap km tm kbm stemC

theorem vals_has {Z : State} {va sp sm kp km tp tm : Addr} {clV : Cell} {kbp kbm : ClassId} (D : Wd Z va sp sm kp km tp tm clV kbp kbm) : Has (cloneOf clV) [.ref sp, .ref sm] .null := fun k hk => by
  have h2 : clV.slots.size = 2 := D.2.2.2.2.2.2.1
  have hk' : k < 2 := by rw [← h2]; exact hk
  match k, hk' with
  | 0, _ => exact D.2.2.2.2.2.2.2.1
  | 1, _ => exact D.2.2.2.2.2.2.2.2.1
theorem vals_fit {Z : State} {va sp sm kp km tp tm : Addr} {clV : Cell} {kbp kbm : ClassId} (D : Wd Z va sp sm kp km tp tm clV kbp kbm) : ∀ i, i < (cloneOf clV).slots.size → fits (.object "com/example/even_norm/evennorm/text/TermFilter") (([.ref sp, .ref sm] : List Value).getD i .null) = true := fun i hi => by
  have h2 : clV.slots.size = 2 := D.2.2.2.2.2.2.1
  have hk' : i < 2 := by rw [← h2]; exact hi
  match i, hk' with
  | 0, _ => rfl
  | 1, _ => rfl
theorem ef_1 (m : MethodId)  : entryFrame m #[] 0 = mkF m 0 #[] [] := by first | (simp [entryFrame, mkF, argsToLocals, Value.category]; done) | rfl
set_option maxRecDepth 65536 in
set_option maxHeartbeats 40000000 in
theorem kVals (l : Launch) (Z : State) (a0 : Array Value) (hw : ∀ d ∈ tables_1, d.before a0 Z = true) (h : Heap) (n0 : Nat) (X : Old Z n0 h) (va sp sm kp km tp tm : Addr) (clV : Cell) (kbp kbm : ClassId) (D : Wd Z va sp sm kp km tp tm clV kbp kbm) :
    Ctr false l Z [] (⟨"com/example/even_norm/evennorm/text/TermFilter", "values", "()[Lcom/example/even_norm/evennorm/text/TermFilter;"⟩ : MethodName) prog_28_method_1_code 0 (some (.array (.object "com/example/even_norm/evennorm/text/TermFilter"))) [] ({ frames := 1, cells := 1, slots := 2, locals := 16 } : Room) #[] h [] (fun v h' L A => ∃ y, v = some (.ref y) ∧ L = [] ∧ A = [] ∧ Ext h h' ∧ Arv Z h' y clV.cls (.object "com/example/even_norm/evennorm/text/TermFilter") 2 [.ref sp, .ref sm] .null) := by
  have hEW : EW Z a0 ([] : List (String × Nat)) := EW.nil
  have hE : false = true ∧ EW Z a0 ([] : List (String × Nat)) ∨ ([] : List (String × Nat)) = [] := Or.inr rfl
  refine Ctr.of (y := (⟨"com/example/even_norm/evennorm/text/TermFilter", "values", "()[Lcom/example/even_norm/evennorm/text/TermFilter;"⟩ : MethodName)) pn_1 (ef_1 ·) fun p e s m below meth c K => ?_
  refine Go.getS K (hw _ (List.mem_of_getElem? (i := 39) rfl)) Via.refl (D.1.ext X.2) va_0 ?_
  refine Go.cloneA K (hw _ (List.mem_of_getElem? (i := 41) rfl)) (hw _ (List.mem_of_getElem? (i := 42) rfl)) (hw _ (List.mem_of_getElem? (i := 46) rfl)) (hw _ (List.mem_of_getElem? (i := 44) rfl)) (hw _ (List.mem_of_getElem? (i := 45) rfl)) (hw _ (List.mem_of_getElem? (i := 47) rfl)) (D.2.2.2.1.ext X.2) (D.2.2.2.2.1.ext X.2) D.2.2.2.2.2.1 va_3 rfl (by decide) (Nat.le_of_ble_eq_true rfl) 2 (by rw [D.2.2.2.2.2.2.1]; exact Nat.le_refl _) (by decide) (by decide) (fun h1 E1 ⟨A1, X1⟩ => ?_)
  refine Go.castY K (hw _ (List.mem_of_getElem? (i := 49) rfl)) (Ins.self X1) va_6 ?_
  exact Go.aret K hE va_9 rfl rfl (by decide) (by decide) (A := []) nofun ⟨h.size, rfl, rfl, rfl, E1, ⟨_, A1, rfl, D.2.2.2.2.2.2.1, by decide, vals_has D, vals_fit D⟩⟩
theorem of_p {f : Bool} {sp sm : Addr} (q : stopC = csOf f) : rsOf f sp sm = sp := by cases f <;> first | rfl | (exact absurd q (by decide))
theorem of_m {f : Bool} {sp sm : Addr} (q : stemC = csOf f) : rsOf f sp sm = sm := by cases f <;> first | rfl | (exact absurd q (by decide))
theorem of_ne2 {f : Bool} (q : ¬ stemC = csOf f) (r : ¬ stopC = csOf f) : False := by cases f <;> first | exact r rfl | exact q rfl
theorem ef_2 (m : MethodId) (sx : Addr) : entryFrame m #[.ref sx] 5 = mkF m 0 #[.val (.ref sx), .unset, .unset, .unset, .unset] [] := by first | (simp [entryFrame, mkF, argsToLocals, Value.category]; done) | rfl
set_option maxRecDepth 65536 in
set_option maxHeartbeats 40000000 in
theorem kOf (l : Launch) (Z : State) (a0 : Array Value) (hw : ∀ d ∈ tables_1, d.before a0 Z = true) (h : Heap) (n0 : Nat) (X : Old Z n0 h) (z : Int32) (St : Sta Z Z.heap "java/lang/String" "COMPACT_STRINGS" "Z" (.int z)) (hz : ¬ z = 0) (va sp sm kp km tp tm : Addr) (clV : Cell) (kbp kbm : ClassId) (D : Wd Z va sp sm kp km tp tm clV kbp kbm) (f : Bool) (sx tx : Addr) (kbx : ClassId) (Tx : Str Z h sx tx kbx (csOf f)) :
    Ctr false l Z [] (⟨"com/example/even_norm/evennorm/text/TermFilter", "of", "(Ljava/lang/String;)Lcom/example/even_norm/evennorm/text/TermFilter;"⟩ : MethodName) prog_28_method_6_code 5 (some (.object "com/example/even_norm/evennorm/text/TermFilter")) [] ({ frames := 3, cells := 1, slots := 2, locals := 60 } : Room) #[.ref sx] h [] (fun v h' L A => v = some (.ref (rsOf f sp sm)) ∧ L = [] ∧ A = [] ∧ Ext h h') := by
  have hEW : EW Z a0 ([] : List (String × Nat)) := EW.nil
  have hE : false = true ∧ EW Z a0 ([] : List (String × Nat)) ∨ ([] : List (String × Nat)) = [] := Or.inr rfl
  have hws : ∀ d ∈ StrChars.Road.wordsEq, d.before a0 Z = true := fun d hd => hw d ((by decide +kernel : ∀ d ∈ StrChars.Road.wordsEq, d ∈ tables_1) d hd)
  refine Ctr.of (y := (⟨"com/example/even_norm/evennorm/text/TermFilter", "of", "(Ljava/lang/String;)Lcom/example/even_norm/evennorm/text/TermFilter;"⟩ : MethodName)) pn_1 (ef_2 · sx) fun p e s m below meth c K => ?_
  refine Go.call K hE (Inv.static (argsL := []) (S := []) K.1 (hw _ (List.mem_of_getElem? (i := 36) rfl)) (hw _ (List.mem_of_getElem? (i := 37) rfl)) (hw _ (List.mem_of_getElem? (i := 31) rfl)) (hw _ (List.mem_of_getElem? (i := 38) rfl)) (by decide) (lenOf pd_1 rfl) (hb K.2.1 of_0.1)) (kVals l Z a0 hw _ n0 X va sp sm kp km tp tm clV kbp kbm D) nofun (hw _ (List.mem_of_getElem? (i := 38) rfl)) (hw _ (List.mem_of_getElem? (i := 31) rfl)) of_0.1 rfl (by decide) (Nat.le_of_ble_eq_true rfl) (by decide) (by decide) ?_
  rintro _ h1 _ _ ⟨y, rfl, rfl, rfl, E1, A1⟩
  show Go false p l e _ s m _ below meth c Z [] _ _ _ (mkF m 3 _ [.ref y]) _ _ _ _
  have X1 := X.ext E1
  have T1 := Tx.ext E1
  refine Go.astoreN K #[.val (.ref sx), .val (.ref y), .unset, .unset, .unset] of_3 rfl rfl ?_
  refine Go.aloadN K of_4 rfl rfl ?_
  refine Go.alen K A1 of_5 ?_
  refine Go.istoreN K #[.val (.ref sx), .val (.ref y), .val (.int 2), .unset, .unset] of_6 rfl ?_
  refine Go.iconst K of_7 (0) (by first | rfl | decide) ?_
  refine Go.istoreN K #[.val (.ref sx), .val (.ref y), .val (.int 2), .val (.int 0), .unset] of_8 rfl ?_
  refine Go.iloadN K of_9 rfl ?_
  refine Go.iloadN K of_10 rfl ?_
  refine Go.icmp K of_11 (fun (c11 : ¬ (0 : Int32) < (2 : Int32)) => ?_) (fun (c11 : (0 : Int32) < (2 : Int32)) => ?_)
  · exact absurd (by decide) c11
  · refine Go.aloadN K of_14 rfl rfl ?_
    refine Go.iloadN K of_15 rfl ?_
    refine Go.aaload K A1 rfl (by decide) (by decide) (v := .ref sp) rfl of_16 ?_
    refine Go.astore K #[.val (.ref sx), .val (.ref y), .val (.int 2), .val (.int 0), .val (.ref sp)] of_17 rfl rfl ?_
    refine Go.aload K of_19 rfl rfl ?_
    refine Go.getF K (hw _ (List.mem_of_getElem? (i := 51) rfl)) Via.refl (D.2.2.2.2.2.2.2.2.2.2.2.1.ext X1.2) of_21 ?_
    refine Go.aloadN K of_24 rfl rfl ?_
    refine Go.strEq K (hw _ (List.mem_of_getElem? (i := 53) rfl)) (hw _ (List.mem_of_getElem? (i := 54) rfl)) (hw _ (List.mem_of_getElem? (i := 56) rfl)) (hw _ (List.mem_of_getElem? (i := 55) rfl)) hws (kI := 4) (hw _ (List.mem_of_getElem? (i := 2) rfl)) (D.2.2.2.2.2.2.2.2.2.2.2.2.2.1.ext X1.2) T1 (St.ext X1.2) hz of_25 rfl (by decide) (Nat.le_of_ble_eq_true rfl) (by decide) (by decide) (fun s1 => ?_) (fun s1 => ?_)
    · refine Go.ifc K of_28 (fun (c28 : (1 : Int32) = (0 : Int32)) => ?_) (fun (c28 : ¬ (1 : Int32) = (0 : Int32)) => ?_)
      · exact absurd c28 (by decide)
      · refine Go.aload K of_31 rfl rfl ?_
        exact Go.aret K hE of_33 rfl rfl (by decide) (by decide) (A := []) nofun ⟨by rw [of_p s1], rfl, rfl, E1⟩
    · refine Go.ifc K of_28 (fun (c28 : (0 : Int32) = (0 : Int32)) => ?_) (fun (c28 : ¬ (0 : Int32) = (0 : Int32)) => ?_)
      · refine Go.iinc K of_34 (1) (by first | rfl | decide) #[.val (.ref sx), .val (.ref y), .val (.int 2), .val (.int ((0 : Int32) + 1)), .val (.ref sp)] rfl rfl ?_
        refine Go.goto K of_37 ?_
        refine Go.iloadN K of_9 rfl ?_
        refine Go.iloadN K of_10 rfl ?_
        refine Go.icmp K of_11 (fun (c11 : ¬ (((0 : Int32) + 1)) < (2 : Int32)) => ?_) (fun (c11 : (((0 : Int32) + 1)) < (2 : Int32)) => ?_)
        · exact absurd (by decide) c11
        · refine Go.aloadN K of_14 rfl rfl ?_
          refine Go.iloadN K of_15 rfl ?_
          refine Go.aaload K A1 rfl (by decide) (by decide) (v := .ref sm) rfl of_16 ?_
          refine Go.astore K #[.val (.ref sx), .val (.ref y), .val (.int 2), .val (.int ((0 : Int32) + 1)), .val (.ref sm)] of_17 rfl rfl ?_
          refine Go.aload K of_19 rfl rfl ?_
          refine Go.getF K (hw _ (List.mem_of_getElem? (i := 51) rfl)) Via.refl (D.2.2.2.2.2.2.2.2.2.2.2.2.1.ext X1.2) of_21 ?_
          refine Go.aloadN K of_24 rfl rfl ?_
          refine Go.strEq K (hw _ (List.mem_of_getElem? (i := 53) rfl)) (hw _ (List.mem_of_getElem? (i := 54) rfl)) (hw _ (List.mem_of_getElem? (i := 56) rfl)) (hw _ (List.mem_of_getElem? (i := 55) rfl)) hws (kI := 4) (hw _ (List.mem_of_getElem? (i := 2) rfl)) (D.2.2.2.2.2.2.2.2.2.2.2.2.2.2.ext X1.2) T1 (St.ext X1.2) hz of_25 rfl (by decide) (Nat.le_of_ble_eq_true rfl) (by decide) (by decide) (fun s2 => ?_) (fun s2 => ?_)
          · refine Go.ifc K of_28 (fun (c28 : (1 : Int32) = (0 : Int32)) => ?_) (fun (c28 : ¬ (1 : Int32) = (0 : Int32)) => ?_)
            · exact absurd c28 (by decide)
            · refine Go.aload K of_31 rfl rfl ?_
              exact Go.aret K hE of_33 rfl rfl (by decide) (by decide) (A := []) nofun ⟨by rw [of_m s2], rfl, rfl, E1⟩
          · exact absurd (of_ne2 s2 s1) id
      · exact absurd c28 (by decide)
theorem ef_3 (m : MethodId) (o : Addr) : entryFrame m #[.ref o] 1 = mkF m 0 #[.val (.ref o)] [] := by first | (simp [entryFrame, mkF, argsToLocals, Value.category]; done) | rfl
set_option maxRecDepth 65536 in
set_option maxHeartbeats 40000000 in
theorem kKey (l : Launch) (Z : State) (a0 : Array Value) (hw : ∀ d ∈ tables_1, d.before a0 Z = true) (h : Heap) (o u : Addr) (F : Fld Z h o "com/example/even_norm/evennorm/text/TermFilter" "key" "Ljava/lang/String;" (.ref u)) :
    Ctr false l Z [] (⟨"com/example/even_norm/evennorm/text/TermFilter", "key", "()Ljava/lang/String;"⟩ : MethodName) prog_28_method_4_code 1 (some (.object "java/lang/String")) [] ({ frames := 0, cells := 0, slots := 0, locals := 0 } : Room) #[.ref o] h [] (fun v h' L A => v = some (.ref u) ∧ h' = h ∧ L = [] ∧ A = []) := by
  have hEW : EW Z a0 ([] : List (String × Nat)) := EW.nil
  have hE : false = true ∧ EW Z a0 ([] : List (String × Nat)) ∨ ([] : List (String × Nat)) = [] := Or.inr rfl
  refine Ctr.of (y := (⟨"com/example/even_norm/evennorm/text/TermFilter", "key", "()Ljava/lang/String;"⟩ : MethodName)) pn_1 (ef_3 · o) fun p e s m below meth c K => ?_
  refine Go.aloadN K ke_0 rfl rfl ?_
  refine Go.getF K (hw _ (List.mem_of_getElem? (i := 51) rfl)) Via.refl F ke_1 ?_
  exact Go.aret K hE ke_4 rfl rfl (Nat.zero_le _) (Nat.zero_le _) (A := []) nofun ⟨rfl, rfl, rfl, rfl⟩
theorem ef_4 (m : MethodId) (i0 : Int32) : entryFrame m #[.int i0] maxLocals = mkF m 0 #[.val (.int i0), .unset, .unset, .unset, .unset, .unset] [] := by first | (simp [entryFrame, mkF, argsToLocals, Value.category, maxLocals]; done) | rfl
set_option maxRecDepth 65536 in
set_option maxHeartbeats 40000000 in
theorem k0 (l : Launch) (Z : State) (a0 : Array Value) (hw : ∀ d ∈ tables_1, d.before a0 Z = true) (ws : List Jvm.Cond) (h : Heap) (n0 : Nat) (X : Old Z n0 h) (z : Int32) (St : Sta Z Z.heap "java/lang/String" "COMPACT_STRINGS" "Z" (.int z)) (hz : ¬ z = 0) (va sp sm kp km tp tm : Addr) (clV : Cell) (kbp kbm : ClassId) (D : Wd Z va sp sm kp km tp tm clV kbp kbm) (i0 : Int32) :
    Ctr false l Z [] x code maxLocals ret ws room_1 #[.int i0] h [] (fun v h' L A => v = some (.int 1) ∧ Fr n0 L) := by
  have hEW : EW Z a0 ([] : List (String × Nat)) := EW.nil
  have hE : false = true ∧ EW Z a0 ([] : List (String × Nat)) ∨ ([] : List (String × Nat)) = [] := Or.inr rfl
  have hws : ∀ d ∈ StrChars.Road.wordsEq, d.before a0 Z = true := fun d hd => hw d ((by decide +kernel : ∀ d ∈ StrChars.Road.wordsEq, d ∈ tables_1) d hd)
  have hws1 : ∀ d ∈ StrChars.Road.words, d.before a0 Z = true := fun d hd => hw d ((by decide +kernel : ∀ d ∈ StrChars.Road.words, d ∈ tables_1) d hd)
  refine Ctr.of (y := x) pn_2 (ef_4 · i0) fun p e s m below meth c K => ?_
  refine Go.iloadN K e0_0 rfl ?_
  refine Go.iconst K e0_1 (1) (by first | rfl | decide) ?_
  refine Go.iand K e0_2 ?_
  refine Go.ifc K e0_3 (fun (c3 : ((i0 &&& (1 : Int32))) = (0 : Int32)) => ?_) (fun (c3 : ¬ ((i0 &&& (1 : Int32))) = (0 : Int32)) => ?_)
  · refine Go.iconst K e0_10 (0) (by first | rfl | decide) ?_
    refine Go.istoreN K #[.val (.int i0), .val (.int 0), .unset, .unset, .unset, .unset] e0_11 rfl ?_
    refine Go.iconst K e0_12 (4) (by first | rfl | decide) ?_
    refine Go.newP K (hw _ (List.mem_of_getElem? (i := 0) rfl)) e0_13 (by decide) 4 (by decide) (by decide) (by decide) (by decide) (fun h1 E1 ⟨k1, A1⟩ => ?_)
    have A1' : Arv Z h1 h.size k1 .char 4 (List.replicate 4 (.int 0)) (.int 0) := A1.pad (pad_rep' 4)
    have O2 := X.ext E1
    obtain ⟨x1, g1⟩ : ∃ z, z = h.size := ⟨_, rfl⟩
    rw [← g1] at A1' ⊢
    have qa1 : n0 ≤ x1 := by rw [g1]; exact Old.le X
    refine Go.astoreN K #[.val (.int i0), .val (.int 0), .val (.ref x1), .unset, .unset, .unset] e0_15 rfl rfl ?_
    refine Go.aloadN K e0_16 rfl rfl ?_
    refine Go.iconst K e0_17 (0) (by first | rfl | decide) ?_
    refine Go.bipush K e0_18 (115) (by first | rfl | decide) ?_
    refine Go.castore K A1' 0 (by decide) (by decide) (by simp) (by decide) e0_20 (fun h3 W3 A3 => ?_)
    have O4 := O2.wr W3 qa1
    refine Go.aloadN K e0_21 rfl rfl ?_
    refine Go.iconst K e0_22 (1) (by first | rfl | decide) ?_
    refine Go.bipush K e0_23 (116) (by first | rfl | decide) ?_
    refine Go.castore K A3 1 (by decide) (by decide) (by simp) (by decide) e0_25 (fun h5 W5 A5 => ?_)
    have O6 := O4.wr W5 qa1
    refine Go.aloadN K e0_26 rfl rfl ?_
    refine Go.iconst K e0_27 (2) (by first | rfl | decide) ?_
    refine Go.iloadN K e0_28 rfl ?_
    refine Go.ifc K e0_29 (fun (c29 : (0 : Int32) = (0 : Int32)) => ?_) (fun (c29 : ¬ (0 : Int32) = (0 : Int32)) => ?_)
    · refine Go.bipush K e0_37 (111) (by first | rfl | decide) ?_
      refine Go.castore K A5 2 (by decide) (by decide) (by simp) (by decide) e0_39 (fun h7 W7 A7 => ?_)
      have O8 := O6.wr W7 qa1
      refine Go.aloadN K e0_40 rfl rfl ?_
      refine Go.iconst K e0_41 (3) (by first | rfl | decide) ?_
      refine Go.iloadN K e0_42 rfl ?_
      refine Go.ifc K e0_43 (fun (c43 : (0 : Int32) = (0 : Int32)) => ?_) (fun (c43 : ¬ (0 : Int32) = (0 : Int32)) => ?_)
      · refine Go.bipush K e0_51 (112) (by first | rfl | decide) ?_
        refine Go.castore K A7 3 (by decide) (by decide) (by simp) (by decide) e0_53 (fun h9 W9 A9 => ?_)
        have O10 := O8.wr W9 qa1
        refine Go.newO K (hw _ (List.mem_of_getElem? (i := 1) rfl)) (hw _ (List.mem_of_getElem? (i := 2) rfl)) (hw _ (List.mem_of_getElem? (i := 3) rfl)) e0_54 (by decide) (by decide) (fun h11 E11 ⟨X11, D11⟩ => ?_)
        have F11_0 : Fld Z h11 h9.size "java/lang/String" "coder" "B" (.int 0) := D11 (Or.inr (hw _ (List.mem_of_getElem? (i := 27) rfl))) (ty := .byte) (by decide)
        have F11_1 : Fld Z h11 h9.size "java/lang/String" "value" "[B" (.null) := D11 (Or.inr (hw _ (List.mem_of_getElem? (i := 29) rfl))) (ty := .array (.byte)) (by decide)
        have A12_0 := A9.ext E11
        have O12 := O10.ext E11
        obtain ⟨x11, g11⟩ : ∃ z, z = h9.size := ⟨_, rfl⟩
        rw [← g11] at X11 F11_0 F11_1 ⊢
        have l11_x1 : x1 < x11 := by rw [g11]; exact A9.lt
        have qa11 : n0 ≤ x11 := by rw [g11]; exact Old.le O10
        refine Go.dup K e0_57 rfl ?_
        refine Go.aloadN K e0_58 rfl rfl ?_
        have Ac : Arv Z h11 x1 k1 .char 4 [.int (nar .char (115 : Int32)), .int (nar .char (116 : Int32)), .int (nar .char (111 : Int32)), .int (nar .char (112 : Int32))] (.int 0) := A12_0
        rw [show nar .char (115 : Int32) = 115 from by decide, show nar .char (116 : Int32) = 116 from by decide, show nar .char (111 : Int32) = 111 from by decide, show nar .char (112 : Int32) = 112 from by decide] at Ac
        refine Go.strInit K (hw _ (List.mem_of_getElem? (i := 4) rfl)) (hw _ (List.mem_of_getElem? (i := 5) rfl)) hws1 (kI := 4) (hw _ (List.mem_of_getElem? (i := 2) rfl)) (cs := csOf false) (n := 4) O12 qa11 X11 F11_1 F11_0 Ac St hz rfl rfl (by decide) (by decide) (by decide) (by simp) e0_59 rfl (by decide) (Nat.le_of_ble_eq_true rfl) (by decide) (by decide) (fun h5 L5 t5 kb5 N5 K5 O5 x5 y5 z5 u5 v5 w5 => ?_)
        have T5 : Str Z h5 x11 t5 kb5 (csOf false) := ⟨x5, v5, y5, by rw [List.map_map] at w5; exact w5, by decide, by decide⟩
        refine Go.astoreN K #[.val (.int i0), .val (.int 0), .val (.ref x1), .val (.ref x11), .unset, .unset] e0_62 rfl rfl ?_
        refine Go.iloadN K e0_63 rfl ?_
        refine Go.ifc K e0_64 (fun (c64 : (0 : Int32) = (0 : Int32)) => ?_) (fun (c64 : ¬ (0 : Int32) = (0 : Int32)) => ?_)
        · refine Go.getS K (hw _ (List.mem_of_getElem? (i := 30) rfl)) Via.refl (D.2.1.ext O5.2) e0_73 ?_
          refine Go.astore K #[.val (.int i0), .val (.int 0), .val (.ref x1), .val (.ref x11), .val (.ref sp), .unset] e0_76 rfl rfl ?_
          refine Go.aloadN K e0_78 rfl rfl ?_
          refine Go.call K hE (Inv.static (argsL := [.ref x11]) (S := []) K.1 (hw _ (List.mem_of_getElem? (i := 33) rfl)) (hw _ (List.mem_of_getElem? (i := 34) rfl)) (hw _ (List.mem_of_getElem? (i := 31) rfl)) (hw _ (List.mem_of_getElem? (i := 35) rfl)) (by decide) (lenOf pd_2 rfl) (hb K.2.1 at_79)) (kOf l Z a0 hw _ n0 O5 z St hz va sp sm kp km tp tm clV kbp kbm D false x11 t5 kb5 T5) nofun (hw _ (List.mem_of_getElem? (i := 35) rfl)) (hw _ (List.mem_of_getElem? (i := 31) rfl)) at_79 rfl (by decide) (Nat.le_of_ble_eq_true rfl) (by decide) (by decide) ?_
          rintro _ h14 _ _ ⟨rfl, rfl, rfl, E14⟩
          show Go false p l e _ s m _ below meth c Z [] _ _ _ (mkF m 82 _ [.ref sp]) _ _ _ _
          have O14 := O5.ext E14
          have T14 := T5.ext E14
          refine Go.astore K #[.val (.int i0), .val (.int 0), .val (.ref x1), .val (.ref x11), .val (.ref sp), .val (.ref sp)] e0_82 rfl rfl ?_
          refine Go.aload K e0_84 rfl rfl ?_
          refine Go.aload K e0_86 rfl rfl ?_
          refine Go.acmp K rfl rfl e0_88 (fun _ => ?_) (fun q => absurd q (by simp))
          refine Go.aload K e0_93 rfl rfl ?_
          refine Go.call K hE (Inv.virtual (argsL := []) (S := []) K.1 (hw _ (List.mem_of_getElem? (i := 63) rfl)) (hw _ (List.mem_of_getElem? (i := 64) rfl)) (Inv.nf (hw _ (List.mem_of_getElem? (i := 66) rfl))) (hw _ (List.mem_of_getElem? (i := 66) rfl)) (hw _ (List.mem_of_getElem? (i := 65) rfl)) (by decide) (D.2.2.2.2.2.2.2.2.2.1.ext O14.2) (lenOf pd_3 rfl) (hb K.2.1 at_95)) (kKey l Z a0 hw _ sp kp (D.2.2.2.2.2.2.2.2.2.2.2.1.ext O14.2)) nofun (hw _ (List.mem_of_getElem? (i := 67) rfl)) (hw _ (List.mem_of_getElem? (i := 31) rfl)) at_95 rfl (by decide) (Nat.le_of_ble_eq_true rfl) (by decide) (by decide) ?_
          rintro _ hq _ _ ⟨rfl, eh, rfl, rfl⟩
          subst hq
          show Go false p l e _ s m _ below meth c Z [] _ _ _ (mkF m 98 _ [.ref kp]) _ _ _ _
          refine Go.call K hE (Inv.static (argsL := [.ref kp]) (S := []) K.1 (hw _ (List.mem_of_getElem? (i := 33) rfl)) (hw _ (List.mem_of_getElem? (i := 34) rfl)) (hw _ (List.mem_of_getElem? (i := 31) rfl)) (hw _ (List.mem_of_getElem? (i := 35) rfl)) (by decide) (lenOf pd_2 rfl) (hb K.2.1 at_98)) (kOf l Z a0 hw _ n0 O14 z St hz va sp sm kp km tp tm clV kbp kbm D false kp tp kbp (D.2.2.2.2.2.2.2.2.2.2.2.2.2.1.ext O14.2)) nofun (hw _ (List.mem_of_getElem? (i := 35) rfl)) (hw _ (List.mem_of_getElem? (i := 31) rfl)) at_98 rfl (by decide) (Nat.le_of_ble_eq_true rfl) (by decide) (by decide) ?_
          rintro _ h15 _ _ ⟨rfl, rfl, rfl, E15⟩
          show Go false p l e _ s m _ below meth c Z [] _ _ _ (mkF m 101 _ [.ref sp]) _ _ _ _
          have O15 := O14.ext E15
          have T15 := T14.ext E15
          refine Go.aload K e0_101 rfl rfl ?_
          refine Go.acmp K rfl rfl e0_103 (fun _ => ?_) (fun q => absurd q (by simp))
          refine Go.aload K e0_108 rfl rfl ?_
          refine Go.call K hE (Inv.virtual (argsL := []) (S := []) K.1 (hw _ (List.mem_of_getElem? (i := 63) rfl)) (hw _ (List.mem_of_getElem? (i := 64) rfl)) (Inv.nf (hw _ (List.mem_of_getElem? (i := 66) rfl))) (hw _ (List.mem_of_getElem? (i := 66) rfl)) (hw _ (List.mem_of_getElem? (i := 65) rfl)) (by decide) (D.2.2.2.2.2.2.2.2.2.1.ext O15.2) (lenOf pd_3 rfl) (hb K.2.1 at_110)) (kKey l Z a0 hw _ sp kp (D.2.2.2.2.2.2.2.2.2.2.2.1.ext O15.2)) nofun (hw _ (List.mem_of_getElem? (i := 67) rfl)) (hw _ (List.mem_of_getElem? (i := 31) rfl)) at_110 rfl (by decide) (Nat.le_of_ble_eq_true rfl) (by decide) (by decide) ?_
          rintro _ hq _ _ ⟨rfl, eh, rfl, rfl⟩
          subst hq
          show Go false p l e _ s m _ below meth c Z [] _ _ _ (mkF m 113 _ [.ref kp]) _ _ _ _
          refine Go.aloadN K e0_113 rfl rfl ?_
          refine Go.strEq K (hw _ (List.mem_of_getElem? (i := 68) rfl)) (hw _ (List.mem_of_getElem? (i := 54) rfl)) (hw _ (List.mem_of_getElem? (i := 56) rfl)) (hw _ (List.mem_of_getElem? (i := 55) rfl)) hws (kI := 4) (hw _ (List.mem_of_getElem? (i := 2) rfl)) (D.2.2.2.2.2.2.2.2.2.2.2.2.2.1.ext O15.2) T15 (St.ext O15.2) hz e0_114 rfl (by decide) (Nat.le_of_ble_eq_true rfl) (by decide) (by decide) (fun _ => ?_) (fun q => absurd rfl q)
          exact Go.nret K hE e0_117 (Or.inl rfl) (by decide) (by decide) (A := []) nofun ⟨rfl, by simpa using ((((((Fr.s (Fr.s (Fr.s (Fr.s (Fr.nil n0) qa1) qa1) qa1) qa1).app N5).app (Fr.nil n0)).app (Fr.nil n0)).app (Fr.nil n0)).app (Fr.nil n0))⟩
        · exact absurd rfl c64
      · exact absurd rfl c43
    · exact absurd rfl c29
  · refine Go.iconst K e0_6 (1) (by first | rfl | decide) ?_
    refine Go.goto K e0_7 ?_
    refine Go.istoreN K #[.val (.int i0), .val (.int 1), .unset, .unset, .unset, .unset] e0_11 rfl ?_
    refine Go.iconst K e0_12 (4) (by first | rfl | decide) ?_
    refine Go.newP K (hw _ (List.mem_of_getElem? (i := 0) rfl)) e0_13 (by decide) 4 (by decide) (by decide) (by decide) (by decide) (fun h16 E16 ⟨k16, A16⟩ => ?_)
    have A16' : Arv Z h16 h.size k16 .char 4 (List.replicate 4 (.int 0)) (.int 0) := A16.pad (pad_rep' 4)
    have O17 := X.ext E16
    obtain ⟨x16, g16⟩ : ∃ z, z = h.size := ⟨_, rfl⟩
    rw [← g16] at A16' ⊢
    have qa16 : n0 ≤ x16 := by rw [g16]; exact Old.le X
    refine Go.astoreN K #[.val (.int i0), .val (.int 1), .val (.ref x16), .unset, .unset, .unset] e0_15 rfl rfl ?_
    refine Go.aloadN K e0_16 rfl rfl ?_
    refine Go.iconst K e0_17 (0) (by first | rfl | decide) ?_
    refine Go.bipush K e0_18 (115) (by first | rfl | decide) ?_
    refine Go.castore K A16' 0 (by decide) (by decide) (by simp) (by decide) e0_20 (fun h18 W18 A18 => ?_)
    have O19 := O17.wr W18 qa16
    refine Go.aloadN K e0_21 rfl rfl ?_
    refine Go.iconst K e0_22 (1) (by first | rfl | decide) ?_
    refine Go.bipush K e0_23 (116) (by first | rfl | decide) ?_
    refine Go.castore K A18 1 (by decide) (by decide) (by simp) (by decide) e0_25 (fun h20 W20 A20 => ?_)
    have O21 := O19.wr W20 qa16
    refine Go.aloadN K e0_26 rfl rfl ?_
    refine Go.iconst K e0_27 (2) (by first | rfl | decide) ?_
    refine Go.iloadN K e0_28 rfl ?_
    refine Go.ifc K e0_29 (fun (c29 : (1 : Int32) = (0 : Int32)) => ?_) (fun (c29 : ¬ (1 : Int32) = (0 : Int32)) => ?_)
    · exact absurd c29 (by decide)
    · refine Go.bipush K e0_32 (101) (by first | rfl | decide) ?_
      refine Go.goto K e0_34 ?_
      refine Go.castore K A20 2 (by decide) (by decide) (by simp) (by decide) e0_39 (fun h22 W22 A22 => ?_)
      have O23 := O21.wr W22 qa16
      refine Go.aloadN K e0_40 rfl rfl ?_
      refine Go.iconst K e0_41 (3) (by first | rfl | decide) ?_
      refine Go.iloadN K e0_42 rfl ?_
      refine Go.ifc K e0_43 (fun (c43 : (1 : Int32) = (0 : Int32)) => ?_) (fun (c43 : ¬ (1 : Int32) = (0 : Int32)) => ?_)
      · exact absurd c43 (by decide)
      · refine Go.bipush K e0_46 (109) (by first | rfl | decide) ?_
        refine Go.goto K e0_48 ?_
        refine Go.castore K A22 3 (by decide) (by decide) (by simp) (by decide) e0_53 (fun h24 W24 A24 => ?_)
        have O25 := O23.wr W24 qa16
        refine Go.newO K (hw _ (List.mem_of_getElem? (i := 1) rfl)) (hw _ (List.mem_of_getElem? (i := 2) rfl)) (hw _ (List.mem_of_getElem? (i := 3) rfl)) e0_54 (by decide) (by decide) (fun h26 E26 ⟨X26, D26⟩ => ?_)
        have F26_0 : Fld Z h26 h24.size "java/lang/String" "coder" "B" (.int 0) := D26 (Or.inr (hw _ (List.mem_of_getElem? (i := 27) rfl))) (ty := .byte) (by decide)
        have F26_1 : Fld Z h26 h24.size "java/lang/String" "value" "[B" (.null) := D26 (Or.inr (hw _ (List.mem_of_getElem? (i := 29) rfl))) (ty := .array (.byte)) (by decide)
        have A27_0 := A24.ext E26
        have O27 := O25.ext E26
        obtain ⟨x26, g26⟩ : ∃ z, z = h24.size := ⟨_, rfl⟩
        rw [← g26] at X26 F26_0 F26_1 ⊢
        have l26_x16 : x16 < x26 := by rw [g26]; exact A24.lt
        have qa26 : n0 ≤ x26 := by rw [g26]; exact Old.le O25
        refine Go.dup K e0_57 rfl ?_
        refine Go.aloadN K e0_58 rfl rfl ?_
        have Ac : Arv Z h26 x16 k16 .char 4 [.int (nar .char (115 : Int32)), .int (nar .char (116 : Int32)), .int (nar .char (101 : Int32)), .int (nar .char (109 : Int32))] (.int 0) := A27_0
        rw [show nar .char (115 : Int32) = 115 from by decide, show nar .char (116 : Int32) = 116 from by decide, show nar .char (101 : Int32) = 101 from by decide, show nar .char (109 : Int32) = 109 from by decide] at Ac
        refine Go.strInit K (hw _ (List.mem_of_getElem? (i := 4) rfl)) (hw _ (List.mem_of_getElem? (i := 5) rfl)) hws1 (kI := 4) (hw _ (List.mem_of_getElem? (i := 2) rfl)) (cs := csOf true) (n := 4) O27 qa26 X26 F26_1 F26_0 Ac St hz rfl rfl (by decide) (by decide) (by decide) (by simp) e0_59 rfl (by decide) (Nat.le_of_ble_eq_true rfl) (by decide) (by decide) (fun h5 L5 t5 kb5 N5 K5 O5 x5 y5 z5 u5 v5 w5 => ?_)
        have T5 : Str Z h5 x26 t5 kb5 (csOf true) := ⟨x5, v5, y5, by rw [List.map_map] at w5; exact w5, by decide, by decide⟩
        refine Go.astoreN K #[.val (.int i0), .val (.int 1), .val (.ref x16), .val (.ref x26), .unset, .unset] e0_62 rfl rfl ?_
        refine Go.iloadN K e0_63 rfl ?_
        refine Go.ifc K e0_64 (fun (c64 : (1 : Int32) = (0 : Int32)) => ?_) (fun (c64 : ¬ (1 : Int32) = (0 : Int32)) => ?_)
        · exact absurd c64 (by decide)
        · refine Go.getS K (hw _ (List.mem_of_getElem? (i := 69) rfl)) Via.refl (D.2.2.1.ext O5.2) e0_67 ?_
          refine Go.goto K e0_70 ?_
          refine Go.astore K #[.val (.int i0), .val (.int 1), .val (.ref x16), .val (.ref x26), .val (.ref sm), .unset] e0_76 rfl rfl ?_
          refine Go.aloadN K e0_78 rfl rfl ?_
          refine Go.call K hE (Inv.static (argsL := [.ref x26]) (S := []) K.1 (hw _ (List.mem_of_getElem? (i := 33) rfl)) (hw _ (List.mem_of_getElem? (i := 34) rfl)) (hw _ (List.mem_of_getElem? (i := 31) rfl)) (hw _ (List.mem_of_getElem? (i := 35) rfl)) (by decide) (lenOf pd_2 rfl) (hb K.2.1 at_79)) (kOf l Z a0 hw _ n0 O5 z St hz va sp sm kp km tp tm clV kbp kbm D true x26 t5 kb5 T5) nofun (hw _ (List.mem_of_getElem? (i := 35) rfl)) (hw _ (List.mem_of_getElem? (i := 31) rfl)) at_79 rfl (by decide) (Nat.le_of_ble_eq_true rfl) (by decide) (by decide) ?_
          rintro _ h29 _ _ ⟨rfl, rfl, rfl, E29⟩
          show Go false p l e _ s m _ below meth c Z [] _ _ _ (mkF m 82 _ [.ref sm]) _ _ _ _
          have O29 := O5.ext E29
          have T29 := T5.ext E29
          refine Go.astore K #[.val (.int i0), .val (.int 1), .val (.ref x16), .val (.ref x26), .val (.ref sm), .val (.ref sm)] e0_82 rfl rfl ?_
          refine Go.aload K e0_84 rfl rfl ?_
          refine Go.aload K e0_86 rfl rfl ?_
          refine Go.acmp K rfl rfl e0_88 (fun _ => ?_) (fun q => absurd q (by simp))
          refine Go.aload K e0_93 rfl rfl ?_
          refine Go.call K hE (Inv.virtual (argsL := []) (S := []) K.1 (hw _ (List.mem_of_getElem? (i := 63) rfl)) (hw _ (List.mem_of_getElem? (i := 64) rfl)) (Inv.nf (hw _ (List.mem_of_getElem? (i := 72) rfl))) (hw _ (List.mem_of_getElem? (i := 72) rfl)) (hw _ (List.mem_of_getElem? (i := 65) rfl)) (by decide) (D.2.2.2.2.2.2.2.2.2.2.1.ext O29.2) (lenOf pd_3 rfl) (hb K.2.1 at_95)) (kKey l Z a0 hw _ sm km (D.2.2.2.2.2.2.2.2.2.2.2.2.1.ext O29.2)) nofun (hw _ (List.mem_of_getElem? (i := 67) rfl)) (hw _ (List.mem_of_getElem? (i := 31) rfl)) at_95 rfl (by decide) (Nat.le_of_ble_eq_true rfl) (by decide) (by decide) ?_
          rintro _ hq _ _ ⟨rfl, eh, rfl, rfl⟩
          subst hq
          show Go false p l e _ s m _ below meth c Z [] _ _ _ (mkF m 98 _ [.ref km]) _ _ _ _
          refine Go.call K hE (Inv.static (argsL := [.ref km]) (S := []) K.1 (hw _ (List.mem_of_getElem? (i := 33) rfl)) (hw _ (List.mem_of_getElem? (i := 34) rfl)) (hw _ (List.mem_of_getElem? (i := 31) rfl)) (hw _ (List.mem_of_getElem? (i := 35) rfl)) (by decide) (lenOf pd_2 rfl) (hb K.2.1 at_98)) (kOf l Z a0 hw _ n0 O29 z St hz va sp sm kp km tp tm clV kbp kbm D true km tm kbm (D.2.2.2.2.2.2.2.2.2.2.2.2.2.2.ext O29.2)) nofun (hw _ (List.mem_of_getElem? (i := 35) rfl)) (hw _ (List.mem_of_getElem? (i := 31) rfl)) at_98 rfl (by decide) (Nat.le_of_ble_eq_true rfl) (by decide) (by decide) ?_
          rintro _ h30 _ _ ⟨rfl, rfl, rfl, E30⟩
          show Go false p l e _ s m _ below meth c Z [] _ _ _ (mkF m 101 _ [.ref sm]) _ _ _ _
          have O30 := O29.ext E30
          have T30 := T29.ext E30
          refine Go.aload K e0_101 rfl rfl ?_
          refine Go.acmp K rfl rfl e0_103 (fun _ => ?_) (fun q => absurd q (by simp))
          refine Go.aload K e0_108 rfl rfl ?_
          refine Go.call K hE (Inv.virtual (argsL := []) (S := []) K.1 (hw _ (List.mem_of_getElem? (i := 63) rfl)) (hw _ (List.mem_of_getElem? (i := 64) rfl)) (Inv.nf (hw _ (List.mem_of_getElem? (i := 72) rfl))) (hw _ (List.mem_of_getElem? (i := 72) rfl)) (hw _ (List.mem_of_getElem? (i := 65) rfl)) (by decide) (D.2.2.2.2.2.2.2.2.2.2.1.ext O30.2) (lenOf pd_3 rfl) (hb K.2.1 at_110)) (kKey l Z a0 hw _ sm km (D.2.2.2.2.2.2.2.2.2.2.2.2.1.ext O30.2)) nofun (hw _ (List.mem_of_getElem? (i := 67) rfl)) (hw _ (List.mem_of_getElem? (i := 31) rfl)) at_110 rfl (by decide) (Nat.le_of_ble_eq_true rfl) (by decide) (by decide) ?_
          rintro _ hq _ _ ⟨rfl, eh, rfl, rfl⟩
          subst hq
          show Go false p l e _ s m _ below meth c Z [] _ _ _ (mkF m 113 _ [.ref km]) _ _ _ _
          refine Go.aloadN K e0_113 rfl rfl ?_
          refine Go.strEq K (hw _ (List.mem_of_getElem? (i := 68) rfl)) (hw _ (List.mem_of_getElem? (i := 54) rfl)) (hw _ (List.mem_of_getElem? (i := 56) rfl)) (hw _ (List.mem_of_getElem? (i := 55) rfl)) hws (kI := 4) (hw _ (List.mem_of_getElem? (i := 2) rfl)) (D.2.2.2.2.2.2.2.2.2.2.2.2.2.2.ext O30.2) T30 (St.ext O30.2) hz e0_114 rfl (by decide) (Nat.le_of_ble_eq_true rfl) (by decide) (by decide) (fun _ => ?_) (fun q => absurd rfl q)
          exact Go.nret K hE e0_117 (Or.inl rfl) (by decide) (by decide) (A := []) nofun ⟨rfl, by simpa using ((((((Fr.s (Fr.s (Fr.s (Fr.s (Fr.nil n0) qa16) qa16) qa16) qa16).app N5).app (Fr.nil n0)).app (Fr.nil n0)).app (Fr.nil n0)).app (Fr.nil n0))⟩
section Start
theorem eqI {args : Array Value} {s : State} {a : Term} {n : Int32} (h : (Jvm.Cond.eq a (.int n)).value args s none s [] = some true) : a.eval args s none [] s = some (.int n) := Cond.eq_int (Cond.before_iff.mpr h) rfl
theorem len_sz {args : Array Value} {s : State} {t : Term} {a : Addr} {cl : Cell} {k : Int32} (h : (Term.length t).eval args s none [] s = some (.int k)) (ht : t.eval args s none [] s = some (.ref a)) (ha : s.arrayAt? a = some cl) : cl.slots.size < 2 ^ 31 ∧ cl.slots.size.toInt32 = k := by
  by_cases q : cl.slots.size < 2 ^ 31
  · rw [len_f ht ha q] at h; exact ⟨q, by cases h; rfl⟩
  · simp [Term.eval, ht, ha, q] at h
theorem arr_at {s : State} {a : Addr} {cl : Cell} {ty : FieldType} (A : Arr s s.heap a cl ty) : s.arrayAt? a = some cl := Arr.fin (Vm.Alike.refl _) A
theorem at_in {args : Array Value} {s : State} {t : Term} {a : Addr} {cl : Cell} {ty : FieldType} {j : Int32} {v : Value} (A : Arr s s.heap a cl ty) (ht : t.eval args s none [] s = some (.ref a)) (h : (Term.elem t (.int j)).eval args s none [] s = some v) : cl.slots[j.toNatClampNeg]? = some v := (elem_in h ht rfl A.1).2
end Start
theorem str4 {s : State} {args : Array Value} (hf : Fit s) {t : Term} {k : Addr} {c0 c1 c2 c3 : Int32} (ek : t.eval args s none [] s = some (.ref k)) (n1 : (Jvm.Cond.exactly t "java/lang/String").value args s none s [] = some true) (n2 : (Jvm.Cond.eq (.field t "java/lang/String" "coder" "B") (.int 0)).value args s none s [] = some true) (n3 : (Jvm.Cond.arrayOf (.field t "java/lang/String" "value" "[B") .byte).value args s none s [] = some true) (n4 : (Jvm.Cond.eq (.length (.field t "java/lang/String" "value" "[B")) (.int 4)).value args s none s [] = some true)
    (m0 : (Jvm.Cond.eq (.elem (.field t "java/lang/String" "value" "[B") (.int 0)) (.int c0)).value args s none s [] = some true) (m1 : (Jvm.Cond.eq (.elem (.field t "java/lang/String" "value" "[B") (.int 1)) (.int c1)).value args s none s [] = some true) (m2 : (Jvm.Cond.eq (.elem (.field t "java/lang/String" "value" "[B") (.int 2)) (.int c2)).value args s none s [] = some true) (m3 : (Jvm.Cond.eq (.elem (.field t "java/lang/String" "value" "[B") (.int 3)) (.int c3)).value args s none s [] = some true) :
    ∃ (tp : Addr) (kb : ClassId), Exa s s.heap k "java/lang/String" ∧ Fld s s.heap k "java/lang/String" "value" "[B" (.ref tp) ∧ Fld s s.heap k "java/lang/String" "coder" "B" (.int 0) ∧ Arv s s.heap tp kb .byte 4 [.int c0, .int c1, .int c2, .int c3] (.int 0) := by
  obtain ⟨tp, et⟩ := arr_v n3
  obtain ⟨cl, A⟩ := Arr.start et n3
  obtain ⟨z1, z2⟩ := len_sz (eqI n4) et (arr_at A)
  refine ⟨tp, cl.cls, Exa.start ek n1, Fld.start (by rw [← fld_at ek]; exact et), Fld.start (by rw [← fld_at ek]; exact eqI n2), Arv.start hf A z1 z2 (by decide) rfl ⟨at_in A et (eqI m0), at_in A et (eqI m1), at_in A et (eqI m2), at_in A et (eqI m3), trivial⟩⟩
set_option maxRecDepth 65536 in
set_option maxHeartbeats 40000000 in
theorem comes_1 {Post : Tables → Env → Array Value → State → Outcome → State → Prop} (hpost : ∀ tb e args s v u, (limb_1_1.after args s (.returned v) u = true ∧ limb_1_2.after args s (.returned v) u = true) → FrameEnd s (.returned v) u (Jvm.fieldLocs frame_1_writes args s ++ Jvm.arrayLocs frame_1_arrays args s ++ Jvm.staticLocs frame_1_statics s) 24 128 → Post tb e args s (.returned v) u) :
    ArmFor flags0 classFile x code maxLocals ret World_1 tables_1 room_1 Calls_1 rest_1 Pre_1 Post := by
  intro l hfl _ _ p e ha hc hk s m args below hf hA hF happ hP
  obtain ⟨hcalls, hrest, hpre⟩ := hP
  obtain ⟨-, -, -, hnamed, -, -, -, hat⟩ := (Spec.applies_iff hf).mp happ
  obtain ⟨hg, hn⟩ := and_e (Cond.before_iff.mp (show (Jvm.Cond.and given_1 narrow_1).before args s = true from hpre))
  obtain ⟨h1, h2⟩ := and_e hg
  obtain ⟨w0, rfl⟩ : ∃ w0 : Value, args = #[w0] := by
    have hs : args.size = 1 := by simpa [Cond.value, given_1] using h1
    obtain ⟨L⟩ := args
    match L, hs with
    | [w0], _ => exact ⟨w0, rfl⟩
  have hw := fun d (hd : d ∈ tables_1) => atoms_spec (ws := Jvm.Cond.code x code maxLocals ret :: tables_1) hat d (List.mem_cons_of_mem _ hd)
  obtain ⟨hsets, -⟩ := atoms_of jdkStatics_1 (show (jdkStatics_1.foldr Jvm.Cond.and restOwn_1).before _ s = true from hrest)
  have hfit : Fit s := fun {y c} hc i hi => by
    obtain ⟨ha, rfl⟩ := Array.getElem?_eq_some_iff.mp hc
    have q := List.all_eq_true.mp ((Array.all_eq_true_iff_forall_mem.mp hF) _ (Array.getElem_mem ha)) i (List.mem_range.mpr hi)
    simpa [Array.getElem?_eq_getElem hi] using q
  obtain ⟨i0, e0⟩ := is_v h2
  obtain rfl : w0 = (.int i0) := Option.some.inj e0
  obtain ⟨z, ez⟩ := is_v (Cond.before_iff.mp (hsets _ (List.mem_of_getElem? (i := 1) rfl)))
  have St : Sta s s.heap "java/lang/String" "COMPACT_STRINGS" "Z" (.int z) := Sta.start ez (Or.inl (hsets _ (List.mem_of_getElem? (i := 0) rfl)))
  have hz : ¬ z = 0 := fun q => by
    have r := not_v (Cond.before_iff.mp (hsets _ (List.mem_of_getElem? (i := 2) rfl)))
    have r2 := (eq_i ez (Term.int_eval (0 : Int32)) (by rw [q]))
    rw [r] at r2
    cases r2
  obtain ⟨n1, hn⟩ := and_e (show (Jvm.Cond.and _ _).value _ _ _ _ _ = _ from hn)
  obtain ⟨n2, hn⟩ := and_e hn
  obtain ⟨n3, hn⟩ := and_e hn
  obtain ⟨n4, hn⟩ := and_e hn
  obtain ⟨n5, hn⟩ := and_e hn
  obtain ⟨n6, hn⟩ := and_e hn
  obtain ⟨p1, hn⟩ := and_e hn
  obtain ⟨p2, hn⟩ := and_e hn
  obtain ⟨p3, hn⟩ := and_e hn
  obtain ⟨p4, hn⟩ := and_e hn
  obtain ⟨p5, hn⟩ := and_e hn
  obtain ⟨p6, hn⟩ := and_e hn
  obtain ⟨p7, hn⟩ := and_e hn
  obtain ⟨p8, hn⟩ := and_e hn
  obtain ⟨n7, hn⟩ := and_e hn
  obtain ⟨m1, hn⟩ := and_e hn
  obtain ⟨m2, hn⟩ := and_e hn
  obtain ⟨m3, hn⟩ := and_e hn
  obtain ⟨m4, hn⟩ := and_e hn
  obtain ⟨m5, hn⟩ := and_e hn
  obtain ⟨m6, hn⟩ := and_e hn
  obtain ⟨m7, hn⟩ := and_e hn
  obtain ⟨m8, -⟩ := and_e hn
  obtain ⟨sp, esp⟩ := exa_v n1
  obtain ⟨va, eva⟩ := arr_v n2
  obtain ⟨clV, AV⟩ := Arr.start eva n2
  obtain ⟨z1, z2⟩ := len_sz (eqI n4) eva (arr_at AV)
  have sz : clV.slots.size = 2 := by
    have q : clV.slots.size.toInt32.toInt = 2 := by rw [z2]; decide
    rw [len_toInt z1] at q; omega
  obtain ⟨sm, esm⟩ := exa_v n6
  obtain ⟨v5, u5, ev5, eu5, k5, -⟩ := cmp_v (Or.inl n5)
  cases esp.symm.trans eu5
  have hv5 : v5 = .ref sp := by
    have r5 : v5.isRef = true := by cases v5 <;> simp [Kin] at k5 <;> first | rfl | exact k5.1
    exact gotT (eq_R ev5 esp r5 rfl) n5
  subst hv5
  obtain ⟨v7, u7, ev7, eu7, k7, -⟩ := cmp_v (Or.inl n7)
  cases esm.symm.trans eu7
  have hv7 : v7 = .ref sm := by
    have r7 : v7.isRef = true := by cases v7 <;> simp [Kin] at k7 <;> first | rfl | exact k7.1
    exact gotT (eq_R ev7 esm r7 rfl) n7
  subst hv7
  obtain ⟨kp, ekp⟩ := exa_v p1
  obtain ⟨km, ekm⟩ := exa_v m1
  obtain ⟨tp, kbp, sp1, sp2, sp3, sp4⟩ := str4 hfit ekp p1 p2 p3 p4 p5 p6 p7 p8
  obtain ⟨tm, kbm, sm1, sm2, sm3, sm4⟩ := str4 hfit ekm m1 m2 m3 m4 m5 m6 m7 m8
  have D : Wd s va sp sm kp km tp tm clV kbp kbm := by
    refine ⟨Sta.start eva (Or.inl (hw _ (List.mem_of_getElem? (i := 48) rfl))), Sta.start esp (Or.inr ⟨hw _ (List.mem_of_getElem? (i := 31) rfl), hw _ (List.mem_of_getElem? (i := 32) rfl)⟩), Sta.start ev7 (Or.inr ⟨hw _ (List.mem_of_getElem? (i := 31) rfl), hw _ (List.mem_of_getElem? (i := 70) rfl)⟩), AV, Exa.start eva n3, FitC.start hfit AV, sz, at_in AV eva ev5, at_in AV eva esm, Exa.start esp n1, Exa.start esm n6, Fld.start (by rw [← fld_at esp]; exact ekp), Fld.start (by rw [← fld_at esm]; exact ekm), ⟨sp1, sp2, sp3, sp4, by decide, by decide⟩, ⟨sm1, sm2, sm3, sm4, by decide, by decide⟩⟩
  obtain ⟨n, o, h1, h2, h3, v, L, A, rfl, ⟨rfl, N⟩, -, -, hq⟩ := k0 l s _ hw tables_1 s.heap s.heap.size (Old.start s) z St hz va sp sm kp km tp tm clV kbp kbm D i0 p e ha hc hk s m _ below hf ((Spec.applies_iff_loose hf).mp happ).1 ⟨rfl, State.Warmed39.refl s, rfl, chv0, Sl.nil⟩ trivial
  obtain ⟨q1, q2, q3⟩ := (show FrameEnd _ _ _ _ _ _ from hq)
  refine ⟨n, _, h1, h2, h3, hpost _ _ _ _ _ _ ⟨Cond.after_iff.mpr rfl, Cond.after_iff.mpr (eq_i res_at (Term.int_eval (1)) rfl)⟩ ⟨q1, q2, (q3.sift fun y hy => Or.inr (N y hy)).mono (by decide) (by decide)⟩⟩
theorem main_1_1 : Claimed_1_1 := comes_1 fun _ _ _ _ _ _ h hF => ⟨h.1, hF⟩
theorem main_1_2 : Claimed_1_2 := comes_1 fun _ _ _ _ _ _ h hF => ⟨h.2, hF⟩
end Jvm.Pilot.@@N@@
namespace Jvm.Pilot.@@N@@
open Jvm Jvm.ClassFile Sem Op Lib Jvm.Free Jvm.Stand Jvm.Pilot.@@N@@.Jvm.D
/-! MADE BY PROGRAM (witnessworld.py) out of the Statement's table words and the real class files: 24 classes; the members and pool entries that the words name. The judged class is class 1, her method 1. -/
namespace start1
open Jvm.ClassFile
def u (s : String) : CpInfo := .utf8 (stringToUtf16 s)
/-- a pool by its gaps: so many unusable entries, then the entry; so many at the end -/
def gap : Nat → List CpInfo → List CpInfo
  | 0, r => r
  | n + 1, r => .unusable :: gap n r
def poolList (es : List (Nat × CpInfo)) (last : Nat) : List CpInfo := es.foldr (fun e r => gap e.1 (e.2 :: r)) (gap last [])
def pool (es : List (Nat × CpInfo)) (last : Nat) : Array CpInfo := ⟨poolList es last⟩
def fileOf (pool : Array CpInfo) (this : Nat) (attrs : Array Attribute := #[]) (ms : Array MethodInfo := #[]) (fl : Nat := 33) (sup : Nat := 0) (ifs : Array Nat := #[]) (fds : Array FieldInfo := #[]) : ClassFile where
  minorVersion := 0
  majorVersion := 65
  constantPool := pool
  accessFlags := fl
  thisClass := this
  superClass := sup
  interfaces := ifs
  fields := fds
  methods := ms
  attributes := attrs
def plain (name : String) (sup : Option ClassId) : Class where
  name := name
  kind := .ordinary
  loader := none
  accessFlags := 33
  super := sup
  interfaces := #[]
  cf := none
  fields := #[]
  methods := #[]
  instanceTypes := #[]
  staticTypes := #[]
  resolved := #[]
  callSites := []
  init := .initialized
  statics := none
  mirror := none

def pool0 : Array CpInfo := pool [(5, u "<init>"), (0, u "()V"), (1, .class_ 10), (1, u "java/lang/Object"), (85, u "clone"), (0, u "()Ljava/lang/Object;")] 26

def k0c0 : Code := { maxStack := 0, maxLocals := 1, code := object_method_1_code, exceptionTable := #[], attributes := #[] }
def k0m0 : Method := { name := "<init>", desc := "()V", sig := { parameters := [], returnType := none }, accessFlags := 1, code := some k0c0 }
def k0m1 : Method := { name := "clone", desc := "()Ljava/lang/Object;", sig := { parameters := [], returnType := some (.object "java/lang/Object") }, accessFlags := 260, code := none }
/-- java/lang/Object -/
def k0 : Class := { plain "java/lang/Object" none with
  accessFlags := 33
  interfaces := #[]
  cf := some (fileOf pool0 8 #[] #[{ accessFlags := 1, nameIndex := 5, descriptorIndex := 6, attributes := #[] }, { accessFlags := 260, nameIndex := 96, descriptorIndex := 97, attributes := #[] }] 33 0 #[] #[])
  fields := #[]
  methods := #[k0m0, k0m1]
  instanceTypes := #[]
  staticTypes := #[]
  resolved := Array.replicate 124 none
  statics := none }

def pool1 : Array CpInfo := pool [(2, .class_ 4), (1, u "java/lang/Object"), (0, u "<init>"), (0, u "()V"), (0, .class_ 8), (0, u "java/lang/String"), (0, .methodref 7 10), (0, .nameAndType 5 11), (0, u "([C)V"), (0, .fieldref 13 14), (0, .class_ 15), (0, .nameAndType 16 17), (0, u "com/example/even_norm/evennorm/text/TermFilter"), (0, u "STEM"), (0, u "Lcom/example/even_norm/evennorm/text/TermFilter;"), (0, .fieldref 13 19), (0, .nameAndType 20 17), (0, u "STOP"), (0, .methodref 13 22), (0, .nameAndType 23 24), (0, u "of"), (0, u "(Ljava/lang/String;)Lcom/example/even_norm/evennorm/text/TermFilter;"), (0, .methodref 13 26), (0, .nameAndType 27 28), (0, u "key"), (0, u "()Ljava/lang/String;"), (0, .methodref 7 30), (0, .nameAndType 31 32), (0, u "equals"), (0, u "(Ljava/lang/Object;)Z"), (0, .class_ 34), (0, u "com/example/even_norm/evennorm/text/TermFilterOfPinLaw"), (2, u "law"), (0, u "(I)Z")] 5

def k1m0 : Method := { name := "<init>", desc := "()V", sig := { parameters := [], returnType := none }, accessFlags := 1, code := none }
def k1c1 : Code := { maxStack := 3, maxLocals := 6, code := code, exceptionTable := #[], attributes := #[] }
def k1m1 : Method := { name := "law", desc := "(I)Z", sig := { parameters := [.int], returnType := some .boolean }, accessFlags := 9, code := some k1c1 }
/-- com/example/even_norm/evennorm/text/TermFilterOfPinLaw -/
def k1 : Class := { plain "com/example/even_norm/evennorm/text/TermFilterOfPinLaw" (some 0) with
  accessFlags := 49
  interfaces := #[]
  cf := some (fileOf pool1 33 #[] #[{ accessFlags := 1, nameIndex := 5, descriptorIndex := 6, attributes := #[] }, { accessFlags := 9, nameIndex := 37, descriptorIndex := 38, attributes := #[] }] 49 2 #[] #[])
  fields := #[]
  methods := #[k1m0, k1m1]
  instanceTypes := #[]
  staticTypes := #[]
  resolved := Array.replicate 44 none
  statics := none }

def pool2 : Array CpInfo := pool [(1, .class_ 2), (0, u "java/io/Serializable"), (0, .class_ 4), (0, u "java/lang/Object")] 2

/-- java/io/Serializable -/
def k2 : Class := { plain "java/io/Serializable" (some 0) with
  accessFlags := 1537
  interfaces := #[]
  cf := some (fileOf pool2 1 #[] #[] 1537 3 #[] #[])
  fields := #[]
  methods := #[]
  instanceTypes := #[]
  staticTypes := #[]
  resolved := Array.replicate 7 none
  statics := none }

def pool3 : Array CpInfo := pool [(1, .class_ 2), (0, u "java/lang/Comparable"), (0, .class_ 4), (0, u "java/lang/Object")] 7

/-- java/lang/Comparable -/
def k3 : Class := { plain "java/lang/Comparable" (some 0) with
  accessFlags := 1537
  interfaces := #[]
  cf := some (fileOf pool3 1 #[] #[] 1537 3 #[] #[])
  fields := #[]
  methods := #[]
  instanceTypes := #[]
  staticTypes := #[]
  resolved := Array.replicate 12 none
  statics := none }

def pool4 : Array CpInfo := pool [(2, .class_ 4), (1, u "java/lang/CharSequence"), (42, .class_ 48), (0, u "java/lang/CharSequence$1CodePointIterator"), (10, .class_ 60), (0, u "java/lang/CharSequence$1CharIterator"), (5, .class_ 67), (0, u "java/lang/Object")] 63

/-- java/lang/CharSequence -/
def k4 : Class := { plain "java/lang/CharSequence" (some 0) with
  accessFlags := 1537
  interfaces := #[]
  cf := some (fileOf pool4 2 #[.nestMembers #[47, 59]] #[] 1537 66 #[] #[])
  fields := #[]
  methods := #[]
  instanceTypes := #[]
  staticTypes := #[]
  resolved := Array.replicate 131 none
  statics := none }

def pool5 : Array CpInfo := pool [(1, .class_ 2), (0, u "java/lang/constant/Constable"), (0, .class_ 4), (0, u "java/lang/Object")] 6

/-- java/lang/constant/Constable -/
def k5 : Class := { plain "java/lang/constant/Constable" (some 0) with
  accessFlags := 1537
  interfaces := #[]
  cf := some (fileOf pool5 1 #[] #[] 1537 3 #[] #[])
  fields := #[]
  methods := #[]
  instanceTypes := #[]
  staticTypes := #[]
  resolved := Array.replicate 11 none
  statics := none }

def pool6 : Array CpInfo := pool [(1, .class_ 2), (0, u "java/lang/constant/ConstantDesc"), (0, .class_ 4), (0, u "java/lang/Object")] 32

/-- java/lang/constant/ConstantDesc -/
def k6 : Class := { plain "java/lang/constant/ConstantDesc" (some 0) with
  accessFlags := 1537
  interfaces := #[]
  cf := some (fileOf pool6 1 #[] #[] 1537 3 #[] #[])
  fields := #[]
  methods := #[]
  instanceTypes := #[]
  staticTypes := #[]
  resolved := Array.replicate 37 none
  statics := none }

def pool7 : Array CpInfo := pool [(1, .methodref 2 3), (0, .class_ 4), (0, .nameAndType 5 6), (0, u "java/lang/Object"), (0, u "<init>"), (0, u "()V"), (2, .fieldref 10 11), (0, .class_ 12), (0, .nameAndType 13 14), (0, u "java/lang/String"), (0, u "value"), (0, u "[B"), (0, .fieldref 10 16), (0, .nameAndType 17 18), (0, u "coder"), (0, u "B"), (2, u "hash"), (0, u "I"), (2, u "hashIsZero"), (0, u "Z"), (0, .methodref 10 28), (0, .nameAndType 5 29), (0, u "([CIILjava/lang/Void;)V"), (8, .fieldref 10 39), (0, .nameAndType 40 26), (0, u "COMPACT_STRINGS"), (1, .class_ 44), (1, u "java/lang/StringUTF16"), (0, u "compress"), (1, .methodref 42 48), (0, .nameAndType 49 50), (0, u "coderFromArrayLen"), (0, u "([BI)B"), (56, .class_ 109), (1, u "java/lang/StringLatin1"), (67, .methodref 42 178), (0, .nameAndType 45 179), (0, u "([CII)[B"), (361, .methodref 107 542), (0, .nameAndType 543 544), (0, u "equals"), (0, u "([B[B)Z"), (28, u "(Ljava/lang/Object;)Z"), (1, .class_ 576), (0, u "java/lang/CharSequence"), (22, u "CASE_INSENSITIVE_ORDER"), (0, u "Ljava/util/Comparator;"), (409, u "([C)V"), (90, u "serialPersistentFields"), (0, u "[Ljava/io/ObjectStreamField;"), (0, .class_ 1104), (0, u "java/lang/String$CaseInsensitiveComparator"), (1, .class_ 1107), (0, u "java/io/Serializable"), (0, .class_ 1109), (0, u "java/lang/Comparable"), (0, .class_ 1111), (0, u "java/lang/constant/Constable"), (0, .class_ 1113), (0, u "java/lang/constant/ConstantDesc"), (2, u "serialVersionUID"), (0, u "J"), (3, u "REPL"), (0, u "C"), (2, u "LATIN1"), (1, u "UTF16")] 323

def k7m0 : Method := { name := "<init>", desc := "()V", sig := { parameters := [], returnType := none }, accessFlags := 1, code := none }
def k7c1 : Code := { maxStack := 5, maxLocals := 2, code := jdk_42_method_3_code, exceptionTable := #[], attributes := #[] }
def k7m1 : Method := { name := "<init>", desc := "([C)V", sig := { parameters := [(.array .char)], returnType := none }, accessFlags := 1, code := some k7c1 }
def k7c2 : Code := { maxStack := 2, maxLocals := 3, code := jdk_42_method_66_code, exceptionTable := #[], attributes := #[] }
def k7m2 : Method := { name := "equals", desc := "(Ljava/lang/Object;)Z", sig := { parameters := [(.object "java/lang/Object")], returnType := some .boolean }, accessFlags := 1, code := some k7c2 }
def k7c3 : Code := { maxStack := 4, maxLocals := 6, code := jdk_42_method_149_code, exceptionTable := #[], attributes := #[] }
def k7m3 : Method := { name := "<init>", desc := "([CIILjava/lang/Void;)V", sig := { parameters := [(.array .char), .int, .int, (.object "java/lang/Void")], returnType := none }, accessFlags := 2, code := some k7c3 }
/-- java/lang/String -/
def k7 : Class := { plain "java/lang/String" (some 0) with
  accessFlags := 49
  interfaces := #[2, 3, 4, 5, 6]
  cf := some (fileOf pool7 10 #[.nestMembers #[1103]] #[{ accessFlags := 1, nameIndex := 5, descriptorIndex := 6, attributes := #[] }, { accessFlags := 1, nameIndex := 5, descriptorIndex := 1010, attributes := #[] }, { accessFlags := 1, nameIndex := 543, descriptorIndex := 573, attributes := #[] }, { accessFlags := 2, nameIndex := 5, descriptorIndex := 29, attributes := #[] }] 49 2 #[1106, 1108, 575, 1110, 1112] #[{ accessFlags := 18, nameIndex := 13, descriptorIndex := 14, attributes := #[] }, { accessFlags := 18, nameIndex := 17, descriptorIndex := 18, attributes := #[] }, { accessFlags := 2, nameIndex := 21, descriptorIndex := 22, attributes := #[] }, { accessFlags := 2, nameIndex := 25, descriptorIndex := 26, attributes := #[] }, { accessFlags := 26, nameIndex := 1116, descriptorIndex := 1117, attributes := #[] }, { accessFlags := 24, nameIndex := 40, descriptorIndex := 26, attributes := #[] }, { accessFlags := 26, nameIndex := 1101, descriptorIndex := 1102, attributes := #[] }, { accessFlags := 26, nameIndex := 1121, descriptorIndex := 1122, attributes := #[] }, { accessFlags := 25, nameIndex := 599, descriptorIndex := 600, attributes := #[] }, { accessFlags := 24, nameIndex := 1125, descriptorIndex := 18, attributes := #[] }, { accessFlags := 24, nameIndex := 1127, descriptorIndex := 18, attributes := #[] }])
  fields := #[{ name := "value", type := (.array .byte), accessFlags := 18, slot := 0, constantValue := 0 }, { name := "coder", type := .byte, accessFlags := 18, slot := 1, constantValue := 0 }, { name := "hash", type := .int, accessFlags := 2, slot := 2, constantValue := 0 }, { name := "hashIsZero", type := .boolean, accessFlags := 2, slot := 3, constantValue := 0 }, { name := "serialVersionUID", type := .long, accessFlags := 26, slot := 0, constantValue := 0 }, { name := "COMPACT_STRINGS", type := .boolean, accessFlags := 24, slot := 1, constantValue := 0 }, { name := "serialPersistentFields", type := (.array (.object "java/io/ObjectStreamField")), accessFlags := 26, slot := 2, constantValue := 0 }, { name := "REPL", type := .char, accessFlags := 26, slot := 3, constantValue := 0 }, { name := "CASE_INSENSITIVE_ORDER", type := (.object "java/util/Comparator"), accessFlags := 25, slot := 4, constantValue := 0 }, { name := "LATIN1", type := .byte, accessFlags := 24, slot := 5, constantValue := 0 }, { name := "UTF16", type := .byte, accessFlags := 24, slot := 6, constantValue := 0 }]
  methods := #[k7m0, k7m1, k7m2, k7m3]
  instanceTypes := #[(.array .byte), .byte, .int, .boolean]
  staticTypes := #[.long, .boolean, (.array (.object "java/io/ObjectStreamField")), .char, (.object "java/util/Comparator"), .byte, .byte]
  resolved := Array.replicate 1451 none
  statics := some 0 }

def pool8 : Array CpInfo := pool [(6, .class_ 8), (1, u "java/lang/Object"), (0, u "<init>"), (0, u "()V"), (1, .class_ 14), (1, u "java/lang/StringUTF16"), (31, u "$assertionsDisabled"), (0, u "Z"), (13, u "HI_BYTE_SHIFT"), (0, u "I"), (2, u "LO_BYTE_SHIFT"), (49, .methodref 12 116), (0, .nameAndType 117 118), (0, u "compress"), (0, u "([CI[BII)I"), (3, u "([CII)[B"), (138, u "coderFromArrayLen"), (0, u "([BI)B"), (106, .class_ 371), (1, u "java/lang/StringUTF16$LinesSpliterator"), (58, u "MAX_LENGTH"), (196, .class_ 628), (0, u "java/lang/StringUTF16$CodePointsSpliterator"), (0, .class_ 630), (0, u "java/lang/StringUTF16$CharsSpliterator")] 4

def k8m0 : Method := { name := "<init>", desc := "()V", sig := { parameters := [], returnType := none }, accessFlags := 0, code := none }
def k8c1 : Code := { maxStack := 2, maxLocals := 2, code := jdk_52_method_15_code, exceptionTable := #[], attributes := #[] }
def k8m1 : Method := { name := "coderFromArrayLen", desc := "([BI)B", sig := { parameters := [(.array .byte), .int], returnType := some .byte }, accessFlags := 8, code := some k8c1 }
def k8c2 : Code := { maxStack := 5, maxLocals := 6, code := jdk_52_method_16_code, exceptionTable := #[], attributes := #[] }
def k8m2 : Method := { name := "compress", desc := "([CII)[B", sig := { parameters := [(.array .char), .int, .int], returnType := some (.array .byte) }, accessFlags := 9, code := some k8c2 }
def k8c3 : Code := { maxStack := 3, maxLocals := 7, code := jdk_52_method_21_code, exceptionTable := #[], attributes := #[] }
def k8m3 : Method := { name := "compress", desc := "([CI[BII)I", sig := { parameters := [(.array .char), .int, (.array .byte), .int, .int], returnType := some .int }, accessFlags := 9, code := some k8c3 }
/-- java/lang/StringUTF16 -/
def k8 : Class := { plain "java/lang/StringUTF16" (some 0) with
  accessFlags := 48
  interfaces := #[]
  cf := some (fileOf pool8 12 #[.nestMembers #[627, 629, 369]] #[{ accessFlags := 0, nameIndex := 9, descriptorIndex := 10, attributes := #[] }, { accessFlags := 8, nameIndex := 261, descriptorIndex := 262, attributes := #[] }, { accessFlags := 9, nameIndex := 117, descriptorIndex := 122, attributes := #[] }, { accessFlags := 9, nameIndex := 117, descriptorIndex := 118, attributes := #[] }] 48 6 #[] #[{ accessFlags := 26, nameIndex := 61, descriptorIndex := 62, attributes := #[] }, { accessFlags := 26, nameIndex := 65, descriptorIndex := 62, attributes := #[] }, { accessFlags := 24, nameIndex := 430, descriptorIndex := 62, attributes := #[] }, { accessFlags := 4120, nameIndex := 46, descriptorIndex := 47, attributes := #[] }])
  fields := #[{ name := "HI_BYTE_SHIFT", type := .int, accessFlags := 26, slot := 0, constantValue := 0 }, { name := "LO_BYTE_SHIFT", type := .int, accessFlags := 26, slot := 1, constantValue := 0 }, { name := "MAX_LENGTH", type := .int, accessFlags := 24, slot := 2, constantValue := 0 }, { name := "$assertionsDisabled", type := .boolean, accessFlags := 4120, slot := 3, constantValue := 0 }]
  methods := #[k8m0, k8m1, k8m2, k8m3]
  instanceTypes := #[]
  staticTypes := #[.int, .int, .int, .boolean]
  resolved := Array.replicate 635 none
  statics := none }

def pool9 : Array CpInfo := pool [(2, .class_ 4), (1, u "java/lang/Enum"), (0, u "name"), (0, u "Ljava/lang/String;"), (2, u "ordinal"), (0, u "I"), (1, .class_ 14), (1, u "java/lang/Object"), (4, u "hash"), (86, .class_ 108), (1, u "java/lang/Enum$EnumDesc"), (2, .class_ 112), (0, u "java/lang/constant/Constable"), (0, .class_ 114), (0, u "java/lang/Comparable"), (0, .class_ 116), (0, u "java/io/Serializable")] 87

/-- java/lang/Enum -/
def k9 : Class := { plain "java/lang/Enum" (some 0) with
  accessFlags := 1057
  interfaces := #[5, 3, 2]
  cf := some (fileOf pool9 2 #[.nestMembers #[106]] #[] 1057 12 #[111, 113, 115] #[{ accessFlags := 18, nameIndex := 5, descriptorIndex := 6, attributes := #[] }, { accessFlags := 18, nameIndex := 9, descriptorIndex := 10, attributes := #[] }, { accessFlags := 2, nameIndex := 19, descriptorIndex := 10, attributes := #[] }])
  fields := #[{ name := "name", type := (.object "java/lang/String"), accessFlags := 18, slot := 0, constantValue := 0 }, { name := "ordinal", type := .int, accessFlags := 18, slot := 1, constantValue := 0 }, { name := "hash", type := .int, accessFlags := 2, slot := 2, constantValue := 0 }]
  methods := #[]
  instanceTypes := #[(.object "java/lang/String"), .int, .int]
  staticTypes := #[]
  resolved := Array.replicate 204 none
  statics := none }

def pool10 : Array CpInfo := pool [(1, .class_ 2), (0, u "com/example/even_norm/evennorm/text/TermFilter"), (2, u "STOP"), (0, u "Lcom/example/even_norm/evennorm/text/TermFilter;"), (2, u "STEM"), (0, .fieldref 1 11), (0, .nameAndType 12 13), (0, u "$VALUES"), (0, u "[Lcom/example/even_norm/evennorm/text/TermFilter;"), (0, .methodref 15 16), (0, .class_ 13), (0, .nameAndType 17 18), (0, u "clone"), (0, u "()Ljava/lang/Object;"), (1, .class_ 22), (1, u "java/lang/Enum"), (6, .fieldref 1 30), (0, .nameAndType 31 32), (0, u "key"), (0, u "Ljava/lang/String;"), (2, u "description"), (0, .methodref 1 37), (0, .nameAndType 38 39), (0, u "values"), (0, u "()[Lcom/example/even_norm/evennorm/text/TermFilter;"), (0, .methodref 41 42), (0, .class_ 43), (0, .nameAndType 44 45), (0, u "java/lang/String"), (0, u "equals"), (0, u "(Ljava/lang/Object;)Z"), (9, .class_ 56), (0, u "com/example/even_norm/evennorm/text/TermFilter$1"), (8, .class_ 66), (0, u "com/example/even_norm/evennorm/text/TermFilter$2"), (11, u "(Ljava/lang/String;)Lcom/example/even_norm/evennorm/text/TermFilter;"), (3, u "()Ljava/lang/String;"), (0, u "of")] 24

def k10c0 : Code := { maxStack := 1, maxLocals := 0, code := prog_28_method_1_code, exceptionTable := #[], attributes := #[] }
def k10m0 : Method := { name := "values", desc := "()[Lcom/example/even_norm/evennorm/text/TermFilter;", sig := { parameters := [], returnType := some (.array (.object "com/example/even_norm/evennorm/text/TermFilter")) }, accessFlags := 9, code := some k10c0 }
def k10c1 : Code := { maxStack := 1, maxLocals := 1, code := prog_28_method_4_code, exceptionTable := #[], attributes := #[] }
def k10m1 : Method := { name := "key", desc := "()Ljava/lang/String;", sig := { parameters := [], returnType := some (.object "java/lang/String") }, accessFlags := 1, code := some k10c1 }
def k10c2 : Code := { maxStack := 3, maxLocals := 5, code := prog_28_method_6_code, exceptionTable := #[], attributes := #[] }
def k10m2 : Method := { name := "of", desc := "(Ljava/lang/String;)Lcom/example/even_norm/evennorm/text/TermFilter;", sig := { parameters := [(.object "java/lang/String")], returnType := some (.object "com/example/even_norm/evennorm/text/TermFilter") }, accessFlags := 9, code := some k10c2 }
/-- com/example/even_norm/evennorm/text/TermFilter -/
def k10 : Class := { plain "com/example/even_norm/evennorm/text/TermFilter" (some 9) with
  accessFlags := 17441
  interfaces := #[]
  cf := some (fileOf pool10 1 #[.nestMembers #[65, 55]] #[{ accessFlags := 9, nameIndex := 38, descriptorIndex := 39, attributes := #[] }, { accessFlags := 1, nameIndex := 31, descriptorIndex := 82, attributes := #[] }, { accessFlags := 9, nameIndex := 83, descriptorIndex := 78, attributes := #[] }] 17441 20 #[] #[{ accessFlags := 16409, nameIndex := 5, descriptorIndex := 6, attributes := #[] }, { accessFlags := 16409, nameIndex := 9, descriptorIndex := 6, attributes := #[] }, { accessFlags := 18, nameIndex := 31, descriptorIndex := 32, attributes := #[] }, { accessFlags := 18, nameIndex := 35, descriptorIndex := 32, attributes := #[] }, { accessFlags := 4122, nameIndex := 12, descriptorIndex := 13, attributes := #[] }])
  fields := #[{ name := "STOP", type := (.object "com/example/even_norm/evennorm/text/TermFilter"), accessFlags := 16409, slot := 0, constantValue := 0 }, { name := "STEM", type := (.object "com/example/even_norm/evennorm/text/TermFilter"), accessFlags := 16409, slot := 1, constantValue := 0 }, { name := "key", type := (.object "java/lang/String"), accessFlags := 18, slot := 3, constantValue := 0 }, { name := "description", type := (.object "java/lang/String"), accessFlags := 18, slot := 4, constantValue := 0 }, { name := "$VALUES", type := (.array (.object "com/example/even_norm/evennorm/text/TermFilter")), accessFlags := 4122, slot := 2, constantValue := 0 }]
  methods := #[k10m0, k10m1, k10m2]
  instanceTypes := #[(.object "java/lang/String"), .int, .int, (.object "java/lang/String"), (.object "java/lang/String")]
  staticTypes := #[(.object "com/example/even_norm/evennorm/text/TermFilter"), (.object "com/example/even_norm/evennorm/text/TermFilter"), (.array (.object "com/example/even_norm/evennorm/text/TermFilter"))]
  resolved := Array.replicate 108 none
  statics := some 1 }

def pool11 : Array CpInfo := pool [(1, .class_ 2), (0, u "java/lang/Cloneable"), (0, .class_ 4), (0, u "java/lang/Object")] 2

/-- java/lang/Cloneable -/
def k11 : Class := { plain "java/lang/Cloneable" (some 0) with
  accessFlags := 1537
  interfaces := #[]
  cf := some (fileOf pool11 1 #[] #[] 1537 3 #[] #[])
  fields := #[]
  methods := #[]
  instanceTypes := #[]
  staticTypes := #[]
  resolved := Array.replicate 7 none
  statics := none }

def pool12 : Array CpInfo := pool [(2, .class_ 4), (1, u "com/example/even_norm/evennorm/text/TermFilter"), (8, .class_ 14), (0, u "com/example/even_norm/evennorm/text/TermFilter$1")] 13

/-- com/example/even_norm/evennorm/text/TermFilter$1 -/
def k12 : Class := { plain "com/example/even_norm/evennorm/text/TermFilter$1" (some 10) with
  accessFlags := 16432
  interfaces := #[]
  cf := some (fileOf pool12 13 #[.nestHost 2] #[] 16432 2 #[] #[])
  fields := #[]
  methods := #[]
  instanceTypes := #[(.object "java/lang/String"), .int, .int, (.object "java/lang/String"), (.object "java/lang/String")]
  staticTypes := #[]
  resolved := Array.replicate 28 none
  statics := none }

def pool13 : Array CpInfo := pool [(4, .class_ 6), (1, u "java/lang/Object"), (0, u "<init>"), (0, u "()V"), (5, .class_ 16), (1, u "java/lang/StringLatin1"), (104, u "$assertionsDisabled"), (0, u "Z"), (98, .class_ 223), (1, u "java/lang/StringLatin1$LinesSpliterator"), (57, u "equals"), (0, u "([B[B)Z"), (107, .class_ 391), (0, u "java/lang/StringLatin1$CharsSpliterator")] 3

def k13m0 : Method := { name := "<init>", desc := "()V", sig := { parameters := [], returnType := none }, accessFlags := 0, code := none }
def k13c1 : Code := { maxStack := 3, maxLocals := 3, code := jdk_43_method_13_code, exceptionTable := #[], attributes := #[] }
def k13m1 : Method := { name := "equals", desc := "([B[B)Z", sig := { parameters := [(.array .byte), (.array .byte)], returnType := some .boolean }, accessFlags := 9, code := some k13c1 }
/-- java/lang/StringLatin1 -/
def k13 : Class := { plain "java/lang/StringLatin1" (some 0) with
  accessFlags := 48
  interfaces := #[]
  cf := some (fileOf pool13 14 #[.nestMembers #[390, 221]] #[{ accessFlags := 0, nameIndex := 7, descriptorIndex := 8, attributes := #[] }, { accessFlags := 9, nameIndex := 281, descriptorIndex := 282, attributes := #[] }] 48 4 #[] #[{ accessFlags := 4120, nameIndex := 121, descriptorIndex := 122, attributes := #[] }])
  fields := #[{ name := "$assertionsDisabled", type := .boolean, accessFlags := 4120, slot := 0, constantValue := 0 }]
  methods := #[k13m0, k13m1]
  instanceTypes := #[]
  staticTypes := #[.boolean]
  resolved := Array.replicate 395 none
  statics := none }

def pool14 : Array CpInfo := pool [(2, .class_ 4), (1, u "com/example/even_norm/evennorm/text/TermFilter"), (14, .class_ 20), (0, u "com/example/even_norm/evennorm/text/TermFilter$2")] 10

/-- com/example/even_norm/evennorm/text/TermFilter$2 -/
def k14 : Class := { plain "com/example/even_norm/evennorm/text/TermFilter$2" (some 10) with
  accessFlags := 16432
  interfaces := #[]
  cf := some (fileOf pool14 19 #[.nestHost 2] #[] 16432 2 #[] #[])
  fields := #[]
  methods := #[]
  instanceTypes := #[(.object "java/lang/String"), .int, .int, (.object "java/lang/String"), (.object "java/lang/String")]
  staticTypes := #[]
  resolved := Array.replicate 31 none
  statics := none }

def pool15 : Array CpInfo := pool [(2, .class_ 4), (1, u "java/lang/Object"), (0, u "<init>"), (0, u "()V"), (17, .class_ 26), (1, u "jdk/internal/util/Preconditions"), (28, .class_ 56), (0, u "jdk/internal/util/Preconditions$4"), (57, .class_ 115), (0, u "jdk/internal/util/Preconditions$1"), (7, u "SIOOBE_FORMATTER"), (0, u "Ljava/util/function/BiFunction;"), (0, .class_ 126), (0, u "jdk/internal/util/Preconditions$2"), (3, u "AIOOBE_FORMATTER"), (0, .class_ 132), (0, u "jdk/internal/util/Preconditions$3"), (3, u "IOOBE_FORMATTER")] 57

def k15m0 : Method := { name := "<init>", desc := "()V", sig := { parameters := [], returnType := none }, accessFlags := 1, code := none }
/-- jdk/internal/util/Preconditions -/
def k15 : Class := { plain "jdk/internal/util/Preconditions" (some 0) with
  accessFlags := 33
  interfaces := #[]
  cf := some (fileOf pool15 24 #[.nestMembers #[55, 131, 125, 114]] #[{ accessFlags := 1, nameIndex := 5, descriptorIndex := 6, attributes := #[] }] 33 2 #[] #[{ accessFlags := 25, nameIndex := 123, descriptorIndex := 124, attributes := #[] }, { accessFlags := 25, nameIndex := 130, descriptorIndex := 124, attributes := #[] }, { accessFlags := 25, nameIndex := 136, descriptorIndex := 124, attributes := #[] }])
  fields := #[{ name := "SIOOBE_FORMATTER", type := (.object "java/util/function/BiFunction"), accessFlags := 25, slot := 0, constantValue := 0 }, { name := "AIOOBE_FORMATTER", type := (.object "java/util/function/BiFunction"), accessFlags := 25, slot := 1, constantValue := 0 }, { name := "IOOBE_FORMATTER", type := (.object "java/util/function/BiFunction"), accessFlags := 25, slot := 2, constantValue := 0 }]
  methods := #[k15m0]
  instanceTypes := #[]
  staticTypes := #[(.object "java/util/function/BiFunction"), (.object "java/util/function/BiFunction"), (.object "java/util/function/BiFunction")]
  resolved := Array.replicate 194 none
  statics := some 2 }

def pool16 : Array CpInfo := pool [(9, u "<init>"), (6, .class_ 18), (1, u "java/lang/Object"), (0, u "()V"), (1, .class_ 23), (1, u "jdk/internal/util/ArraysSupport"), (0, u "LOG2_ARRAY_LONG_INDEX_SCALE"), (0, u "I"), (2, u "U"), (0, u "Ljdk/internal/misc/Unsafe;"), (8, u "BIG_ENDIAN"), (0, u "Z"), (8, u "LOG2_BYTE_BIT_SIZE"), (4, u "LOG2_ARRAY_INT_INDEX_SCALE"), (54, u "JLA"), (0, u "Ljdk/internal/access/JavaLangAccess;"), (11, u "LOG2_ARRAY_BOOLEAN_INDEX_SCALE"), (9, u "LOG2_ARRAY_BYTE_INDEX_SCALE"), (5, u "LOG2_ARRAY_CHAR_INDEX_SCALE"), (5, u "LOG2_ARRAY_SHORT_INDEX_SCALE"), (18, u "LOG2_ARRAY_FLOAT_INDEX_SCALE"), (24, u "LOG2_ARRAY_DOUBLE_INDEX_SCALE"), (89, u "T_BOOLEAN"), (2, u "T_CHAR"), (1, u "T_FLOAT"), (1, u "T_DOUBLE"), (1, u "T_BYTE"), (1, u "T_SHORT"), (1, u "T_INT"), (1, u "T_LONG"), (1, u "SOFT_MAX_ARRAY_LENGTH")] 83

def k16m0 : Method := { name := "<init>", desc := "()V", sig := { parameters := [], returnType := none }, accessFlags := 2, code := none }
/-- jdk/internal/util/ArraysSupport -/
def k16 : Class := { plain "jdk/internal/util/ArraysSupport" (some 0) with
  accessFlags := 33
  interfaces := #[]
  cf := some (fileOf pool16 21 #[] #[{ accessFlags := 2, nameIndex := 9, descriptorIndex := 19, attributes := #[] }] 33 16 #[] #[{ accessFlags := 24, nameIndex := 28, descriptorIndex := 29, attributes := #[] }, { accessFlags := 26, nameIndex := 38, descriptorIndex := 39, attributes := #[] }, { accessFlags := 25, nameIndex := 121, descriptorIndex := 25, attributes := #[] }, { accessFlags := 25, nameIndex := 131, descriptorIndex := 25, attributes := #[] }, { accessFlags := 25, nameIndex := 137, descriptorIndex := 25, attributes := #[] }, { accessFlags := 25, nameIndex := 143, descriptorIndex := 25, attributes := #[] }, { accessFlags := 25, nameIndex := 53, descriptorIndex := 25, attributes := #[] }, { accessFlags := 25, nameIndex := 24, descriptorIndex := 25, attributes := #[] }, { accessFlags := 25, nameIndex := 162, descriptorIndex := 25, attributes := #[] }, { accessFlags := 25, nameIndex := 187, descriptorIndex := 25, attributes := #[] }, { accessFlags := 26, nameIndex := 48, descriptorIndex := 25, attributes := #[] }, { accessFlags := 25, nameIndex := 277, descriptorIndex := 25, attributes := #[] }, { accessFlags := 25, nameIndex := 280, descriptorIndex := 25, attributes := #[] }, { accessFlags := 25, nameIndex := 282, descriptorIndex := 25, attributes := #[] }, { accessFlags := 25, nameIndex := 284, descriptorIndex := 25, attributes := #[] }, { accessFlags := 25, nameIndex := 286, descriptorIndex := 25, attributes := #[] }, { accessFlags := 25, nameIndex := 288, descriptorIndex := 25, attributes := #[] }, { accessFlags := 25, nameIndex := 290, descriptorIndex := 25, attributes := #[] }, { accessFlags := 25, nameIndex := 292, descriptorIndex := 25, attributes := #[] }, { accessFlags := 26, nameIndex := 108, descriptorIndex := 109, attributes := #[] }, { accessFlags := 25, nameIndex := 294, descriptorIndex := 25, attributes := #[] }])
  fields := #[{ name := "U", type := (.object "jdk/internal/misc/Unsafe"), accessFlags := 24, slot := 0, constantValue := 0 }, { name := "BIG_ENDIAN", type := .boolean, accessFlags := 26, slot := 1, constantValue := 0 }, { name := "LOG2_ARRAY_BOOLEAN_INDEX_SCALE", type := .int, accessFlags := 25, slot := 2, constantValue := 0 }, { name := "LOG2_ARRAY_BYTE_INDEX_SCALE", type := .int, accessFlags := 25, slot := 3, constantValue := 0 }, { name := "LOG2_ARRAY_CHAR_INDEX_SCALE", type := .int, accessFlags := 25, slot := 4, constantValue := 0 }, { name := "LOG2_ARRAY_SHORT_INDEX_SCALE", type := .int, accessFlags := 25, slot := 5, constantValue := 0 }, { name := "LOG2_ARRAY_INT_INDEX_SCALE", type := .int, accessFlags := 25, slot := 6, constantValue := 0 }, { name := "LOG2_ARRAY_LONG_INDEX_SCALE", type := .int, accessFlags := 25, slot := 7, constantValue := 0 }, { name := "LOG2_ARRAY_FLOAT_INDEX_SCALE", type := .int, accessFlags := 25, slot := 8, constantValue := 0 }, { name := "LOG2_ARRAY_DOUBLE_INDEX_SCALE", type := .int, accessFlags := 25, slot := 9, constantValue := 0 }, { name := "LOG2_BYTE_BIT_SIZE", type := .int, accessFlags := 26, slot := 10, constantValue := 0 }, { name := "T_BOOLEAN", type := .int, accessFlags := 25, slot := 11, constantValue := 0 }, { name := "T_CHAR", type := .int, accessFlags := 25, slot := 12, constantValue := 0 }, { name := "T_FLOAT", type := .int, accessFlags := 25, slot := 13, constantValue := 0 }, { name := "T_DOUBLE", type := .int, accessFlags := 25, slot := 14, constantValue := 0 }, { name := "T_BYTE", type := .int, accessFlags := 25, slot := 15, constantValue := 0 }, { name := "T_SHORT", type := .int, accessFlags := 25, slot := 16, constantValue := 0 }, { name := "T_INT", type := .int, accessFlags := 25, slot := 17, constantValue := 0 }, { name := "T_LONG", type := .int, accessFlags := 25, slot := 18, constantValue := 0 }, { name := "JLA", type := (.object "jdk/internal/access/JavaLangAccess"), accessFlags := 26, slot := 19, constantValue := 0 }, { name := "SOFT_MAX_ARRAY_LENGTH", type := .int, accessFlags := 25, slot := 20, constantValue := 0 }]
  methods := #[k16m0]
  instanceTypes := #[]
  staticTypes := #[(.object "jdk/internal/misc/Unsafe"), .boolean, .int, .int, .int, .int, .int, .int, .int, .int, .int, .int, .int, .int, .int, .int, .int, .int, .int, (.object "jdk/internal/access/JavaLangAccess"), .int]
  resolved := Array.replicate 378 none
  statics := none }

/-- the primitive byte -/
def k17 : Class := { plain "byte" none with kind := .primitive 'B', accessFlags := 0x411 }
/-- [B -/
def k18 : Class := { plain "[B" (some 0) with kind := .array 17 .byte, interfaces := #[11, 2], accessFlags := 1041 }

/-- the primitive char -/
def k19 : Class := { plain "char" none with kind := .primitive 'C', accessFlags := 0x411 }
/-- [C -/
def k20 : Class := { plain "[C" (some 0) with kind := .array 19 .char, interfaces := #[11, 2], accessFlags := 1041 }

/-- the primitive int -/
def k21 : Class := { plain "int" none with kind := .primitive 'I', accessFlags := 0x411 }
/-- [I -/
def k22 : Class := { plain "[I" (some 0) with kind := .array 21 .int, interfaces := #[11, 2], accessFlags := 1041 }

/-- [Lcom/example/even_norm/evennorm/text/TermFilter; -/
def k23 : Class := { plain "[Lcom/example/even_norm/evennorm/text/TermFilter;" (some 0) with kind := .array 10 (.object "com/example/even_norm/evennorm/text/TermFilter"), interfaces := #[11, 2], accessFlags := 1041 }

def heap : Heap := #[{ cls := 7, slots := #[.long 0, .int 1, .null, .int 0, .null, .int 0, .int 0], vm := .statics 7 },
  { cls := 10, slots := #[.ref 4, .ref 5, .ref 3], vm := .statics 10 },
  { cls := 15, slots := #[.null, .null, .null], vm := .statics 15 },
  { cls := 23, slots := #[.ref 4, .ref 5], vm := .none },
  { cls := 12, slots := #[.null, .int 0, .int 0, .ref 6, .ref 6], vm := .none },
  { cls := 14, slots := #[.null, .int 1, .int 0, .ref 8, .ref 8], vm := .none },
  { cls := 7, slots := #[.ref 7, .int 0, .int 0, .int 0], vm := .none },
  { cls := 18, slots := #[.int 115, .int 116, .int 111, .int 112], vm := .none },
  { cls := 7, slots := #[.ref 9, .int 0, .int 0, .int 0], vm := .none },
  { cls := 18, slots := #[.int 115, .int 116, .int 101, .int 109], vm := .none }]
def classes : Array Class := #[k0, k1, k2, k3, k4, k5, k6, k7, k8, k9, k10, k11, k12, k13, k14, k15, k16, k17, k18, k19, k20, k21, k22, k23]
def interned : List (Array UInt16 × Addr) := []
def slotsUsed : Nat := 41
def theMethod : MethodId := ⟨1, 1⟩
def args0 : Array Value := #[.int 5]
def aboutOver (below : List Frame) : State where
  vm := { classes := classes, interned := interned.toArray }
  heap := heap
  slotsUsed := slotsUsed
  threads := #[{ frames := .invoking theMethod args0 :: below }]
def below0 : List Frame := [.native { method := ⟨0, 0⟩, args := #[] }]
def about1 : State := aboutOver below0
def p0 : Program := .bare "" "" ""
def e0 : Env := launch0.env 0 0 0
theorem w_frames : about1.frames = Frame.invoking theMethod args0 :: below0 := rfl
set_option maxRecDepth 65536 in
theorem w_args : argsFit about1.vm theMethod args0 = true := by decide +kernel
set_option maxRecDepth 65536 in
theorem w_heap : heapFits about1 = true := by decide +kernel
set_option maxRecDepth 65536 in
theorem w_runnable : about1.curStatus? = some .runnable := by decide +kernel
set_option maxRecDepth 65536 in
theorem w_alone : about1.alone = true := by decide +kernel
set_option maxRecDepth 65536 in
theorem w_named : about1.methodNamed? x = some theMethod := by decide +kernel
set_option maxRecDepth 65536 in
theorem w_hears : about1.hears theMethod below0 = true := by decide +kernel
set_option maxRecDepth 65536 in
theorem w_ripe : about1.ripe theMethod args0 below0 = true := by decide +kernel
theorem w_running : about1.status = .running := rfl
set_option maxRecDepth 65536 in
theorem w_room : about1.hasRoom e0.platform room_1 = true :=
  launch0.hasRoom_least _ room_1 (by decide +kernel) (by decide +kernel) (by decide +kernel) (by decide +kernel) (by decide +kernel) (by decide +kernel)
theorem allAtoms_all (ts : List Jvm.Cond) (a : Array Jvm.Value) (st : Jvm.State) : (allAtoms ts).before a st = ts.all (fun c => c.before a st) := by
  induction ts with
  | nil => rfl
  | cons c t ih =>
    show (Jvm.Cond.and c (allAtoms t)).before a st = _
    rw [Jvm.Cond.before_and, ih, List.all_cons]
def words1 : List Jvm.Cond := Jvm.Cond.code x code maxLocals ret :: tables_1
/-- a 'code' word, met by the world's own term for the bytes: nothing is compared byte by byte -/
theorem code_word {y : MethodName} {bytes : ByteArray} {mx : Nat} {rt : Option FieldType} {a : Array Value} {s : State} {m : MethodId} {meth : Method} {c : Code} (h1 : s.methodNamed? y = some m) (h2 : s.vm.method? m = some meth) (h3 : meth.code = some c) (h4 : c.code = bytes)
    (h5 : (c.maxLocals == mx && c.exceptionTable.isEmpty && decide (c.maxStack ≤ mostOperands) && decide (meth.sig.returnType = rt) && !meth.locks && decide (parseMethodDescriptor y.desc = some meth.sig)) = true) : (Jvm.Cond.code y bytes mx rt).before a s = true := by
  simp only [Bool.and_eq_true, beq_iff_eq, Bool.not_eq_true', decide_eq_true_eq] at h5
  obtain ⟨⟨⟨⟨⟨g1, g2⟩, g3⟩, g4⟩, g5⟩, g6⟩ := h5
  simp [Cond.before, Cond.holds, Cond.value, h1, h2, h3, h4, g1, g2, g3, g4, g5, g6]
def isCode : Jvm.Cond → Bool
  | .code _ _ _ _ => true
  | _ => false
theorem all_split {L : List Jvm.Cond} {P : Jvm.Cond → Bool} (h1 : L.all (fun c => isCode c || P c) = true) (h2 : ∀ c ∈ L.filter isCode, P c = true) : L.all P = true := by
  refine List.all_eq_true.mpr fun c hc => ?_
  have h := List.all_eq_true.mp h1 c hc
  rcases Bool.eq_false_or_eq_true (isCode c) with hi | hi
  · exact h2 c (List.mem_filter.mpr ⟨hc, hi⟩)
  · simpa [hi] using h
set_option maxRecDepth 65536 in
theorem w_c0 : (Jvm.Cond.code x code maxLocals ret).before args0 about1 = true := code_word (m := ⟨1, 1⟩) (meth := k1m1) (c := k1c1) (by decide +kernel) rfl rfl rfl (by decide +kernel)
set_option maxRecDepth 65536 in
theorem w_c1 : (Jvm.Cond.code ({ cls := "java/lang/String", name := "<init>", desc := "([C)V" } : Jvm.MethodName) jdk_42_method_3_code (2 : Nat) (Option.none : Option Jvm.ClassFile.FieldType)).before args0 about1 = true := code_word (m := ⟨7, 1⟩) (meth := k7m1) (c := k7c1) (by decide +kernel) rfl rfl rfl (by decide +kernel)
set_option maxRecDepth 65536 in
theorem w_c2 : (Jvm.Cond.code ({ cls := "java/lang/String", name := "<init>", desc := "([CIILjava/lang/Void;)V" } : Jvm.MethodName) jdk_42_method_149_code (6 : Nat) (Option.none : Option Jvm.ClassFile.FieldType)).before args0 about1 = true := code_word (m := ⟨7, 3⟩) (meth := k7m3) (c := k7c3) (by decide +kernel) rfl rfl rfl (by decide +kernel)
set_option maxRecDepth 65536 in
theorem w_c3 : (Jvm.Cond.code ({ cls := "java/lang/Object", name := "<init>", desc := "()V" } : Jvm.MethodName) object_method_1_code (1 : Nat) (Option.none : Option Jvm.ClassFile.FieldType)).before args0 about1 = true := code_word (m := ⟨0, 0⟩) (meth := k0m0) (c := k0c0) (by decide +kernel) rfl rfl rfl (by decide +kernel)
set_option maxRecDepth 65536 in
theorem w_c4 : (Jvm.Cond.code ({ cls := "java/lang/StringUTF16", name := "compress", desc := "([CII)[B" } : Jvm.MethodName) jdk_52_method_16_code (6 : Nat) (Option.some (Jvm.ClassFile.FieldType.array Jvm.ClassFile.FieldType.byte))).before args0 about1 = true := code_word (m := ⟨8, 2⟩) (meth := k8m2) (c := k8c2) (by decide +kernel) rfl rfl rfl (by decide +kernel)
set_option maxRecDepth 65536 in
theorem w_c5 : (Jvm.Cond.code ({ cls := "java/lang/StringUTF16", name := "compress", desc := "([CI[BII)I" } : Jvm.MethodName) jdk_52_method_21_code (7 : Nat) (Option.some Jvm.ClassFile.FieldType.int)).before args0 about1 = true := code_word (m := ⟨8, 3⟩) (meth := k8m3) (c := k8c3) (by decide +kernel) rfl rfl rfl (by decide +kernel)
set_option maxRecDepth 65536 in
theorem w_c6 : (Jvm.Cond.code ({ cls := "java/lang/StringUTF16", name := "coderFromArrayLen", desc := "([BI)B" } : Jvm.MethodName) jdk_52_method_15_code (2 : Nat) (Option.some Jvm.ClassFile.FieldType.byte)).before args0 about1 = true := code_word (m := ⟨8, 1⟩) (meth := k8m1) (c := k8c1) (by decide +kernel) rfl rfl rfl (by decide +kernel)
set_option maxRecDepth 65536 in
theorem w_c7 : (Jvm.Cond.code ({ cls := "com/example/even_norm/evennorm/text/TermFilter", name := "of", desc := "(Ljava/lang/String;)Lcom/example/even_norm/evennorm/text/TermFilter;" } : Jvm.MethodName) prog_28_method_6_code (5 : Nat) (Option.some (Jvm.ClassFile.FieldType.object "com/example/even_norm/evennorm/text/TermFilter"))).before args0 about1 = true := code_word (m := ⟨10, 2⟩) (meth := k10m2) (c := k10c2) (by decide +kernel) rfl rfl rfl (by decide +kernel)
set_option maxRecDepth 65536 in
theorem w_c8 : (Jvm.Cond.code ({ cls := "com/example/even_norm/evennorm/text/TermFilter", name := "values", desc := "()[Lcom/example/even_norm/evennorm/text/TermFilter;" } : Jvm.MethodName) prog_28_method_1_code (0 : Nat) (Option.some (Jvm.ClassFile.FieldType.array (Jvm.ClassFile.FieldType.object "com/example/even_norm/evennorm/text/TermFilter")))).before args0 about1 = true := code_word (m := ⟨10, 0⟩) (meth := k10m0) (c := k10c0) (by decide +kernel) rfl rfl rfl (by decide +kernel)
set_option maxRecDepth 65536 in
theorem w_c9 : (Jvm.Cond.code ({ cls := "java/lang/String", name := "equals", desc := "(Ljava/lang/Object;)Z" } : Jvm.MethodName) jdk_42_method_66_code (3 : Nat) (Option.some Jvm.ClassFile.FieldType.boolean)).before args0 about1 = true := code_word (m := ⟨7, 2⟩) (meth := k7m2) (c := k7c2) (by decide +kernel) rfl rfl rfl (by decide +kernel)
set_option maxRecDepth 65536 in
theorem w_c10 : (Jvm.Cond.code ({ cls := "java/lang/StringLatin1", name := "equals", desc := "([B[B)Z" } : Jvm.MethodName) jdk_43_method_13_code (3 : Nat) (Option.some Jvm.ClassFile.FieldType.boolean)).before args0 about1 = true := code_word (m := ⟨13, 1⟩) (meth := k13m1) (c := k13c1) (by decide +kernel) rfl rfl rfl (by decide +kernel)
set_option maxRecDepth 65536 in
theorem w_c11 : (Jvm.Cond.code ({ cls := "com/example/even_norm/evennorm/text/TermFilter", name := "key", desc := "()Ljava/lang/String;" } : Jvm.MethodName) prog_28_method_4_code (1 : Nat) (Option.some (Jvm.ClassFile.FieldType.object "java/lang/String"))).before args0 about1 = true := code_word (m := ⟨10, 1⟩) (meth := k10m1) (c := k10c1) (by decide +kernel) rfl rfl rfl (by decide +kernel)
def codes1 : List Jvm.Cond := [Jvm.Cond.code x code maxLocals ret, Jvm.Cond.code ({ cls := "java/lang/String", name := "<init>", desc := "([C)V" } : Jvm.MethodName) jdk_42_method_3_code (2 : Nat) (Option.none : Option Jvm.ClassFile.FieldType), Jvm.Cond.code ({ cls := "java/lang/String", name := "<init>", desc := "([CIILjava/lang/Void;)V" } : Jvm.MethodName) jdk_42_method_149_code (6 : Nat) (Option.none : Option Jvm.ClassFile.FieldType), Jvm.Cond.code ({ cls := "java/lang/Object", name := "<init>", desc := "()V" } : Jvm.MethodName) object_method_1_code (1 : Nat) (Option.none : Option Jvm.ClassFile.FieldType), Jvm.Cond.code ({ cls := "java/lang/StringUTF16", name := "compress", desc := "([CII)[B" } : Jvm.MethodName) jdk_52_method_16_code (6 : Nat) (Option.some (Jvm.ClassFile.FieldType.array Jvm.ClassFile.FieldType.byte)), Jvm.Cond.code ({ cls := "java/lang/StringUTF16", name := "compress", desc := "([CI[BII)I" } : Jvm.MethodName) jdk_52_method_21_code (7 : Nat) (Option.some Jvm.ClassFile.FieldType.int), Jvm.Cond.code ({ cls := "java/lang/StringUTF16", name := "coderFromArrayLen", desc := "([BI)B" } : Jvm.MethodName) jdk_52_method_15_code (2 : Nat) (Option.some Jvm.ClassFile.FieldType.byte), Jvm.Cond.code ({ cls := "com/example/even_norm/evennorm/text/TermFilter", name := "of", desc := "(Ljava/lang/String;)Lcom/example/even_norm/evennorm/text/TermFilter;" } : Jvm.MethodName) prog_28_method_6_code (5 : Nat) (Option.some (Jvm.ClassFile.FieldType.object "com/example/even_norm/evennorm/text/TermFilter")), Jvm.Cond.code ({ cls := "com/example/even_norm/evennorm/text/TermFilter", name := "values", desc := "()[Lcom/example/even_norm/evennorm/text/TermFilter;" } : Jvm.MethodName) prog_28_method_1_code (0 : Nat) (Option.some (Jvm.ClassFile.FieldType.array (Jvm.ClassFile.FieldType.object "com/example/even_norm/evennorm/text/TermFilter"))), Jvm.Cond.code ({ cls := "java/lang/String", name := "equals", desc := "(Ljava/lang/Object;)Z" } : Jvm.MethodName) jdk_42_method_66_code (3 : Nat) (Option.some Jvm.ClassFile.FieldType.boolean), Jvm.Cond.code ({ cls := "java/lang/StringLatin1", name := "equals", desc := "([B[B)Z" } : Jvm.MethodName) jdk_43_method_13_code (3 : Nat) (Option.some Jvm.ClassFile.FieldType.boolean), Jvm.Cond.code ({ cls := "com/example/even_norm/evennorm/text/TermFilter", name := "key", desc := "()Ljava/lang/String;" } : Jvm.MethodName) prog_28_method_4_code (1 : Nat) (Option.some (Jvm.ClassFile.FieldType.object "java/lang/String"))]
set_option maxRecDepth 65536 in
theorem codes_eq : words1.filter isCode = codes1 := rfl
theorem w_codes : ∀ c ∈ words1.filter isCode, c.before args0 about1 = true := by
  rw [codes_eq]
  intro c hc
  simp only [codes1, List.mem_cons, List.not_mem_nil, or_false] at hc
  rcases hc with rfl | rfl | rfl | rfl | rfl | rfl | rfl | rfl | rfl | rfl | rfl | rfl
  · exact w_c0
  · exact w_c1
  · exact w_c2
  · exact w_c3
  · exact w_c4
  · exact w_c5
  · exact w_c6
  · exact w_c7
  · exact w_c8
  · exact w_c9
  · exact w_c10
  · exact w_c11
set_option maxRecDepth 65536 in
theorem w_t1 : (words1.take 24).all (fun c => isCode c || c.before args0 about1) = true := by decide +kernel
set_option maxRecDepth 65536 in
theorem w_t2 : ((words1.drop 24).take 24).all (fun c => isCode c || c.before args0 about1) = true := by decide +kernel
set_option maxRecDepth 65536 in
theorem w_t3 : (((words1.drop 24).drop 24).take 24).all (fun c => isCode c || c.before args0 about1) = true := by decide +kernel
set_option maxRecDepth 65536 in
theorem w_t4 : (((words1.drop 24).drop 24).drop 24).all (fun c => isCode c || c.before args0 about1) = true := by decide +kernel
theorem w_tables : (allAtoms (Jvm.Cond.code x code maxLocals ret :: tables_1)).before args0 about1 = true := by
  rw [allAtoms_all]
  show words1.all (fun c => c.before args0 about1) = true
  refine all_split ?_ w_codes
  rw [← List.take_append_drop 24 words1, List.all_append, w_t1, ← List.take_append_drop 24 (words1.drop 24), List.all_append, w_t2, ← List.take_append_drop 24 ((words1.drop 24).drop 24), List.all_append, w_t3, w_t4]
  rfl
set_option maxRecDepth 65536 in
theorem w_rest : rest_1_c.before args0 about1 = true := by decide +kernel
set_option maxRecDepth 65536 in
theorem w_case : (Jvm.Cond.and given_1 narrow_1).before args0 about1 = true := by decide +kernel
theorem w_applies : (headSpec (Jvm.Cond.code x code maxLocals ret :: tables_1) room_1).applies x e0.platform about1 = true :=
  (Spec.applies_iff w_frames).mpr ⟨w_running, w_runnable, w_alone, w_named, w_hears, w_ripe, w_room, w_tables⟩
theorem atStart : AtStart classFile x code maxLocals ret World_1 tables_1 room_1 Calls_1 rest_1 Pre_1 launch0 p0 e0 about1 theMethod args0 below0 :=
  ⟨lists_1, trivial, launch0.admits_env _ _ _, launch0.least_env, fairChoices_fair.cas, fairChoices_fair.clock, w_frames, w_args, w_heap, w_applies, trivial, w_rest, w_case⟩
end start1
theorem witness_1 : WitnessClaimed_1 := ⟨start1.p0, start1.e0, start1.about1, start1.theMethod, start1.args0, start1.below0, start1.atStart⟩
end Jvm.Pilot.@@N@@
