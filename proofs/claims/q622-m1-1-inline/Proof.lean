import JvmDerived
import JvmDerived.Pilot.@@N@@Statement
import JvmDerived.Pilot.@@N@@Code
set_option linter.unusedVariables false
set_option linter.unusedSimpArgs false
namespace Jvm.OwnWp
open Sem ClassFile Op Lib Bundle Jvm.Stand Jvm.Free Jvm.LawKit Jvm.RoadKit
abbrev GoT : Type := List Addr → Heap → Nat → Nat → Nat → Array Slot → List Value → Prop
abbrev QT : Type := Option Value → List Addr → Heap → Prop
abbrev ELT : Type := List (String × Nat)
/-- each address of M is new since the law's start, stands in the heap, and is no String constant's cell -/
def Saf (Z : State) (EL : ELT) (n0 : Nat) (vm : Vm) (h : Heap) (M : List Addr) : Prop := ∀ x ∈ M, n0 ≤ x ∧ x < h.size ∧ Safe Z EL vm h x
/-- where a walk stands: all that isn't the heap is hidden -/
def Inv (p : Program) (l : Launch) (e : Env) (R : Room) (s : State) (m : MethodId) (args : Array Value) (below : List Frame) (meth : Method) (c : Code) (Z : State) (own : String) (EL : ELT) (n0 : Nat) (M : List Addr) (T : State) (h : Heap) (k n : Nat) : Prop :=
  ∃ (vm0 : Vm) (locs : List Loc) (k0 : Nat), Stand p l e R (s.setVm vm0) m args below meth c T locs k n ∧ T.heap = h ∧ s.Since vm0 k0 ∧ k0 ≤ h.size ∧ Z.Warmed39 vm0 ∧ vm0.findClass own = some m.cls ∧ Fr n0 locs ∧ CHr Z EL s.vm s.heap vm0 h ∧ Saf Z EL n0 vm0 h M ∧ Old Z n0 h
/-- what the end of a body is to say -/
def Done (s : State) (Z : State) (EL : ELT) (n0 : Nat) (R : Room) (Q : QT) (o : Outcome) (U : State) : Prop :=
  ∃ (v : Option Value) (L : List Loc) (M' : List Addr), o = .returned v ∧ Q v M' U.heap ∧ Fr n0 L ∧ CHr Z EL s.vm s.heap U.vm U.heap ∧ Saf Z EL n0 U.vm U.heap M' ∧ Old Z n0 U.heap ∧ ReturnedEndW s o U L R.cells R.slots
def Ends (p : Program) (e : Env) (below : List Frame) (P : Outcome → State → Prop) (A : State) : Prop := ∃ s₂ o, Steps p.tables e below A s₂ ∧ s₂.status = .running ∧ Ended s₂ below o ∧ P o s₂
/-- G M h k n pc ls st: from this frame, with this heap, k cells and n slots made so far, the body comes to an end that says Q -/
def IsGo (G : GoT) (l : Launch) (Z : State) (a0 : Array Value) (EL : ELT) (n0 : Nat) (own name : String) (code : ByteArray) (maxL : Nat) (ret : Option FieldType) (R : Room) (Q : QT) : Prop :=
  ∃ (p : Program) (e : Env) (s : State) (m : MethodId) (args : Array Value) (below : List Frame) (meth : Method) (c : Code),
    p.tables.exec = Jvm.exec ∧ c.code = code ∧ c.maxLocals = maxL ∧ meth.name = name ∧ meth.sig.returnType = ret ∧ meth.locks = false ∧ EW Z a0 EL ∧
    G = fun M h k n pc ls st => ∀ T, Inv p l e R s m args below meth c Z own EL n0 M T h k n → Ends p e below (Done s Z EL n0 R Q) (T.setTop (mkF m pc ls st))
/-- a method's contract: called with these arguments at this heap, M being its to write, it returns and says Q -/
def Met (l : Launch) (Z : State) (EL : ELT) (n0 : Nat) (y : MethodName) (bytes : ByteArray) (maxL : Nat) (ret : Option FieldType) (ws : List Jvm.Cond) (rm : Room) (as' : List Value) (M : List Addr) (h : Heap) (Q : QT) : Prop :=
  MetFree l y (head1 (Jvm.Cond.code y bytes maxL ret :: ws) rm) (fun a U => a = as'.toArray ∧ Z.Warmed39 U.vm ∧ U.heap = h ∧ CHv Z EL U.vm h ∧ Saf Z EL n0 U.vm h M ∧ Old Z n0 h) (fun _ _ _ _ _ => True) (fun _ U o U' => Done U Z EL n0 rm Q o U')
variable {G : GoT} {l : Launch} {Z : State} {a0 : Array Value} {EL : ELT} {n0 : Nat} {own name : String} {code : ByteArray} {maxL : Nat} {ret : Option FieldType} {R : Room} {Q : QT}
variable {M M' : List Addr} {h h' : Heap} {k n k' n' pc pc' : Nat} {ls ls' : Array Slot} {st st' rest : List Value}
theorem Saf.chr {vm vm1 : Vm} (S : Saf Z EL n0 vm h M) (A : CHr Z EL vm h vm1 h') : Saf Z EL n0 vm1 h' M := fun x hx => ⟨(S x hx).1, Nat.lt_of_lt_of_le (S x hx).2.1 A.2.1, A.safe (S x hx).2.1 (S x hx).2.2⟩
theorem Saf.sub {vm : Vm} (S : Saf Z EL n0 vm h M) (q : ∀ x ∈ M', x ∈ M) : Saf Z EL n0 vm h M' := fun x hx => S x (q x hx)
theorem Saf.app {vm : Vm} (S : Saf Z EL n0 vm h M) (S' : Saf Z EL n0 vm h M') : Saf Z EL n0 vm h (M ++ M') := fun x hx => (List.mem_append.mp hx).elim (S x) (S' x)
theorem since0 (s : State) (k0 : Nat) : s.Since s.vm k0 := ⟨State.Warmed39.refl s, by
  first
    | exact State.Booked.refl _ _
    | (intro j q h1 h2; exact absurd (Array.getElem?_eq_some_iff.mp h2).1 (Nat.not_lt.mpr h1))
    | (refine ⟨?_, ?_⟩ <;> intro j q h1 h2 <;> exact absurd (Array.getElem?_eq_some_iff.mp h2).1 (Nat.not_lt.mpr h1))⟩
/-- the way in -/
theorem Met.intro {y : MethodName} {bytes : ByteArray} {ws : List Jvm.Cond} {rm : Room} {as' : List Value} (hp : plainFor y = true) (hef : ∀ m, entryFrame m as'.toArray maxL = mkF m 0 ls []) (hEL : EW Z a0 EL)
    (body : ∀ G, IsGo G l Z a0 EL n0 y.cls y.name bytes maxL ret rm Q → G M h 0 0 0 ls []) : Met l Z EL n0 y bytes maxL ret ws rm as' M h Q := by
  refine MetFree.of_bodySF hp hisR ?_
  intro p e s m args below meth c s₁ Bd hml0 hP hK
  obtain ⟨rfl, hZ, hh, hC, hS, hn0⟩ := hP
  have hown : s.vm.findClass y.cls = some m.cls := findClass_of_methodNamed Bd.named
  have hnm := (name_of_methodNamed Bd.named Bd.method).1
  have X0 : Stand p l e rm s m as'.toArray below meth c s₁ [] 0 0 := Stand.of_body Bd
  have e0 : s₁.heap = h := by rw [← hh, Bd.state]; rfl
  have hlk : meth.locks = false := Bd.notSynchronized
  have q := body _ ⟨p, e, s, m, as'.toArray, below, meth, c, Bd.exec, Bd.bytes, hml0, hnm, Bd.returns, hlk, hEL, rfl⟩ s₁ ⟨s.vm, [], h.size, X0, e0, since0 s _, Nat.le_refl _, hZ, hown, Fr.nil n0, by rw [hh]; exact CHr.refl hC, hS, hn0⟩
  obtain ⟨s₂, o, h1, h2, h3, h4⟩ := q
  rw [← hef] at h1
  exact ⟨s₂, o, h1, h2, h3, h4⟩
/-- a step that looks at no heap -/
theorem plain (hG : IsGo G l Z a0 EL n0 own name code maxL ret R Q) (f : ∀ (p : Program) (e : Env) (below : List Frame) (m : MethodId) (c : Code) (T target : State), At T m c below → p.tables.exec = Jvm.exec → c.code = code → Steps p.tables e below (T.setTop (mkF m pc' ls' st')) target → Steps p.tables e below (T.setTop (mkF m pc ls st)) target)
    (k1 : G M h k n pc' ls' st') : G M h k n pc ls st := by
  obtain ⟨p, e, s, m, args, below, meth, c, hx, hc, hml, hnm, hr, hlk, hEL, rfl⟩ := hG
  intro T I
  obtain ⟨s₂, o, h1, h2⟩ := k1 T I
  obtain ⟨vm0, locs, k0, X, -⟩ := I
  exact ⟨s₂, o, f p e below m c T s₂ X.here hx hc h1, h2⟩
/-- a step that leaves the heap as it is -/
theorem stepX (hG : IsGo G l Z a0 EL n0 own name code maxL ret R Q)
    (f : ∀ (p : Program) (e : Env) (s : State) (m : MethodId) (args : Array Value) (below : List Frame) (meth : Method) (c : Code) (T : State) (locs : List Loc), Stand p l e R s m args below meth c T locs k n → p.tables.exec = Jvm.exec → c.code = code → c.maxLocals = maxL → T.heap = h → Z.Warmed39 s.vm → s.vm.findClass own = some m.cls →
      ∃ T', Stand p l e R s m args below meth c T' locs k n ∧ T'.heap = h ∧ ∀ target, Steps p.tables e below (T'.setTop (mkF m pc' ls' st')) target → Steps p.tables e below (T.setTop (mkF m pc ls st)) target)
    (k1 : G M h k n pc' ls' st') : G M h k n pc ls st := by
  obtain ⟨p, e, s, m, args, below, meth, c, hx, hc, hml, hnm, hr, hlk, hEL, rfl⟩ := hG
  intro T I
  obtain ⟨vm0, locs, k0, X, eT, hS, hk, hZ, hown, N, H, S, hn0⟩ := I
  obtain ⟨T', X', e', st⟩ := f p e (s.setVm vm0) m args below meth c T locs X hx hc hml eT hZ hown
  obtain ⟨s₂, o, h1, h2⟩ := k1 T' ⟨vm0, locs, k0, X', e', hS, hk, hZ, hown, N, H, S, hn0⟩
  exact ⟨s₂, o, st _ h1, h2⟩
/-- a step that writes one place of an object that is ours -/
theorem stepW (hG : IsGo G l Z a0 EL n0 own name code maxL ret R Q) {a : Addr} {sl : Nat} {v : Value} (ha : a ∈ M)
    (f : ∀ (p : Program) (e : Env) (s : State) (m : MethodId) (args : Array Value) (below : List Frame) (meth : Method) (c : Code) (T : State) (locs : List Loc), Stand p l e R s m args below meth c T locs k n → p.tables.exec = Jvm.exec → c.code = code → meth.name = name → T.heap = h → Z.Warmed39 s.vm → s.vm.findClass own = some m.cls →
      ∃ T' h', Stand p l e R s m args below meth c T' (locs ++ [⟨a, sl⟩]) k n ∧ T'.heap = h' ∧ Wr h h' a sl v ∧ ∀ target, Steps p.tables e below (T'.setTop (mkF m pc' ls' st')) target → Steps p.tables e below (T.setTop (mkF m pc ls st)) target)
    (k1 : ∀ h', Wr h h' a sl v → G M h' k n pc' ls' st') : G M h k n pc ls st := by
  obtain ⟨p, e, s, m, args, below, meth, c, hx, hc, hml, hnm, hr, hlk, hEL, rfl⟩ := hG
  intro T I
  obtain ⟨vm0, locs, k0, X, eT, hS, hk, hZ, hown, N, H, S, hn0⟩ := I
  obtain ⟨T', h', X', e', W, st⟩ := f p e (s.setVm vm0) m args below meth c T locs X hx hc hnm eT hZ hown
  have A : CHr Z EL vm0 h vm0 h' := CHr.wr W (S a ha).2.2 H.1
  obtain ⟨s₂, o, h1, h2⟩ := k1 h' W T' ⟨vm0, _, k0, X', e', hS, Nat.le_trans hk A.2.1, hZ, hown, Fr.snoc X' N (S a ha).1, H.trans A, S.chr A, hn0.wr W (S a ha).1⟩
  exact ⟨s₂, o, st _ h1, h2⟩
/-- a step that makes one object -/
theorem stepN (hG : IsGo G l Z a0 EL n0 own name code maxL ret R Q) {P : Heap → Addr → Prop} (hP : ∀ h', P h' h.size → h.size < h'.size) {st' : Addr → List Value}
    (f : ∀ (p : Program) (e : Env) (s : State) (m : MethodId) (args : Array Value) (below : List Frame) (meth : Method) (c : Code) (T : State) (locs : List Loc), Stand p l e R s m args below meth c T locs k n → p.tables.exec = Jvm.exec → c.code = code → c.maxLocals = maxL → T.heap = h → Z.Warmed39 s.vm → s.vm.findClass own = some m.cls →
      ∃ T' h', Stand p l e R s m args below meth c T' locs k' n' ∧ T'.heap = h' ∧ Ext h h' ∧ P h' h.size ∧ ∀ target, Steps p.tables e below (T'.setTop (mkF m pc' ls' (st' h.size))) target → Steps p.tables e below (T.setTop (mkF m pc ls st)) target)
    (k1 : ∀ h' a, h.size ≤ a → Ext h h' → P h' a → G (a :: M) h' k' n' pc' ls' (st' a)) : G M h k n pc ls st := by
  obtain ⟨p, e, s, m, args, below, meth, c, hx, hc, hml, hnm, hr, hlk, hEL, rfl⟩ := hG
  intro T I
  obtain ⟨vm0, locs, k0, X, eT, hS, hk, hZ, hown, N, H, S, hn0⟩ := I
  obtain ⟨T', h', X', e', E, hp, st⟩ := f p e (s.setVm vm0) m args below meth c T locs X hx hc hml eT hZ hown
  have A : CHr Z EL vm0 h vm0 h' := CHr.ext E H.1
  obtain ⟨s₂, o, h1, h2⟩ := k1 h' h.size (Nat.le_refl _) E hp T' ⟨vm0, _, k0, X', e', hS, Nat.le_trans hk A.2.1, hZ, hown, N, H.trans A, fun x hx => by
    rcases List.mem_cons.mp hx with rfl | q
    · exact ⟨hn0.1 ▸ hn0.2.1, hP _ hp, Safe.ext E H.1 (Safe.new (Nat.le_refl _))⟩
    · exact S.chr A x q, hn0.ext E⟩
  exact ⟨s₂, o, st _ h1, h2⟩
/-- less is known, more is made -/
theorem weaken (hG : IsGo G l Z a0 EL n0 own name code maxL ret R Q) (hM : ∀ x ∈ M', x ∈ M) (hk : k ≤ k') (hn : n ≤ n') (k1 : G M' h k' n' pc ls st) : G M h k n pc ls st := by
  obtain ⟨p, e, s, m, args, below, meth, c, hx, hc, hml, hnm, hr, hlk, hEL, rfl⟩ := hG
  intro T I
  obtain ⟨vm0, locs, k0, X, eT, hS, hk0, hZ, hown, N, H, S, hn0⟩ := I
  exact k1 T ⟨vm0, locs, k0, X.more hk hn, eT, hS, hk0, hZ, hown, N, H, S.sub hM, hn0⟩
theorem facts (hG : IsGo G l Z a0 EL n0 own name code maxL ret R Q) (k1 : Old Z n0 h → (∀ x ∈ M, n0 ≤ x ∧ x < h.size) → G M h k n pc ls st) : G M h k n pc ls st := by
  obtain ⟨p, e, s, m, args, below, meth, c, hx, hc, hml, hnm, hr, hlk, hEL, rfl⟩ := hG
  intro T I
  obtain ⟨vm0, locs, k0, X, eT, hS, hk0, hZ, hown, N, H, S, hn0⟩ := id I
  exact k1 hn0 (fun x hx => ⟨(S x hx).1, (S x hx).2.1⟩) T I
/-- the way out -/
theorem leaves (hG : IsGo G l Z a0 EL n0 own name code maxL ret R Q) {v : Option Value} (hv : ret = none → v = none) (hq : Q v M' h) (hM : ∀ x ∈ M', x ∈ M) (hk : k ≤ R.cells) (hn : n ≤ R.slots)
    (f : ∀ (p : Program) (e : Env) (s : State) (m : MethodId) (args : Array Value) (below : List Frame) (meth : Method) (c : Code) (T : State) (locs : List Loc) (fs : List Frame), Stand p l e R s m args below meth c T locs k n → p.tables.exec = Jvm.exec → c.code = code → meth.sig.returnType = ret →
      (∀ (f : JFrame) (acts : List Action), f.method = m → f.locked = none → f.entered = [] → (doReturn e (T.setTop f) acts v).1 = T.setFrames fs) → Steps p.tables e below (T.setTop (mkF m pc ls st)) (T.setFrames fs)) : G M h k n pc ls st := by
  obtain ⟨p, e, s, m, args, below, meth, c, hx, hc, hml, hnm, hr, hlk, hEL, rfl⟩ := hG
  intro T I
  obtain ⟨vm0, locs, k0, X, eT, hS, hk0, hZ, hown, N, H, S, hn0⟩ := I
  obtain ⟨fs, h1, h2, h3, h4⟩ := X.leaveW (v := v) hS (by rw [eT]; exact hk0) (fun q => hv (hr ▸ q)) hlk
  have A := CHv.at X hZ hEL H.1
  have eh : (T.setFrames fs).heap = h := eT
  have ev : (T.setFrames fs).vm = T.vm := rfl
  refine ⟨_, _, f p e (s.setVm vm0) m args below meth c T locs fs X hx hc hr h1, h2, h3, v, locs, M', rfl, by rw [eh]; exact hq, N, by rw [eh, ev]; exact H.trans A, by rw [eh, ev]; exact (S.chr A).sub hM, by rw [eh]; exact hn0, h4.1, h4.2.1, h4.2.2.1, h4.2.2.2.mono hk hn⟩
end Jvm.OwnWp
namespace Jvm.OwnWp
abbrev ints0 (xs : List Int32) : List Value := xs.map Value.int
open Sem ClassFile Op Lib Bundle Jvm.Stand Jvm.Free Jvm.LawKit Jvm.RoadKit
variable {G : GoT} {l : Launch} {Z : State} {a0 : Array Value} {EL : ELT} {n0 : Nat} {own name : String} {code : ByteArray} {maxL : Nat} {ret : Option FieldType} {R : Room} {Q : QT}
variable {M M' : List Addr} {h h' : Heap} {k n k' n' pc pc' : Nat} {ls ls' : Array Slot} {st st' rest : List Value}
theorem iloadN (hG : IsGo G l Z a0 EL n0 own name code maxL ret R Q) {j : Fin 4} {x : Int32} (hd : decode code pc = .ok (.iload_n j, 1)) (hl : ls[j.val]? = some (.val (.int x))) (k1 : G M h k n (pc + 1) ls (.int x :: st)) : G M h k n pc ls st :=
  plain hG (fun _ _ _ _ _ _ _ A hx hc r => XS.iloadN A hx rfl (hb hc hd) hl r) k1
theorem iload (hG : IsGo G l Z a0 EL n0 own name code maxL ret R Q) {j : Nat} {x : Int32} (hd : decode code pc = .ok (.iload j, 2)) (hl : ls[j]? = some (.val (.int x))) (k1 : G M h k n (pc + 2) ls (.int x :: st)) : G M h k n pc ls st :=
  plain hG (fun _ _ _ _ _ _ _ A hx hc r => XS.iload A hx rfl (hb hc hd) hl r) k1
theorem istoreN (hG : IsGo G l Z a0 EL n0 own name code maxL ret R Q) {j : Fin 4} {x : Int32} (hd : decode code pc = .ok (.istore_n j, 1))  (hl : storeLocals ls j.val (.int x) = some ls') (k1 : G M h k n (pc + 1) ls' st) : G M h k n pc ls (.int x :: st) :=
  plain hG (fun _ _ _ _ _ _ _ A hx hc r => XS.istoreN A hx rfl (hb hc hd) rfl hl r) k1
theorem istore (hG : IsGo G l Z a0 EL n0 own name code maxL ret R Q) {j : Nat} {x : Int32} (hd : decode code pc = .ok (.istore j, 2))  (hl : storeLocals ls j (.int x) = some ls') (k1 : G M h k n (pc + 2) ls' st) : G M h k n pc ls (.int x :: st) :=
  plain hG (fun _ _ _ _ _ _ _ A hx hc r => XS.istore A hx rfl (hb hc hd) rfl hl r) k1
theorem aloadN (hG : IsGo G l Z a0 EL n0 own name code maxL ret R Q) {j : Fin 4} {v : Value} (hd : decode code pc = .ok (.aload_n j, 1)) (hl : ls[j.val]? = some (.val (v))) (hv : v.isRef = true) (k1 : G M h k n (pc + 1) ls (v :: st)) : G M h k n pc ls st :=
  plain hG (fun _ _ _ _ _ _ _ A hx hc r => XS.aloadN A hx rfl (hb hc hd) hl hv r) k1
theorem aload (hG : IsGo G l Z a0 EL n0 own name code maxL ret R Q) {j : Nat} {v : Value} (hd : decode code pc = .ok (.aload j, 2)) (hl : ls[j]? = some (.val (v))) (hv : v.isRef = true) (k1 : G M h k n (pc + 2) ls (v :: st)) : G M h k n pc ls st :=
  plain hG (fun _ _ _ _ _ _ _ A hx hc r => XS.aload A hx rfl (hb hc hd) hl hv r) k1
theorem astoreN (hG : IsGo G l Z a0 EL n0 own name code maxL ret R Q) {j : Fin 4} {v : Value} (hd : decode code pc = .ok (.astore_n j, 1)) (hv : v.isRef = true) (hl : storeLocals ls j.val (v) = some ls') (k1 : G M h k n (pc + 1) ls' st) : G M h k n pc ls (v :: st) :=
  plain hG (fun _ _ _ _ _ _ _ A hx hc r => XS.astoreN A hx rfl (hb hc hd) rfl hv hl r) k1
theorem astore (hG : IsGo G l Z a0 EL n0 own name code maxL ret R Q) {j : Nat} {v : Value} (hd : decode code pc = .ok (.astore j, 2)) (hv : v.isRef = true) (hl : storeLocals ls j (v) = some ls') (k1 : G M h k n (pc + 2) ls' st) : G M h k n pc ls (v :: st) :=
  plain hG (fun _ _ _ _ _ _ _ A hx hc r => XS.astore A hx rfl (hb hc hd) rfl hv hl r) k1
theorem istoreS (hG : IsGo G l Z a0 EL n0 own name code maxL ret R Q) {j : Nat} {x : Int32} {o : Slot} (hd : decode code pc = .ok (.istore j, 2)) (hold : ls[j]? = some o) (ho : One o) (k1 : G M h k n (pc + 2) (ls.setIfInBounds j (.val (.int x))) st) : G M h k n pc ls (.int x :: st) :=
  plain hG (fun _ _ _ _ _ _ _ A hx hc r => XS.istoreS A hx rfl (hb hc hd) rfl hold ho r) k1
theorem istoreSN (hG : IsGo G l Z a0 EL n0 own name code maxL ret R Q) {j : Fin 4} {x : Int32} {o : Slot} (hd : decode code pc = .ok (.istore_n j, 1)) (hold : ls[j.val]? = some o) (ho : One o) (k1 : G M h k n (pc + 1) (ls.setIfInBounds j.val (.val (.int x))) st) : G M h k n pc ls (.int x :: st) :=
  plain hG (fun _ _ _ _ _ _ _ A hx hc r => XS.istoreNS A hx rfl (hb hc hd) rfl hold ho r) k1
theorem astoreS (hG : IsGo G l Z a0 EL n0 own name code maxL ret R Q) {j : Nat} {v : Value} {o : Slot} (hd : decode code pc = .ok (.astore j, 2)) (hv : v.isRef = true) (hc1 : v.category = 1) (hold : ls[j]? = some o) (ho : One o) (k1 : G M h k n (pc + 2) (ls.setIfInBounds j (.val (v))) st) : G M h k n pc ls (v :: st) :=
  plain hG (fun _ _ _ _ _ _ _ A hx hc r => XS.astoreS A hx rfl (hb hc hd) rfl hv hc1 hold ho r) k1
theorem astoreSN (hG : IsGo G l Z a0 EL n0 own name code maxL ret R Q) {j : Fin 4} {v : Value} {o : Slot} (hd : decode code pc = .ok (.astore_n j, 1)) (hv : v.isRef = true) (hc1 : v.category = 1) (hold : ls[j.val]? = some o) (ho : One o) (k1 : G M h k n (pc + 1) (ls.setIfInBounds j.val (.val (v))) st) : G M h k n pc ls (v :: st) :=
  plain hG (fun _ _ _ _ _ _ _ A hx hc r => XT.astoreNS A hx rfl (hb hc hd) rfl hv hc1 hold ho r) k1
theorem iconst (hG : IsGo G l Z a0 EL n0 own name code maxL ret R Q) {i : Int} (hd : decode code pc = .ok (.iconst i, 1)) (x : Int32) (hv : Int32.ofInt i = x) (k1 : G M h k n (pc + 1) ls (.int x :: st)) : G M h k n pc ls st :=
  plain hG (fun _ _ _ _ _ _ _ A hx hc r => XS.iconst A hx rfl (hb hc hd) (by rw [hv]; exact r)) k1
theorem bipush (hG : IsGo G l Z a0 EL n0 own name code maxL ret R Q) {i : Int} (hd : decode code pc = .ok (.bipush i, 2)) (x : Int32) (hv : (Int8.ofInt i).toInt32 = x) (k1 : G M h k n (pc + 2) ls (.int x :: st)) : G M h k n pc ls st :=
  plain hG (fun _ _ _ _ _ _ _ A hx hc r => XS.bipush A hx rfl (hb hc hd) (by rw [hv]; exact r)) k1
theorem sipush (hG : IsGo G l Z a0 EL n0 own name code maxL ret R Q) {i : Int} (hd : decode code pc = .ok (.sipush i, 3)) (x : Int32) (hv : (Int16.ofInt i).toInt32 = x) (k1 : G M h k n (pc + 3) ls (.int x :: st)) : G M h k n pc ls st :=
  plain hG (fun _ _ _ _ _ _ _ A hx hc r => XS.sipush A hx rfl (hb hc hd) (by rw [hv]; exact r)) k1
theorem aconst_null (hG : IsGo G l Z a0 EL n0 own name code maxL ret R Q)  (hd : decode code pc = .ok (.aconst_null, 1)) (k1 : G M h k n (pc + 1) ls (.null :: st)) : G M h k n pc ls st :=
  plain hG (fun _ _ _ _ _ _ _ A hx hc r => XS.aconstNull A hx rfl (hb hc hd) r) k1
theorem iadd (hG : IsGo G l Z a0 EL n0 own name code maxL ret R Q) {x y : Int32} (hd : decode code pc = .ok (.iadd, 1)) (k1 : G M h k n (pc + 1) ls (.int (x + y) :: st)) : G M h k n pc ls (.int y :: .int x :: st) :=
  plain hG (fun _ _ _ _ _ _ _ A hx hc r => XS.iadd A hx rfl (hb hc hd) rfl r) k1
theorem isub (hG : IsGo G l Z a0 EL n0 own name code maxL ret R Q) {x y : Int32} (hd : decode code pc = .ok (.isub, 1)) (k1 : G M h k n (pc + 1) ls (.int (x - y) :: st)) : G M h k n pc ls (.int y :: .int x :: st) :=
  plain hG (fun _ _ _ _ _ _ _ A hx hc r => XS.isub A hx rfl (hb hc hd) rfl r) k1
theorem iand (hG : IsGo G l Z a0 EL n0 own name code maxL ret R Q) {x y : Int32} (hd : decode code pc = .ok (.iand, 1)) (k1 : G M h k n (pc + 1) ls (.int (x &&& y) :: st)) : G M h k n pc ls (.int y :: .int x :: st) :=
  plain hG (fun _ _ _ _ _ _ _ A hx hc r => XS.iand A hx rfl (hb hc hd) rfl r) k1
theorem imul (hG : IsGo G l Z a0 EL n0 own name code maxL ret R Q) {x y : Int32} (hd : decode code pc = .ok (.imul, 1)) (k1 : G M h k n (pc + 1) ls (.int (x * y) :: st)) : G M h k n pc ls (.int y :: .int x :: st) :=
  plain hG (fun _ _ _ _ _ _ _ A hx hc r => XS.imul A hx rfl (hb hc hd) rfl r) k1
theorem ior (hG : IsGo G l Z a0 EL n0 own name code maxL ret R Q) {x y : Int32} (hd : decode code pc = .ok (.ior, 1)) (k1 : G M h k n (pc + 1) ls (.int (x ||| y) :: st)) : G M h k n pc ls (.int y :: .int x :: st) :=
  plain hG (fun _ _ _ _ _ _ _ A hx hc r => XS.ior A hx rfl (hb hc hd) rfl r) k1
theorem ixor (hG : IsGo G l Z a0 EL n0 own name code maxL ret R Q) {x y : Int32} (hd : decode code pc = .ok (.ixor, 1)) (k1 : G M h k n (pc + 1) ls (.int (x ^^^ y) :: st)) : G M h k n pc ls (.int y :: .int x :: st) :=
  plain hG (fun _ _ _ _ _ _ _ A hx hc r => XS.ixor A hx rfl (hb hc hd) rfl r) k1
theorem ishl (hG : IsGo G l Z a0 EL n0 own name code maxL ret R Q) {x y : Int32} (hd : decode code pc = .ok (.ishl, 1)) (k1 : G M h k n (pc + 1) ls (.int (x <<< (y &&& 31)) :: st)) : G M h k n pc ls (.int y :: .int x :: st) :=
  plain hG (fun _ _ _ _ _ _ _ A hx hc r => XS.ishl A hx rfl (hb hc hd) rfl r) k1
theorem ishr (hG : IsGo G l Z a0 EL n0 own name code maxL ret R Q) {x y : Int32} (hd : decode code pc = .ok (.ishr, 1)) (k1 : G M h k n (pc + 1) ls (.int (x >>> (y &&& 31)) :: st)) : G M h k n pc ls (.int y :: .int x :: st) :=
  plain hG (fun _ _ _ _ _ _ _ A hx hc r => XS.ishr A hx rfl (hb hc hd) rfl r) k1
theorem iushr (hG : IsGo G l Z a0 EL n0 own name code maxL ret R Q) {x y : Int32} (hd : decode code pc = .ok (.iushr, 1)) (k1 : G M h k n (pc + 1) ls (.int ((x.toUInt32 >>> (y &&& 31).toUInt32).toInt32) :: st)) : G M h k n pc ls (.int y :: .int x :: st) :=
  plain hG (fun _ _ _ _ _ _ _ A hx hc r => XS.iushr A hx rfl (hb hc hd) rfl r) k1
theorem ineg (hG : IsGo G l Z a0 EL n0 own name code maxL ret R Q) {x : Int32} (hd : decode code pc = .ok (.ineg, 1)) (k1 : G M h k n (pc + 1) ls (.int (-x) :: st)) : G M h k n pc ls (.int x :: st) :=
  plain hG (fun _ _ _ _ _ _ _ A hx hc r => XS.ineg A hx rfl (hb hc hd) rfl r) k1
theorem i2b (hG : IsGo G l Z a0 EL n0 own name code maxL ret R Q) {x : Int32} (hd : decode code pc = .ok (.i2b, 1)) (k1 : G M h k n (pc + 1) ls (.int x.toInt8.toInt32 :: st)) : G M h k n pc ls (.int x :: st) :=
  plain hG (fun _ _ _ _ _ _ _ A hx hc r => XS.i2b A hx rfl (hb hc hd) rfl r) k1
theorem i2c (hG : IsGo G l Z a0 EL n0 own name code maxL ret R Q) {x : Int32} (hd : decode code pc = .ok (.i2c, 1)) (k1 : G M h k n (pc + 1) ls (.int x.toUInt32.toUInt16.toUInt32.toInt32 :: st)) : G M h k n pc ls (.int x :: st) :=
  plain hG (fun _ _ _ _ _ _ _ A hx hc r => XS.i2c A hx rfl (hb hc hd) rfl r) k1
theorem idiv (hG : IsGo G l Z a0 EL n0 own name code maxL ret R Q) {x y : Int32} (hd : decode code pc = .ok (.idiv, 1)) (hy : y ≠ 0) (k1 : G M h k n (pc + 1) ls (.int (x / y) :: st)) : G M h k n pc ls (.int y :: .int x :: st) :=
  plain hG (fun _ _ _ _ _ _ _ A hx hc r => XS.idiv A hx rfl (hb hc hd) rfl hy r) k1
theorem dup (hG : IsGo G l Z a0 EL n0 own name code maxL ret R Q) {v : Value} (hd : decode code pc = .ok (.dup, 1)) (hc1 : v.category = 1) (k1 : G M h k n (pc + 1) ls (v :: v :: st)) : G M h k n pc ls (v :: st) :=
  plain hG (fun _ _ _ _ _ _ _ A hx hc r => XS.dup A hx rfl (hb hc hd) rfl hc1 r) k1
theorem pop (hG : IsGo G l Z a0 EL n0 own name code maxL ret R Q) {v : Value} (hd : decode code pc = .ok (.pop, 1)) (hc1 : v.category = 1) (k1 : G M h k n (pc + 1) ls st) : G M h k n pc ls (v :: st) :=
  plain hG (fun _ _ _ _ _ _ _ A hx hc r => XS.pop A hx rfl (hb hc hd) rfl hc1 r) k1
theorem dup_x1 (hG : IsGo G l Z a0 EL n0 own name code maxL ret R Q) {v w : Value} (hd : decode code pc = .ok (.dup_x1, 1)) (hc1 : v.category = 1) (hc2 : w.category = 1) (k1 : G M h k n (pc + 1) ls (v :: w :: v :: st)) : G M h k n pc ls (v :: w :: st) :=
  plain hG (fun _ _ _ _ _ _ _ A hx hc r => XS.dupX1 A hx rfl (hb hc hd) rfl hc1 hc2 r) k1
theorem iinc (hG : IsGo G l Z a0 EL n0 own name code maxL ret R Q) {j : Nat} {cst : Int} {x : Int32} (hd : decode code pc = .ok (.iinc j cst, 3)) (hl : ls[j]? = some (.val (.int x))) (y : Int32) (hv : x + Int32.ofInt cst = y) (hl' : storeLocals ls j (.int y) = some ls') (k1 : G M h k n (pc + 3) ls' st) : G M h k n pc ls st :=
  plain hG (fun _ _ _ _ _ _ _ A hx hc r => XS.iinc A hx rfl (hb hc hd) hl (by rw [hv]; exact hl') r) k1
theorem goto (hG : IsGo G l Z a0 EL n0 own name code maxL ret R Q) {o : Int} (hd : decode code pc = .ok (.goto o, 3)) (ho : 0 ≤ (pc : Int) + o) (hp : ((pc : Int) + o).toNat = pc') (k1 : G M h k n pc' ls st) : G M h k n pc ls st :=
  plain hG (fun _ _ _ _ _ _ _ A hx hc r => XS.goto A hx rfl rfl (hb hc hd) ho hp r) k1
theorem ifYes (hG : IsGo G l Z a0 EL n0 own name code maxL ret R Q) {o : Int} {cd : ClassFile.Cond} {x : Int32} (hd : decode code pc = .ok (.ifCond cd o, 3)) (hc1 : if_icmp.holds cd x 0 = true) (ho : 0 ≤ (pc : Int) + o) (hp : ((pc : Int) + o).toNat = pc') (k1 : G M h k n pc' ls st) : G M h k n pc ls (.int x :: st) :=
  plain hG (fun _ _ _ _ _ _ _ A hx hc r => XS.ifYes A hx rfl rfl (hb hc hd) rfl (by rw [if0]; exact hc1) ho hp r) k1
theorem ifNo (hG : IsGo G l Z a0 EL n0 own name code maxL ret R Q) {o : Int} {cd : ClassFile.Cond} {x : Int32} (hd : decode code pc = .ok (.ifCond cd o, 3)) (hc1 : if_icmp.holds cd x 0 = false) (k1 : G M h k n (pc + 3) ls st) : G M h k n pc ls (.int x :: st) :=
  plain hG (fun _ _ _ _ _ _ _ A hx hc r => XS.ifNo A hx rfl (hb hc hd) rfl (by rw [if0]; exact hc1) r) k1
theorem icmpYes (hG : IsGo G l Z a0 EL n0 own name code maxL ret R Q) {o : Int} {cd : ClassFile.Cond} {x y : Int32} (hd : decode code pc = .ok (.if_icmp cd o, 3)) (hc1 : if_icmp.holds cd x y = true) (ho : 0 ≤ (pc : Int) + o) (hp : ((pc : Int) + o).toNat = pc') (k1 : G M h k n pc' ls st) : G M h k n pc ls (.int y :: .int x :: st) :=
  plain hG (fun _ _ _ _ _ _ _ A hx hc r => XS.icmpYes A hx rfl rfl (hb hc hd) rfl hc1 ho hp r) k1
theorem icmpNo (hG : IsGo G l Z a0 EL n0 own name code maxL ret R Q) {o : Int} {cd : ClassFile.Cond} {x y : Int32} (hd : decode code pc = .ok (.if_icmp cd o, 3)) (hc1 : if_icmp.holds cd x y = false) (k1 : G M h k n (pc + 3) ls st) : G M h k n pc ls (.int y :: .int x :: st) :=
  plain hG (fun _ _ _ _ _ _ _ A hx hc r => XS.icmpNo A hx rfl (hb hc hd) rfl hc1 r) k1
theorem icmp_eq (hG : IsGo G l Z a0 EL n0 own name code maxL ret R Q) {o : Int} {x y : Int32} (hd : decode code pc = .ok (.if_icmp .eq o, 3)) (ho : 0 ≤ (pc : Int) + o) (hp : ((pc : Int) + o).toNat = pc') (k1 : x = y → G M h k n pc' ls st) (k2 : ¬ (x = y) → G M h k n (pc + 3) ls st) : G M h k n pc ls (.int y :: .int x :: st) := by
  by_cases q : x = y
  · exact icmpYes hG hd (teq q).1 ho hp (k1 q)
  · exact icmpNo hG hd (feq q).1 (k2 q)
theorem if_eq (hG : IsGo G l Z a0 EL n0 own name code maxL ret R Q) {o : Int} {x : Int32} (hd : decode code pc = .ok (.ifCond .eq o, 3)) (ho : 0 ≤ (pc : Int) + o) (hp : ((pc : Int) + o).toNat = pc') (k1 : x = 0 → G M h k n pc' ls st) (k2 : ¬ (x = 0) → G M h k n (pc + 3) ls st) : G M h k n pc ls (.int x :: st) := by
  by_cases q : x = 0
  · exact ifYes hG hd (teq q).1 ho hp (k1 q)
  · exact ifNo hG hd (feq q).1 (k2 q)
theorem icmp_ne (hG : IsGo G l Z a0 EL n0 own name code maxL ret R Q) {o : Int} {x y : Int32} (hd : decode code pc = .ok (.if_icmp .ne o, 3)) (ho : 0 ≤ (pc : Int) + o) (hp : ((pc : Int) + o).toNat = pc') (k1 : ¬ (x = y) → G M h k n pc' ls st) (k2 : x = y → G M h k n (pc + 3) ls st) : G M h k n pc ls (.int y :: .int x :: st) := by
  by_cases q : x = y
  · exact icmpNo hG hd (teq q).2 (k2 q)
  · exact icmpYes hG hd (feq q).2 ho hp (k1 q)
theorem if_ne (hG : IsGo G l Z a0 EL n0 own name code maxL ret R Q) {o : Int} {x : Int32} (hd : decode code pc = .ok (.ifCond .ne o, 3)) (ho : 0 ≤ (pc : Int) + o) (hp : ((pc : Int) + o).toNat = pc') (k1 : ¬ (x = 0) → G M h k n pc' ls st) (k2 : x = 0 → G M h k n (pc + 3) ls st) : G M h k n pc ls (.int x :: st) := by
  by_cases q : x = 0
  · exact ifNo hG hd (teq q).2 (k2 q)
  · exact ifYes hG hd (feq q).2 ho hp (k1 q)
theorem icmp_lt (hG : IsGo G l Z a0 EL n0 own name code maxL ret R Q) {o : Int} {x y : Int32} (hd : decode code pc = .ok (.if_icmp .lt o, 3)) (ho : 0 ≤ (pc : Int) + o) (hp : ((pc : Int) + o).toNat = pc') (k1 : x < y → G M h k n pc' ls st) (k2 : ¬ (x < y) → G M h k n (pc + 3) ls st) : G M h k n pc ls (.int y :: .int x :: st) := by
  by_cases q : x < y
  · exact icmpYes hG hd (tlt q).1 ho hp (k1 q)
  · exact icmpNo hG hd (flt q).1 (k2 q)
theorem if_lt (hG : IsGo G l Z a0 EL n0 own name code maxL ret R Q) {o : Int} {x : Int32} (hd : decode code pc = .ok (.ifCond .lt o, 3)) (ho : 0 ≤ (pc : Int) + o) (hp : ((pc : Int) + o).toNat = pc') (k1 : x < 0 → G M h k n pc' ls st) (k2 : ¬ (x < 0) → G M h k n (pc + 3) ls st) : G M h k n pc ls (.int x :: st) := by
  by_cases q : x < 0
  · exact ifYes hG hd (tlt q).1 ho hp (k1 q)
  · exact ifNo hG hd (flt q).1 (k2 q)
theorem icmp_ge (hG : IsGo G l Z a0 EL n0 own name code maxL ret R Q) {o : Int} {x y : Int32} (hd : decode code pc = .ok (.if_icmp .ge o, 3)) (ho : 0 ≤ (pc : Int) + o) (hp : ((pc : Int) + o).toNat = pc') (k1 : ¬ (x < y) → G M h k n pc' ls st) (k2 : x < y → G M h k n (pc + 3) ls st) : G M h k n pc ls (.int y :: .int x :: st) := by
  by_cases q : x < y
  · exact icmpNo hG hd (tlt q).2.1 (k2 q)
  · exact icmpYes hG hd (flt q).2.1 ho hp (k1 q)
theorem if_ge (hG : IsGo G l Z a0 EL n0 own name code maxL ret R Q) {o : Int} {x : Int32} (hd : decode code pc = .ok (.ifCond .ge o, 3)) (ho : 0 ≤ (pc : Int) + o) (hp : ((pc : Int) + o).toNat = pc') (k1 : ¬ (x < 0) → G M h k n pc' ls st) (k2 : x < 0 → G M h k n (pc + 3) ls st) : G M h k n pc ls (.int x :: st) := by
  by_cases q : x < 0
  · exact ifNo hG hd (tlt q).2.1 (k2 q)
  · exact ifYes hG hd (flt q).2.1 ho hp (k1 q)
theorem icmp_gt (hG : IsGo G l Z a0 EL n0 own name code maxL ret R Q) {o : Int} {x y : Int32} (hd : decode code pc = .ok (.if_icmp .gt o, 3)) (ho : 0 ≤ (pc : Int) + o) (hp : ((pc : Int) + o).toNat = pc') (k1 : y < x → G M h k n pc' ls st) (k2 : ¬ (y < x) → G M h k n (pc + 3) ls st) : G M h k n pc ls (.int y :: .int x :: st) := by
  by_cases q : y < x
  · exact icmpYes hG hd (tlt q).2.2.1 ho hp (k1 q)
  · exact icmpNo hG hd (flt q).2.2.1 (k2 q)
theorem if_gt (hG : IsGo G l Z a0 EL n0 own name code maxL ret R Q) {o : Int} {x : Int32} (hd : decode code pc = .ok (.ifCond .gt o, 3)) (ho : 0 ≤ (pc : Int) + o) (hp : ((pc : Int) + o).toNat = pc') (k1 : 0 < x → G M h k n pc' ls st) (k2 : ¬ (0 < x) → G M h k n (pc + 3) ls st) : G M h k n pc ls (.int x :: st) := by
  by_cases q : 0 < x
  · exact ifYes hG hd (tlt q).2.2.1 ho hp (k1 q)
  · exact ifNo hG hd (flt q).2.2.1 (k2 q)
theorem icmp_le (hG : IsGo G l Z a0 EL n0 own name code maxL ret R Q) {o : Int} {x y : Int32} (hd : decode code pc = .ok (.if_icmp .le o, 3)) (ho : 0 ≤ (pc : Int) + o) (hp : ((pc : Int) + o).toNat = pc') (k1 : ¬ (y < x) → G M h k n pc' ls st) (k2 : y < x → G M h k n (pc + 3) ls st) : G M h k n pc ls (.int y :: .int x :: st) := by
  by_cases q : y < x
  · exact icmpNo hG hd (tlt q).2.2.2 (k2 q)
  · exact icmpYes hG hd (flt q).2.2.2 ho hp (k1 q)
theorem if_le (hG : IsGo G l Z a0 EL n0 own name code maxL ret R Q) {o : Int} {x : Int32} (hd : decode code pc = .ok (.ifCond .le o, 3)) (ho : 0 ≤ (pc : Int) + o) (hp : ((pc : Int) + o).toNat = pc') (k1 : ¬ (0 < x) → G M h k n pc' ls st) (k2 : 0 < x → G M h k n (pc + 3) ls st) : G M h k n pc ls (.int x :: st) := by
  by_cases q : 0 < x
  · exact ifNo hG hd (tlt q).2.2.2 (k2 q)
  · exact ifYes hG hd (flt q).2.2.2 ho hp (k1 q)
theorem ifnullYes (hG : IsGo G l Z a0 EL n0 own name code maxL ret R Q) {o : Int} (hd : decode code pc = .ok (.ifnull o, 3)) (ho : 0 ≤ (pc : Int) + o) (hp : ((pc : Int) + o).toNat = pc') (k1 : G M h k n pc' ls st) : G M h k n pc ls (.null :: st) :=
  plain hG (fun _ _ _ _ _ _ _ A hx hc r => XS.ifnullYes A hx rfl rfl (hb hc hd) rfl ho hp r) k1
theorem ifnullNo (hG : IsGo G l Z a0 EL n0 own name code maxL ret R Q) {o : Int} {a : Addr} (hd : decode code pc = .ok (.ifnull o, 3)) (k1 : G M h k n (pc + 3) ls st) : G M h k n pc ls (.ref a :: st) :=
  plain hG (fun _ _ _ _ _ _ _ A hx hc r => XS.ifnullNo A hx rfl (hb hc hd) rfl r) k1
theorem ifnonnullYes (hG : IsGo G l Z a0 EL n0 own name code maxL ret R Q) {o : Int} {a : Addr} (hd : decode code pc = .ok (.ifnonnull o, 3)) (ho : 0 ≤ (pc : Int) + o) (hp : ((pc : Int) + o).toNat = pc') (k1 : G M h k n pc' ls st) : G M h k n pc ls (.ref a :: st) :=
  plain hG (fun _ _ _ _ _ _ _ A hx hc r => XS.ifnonnullYes A hx rfl rfl (hb hc hd) rfl ho hp r) k1
theorem ifnonnullNo (hG : IsGo G l Z a0 EL n0 own name code maxL ret R Q) {o : Int} (hd : decode code pc = .ok (.ifnonnull o, 3)) (k1 : G M h k n (pc + 3) ls st) : G M h k n pc ls (.null :: st) :=
  plain hG (fun _ _ _ _ _ _ _ A hx hc r => XS.ifnonnullNo A hx rfl (hb hc hd) rfl r) k1
theorem acmp_ne (hG : IsGo G l Z a0 EL n0 own name code maxL ret R Q) {o : Int} {x y : Value} (hd : decode code pc = .ok (.if_acmp .ne o, 3)) (hx1 : x.isRef = true) (hy1 : y.isRef = true) (ho : 0 ≤ (pc : Int) + o) (hp : ((pc : Int) + o).toNat = pc') (k1 : ¬ x = y → G M h k n pc' ls st) (k2 : x = y → G M h k n (pc + 3) ls st) : G M h k n pc ls (y :: x :: st) := by
  by_cases q : x = y
  · exact plain hG (fun _ _ _ _ _ _ _ A hx hc r => XT.acmpNo A hx rfl (hb hc hd) rfl hx1 hy1 (by simp [XT.acmp, q]) r) (k2 q)
  · exact plain hG (fun _ _ _ _ _ _ _ A hx hc r => XT.acmpYes A hx rfl rfl (hb hc hd) rfl hx1 hy1 (by simp [XT.acmp, q]) ho hp r) (k1 q)
theorem acmp_eq (hG : IsGo G l Z a0 EL n0 own name code maxL ret R Q) {o : Int} {x y : Value} (hd : decode code pc = .ok (.if_acmp .eq o, 3)) (hx1 : x.isRef = true) (hy1 : y.isRef = true) (ho : 0 ≤ (pc : Int) + o) (hp : ((pc : Int) + o).toNat = pc') (k1 : x = y → G M h k n pc' ls st) (k2 : ¬ x = y → G M h k n (pc + 3) ls st) : G M h k n pc ls (y :: x :: st) := by
  by_cases q : x = y
  · exact plain hG (fun _ _ _ _ _ _ _ A hx hc r => XT.acmpYes A hx rfl rfl (hb hc hd) rfl hx1 hy1 (by simp [XT.acmp, q]) ho hp r) (k1 q)
  · exact plain hG (fun _ _ _ _ _ _ _ A hx hc r => XT.acmpNo A hx rfl (hb hc hd) rfl hx1 hy1 (by simp [XT.acmp, q]) r) (k2 q)
theorem irem (hG : IsGo G l Z a0 EL n0 own name code maxL ret R Q) {x y : Int32} (hd : decode code pc = .ok (.irem, 1)) (hy : y ≠ 0) (k1 : G M h k n (pc + 1) ls (.int (x % y) :: st)) : G M h k n pc ls (.int y :: .int x :: st) :=
  stepX hG (fun _ _ _ _ _ _ _ _ T _ X hx hc _ eT _ _ => ⟨T, X, eT, fun _ r => iremM X hx (g := mkF _ pc ls _) rfl (hb hc hd) rfl hy r⟩) k1
theorem getfield (hG : IsGo G l Z a0 EL n0 own name code maxL ret R Q) {R0 O nm d : String} {index : Nat} (hd : decode code pc = .ok (.getfield index, 3)) (w : (Cond.fieldLink own index R0 nm d).before a0 Z = true) (via : Via Z R0 O nm d) {a : Addr} {v : Value} (F : Fld Z h a O nm d v) (k1 : G M h k n (pc + 3) ls (v :: st)) : G M h k n pc ls (.ref a :: st) :=
  stepX hG (fun _ _ _ m _ _ _ _ _ _ X hx hc _ eT hZ hown => getF X hx hZ hown (host := "") (Or.inl w) via eT F (g := mkF m pc ls (.ref a :: st)) rfl rfl (hb hc hd)) k1
theorem getfieldN (hG : IsGo G l Z a0 EL n0 own name code maxL ret R Q) {R0 O nm d host : String} {index : Nat} (hd : decode code pc = .ok (.getfield index, 3)) (w : (Cond.fieldLinkNest own index R0 nm d host).before a0 Z = true) (via : Via Z R0 O nm d) {a : Addr} {v : Value} (F : Fld Z h a O nm d v) (k1 : G M h k n (pc + 3) ls (v :: st)) : G M h k n pc ls (.ref a :: st) :=
  stepX hG (fun _ _ _ m _ _ _ _ _ _ X hx hc _ eT hZ hown => getF X hx hZ hown (Or.inr w) via eT F (g := mkF m pc ls (.ref a :: st)) rfl rfl (hb hc hd)) k1
theorem getstatic (hG : IsGo G l Z a0 EL n0 own name code maxL ret R Q) {R0 O nm d : String} {index : Nat} (hd : decode code pc = .ok (.getstatic index, 3)) (w : (Cond.fieldLink own index R0 nm d).before a0 Z = true) (via : Via Z R0 O nm d) {v : Value} (F : Sta Z Z.heap O nm d v) (k1 : G M h k n (pc + 3) ls (v :: st)) : G M h k n pc ls st :=
  facts hG fun O9 _ => stepX hG (fun _ _ _ m _ _ _ _ _ _ X hx hc _ eT hZ hown => getS (host := "") X hx hZ hown w via eT (F.ext O9.2) (g := mkF m pc ls st) rfl (hb hc hd)) k1
theorem getstaticN (hG : IsGo G l Z a0 EL n0 own name code maxL ret R Q) {R0 O nm d host : String} {index : Nat} (hd : decode code pc = .ok (.getstatic index, 3)) (w : (Cond.fieldLinkNest own index R0 nm d host).before a0 Z = true) (via : Via Z R0 O nm d) {v : Value} (F : Sta Z Z.heap O nm d v) (k1 : G M h k n (pc + 3) ls (v :: st)) : G M h k n pc ls st :=
  facts hG fun O9 _ => stepX hG (fun _ _ _ m _ _ _ _ _ _ X hx hc _ eT hZ hown => getS2 X hx hZ hown (Or.inr w) via eT (F.ext O9.2) (g := mkF m pc ls st) rfl (hb hc hd)) k1
theorem checkcast (hG : IsGo G l Z a0 EL n0 own name code maxL ret R Q) {K : String} {index : Nat} (hd : decode code pc = .ok (.checkcast index, 3)) (w : (Cond.classLink own index K).before a0 Z = true) {a : Addr} (F : Ins Z h a K true) (k1 : G M h k n (pc + 3) ls (.ref a :: st)) : G M h k n pc ls (.ref a :: st) :=
  stepX hG (fun _ _ _ m _ _ _ _ _ _ X hx hc _ eT hZ hown => castY X hx hZ hown w eT F (g := mkF m pc ls (.ref a :: st)) rfl rfl (hb hc hd)) k1
theorem instYes (hG : IsGo G l Z a0 EL n0 own name code maxL ret R Q) {K : String} {index : Nat} (hd : decode code pc = .ok (.instanceof index, 3)) (w : (Cond.classLink own index K).before a0 Z = true) {a : Addr} (F : Ins Z h a K true) (k1 : G M h k n (pc + 3) ls (.int 1 :: st)) : G M h k n pc ls (.ref a :: st) :=
  stepX hG (fun _ _ _ m _ _ _ _ _ _ X hx hc _ eT hZ hown => instY X hx hZ hown w eT F (g := mkF m pc ls (.ref a :: st)) rfl rfl (hb hc hd)) k1
theorem instNot (hG : IsGo G l Z a0 EL n0 own name code maxL ret R Q) {K C : String} {index : Nat} (hd : decode code pc = .ok (.instanceof index, 3)) (w : (Cond.classLink own index K).before a0 Z = true) {a : Addr} (E : Exa Z h a C) (F : ∃ c t, Z.vm.findClass C = some c ∧ Z.vm.findClass K = some t ∧ Z.vm.assignable c t = false) (k1 : G M h k n (pc + 3) ls (.int 0 :: st)) : G M h k n pc ls (.ref a :: st) :=
  stepX hG (fun _ _ _ m _ _ _ _ _ _ X hx hc _ eT hZ hown => instNo X hx hZ hown w eT E F (g := mkF m pc ls (.ref a :: st)) rfl rfl (hb hc hd)) k1
theorem objInit (hG : IsGo G l Z a0 EL n0 own name code maxL ret R Q) {index W : Nat} (hd : decode code pc = .ok (.invokespecial index, 3)) (w1 : (Cond.methodLink own index Lib.objectInit).before a0 Z = true) (w2 : (Cond.instanceMethod Lib.objectInit).before a0 Z = true) (w3 : (Cond.code Lib.objectInit ⟨#[0xb1]⟩ 1 none).before a0 Z = true) (hls : ls.size = maxL) (hf : 1 ≤ R.frames) {a : Addr} (hW : (st.map fun v => v.category).sum ≤ W) (hl : W + 12 ≤ R.locals) (k1 : G M h k n (pc + 3) ls st) : G M h k n pc ls (.ref a :: st) :=
  stepX hG (fun _ _ _ m _ _ _ _ _ _ X hx hc hml eT hZ hown => initO X hx hZ hown w1 w2 w3 eT (g := mkF m pc ls (.ref a :: st)) rfl (by rw [hml]; exact hls) rfl (hb hc hd) hf (W := W) (by show 2 * 0 + _ ≤ _; omega) hl) k1
theorem alen (hG : IsGo G l Z a0 EL n0 own name code maxL ret R Q) (hd : decode code pc = .ok (.arraylength, 1)) {a : Addr} {kk : ClassId} {ty : FieldType} {N : Int32} {vs : List Value} {d : Value} (V : Arv Z h a kk ty N vs d) (k1 : G M h k n (pc + 1) ls (.int N :: st)) : G M h k n pc ls (.ref a :: st) :=
  stepX hG (fun _ _ _ m _ _ _ _ T _ X hx hc _ eT hZ _ => ⟨T, X, eT, fun t r => by
    obtain ⟨cl, A, -, S, hN, -⟩ := V
    refine X.arraylength hx (by rw [eT]; exact A.1) (State.isArrayOf_alike hZ.alike A.2.1) (g := mkF m pc ls (.ref a :: st)) rfl rfl (hb hc hd) t ?_
    rw [len_of S hN]; exact r⟩) k1
theorem caload (hG : IsGo G l Z a0 EL n0 own name code maxL ret R Q) (hd : decode code pc = .ok (.caload, 1)) {a : Addr} {kk : ClassId} {N j : Int32} {vs : List Value} {d v : Value} (V : Arv Z h a kk .char N vs d) (hj : ¬ j < 0 ∧ j < N) (hv : vs.getD j.toNatClampNeg d = v) (k1 : G M h k n (pc + 1) ls (v :: st)) : G M h k n pc ls (.int j :: .ref a :: st) :=
  stepX hG (fun _ _ _ m _ _ _ _ T _ X hx hc _ eT hZ _ => ⟨T, X, eT, fun t r => by
    obtain ⟨cl, A, -, S, hN, H, -⟩ := V
    exact X.caload hx (by rw [eT]; exact A.1) (State.isArrayOf_alike hZ.alike A.2.1) A.2.2 (inb_of S hj) (Has.at H (inb_of S hj) hv) (g := mkF m pc ls (.int j :: .ref a :: st)) rfl rfl (hb hc hd) t r⟩) k1
theorem baload (hG : IsGo G l Z a0 EL n0 own name code maxL ret R Q) (hd : decode code pc = .ok (.baload, 1)) {a : Addr} {kk : ClassId} {N j : Int32} {vs : List Value} {d v : Value} (V : Arv Z h a kk .byte N vs d) (hj : ¬ j < 0 ∧ j < N) (hv : vs.getD j.toNatClampNeg d = v) (k1 : G M h k n (pc + 1) ls (v :: st)) : G M h k n pc ls (.int j :: .ref a :: st) :=
  stepX hG (fun _ _ _ m _ _ _ _ T _ X hx hc _ eT hZ _ => ⟨T, X, eT, fun t r => by
    obtain ⟨cl, A, -, S, hN, H, -⟩ := V
    exact X.baloadBytes hx (by rw [eT]; exact A.1) (State.isArrayOf_alike hZ.alike A.2.1) A.2.2 (inb_of S hj) (Has.at H (inb_of S hj) hv) (g := mkF m pc ls (.int j :: .ref a :: st)) rfl rfl (hb hc hd) t r⟩) k1
theorem iaload (hG : IsGo G l Z a0 EL n0 own name code maxL ret R Q) (hd : decode code pc = .ok (.iaload, 1)) {a : Addr} {kk : ClassId} {N j : Int32} {vs : List Value} {d v : Value} (V : Arv Z h a kk .int N vs d) (hj : ¬ j < 0 ∧ j < N) (hv : vs.getD j.toNatClampNeg d = v) (k1 : G M h k n (pc + 1) ls (v :: st)) : G M h k n pc ls (.int j :: .ref a :: st) :=
  stepX hG (fun _ _ _ m _ _ _ _ T _ X hx hc _ eT hZ _ => ⟨T, X, eT, fun t r => by
    obtain ⟨cl, A, -, S, hN, H, -⟩ := V
    exact X.iaload hx (by rw [eT]; exact A.1) (State.isArrayOf_alike hZ.alike A.2.1) A.2.2 (inb_of S hj) (Has.at H (inb_of S hj) hv) (g := mkF m pc ls (.int j :: .ref a :: st)) rfl rfl (hb hc hd) t r⟩) k1
theorem aaload (hG : IsGo G l Z a0 EL n0 own name code maxL ret R Q) (hd : decode code pc = .ok (.aaload, 1)) {a : Addr} {kk : ClassId} {ty : FieldType} (hty : ty.isReference = true) {N j : Int32} {vs : List Value} {d v : Value} (V : Arv Z h a kk ty N vs d) (hj : ¬ j < 0 ∧ j < N) (hv : vs.getD j.toNatClampNeg d = v) (k1 : G M h k n (pc + 1) ls (v :: st)) : G M h k n pc ls (.int j :: .ref a :: st) :=
  stepX hG (fun _ _ _ m _ _ _ _ T _ X hx hc _ eT hZ _ => ⟨T, X, eT, fun t r => by
    obtain ⟨cl, A, -, S, hN, H, -⟩ := V
    exact X.aaload hx (by rw [eT]; exact A.1) (State.isArrayOf_alike hZ.alike A.2.1) hty A.2.2 (inb_of S hj) (Has.at H (inb_of S hj) hv) (g := mkF m pc ls (.int j :: .ref a :: st)) rfl rfl (hb hc hd) t r⟩) k1
theorem checkcastNull (hG : IsGo G l Z a0 EL n0 own name code maxL ret R Q) {index : Nat} (hd : decode code pc = .ok (.checkcast index, 3)) (k1 : G M h k n (pc + 3) ls (.null :: st)) : G M h k n pc ls (.null :: st) :=
  stepX hG (fun _ _ _ m _ _ _ _ T _ X hx hc _ eT hZ hown => ⟨T, X, eT, fun t r => X.checkcastNull hx (g := mkF m pc ls (.null :: st)) rfl rfl (hb hc hd) t r⟩) k1
theorem cloneArr (hG : IsGo G l Z a0 EL n0 own name code maxL ret R Q) {ad : String} {index W : Nat} (hd : decode code pc = .ok (.invokevirtual index, 3)) (w1 : (Cond.methodLink own index ⟨ad, "clone", "()Ljava/lang/Object;"⟩).before a0 Z = true) (w2 : (Cond.sameMethod ad "java/lang/Object" "clone" "()Ljava/lang/Object;").before a0 Z = true) (w3 : (Cond.native ⟨"java/lang/Object", "clone", "()Ljava/lang/Object;"⟩).before a0 Z = true)
    (w4 : (Cond.instanceMethod ⟨"java/lang/Object", "clone", "()Ljava/lang/Object;"⟩).before a0 Z = true) (w5 : (Cond.selects ad ⟨ad, "clone", "()Ljava/lang/Object;"⟩ ⟨"java/lang/Object", "clone", "()Ljava/lang/Object;"⟩).before a0 Z = true) (w6 : (Cond.castable ad "java/lang/Cloneable").before a0 Z = true)
    {a : Addr} {kk : ClassId} {ty : FieldType} {N : Int32} {vs : List Value} {d : Value} (V : Arv Z h a kk ty N vs d) (E : Exa Z h a ad) (hls : ls.size = maxL) (hf : 1 ≤ R.frames) (hW : (st.map fun v => v.category).sum ≤ W) (hl : W + 14 ≤ R.locals) (cap : Nat) (hcap : N.toNatClampNeg ≤ cap) (hc : k + 1 ≤ R.cells) (hsl : n + cap ≤ R.slots)
    (k1 : ∀ h' b, h.size ≤ b → Ext h h' → Arv Z h' b kk ty N vs d → Exa Z h' b ad → G (b :: M) h' (k + 1) (n + cap) (pc + 3) ls (.ref b :: st)) : G M h k n pc ls (.ref a :: st) :=
  stepN hG (P := fun h' b => Arv Z h' b kk ty N vs d ∧ Exa Z h' b ad) (fun _ q => q.2.lt) (st' := fun b => .ref b :: st)
    (fun _ _ _ m _ _ _ _ _ _ X hx hc0 hml eT hZ hown => by
      obtain ⟨T', h', X', e', E', A, E2, st1⟩ := cloneH X hx hZ hown w1 w2 w3 w4 w5 w6 eT V.arh E (g := mkF m pc ls (.ref a :: st)) rfl (by rw [hml]; exact hls) rfl (hb hc0 hd) hf (W := W) (cap := cap) (by show 2 * 0 + _ ≤ _; omega) hl hcap hc hsl
      exact ⟨T', h', X', e', E', ⟨A, E2⟩, st1⟩) (fun h' b q E P => k1 h' b q E P.1 P.2)
theorem putfield (hG : IsGo G l Z a0 EL n0 own name code maxL ret R Q) {R0 O nm d C : String} {index kk : Nat} {ty : FieldType} (hd : decode code pc = .ok (.putfield index, 3)) (w : (Cond.fieldLink own index R0 nm d).before a0 Z = true) (via : Via Z R0 O nm d) {a : Addr} {v old : Value} (F : Fld Z h a O nm d old) (E : Exa Z h a C) (L : (Cond.lays C O nm d).before a0 Z = true ∨ ((Cond.laysFinal C O nm d).before a0 Z = true ∧ own = O ∧ name = "<init>")) (wi : (Cond.instantiable C kk).before a0 Z = true)
    (hty : parseFieldDescriptor d = some ty) (hn : narrow ty v = v) (hf : fits ty v = true) (ha : a ∈ M) (k1 : ∀ h', Wr h h' a (RoadKit.slotOf Z O nm d) v → G M h' k n (pc + 3) ls st) : G M h k n pc ls (v :: .ref a :: st) :=
  stepW hG ha (fun _ _ _ m _ _ _ _ _ _ X hx hc hnm eT hZ hown => putF X hx hZ hown (host := "") (Or.inl w) via eT F E (L.imp id fun q => ⟨q.1, q.2.1, hnm.trans q.2.2⟩) wi hty hn hf (g := mkF m pc ls (v :: .ref a :: st)) rfl rfl (hb hc hd)) k1
theorem castore (hG : IsGo G l Z a0 EL n0 own name code maxL ret R Q) (hd : decode code pc = .ok (.castore, 1)) {a : Addr} {kk : ClassId} {N j x : Int32} {vs : List Value} {d : Value} (V : Arv Z h a kk .char N vs d) (hj : ¬ j < 0 ∧ j < N) (i : Nat) (hji : j.toNatClampNeg = i) (hi : i < vs.length) (ha : a ∈ M) (k1 : ∀ h', Wr h h' a i (.int (nar .char x)) → Arv Z h' a kk .char N (vs.set i (.int (nar .char x))) d → G M h' k n (pc + 1) ls st) : G M h k n pc ls (.int x :: .int j :: .ref a :: st) := by
  subst hji
  obtain ⟨cl, A, q, S, hN, H, U⟩ := V
  exact stepW hG ha (fun _ _ _ m _ _ _ _ _ _ X hx hc _ eT hZ _ => stC X hx hZ eT A (inb_of S hj) (g := mkF m pc ls (.int x :: .int j :: .ref a :: st)) rfl rfl (hb hc hd)) (fun h' W => k1 h' W (Arv.set A q S hN H U (fits_nar_char x) W _ rfl hi))
theorem bastore (hG : IsGo G l Z a0 EL n0 own name code maxL ret R Q) (hd : decode code pc = .ok (.bastore, 1)) {a : Addr} {kk : ClassId} {N j x : Int32} {vs : List Value} {d : Value} (V : Arv Z h a kk .byte N vs d) (hj : ¬ j < 0 ∧ j < N) (i : Nat) (hji : j.toNatClampNeg = i) (hi : i < vs.length) (ha : a ∈ M) (k1 : ∀ h', Wr h h' a i (.int (nar .byte x)) → Arv Z h' a kk .byte N (vs.set i (.int (nar .byte x))) d → G M h' k n (pc + 1) ls st) : G M h k n pc ls (.int x :: .int j :: .ref a :: st) := by
  subst hji
  obtain ⟨cl, A, q, S, hN, H, U⟩ := V
  exact stepW hG ha (fun _ _ _ m _ _ _ _ _ _ X hx hc _ eT hZ _ => stB X hx hZ eT A (inb_of S hj) (g := mkF m pc ls (.int x :: .int j :: .ref a :: st)) rfl rfl (hb hc hd)) (fun h' W => k1 h' W (Arv.set A q S hN H U (fits_nar_byte x) W _ rfl hi))
theorem iastore (hG : IsGo G l Z a0 EL n0 own name code maxL ret R Q) (hd : decode code pc = .ok (.iastore, 1)) {a : Addr} {kk : ClassId} {N j x : Int32} {vs : List Value} {d : Value} (V : Arv Z h a kk .int N vs d) (hj : ¬ j < 0 ∧ j < N) (i : Nat) (hji : j.toNatClampNeg = i) (hi : i < vs.length) (ha : a ∈ M) (k1 : ∀ h', Wr h h' a i (.int x) → Arv Z h' a kk .int N (vs.set i (.int x)) d → G M h' k n (pc + 1) ls st) : G M h k n pc ls (.int x :: .int j :: .ref a :: st) := by
  subst hji
  obtain ⟨cl, A, q, S, hN, H, U⟩ := V
  exact stepW hG ha (fun _ _ _ m _ _ _ _ _ _ X hx hc _ eT hZ _ => stI X hx hZ eT A (inb_of S hj) (g := mkF m pc ls (.int x :: .int j :: .ref a :: st)) rfl rfl (hb hc hd)) (fun h' W => k1 h' W (Arv.set A q S hN H U (rfl) W _ rfl hi))
theorem aastore (hG : IsGo G l Z a0 EL n0 own name code maxL ret R Q) (hd : decode code pc = .ok (.aastore, 1)) {a : Addr} {kk : ClassId} {ty : FieldType} (hty : ty.isReference = true) {N j : Int32} {vs : List Value} {d v : Value} (V : Arv Z h a kk ty N vs d) (hj : ¬ j < 0 ∧ j < N) (i : Nat) (hji : j.toNatClampNeg = i) (hi : i < vs.length) (hsto : Sto Z h a v) (hfit : fits ty v = true) (ha : a ∈ M) (k1 : ∀ h', Wr h h' a i v → Arv Z h' a kk ty N (vs.set i v) d → G M h' k n (pc + 1) ls st) : G M h k n pc ls (v :: .int j :: .ref a :: st) := by
  subst hji
  obtain ⟨cl, A, q, S, hN, H, U⟩ := V
  exact stepW hG ha (fun _ _ _ m _ _ _ _ _ _ X hx hc _ eT hZ _ => stR X hx hZ eT A (inb_of S hj) hty hsto (g := mkF m pc ls (v :: .int j :: .ref a :: st)) rfl rfl (hb hc hd)) (fun h' W => k1 h' W (Arv.set A q S hN H U hfit W _ rfl hi))
theorem new (hG : IsGo G l Z a0 EL n0 own name code maxL ret R Q) {C : String} {index nn : Nat} (hd : decode code pc = .ok (.new index, 3)) (w : (Cond.classLink own index C).before a0 Z = true) (wi : (Cond.instantiable C nn).before a0 Z = true) (wz : (Cond.initialized C).before a0 Z = true) (hc : k + 1 ≤ R.cells) (hl : n + nn ≤ R.slots)
    (k1 : ∀ h' a, h.size ≤ a → Ext h h' → Exa Z h' a C → (∀ {O nm d : String} {ty : FieldType}, Laid Z a0 C O nm d → parseFieldDescriptor d = some ty → Fld Z h' a O nm d (defaultValue ty)) → G (a :: M) h' (k + 1) (n + nn) (pc + 3) ls (.ref a :: st)) : G M h k n pc ls st :=
  stepN hG (P := fun h' a => Exa Z h' a C ∧ ∀ {O nm d : String} {ty : FieldType}, Laid Z a0 C O nm d → parseFieldDescriptor d = some ty → Fld Z h' a O nm d (defaultValue ty)) (fun _ q => q.1.lt) (st' := fun a => .ref a :: st)
    (fun _ _ _ m _ _ _ _ _ _ X hx hb0 _ eT hZ hown => by
      obtain ⟨T', h', X', e', E, A, D, -, st1⟩ := newO X hx hZ hown w wi wz eT (g := mkF m pc ls st) rfl (hb hb0 hd) hc hl
      exact ⟨T', h', X', e', E, ⟨A, D⟩, st1⟩) (fun h' a q E P => k1 h' a q E P.1 P.2)
theorem newarray (hG : IsGo G l Z a0 EL n0 own name code maxL ret R Q) {aty : ArrayType} {ty : FieldType} (hd : decode code pc = .ok (.newarray aty, 2)) (hty : newarray.typeOf aty = ty) (w : (Cond.arrayClass ty).before a0 Z = true) {N : Int32} (hN : ¬ N < 0) (cap : Nat) (hcap : N.toNatClampNeg ≤ cap) (hb0 : cap * 8 ≤ 536870912) (hc : k + 1 ≤ R.cells) (hl : n + cap ≤ R.slots) (cnt : Nat) (vs : List Value) (hvs : vs = List.replicate cnt (defaultValue ty)) {ad : String} (had : "[" ++ ty.toString = ad)
    (k1 : ∀ h' a kk, h.size ≤ a → Ext h h' → Arv Z h' a kk ty N vs (defaultValue ty) → Exa Z h' a ad → G (a :: M) h' (k + 1) (n + cap) (pc + 2) ls (.ref a :: st)) : G M h k n pc ls (.int N :: st) := by
  subst hty
  exact stepN hG (P := fun h' a => ∃ kk, Arv Z h' a kk (newarray.typeOf aty) N vs (defaultValue (newarray.typeOf aty)) ∧ Exa Z h' a ad) (fun _ q => q.elim fun _ q => q.1.lt) (st' := fun a => .ref a :: st)
    (fun _ _ _ m _ _ _ _ _ _ X hx hc0 _ eT hZ hown => by
      obtain ⟨T', h', cA, X', e', E, A, A2, st1⟩ := newPE X hx hZ w eT (g := mkF m pc ls (.int N :: st)) rfl (hb hc0 hd) rfl hN (cap := cap) hcap hb0 hc hl had
      exact ⟨T', h', X', e', E, ⟨cA, (Arv.new A hN).pad (by subst hvs; exact pad_rep [] _ cnt), A2⟩, st1⟩) (fun h' a q E P => P.elim fun kk V => k1 h' a kk q E V.1 V.2)
theorem anewarray (hG : IsGo G l Z a0 EL n0 own name code maxL ret R Q) {C : String} {index : Nat} (hd : decode code pc = .ok (.anewarray index, 3)) (w1 : (Cond.classLink own index C).before a0 Z = true) (w2 : (Cond.arrayOver (.object C)).before a0 Z = true) {N : Int32} (hN : ¬ N < 0) (cap : Nat) (hcap : N.toNatClampNeg ≤ cap) (hb0 : cap * 8 ≤ 536870912) (hc : k + 1 ≤ R.cells) (hl : n + cap ≤ R.slots) (cnt : Nat) (vs : List Value) (hvs : vs = List.replicate cnt .null) {ad : String} (had : "[" ++ (FieldType.object C).toString = ad)
    (k1 : ∀ h' a kk, h.size ≤ a → Ext h h' → Arv Z h' a kk (.object C) N vs .null → Exa Z h' a ad → Ovr Z kk C → G (a :: M) h' (k + 1) (n + cap) (pc + 3) ls (.ref a :: st)) : G M h k n pc ls (.int N :: st) :=
  stepN hG (P := fun h' a => ∃ kk, Arv Z h' a kk (.object C) N vs .null ∧ Exa Z h' a ad ∧ Ovr Z kk C) (fun _ q => q.elim fun _ q => q.1.lt) (st' := fun a => .ref a :: st)
    (fun _ _ _ m _ _ _ _ _ _ X hx hc0 _ eT hZ hown => by
      obtain ⟨T', h', cA, X', e', E, A, A2, O, st1⟩ := newRE X hx hZ hown w1 w2 eT (g := mkF m pc ls (.int N :: st)) rfl (hb hc0 hd) rfl hN (cap := cap) hcap hb0 hc hl had
      exact ⟨T', h', X', e', E, ⟨cA, (Arv.new A hN).pad (by subst hvs; exact pad_rep [] _ cnt), A2, O⟩, st1⟩) (fun h' a q E P => P.elim fun kk V => k1 h' a kk q E V.1 V.2.1 V.2.2)
theorem ldcInt (hG : IsGo G l Z a0 EL n0 own name code maxL ret R Q) {index : Nat} {x : Int32} (hd : decode code pc = .ok (.ldc index, 2)) (w : (Cond.constant own index x).before a0 Z = true) (k1 : G M h k n (pc + 2) ls (.int x :: st)) : G M h k n pc ls st :=
  stepX hG (fun _ _ _ m _ _ _ _ T _ X hx hc _ eT hZ hown => ⟨T, X, eT, fun t r => X.ldcInt hx hown (mv hZ w) (g := mkF m pc ls st) rfl (hb hc hd) t r⟩) k1
theorem ldc (hG : IsGo G l Z a0 EL n0 own name code maxL ret R Q) {index : Nat} {text : String} (hd : decode code pc = .ok (.ldc index, 2)) (w : (Cond.stringLink own index text).before a0 Z = true) (wS : ∀ a ∈ Bundle.stringAtoms, a.before a0 Z = true) (hmem : (own, index) ∈ EL) {vs : List Value} {N : Int32}
    (ht : (∀ c ∈ text.toList, c.toNat < 256) ∧ text.toList.map (fun c => Value.int (Jvm.Lit.byteI c.toNat.toUInt16)) = vs) (hz : ¬ N < 0) (hl : N.toNatClampNeg = vs.length) {nn : Nat} (hn : 4 * text.toList.length ≤ nn) (hbig : nn ≤ 536870912) (hc : k + 2 ≤ R.cells) (hl' : n + (nn + 4) ≤ R.slots)
    (k1 : ∀ h' a b kk, Ext h h' → Exa Z h' a "java/lang/String" → Fld Z h' a "java/lang/String" "coder" "B" (.int 0) → Fld Z h' a "java/lang/String" "value" "[B" (.ref b) → Arv Z h' b kk .byte N vs (.int 0) → (∀ x ∈ M, x ≠ a ∧ x ≠ b) → G M h' (k + 2) (n + (nn + 4)) (pc + 2) ls (.ref a :: st)) : G M h k n pc ls st := by
  obtain ⟨p, e, s, m, args, below, meth, c, hx, hc0, hml, hnm, hr, hlk, hEL, rfl⟩ := hG
  intro T I
  obtain ⟨vm0, locs, k0, X, eT, hS, hk, hZ, hown, N0, H, S, hn0⟩ := I
  obtain ⟨a, T', h', k9, b, kk, X', e', E, hS', hk', hZ', hown', E1, F1, F2, V, la, lb, C, -, hne, st1⟩ := ldcCH X hx hZ hown w wS eT hS hk hEL hmem H.1 ht hz hl (g := mkF m pc ls st) rfl (hb hc0 hd) hn hbig hc hl'
  have S' := S.chr C
  obtain ⟨s₂, o, h1, h2⟩ := k1 h' a b kk E E1 F1 F2 V (fun x hx => hne x (S' x hx).2.2) T' ⟨T'.vm, locs, k9, X', e', hS', hk', hZ', hown', N0, H.trans C, S', hn0.ext E⟩
  exact ⟨s₂, o, st1 _ h1, h2⟩
theorem arraycopy (hG : IsGo G l Z a0 EL n0 own name code maxL ret R Q) {index : Nat} (hd : decode code pc = .ok (.invokestatic index, 3)) (w1 : (Cond.methodLink own index Jvm.Stand.acN).before a0 Z = true) (w2 : (Cond.native Jvm.Stand.acN).before a0 Z = true) (w3 : (Cond.static Jvm.Stand.acN).before a0 Z = true) (w4 : (Cond.initialized "java/lang/System").before a0 Z = true)
    {a b : Addr} {ka kb : ClassId} {ty : FieldType} {za zb sp dp nn : Int32} {vs vd us : List Value} {dv dd : Value} (A : Arv Z h a ka ty za vs dv) (B : Arv Z h b kb ty zb vd dd) (hty : refKind ty = false) (h1 : ¬ sp < 0) (h2 : ¬ dp < 0) (h3 : ¬ nn < 0) (h4 : sp.toNatClampNeg + nn.toNatClampNeg ≤ za.toNatClampNeg) (h5 : dp.toNatClampNeg + nn.toNatClampNeg ≤ zb.toNatClampNeg)
    (hus : us = (List.range nn.toNatClampNeg).map fun i => vs.getD (sp.toNatClampNeg + i) dv) (hl : dp.toNatClampNeg + nn.toNatClampNeg ≤ vd.length) (hm : b ∈ M) (hls : ls.size = maxL) (hf : 1 ≤ R.frames) {W : Nat} (hW : (st.map fun v => v.category).sum ≤ W) (hlo : W + 18 ≤ R.locals)
    (k1 : ∀ h', Keep h h' [b] → Arv Z h' b kb ty zb (vd.take dp.toNatClampNeg ++ us ++ vd.drop (dp.toNatClampNeg + nn.toNatClampNeg)) dd → G M h' k n (pc + 3) ls st) : G M h k n pc ls (.int nn :: .int dp :: .ref b :: .int sp :: .ref a :: st) := by
  obtain ⟨p, e, s, m, args, below, meth, c, hx, hc, hml, hnm, hr, hlk, hEL, rfl⟩ := hG
  intro T I
  obtain ⟨vm0, locs, k0, X, eT, hS, hk, hZ, hown, N, H, S, hn0⟩ := I
  have Sb := S b hm
  obtain ⟨T', h', L, X', e', N', K, V, st1⟩ := cpA (s := s.setVm vm0) X hx hZ hown w1 w2 w3 w4 eT A B (Or.inl ⟨rfl, hty⟩) h1 h2 h3 h4 h5 hus hl N Sb.1 (g := mkF m pc ls (.int nn :: .int dp :: .ref b :: .int sp :: .ref a :: st)) rfl (by rw [hml]; exact hls) rfl (hb hc hd) hf (W := W) (by show 2 * 0 + _ ≤ _; omega) hlo
  have A9 : CHr Z EL vm0 h vm0 h' := CHr.keep K (allS Sb.2.2 all0) H.1
  obtain ⟨s₂, o, r1, r2⟩ := k1 h' K V T' ⟨vm0, L, k0, X', e', hS, Nat.le_trans hk A9.2.1, hZ, hown, N', H.trans A9, S.chr A9, hn0.keep K (allS Sb.1 all0)⟩
  exact ⟨s₂, o, st1 _ r1, r2⟩
theorem getD_take {xs : List Int32} {i m : Nat} {d : Value} (hm : i + m ≤ xs.length) : ((List.range m).map fun q => (ints0 xs).getD (i + q) d) = ints0 ((xs.drop i).take m) := by
  apply List.ext_getElem
  · simp [ints0]; omega
  · intro q h1 h2
    simp only [List.length_map, List.length_range] at h1
    simp only [List.getElem_map, List.getElem_range, ints0, List.getD_eq_getElem?_getD, List.getElem?_map, List.getElem_take, List.getElem_drop]
    rw [List.getElem?_eq_getElem (by omega)]; rfl
theorem arraycopyI (hG : IsGo G l Z a0 EL n0 own name code maxL ret R Q) {index : Nat} (hd : decode code pc = .ok (.invokestatic index, 3)) (w1 : (Cond.methodLink own index Jvm.Stand.acN).before a0 Z = true) (w2 : (Cond.native Jvm.Stand.acN).before a0 Z = true) (w3 : (Cond.static Jvm.Stand.acN).before a0 Z = true) (w4 : (Cond.initialized "java/lang/System").before a0 Z = true)
    {a b : Addr} {ka kb : ClassId} {ty : FieldType} {za zb sp dp nn : Int32} {dv dd : Value} {xs ys : List Int32} (A : Arv Z h a ka ty za (ints0 xs) dv) (B : Arv Z h b kb ty zb (ints0 ys) dd) (hty : refKind ty = false) (i j m : Nat) (hza : za = Int32.ofNat xs.length) (hzb : zb = Int32.ofNat ys.length) (hsp : sp = Int32.ofNat i) (hdp : dp = Int32.ofNat j) (hnn : nn = Int32.ofNat m)
    (ha : xs.length < 2 ^ 31) (hb : ys.length < 2 ^ 31) (h4 : i + m ≤ xs.length) (h5 : j + m ≤ ys.length) (hm : b ∈ M) (hls : ls.size = maxL) (hf : 1 ≤ R.frames) {W : Nat} (hW : (st.map fun v => v.category).sum ≤ W) (hlo : W + 18 ≤ R.locals)
    (k1 : ∀ h', Keep h h' [b] → Arv Z h' b kb ty zb (ints0 (ys.take j ++ (xs.drop i).take m ++ ys.drop (j + m))) dd → G M h' k n (pc + 3) ls st) : G M h k n pc ls (.int nn :: .int dp :: .ref b :: .int sp :: .ref a :: st) := by
  have c : ∀ {i : Nat}, i < 2 ^ 31 → (Int32.ofNat i).toNatClampNeg = i := fun h => clamp_of rfl h
  have nn0 : ∀ {i : Nat}, i < 2 ^ 31 → ¬ Int32.ofNat i < 0 := fun {i} h => by
    rw [Int32.lt_iff_toInt_lt, toInt_of rfl h]; have e : (0 : Int32).toInt = 0 := rfl; omega
  subst hza hzb hsp hdp hnn
  refine arraycopy hG hd w1 w2 w3 w4 A B hty (nn0 (by omega)) (nn0 (by omega)) (nn0 (by omega)) (by rw [c (by omega), c (by omega), c (by omega)]; omega) (by rw [c (by omega), c (by omega), c (by omega)]; omega) (us := ints0 ((xs.drop i).take m)) (by rw [c (by omega), c (by omega)]; exact (getD_take h4).symm) (by rw [c (by omega), c (by omega)]; simp [ints0]; omega) hm hls hf hW hlo (fun h' K V => k1 h' K ?_)
  rw [c (by omega), c (by omega)] at V
  have e : ints0 (ys.take j ++ (xs.drop i).take m ++ ys.drop (j + m)) = (ints0 ys).take j ++ ints0 ((xs.drop i).take m) ++ (ints0 ys).drop (j + m) := by simp [ints0, List.map_take, List.map_drop]
  rw [e]; exact V
theorem Met.back {y : MethodName} {bytes : ByteArray} {maxL' : Nat} {ret' : Option FieldType} {rm : Room} {as' : List Value} {M0 : List Addr} {Q' : QT} (hM : Met l Z EL n0 y bytes maxL' ret' [] rm as' M0 h Q') {p : Program} {e : Env} {below : List Frame} {s : State} {vm0 : Vm} {args : Array Value} {len W : Nat} (hZ : Z.Warmed39 vm0) (wc : (Cond.code y bytes maxL' ret').before a0 Z = true) (wz : (Cond.initialized y.cls).before a0 Z = true) (hf : rm.frames + 1 ≤ R.frames) (hl : W + (maxL' + 11) + rm.locals ≤ R.locals) (hEL : EW Z a0 EL) (H : CHv Z EL vm0 h) (S : Saf Z EL n0 vm0 h M0) (hn0 : Old Z n0 h) :
    BackS l R p e below (s.setVm vm0) args y len W (fun A a => a = as'.toArray ∧ A.U.heap = h ∧ A.cells + rm.cells ≤ R.cells ∧ A.slots + rm.slots ≤ R.slots)
      (fun A _ v B => ∃ (L : List Loc) (M' : List Addr), Q' v M' B.U.heap ∧ Fr n0 L ∧ B.locs = A.locs ++ L ∧ B.cells = A.cells + rm.cells ∧ B.slots = A.slots + rm.slots ∧ CHr Z EL vm0 h B.U.vm B.U.heap ∧ Saf Z EL n0 B.U.vm B.U.heap M' ∧ Old Z n0 B.U.heap) :=
  BackS.of_freeW (bytes := bytes) (maxL := maxL') (ret := ret') (E := fun _ first o t L k n => k = rm.cells ∧ n = rm.slots ∧ ∃ v M', o = .returned v ∧ Q' v M' t.heap ∧ Fr n0 L ∧ CHr Z EL first.vm first.heap t.vm t.heap ∧ Saf Z EL n0 t.vm t.heap M' ∧ Old Z n0 t.heap) hM hf hl
    (fun m meth c A a Y hp => have hU : Z.Warmed39 A.U.vm := wtrans (s := s.setVm vm0) hZ Y.warmed
      ⟨by show (Cond.and _ .tt).before a A.U = true; rw [Cond.before_and, mv hU wc]; rfl, mv hU wc, mv hU wz, hp.2.2.1, hp.2.2.2⟩)
    (fun m meth c A a g mk Y hp => by have q := CHv.at Y hZ hEL H; exact ⟨hp.1, wtrans (s := s.setVm vm0) hZ Y.warmed, hp.2.1, q.1, S.chr q, hn0⟩) (fun _ _ _ _ _ _ _ _ _ => trivial)
    (fun _ _ _ _ ⟨v, L, M', h1, h2, h3, h4, h5, h7, h6⟩ => ⟨L, _, _, h6, rfl, rfl, v, M', h1, h2, h3, h4, h5, h7⟩)
    (fun m meth c A a g mk v t L k n Y hp _ _ ⟨e1, e2, v', M', e3, e4, e5, e6, e7, e8⟩ => by
      cases e3; subst e1 e2
      refine ⟨L, M', e4, e5, rfl, rfl, rfl, (CHv.at Y hZ hEL H).trans ?_, e7, e8⟩
      rw [← hp.2.1]; exact e6)
theorem callStatic (hG : IsGo G l Z a0 EL n0 own name code maxL ret R Q) {y : MethodName} {bytes : ByteArray} {maxL' : Nat} {ret' : Option FieldType} {rm : Room} {as' : List Value} {M0 : List Addr} {Q' : QT} {index : Nat} {ps : List FieldType} {rt : Option FieldType} (hd : decode code pc = .ok (.invokestatic index, 3)) (w1 : (Cond.methodLink own index y).before a0 Z = true) (w2 : (Cond.static y).before a0 Z = true) (w3 : (Cond.initialized y.cls).before a0 Z = true) (w4 : (Cond.code y bytes maxL' ret').before a0 Z = true) (hy : y.cls ≠ "java/lang/invoke/MethodHandle" ∧ y.cls ≠ "java/lang/invoke/VarHandle") (hM : Met l Z EL n0 y bytes maxL' ret' [] rm as' M0 h Q') (hpd : parseMethodDescriptor y.desc = some ⟨ps, rt⟩) (hal : as'.length = ps.length) (hst : st = as'.reverse ++ rest)
    (hls : ls.size = maxL) (hM0 : ∀ x ∈ M0, x ∈ M) (hf : rm.frames + 1 ≤ R.frames) {W : Nat} (hW : (rest.map fun v => v.category).sum ≤ W) (hl : W + (maxL' + 11) + rm.locals ≤ R.locals) (hc : k + rm.cells ≤ R.cells) (hs : n + rm.slots ≤ R.slots)
    (k1 : ∀ v M' h', h.size ≤ h'.size → Q' v M' h' → G (M' ++ M) h' (k + rm.cells) (n + rm.slots) (pc + 3) ls (v.toList ++ rest)) : G M h k n pc ls st := by
  obtain ⟨p, e, s, m, args, below, meth, c, hx, hc0, hml, hnm, hr, hlk, hEL, rfl⟩ := hG
  intro T I
  obtain ⟨vm0, locs, k0, X, eT, hS, hk, hZ, hown, N0, H, S, hn0⟩ := I
  obtain ⟨v, vm₁, B, -, X2, hS2, hle, post, stp⟩ := callSS X hx hown (mvT hZ w1) (mvT hZ w2) (mvT hZ w3) (mvT hZ w4) hy (hM.back (W := W) hZ w4 w3 hf hl hEL H.1 (S.sub hM0) hn0) (g := mkF m pc ls st) rfl (by rw [hml]; exact hls) (argsL := as') (rest := rest) (lenOf hpd hal) hst (by show 2 * 0 + _ ≤ _; omega) (hb hc0 hd) (fun _ _ => ⟨rfl, eT, hc, hs⟩)
  obtain ⟨L, M', q1, q2, q3, q4, q5, q6, q7, q8⟩ := post
  obtain ⟨X3, hS3, hZ3, hown3⟩ := rebS hS hk X2 hS2 (by rw [← eT]; exact hle) hZ hown
  dsimp only [Pt.U, Pt.locs, Pt.cells, Pt.slots] at *
  obtain ⟨U, Lc, kc, sc⟩ := B
  dsimp only at *
  subst q3 q4 q5
  obtain ⟨s₂, o, h1, h2⟩ := k1 v M' U.heap (by rw [← eT]; exact hle) q1 U ⟨U.vm, locs ++ L, _, X3, rfl, hS3, Nat.le_refl _, hZ3, hown3, Fr.app N0 q2, H.trans q6, q7.app (S.chr q6), q8⟩
  exact ⟨s₂, o, stp.trans h1, h2⟩
theorem callInit (hG : IsGo G l Z a0 EL n0 own name code maxL ret R Q) {y : MethodName} {bytes : ByteArray} {maxL' : Nat} {rm : Room} {a : Addr} {as' : List Value} {M0 : List Addr} {Q' : QT} {index : Nat} {ps : List FieldType} {rt : Option FieldType} (hd : decode code pc = .ok (.invokespecial index, 3)) (hy1 : y.name = "<init>") (w1 : (Cond.methodLink own index y).before a0 Z = true) (w2 : (Cond.instanceMethod y).before a0 Z = true) (w3 : (Cond.initialized y.cls).before a0 Z = true) (w4 : (Cond.code y bytes maxL' none).before a0 Z = true) (hy : y.cls ≠ "java/lang/invoke/MethodHandle" ∧ y.cls ≠ "java/lang/invoke/VarHandle") (hM : Met l Z EL n0 y bytes maxL' none [] rm (.ref a :: as') M0 h Q') (hpd : parseMethodDescriptor y.desc = some ⟨ps, rt⟩) (hal : as'.length = ps.length) (hst : st = as'.reverse ++ .ref a :: rest)
    (hls : ls.size = maxL) (hM0 : ∀ x ∈ M0, x ∈ M) (hf : rm.frames + 1 ≤ R.frames) {W : Nat} (hW : (rest.map fun v => v.category).sum ≤ W) (hl : W + (maxL' + 11) + rm.locals ≤ R.locals) (hc : k + rm.cells ≤ R.cells) (hs : n + rm.slots ≤ R.slots)
    (k1 : ∀ v M' h', h.size ≤ h'.size → Q' v M' h' → G (M' ++ M) h' (k + rm.cells) (n + rm.slots) (pc + 3) ls (v.toList ++ rest)) : G M h k n pc ls st := by
  obtain ⟨p, e, s, m, args, below, meth, c, hx, hc0, hml, hnm, hr, hlk, hEL, rfl⟩ := hG
  intro T I
  obtain ⟨vm0, locs, k0, X, eT, hS, hk, hZ, hown, N0, H, S, hn0⟩ := I
  obtain ⟨v, vm₁, B, -, X2, hS2, hle, post, stp⟩ := X.specialBackS hx hy1 hown (mvT hZ w1) (mvT hZ w2) (mvT hZ w4) hy (hM.back (W := W) hZ w4 w3 hf hl hEL H.1 (S.sub hM0) hn0) (g := mkF m pc ls st) rfl (by rw [hml]; exact hls) (Steps.refl _) (a := a) (argsL := as') (rest := rest) (lenOf hpd hal) hst (by show 2 * 0 + _ ≤ _; omega) (hb hc0 hd) (fun _ _ => ⟨rfl, eT, hc, hs⟩)
  obtain ⟨L, M', q1, q2, q3, q4, q5, q6, q7, q8⟩ := post
  obtain ⟨X3, hS3, hZ3, hown3⟩ := rebS hS hk X2 hS2 (by rw [← eT]; exact hle) hZ hown
  dsimp only [Pt.U, Pt.locs, Pt.cells, Pt.slots] at *
  obtain ⟨U, Lc, kc, sc⟩ := B
  dsimp only at *
  subst q3 q4 q5
  obtain ⟨s₂, o, h1, h2⟩ := k1 v M' U.heap (by rw [← eT]; exact hle) q1 U ⟨U.vm, locs ++ L, _, X3, rfl, hS3, Nat.le_refl _, hZ3, hown3, Fr.app N0 q2, H.trans q6, q7.app (S.chr q6), q8⟩
  exact ⟨s₂, o, stp.trans h1, h2⟩
theorem callVirtual (hG : IsGo G l Z a0 EL n0 own name code maxL ret R Q) {y z : MethodName} {bytes : ByteArray} {maxL' : Nat} {ret' : Option FieldType} {rm : Room} {a : Addr} {as' : List Value} {M0 : List Addr} {Q' : QT} {C : String} {index : Nat} {ps : List FieldType} {rt : Option FieldType} (hd : decode code pc = .ok (.invokevirtual index, 3)) (E : Exa Z h a C) (w1 : (Cond.methodLink own index y).before a0 Z = true) (wd : (Cond.declares y).before a0 Z = true) (nf : ∀ (s : State), Z.Warmed39 s.vm → NotFace s y) (ws : (Cond.selects C y z).before a0 Z = true) (w2 : (Cond.instanceMethod z).before a0 Z = true) (w3 : (Cond.initialized z.cls).before a0 Z = true) (w4 : (Cond.code z bytes maxL' ret').before a0 Z = true) (hy : y.cls ≠ "java/lang/invoke/MethodHandle" ∧ y.cls ≠ "java/lang/invoke/VarHandle") (hM : Met l Z EL n0 z bytes maxL' ret' [] rm (.ref a :: as') M0 h Q') (hpd : parseMethodDescriptor y.desc = some ⟨ps, rt⟩) (hal : as'.length = ps.length) (hst : st = as'.reverse ++ .ref a :: rest)
    (hls : ls.size = maxL) (hM0 : ∀ x ∈ M0, x ∈ M) (hf : rm.frames + 1 ≤ R.frames) {W : Nat} (hW : (rest.map fun v => v.category).sum ≤ W) (hl : W + (maxL' + 11) + rm.locals ≤ R.locals) (hc : k + rm.cells ≤ R.cells) (hs : n + rm.slots ≤ R.slots)
    (k1 : ∀ v M' h', h.size ≤ h'.size → Q' v M' h' → G (M' ++ M) h' (k + rm.cells) (n + rm.slots) (pc + 3) ls (v.toList ++ rest)) : G M h k n pc ls st := by
  obtain ⟨p, e, s, m, args, below, meth, c, hx, hc0, hml, hnm, hr, hlk, hEL, rfl⟩ := hG
  intro T I
  obtain ⟨vm0, locs, k0, X, eT, hS, hk, hZ, hown, N0, H, S, hn0⟩ := I
  obtain ⟨cB, kB, i1, i2, i3⟩ := isOf (s := s.setVm vm0) hZ eT E
  obtain ⟨v, vm₁, B, -, X2, hS2, hle, post, stp⟩ := X.virtualBackS hx hown (mvT hZ w1) (mvT hZ wd) (nf (s.setVm vm0) hZ) (mvT hZ ws) (mvT hZ w2) hy (hM.back (W := W) hZ w4 w3 hf hl hEL H.1 (S.sub hM0) hn0) i1 i3 (g := mkF m pc ls st) rfl (by rw [hml]; exact hls) (Steps.refl _) (argsL := as') (rest := rest) (lenOf hpd hal) hst (by show 2 * 0 + _ ≤ _; omega) (hb hc0 hd) (fun _ _ => ⟨rfl, eT, hc, hs⟩)
  obtain ⟨L, M', q1, q2, q3, q4, q5, q6, q7, q8⟩ := post
  obtain ⟨X3, hS3, hZ3, hown3⟩ := rebS hS hk X2 hS2 (by rw [← eT]; exact hle) hZ hown
  dsimp only [Pt.U, Pt.locs, Pt.cells, Pt.slots] at *
  obtain ⟨U, Lc, kc, sc⟩ := B
  dsimp only at *
  subst q3 q4 q5
  obtain ⟨s₂, o, h1, h2⟩ := k1 v M' U.heap (by rw [← eT]; exact hle) q1 U ⟨U.vm, locs ++ L, _, X3, rfl, hS3, Nat.le_refl _, hZ3, hown3, Fr.app N0 q2, H.trans q6, q7.app (S.chr q6), q8⟩
  exact ⟨s₂, o, stp.trans h1, h2⟩
theorem callVirtualUp (hG : IsGo G l Z a0 EL n0 own name code maxL ret R Q) {y z : MethodName} {bytes : ByteArray} {maxL' : Nat} {ret' : Option FieldType} {rm : Room} {a : Addr} {as' : List Value} {M0 : List Addr} {Q' : QT} {C owner : String} {index : Nat} {ps : List FieldType} {rt : Option FieldType} (hd : decode code pc = .ok (.invokevirtual index, 3)) (E : Exa Z h a C) (w1 : (Cond.methodLink own index y).before a0 Z = true) (wsm : (Cond.sameMethod y.cls owner y.name y.desc).before a0 Z = true) (wd : (Cond.declares ⟨owner, y.name, y.desc⟩).before a0 Z = true) (ws : (Cond.selects C y z).before a0 Z = true) (w2 : (Cond.instanceMethod z).before a0 Z = true) (w3 : (Cond.initialized z.cls).before a0 Z = true) (w4 : (Cond.code z bytes maxL' ret').before a0 Z = true) (hy : owner ≠ "java/lang/invoke/MethodHandle" ∧ owner ≠ "java/lang/invoke/VarHandle") (hM : Met l Z EL n0 z bytes maxL' ret' [] rm (.ref a :: as') M0 h Q') (hpd : parseMethodDescriptor y.desc = some ⟨ps, rt⟩) (hal : as'.length = ps.length) (hst : st = as'.reverse ++ .ref a :: rest)
    (hls : ls.size = maxL) (hM0 : ∀ x ∈ M0, x ∈ M) (hf : rm.frames + 1 ≤ R.frames) {W : Nat} (hW : (rest.map fun v => v.category).sum ≤ W) (hl : W + (maxL' + 11) + rm.locals ≤ R.locals) (hc : k + rm.cells ≤ R.cells) (hs : n + rm.slots ≤ R.slots)
    (k1 : ∀ v M' h', h.size ≤ h'.size → Q' v M' h' → G (M' ++ M) h' (k + rm.cells) (n + rm.slots) (pc + 3) ls (v.toList ++ rest)) : G M h k n pc ls st := by
  obtain ⟨p, e, s, m, args, below, meth, c, hx, hc0, hml, hnm, hr, hlk, hEL, rfl⟩ := hG
  intro T I
  obtain ⟨vm0, locs, k0, X, eT, hS, hk, hZ, hown, N0, H, S, hn0⟩ := I
  obtain ⟨cB, kB, i1, i2, i3⟩ := isOf (s := s.setVm vm0) hZ eT E
  obtain ⟨v, vm₁, B, -, X2, hS2, hle, post, stp⟩ := X.virtualBackUpS hx hown (mvT hZ w1) (mvT hZ wsm) (mvT hZ wd) hy (mvT hZ ws) (mvT hZ w2) (hM.back (W := W) hZ w4 w3 hf hl hEL H.1 (S.sub hM0) hn0) i1 i3 (g := mkF m pc ls st) rfl (by rw [hml]; exact hls) (Steps.refl _) (argsL := as') (rest := rest) (lenOf hpd hal) hst (by show 2 * 0 + _ ≤ _; omega) (hb hc0 hd) (fun _ _ => ⟨rfl, eT, hc, hs⟩)
  obtain ⟨L, M', q1, q2, q3, q4, q5, q6, q7, q8⟩ := post
  obtain ⟨X3, hS3, hZ3, hown3⟩ := rebS hS hk X2 hS2 (by rw [← eT]; exact hle) hZ hown
  dsimp only [Pt.U, Pt.locs, Pt.cells, Pt.slots] at *
  obtain ⟨U, Lc, kc, sc⟩ := B
  dsimp only at *
  subst q3 q4 q5
  obtain ⟨s₂, o, h1, h2⟩ := k1 v M' U.heap (by rw [← eT]; exact hle) q1 U ⟨U.vm, locs ++ L, _, X3, rfl, hS3, Nat.le_refl _, hZ3, hown3, Fr.app N0 q2, H.trans q6, q7.app (S.chr q6), q8⟩
  exact ⟨s₂, o, stp.trans h1, h2⟩
theorem callFace (hG : IsGo G l Z a0 EL n0 own name code maxL ret R Q) {y z : MethodName} {bytes : ByteArray} {maxL' : Nat} {ret' : Option FieldType} {rm : Room} {a : Addr} {as' : List Value} {M0 : List Addr} {Q' : QT} {C : String} {index count : Nat} {ps : List FieldType} {rt : Option FieldType} (hd : decode code pc = .ok (.invokeinterface index count, 5)) (E : Exa Z h a C) (w1 : (Cond.methodLink own index y).before a0 Z = true) (wd : (Cond.declares y).before a0 Z = true) (wf : ∀ (s : State) (args : Array Value), Z.Warmed39 s.vm → (Cond.interfaceMethod y.cls y.cls y.name y.desc).before args s = true) (ws : (Cond.selects C y z).before a0 Z = true) (w2 : (Cond.instanceMethod z).before a0 Z = true) (wp : (Cond.publicMethod z).before a0 Z = true) (wu : (Cond.unhidden C y.name y.desc).before a0 Z = true) (wk : (Cond.castable C y.cls).before a0 Z = true) (w3 : (Cond.initialized z.cls).before a0 Z = true) (w4 : (Cond.code z bytes maxL' ret').before a0 Z = true) (hy : y.cls ≠ "java/lang/invoke/MethodHandle" ∧ y.cls ≠ "java/lang/invoke/VarHandle") (hM : Met l Z EL n0 z bytes maxL' ret' [] rm (.ref a :: as') M0 h Q') (hpd : parseMethodDescriptor y.desc = some ⟨ps, rt⟩) (hal : as'.length = ps.length) (hst : st = as'.reverse ++ .ref a :: rest)
    (hls : ls.size = maxL) (hM0 : ∀ x ∈ M0, x ∈ M) (hf : rm.frames + 1 ≤ R.frames) {W : Nat} (hW : (rest.map fun v => v.category).sum ≤ W) (hl : W + (maxL' + 11) + rm.locals ≤ R.locals) (hc : k + rm.cells ≤ R.cells) (hs : n + rm.slots ≤ R.slots)
    (k1 : ∀ v M' h', h.size ≤ h'.size → Q' v M' h' → G (M' ++ M) h' (k + rm.cells) (n + rm.slots) (pc + 5) ls (v.toList ++ rest)) : G M h k n pc ls st := by
  obtain ⟨p, e, s, m, args, below, meth, c, hx, hc0, hml, hnm, hr, hlk, hEL, rfl⟩ := hG
  intro T I
  obtain ⟨vm0, locs, k0, X, eT, hS, hk, hZ, hown, N0, H, S, hn0⟩ := I
  obtain ⟨cB, kB, i1, i2, i3⟩ := isOf (s := s.setVm vm0) hZ eT E
  obtain ⟨v, vm₁, B, -, X2, hS2, hle, post, stp⟩ := X.interfaceBackS hx hown (mvT hZ w1) (mvT hZ wd) (wf _ _ hZ) (mvT hZ ws) (mvT hZ w2) (mvT hZ wp) (mvT hZ wu) (mvT hZ wk) hy (hM.back (W := W) hZ w4 w3 hf hl hEL H.1 (S.sub hM0) hn0) i1 i2 i3 (g := mkF m pc ls st) rfl (by rw [hml]; exact hls) (Steps.refl _) (argsL := as') (rest := rest) (lenOf hpd hal) hst (by show 2 * 0 + _ ≤ _; omega) (hb hc0 hd) (fun _ _ => ⟨rfl, eT, hc, hs⟩)
  obtain ⟨L, M', q1, q2, q3, q4, q5, q6, q7, q8⟩ := post
  obtain ⟨X3, hS3, hZ3, hown3⟩ := rebS hS hk X2 hS2 (by rw [← eT]; exact hle) hZ hown
  dsimp only [Pt.U, Pt.locs, Pt.cells, Pt.slots] at *
  obtain ⟨U, Lc, kc, sc⟩ := B
  dsimp only at *
  subst q3 q4 q5
  obtain ⟨s₂, o, h1, h2⟩ := k1 v M' U.heap (by rw [← eT]; exact hle) q1 U ⟨U.vm, locs ++ L, _, X3, rfl, hS3, Nat.le_refl _, hZ3, hown3, Fr.app N0 q2, H.trans q6, q7.app (S.chr q6), q8⟩
  exact ⟨s₂, o, stp.trans h1, h2⟩
theorem nf_other {s : State} {args : Array Value} {C : String} {y y' : MethodName} (hc : y.cls = y'.cls) (hs : (Cond.selects C y' y').before args s = true) : NotFace s y := fun r0 hr => by
  obtain ⟨c2, r2, m2, -, -, q3, -, kP, hkP, hkPi⟩ := Cond.selects_spec hs
  have e1 := findClass_of_methodNamed hr
  have e2 := findClass_of_methodNamed q3
  rw [hc] at e1
  have e3 := Option.some.inj (e1.symm.trans e2)
  exact ⟨kP, by rw [e3]; exact hkP, hkPi⟩
theorem sameM {C : String} {y y' : MethodName} (hi : (Cond.instanceMethod y).before a0 Z = true) (hy : y.cls ≠ "java/lang/invoke/MethodHandle" ∧ y.cls ≠ "java/lang/invoke/VarHandle") (hc : y.cls = y'.cls) (hs : (Cond.selects C y' y').before a0 Z = true) : (Cond.sameMethod y.cls y.cls y.name y.desc).before a0 Z = true := by
  obtain ⟨mk, methM, hnamed, hmethM, hstM, habM⟩ := Cond.instanceMethod_spec hi
  obtain ⟨kr, h1, h2⟩ := nf_other hc hs mk hnamed
  have e1 := findClass_of_methodNamed hnamed
  have e2 := State.methodFound?_of_named hnamed hy
  simp [Cond.before, Cond.holds, Cond.value, e1, e2, hnamed, h1, h2]
theorem privBackS {p : Program} {l : Launch} {e : Env} {R : Room} {s : State} {m : MethodId} {args : Array Value} {below : List Frame} {meth : Method} {c : Code} {T : State} {locs : List Loc} {cells slots : Nat} (X : Stand p l e R s m args below meth c T locs cells slots) (hexec : p.tables.exec = Jvm.exec) {own C : String} {index : Nat} {y : MethodName} {bytes : ByteArray} {maxL : Nat} {ret : Option FieldType}
    (hown : s.vm.findClass own = some m.cls) (hlink : (Cond.methodLink own index y).before args s = true) (hinst : (Cond.instanceMethod y).before args s = true) (hsel : (Cond.selects C y y).before args s = true)
    (hpriv : s.PrivateAt y) (hcode : (Cond.code y bytes maxL ret).before args s = true) (hy : y.cls ≠ "java/lang/invoke/MethodHandle" ∧ y.cls ≠ "java/lang/invoke/VarHandle")
    {W : Nat} {Pre : Free.Pt → Array Value → Prop} {Post : Free.Pt → Array Value → Option Value → Free.Pt → Prop} (hK : Free.BackS l R p e below s args y 3 W Pre Post)
    {g : JFrame} (hg : g.method = m) (hsize : g.locals.size = c.maxLocals) {s₀ : State} (hcome : Steps p.tables e below s₀ (T.setTop g)) {a : Addr} {cell : Cell} (hcell : T.heap[a]? = some cell) (hobj : ∀ q, cell.vm ≠ .statics q)
    {argsL rest : List Value} (hlen : ∀ sig, parseMethodDescriptor y.desc = some sig → argsL.length = sig.parameters.length)
    (hstack : g.stack = argsL.reverse ++ .ref a :: rest) (hW : 2 * g.monitorRoom + (rest.map fun v => v.category).sum ≤ W) (hdg : decode c.code g.pc = .ok (.invokevirtual index, 3))
    (hpre : ∀ vm₁, s.WarmedH vm₁ → Pre ⟨T.setVm vm₁, locs, cells, slots⟩ (.ref a :: argsL).toArray) :
    ∃ (v : Option Value) (vm₁ : Vm) (B : Free.Pt), s.WarmedH vm₁ ∧ Stand p l e R (s.setVm B.U.vm) m args below meth c B.U B.locs B.cells B.slots ∧ s.Since B.U.vm B.U.heap.size ∧ T.heap.size ≤ B.U.heap.size ∧ Post ⟨T.setVm vm₁, locs, cells, slots⟩ (.ref a :: argsL).toArray v B ∧
      Steps p.tables e below s₀ (B.U.setTop { g with pc := g.pc + 3, stack := v.toList ++ rest }) := by
  obtain ⟨mk, methM, hnamed, hmethM, hstM, habM⟩ := Cond.instanceMethod_spec hinst
  obtain ⟨methM', cM, hmethM', -, -, -, -, -, -, hsigM⟩ := Cond.code_spec hnamed hcode
  cases hmethM.symm.trans hmethM'
  obtain ⟨c2, r2, m2, -, -, q3, -, kP, hkP, hkPi⟩ := Cond.selects_spec hsel
  cases hnamed.symm.trans q3
  have hselP : selectMethod e.platform s.vm cell.cls mk = .method mk := selectMethod_private hmethM (hpriv mk methM hnamed hmethM)
  obtain ⟨vm₁, X₁, hstep₁⟩ := X.invokevirtual hexec hown hlink hnamed hmethM hstM hkP hkPi hy (a := a) (cell := cell) hcell hobj hselP hmethM habM hkP hkPi (g := g) hg (argsL := argsL) (rest := rest) (hlen _ hsigM) hstack hdg
  have hW₁ : s.WarmedH vm₁ := X₁.warmed
  obtain ⟨v, B, X', hS, hgr, hpost, hsteps⟩ := hK m meth c ⟨T.setVm vm₁, locs, cells, slots⟩ { g with stack := rest } (.invokevirtual index) mk (.ref a :: argsL).toArray X₁ hg hsize hdg hW (X₁.named hnamed) (hpre vm₁ hW₁)
  exact ⟨v, vm₁, B, hW₁, X', hS, hgr, hpost, (hcome.trans (hstep₁ _ fun acts => by rw [doInvoke_state]; exact Steps.refl _)).trans hsteps⟩
theorem callPrivate (hG : IsGo G l Z a0 EL n0 own name code maxL ret R Q) {y : MethodName} {bytes : ByteArray} {maxL' : Nat} {ret' : Option FieldType} {rm : Room} {a : Addr} {as' : List Value} {M0 : List Addr} {Q' : QT} {C D : String} {index : Nat} {ps : List FieldType} {rt : Option FieldType} (hd : decode code pc = .ok (.invokevirtual index, 3)) (E : Exa Z h a D) (w1 : (Cond.methodLink own index y).before a0 Z = true) (wp : (Cond.privateMethod y).before a0 Z = true) (ws : (Cond.selects C y y).before a0 Z = true) (w2 : (Cond.instanceMethod y).before a0 Z = true) (w3 : (Cond.initialized y.cls).before a0 Z = true) (w4 : (Cond.code y bytes maxL' ret').before a0 Z = true) (hy : y.cls ≠ "java/lang/invoke/MethodHandle" ∧ y.cls ≠ "java/lang/invoke/VarHandle") (hM : Met l Z EL n0 y bytes maxL' ret' [] rm (.ref a :: as') M0 h Q') (hpd : parseMethodDescriptor y.desc = some ⟨ps, rt⟩) (hal : as'.length = ps.length) (hst : st = as'.reverse ++ .ref a :: rest)
    (hls : ls.size = maxL) (hM0 : ∀ x ∈ M0, x ∈ M) (hf : rm.frames + 1 ≤ R.frames) {W : Nat} (hW : (rest.map fun v => v.category).sum ≤ W) (hl : W + (maxL' + 11) + rm.locals ≤ R.locals) (hc : k + rm.cells ≤ R.cells) (hs : n + rm.slots ≤ R.slots)
    (k1 : ∀ v M' h', h.size ≤ h'.size → Q' v M' h' → G (M' ++ M) h' (k + rm.cells) (n + rm.slots) (pc + 3) ls (v.toList ++ rest)) : G M h k n pc ls st := by
  obtain ⟨p, e, s, m, args, below, meth, c, hx, hc0, hml, hnm, hr, hlk, hEL, rfl⟩ := hG
  intro T I
  obtain ⟨vm0, locs, k0, X, eT, hS, hk, hZ, hown, N0, H, S, hn0⟩ := I
  obtain ⟨cB, kB, i1, i2, cell, i3, i4, i5⟩ := isOf (s := s.setVm vm0) hZ eT E
  obtain ⟨v, vm₁, B, -, X2, hS2, hle, post, stp⟩ := privBackS X hx hown (mvT hZ w1) (mvT hZ w2) (mvT hZ ws) (Cond.privateMethod_at (mvT (args := #[]) hZ wp)) (mvT hZ w4) hy (hM.back (W := W) hZ w4 w3 hf hl hEL H.1 (S.sub hM0) hn0) (g := mkF m pc ls st) rfl (by rw [hml]; exact hls) (Steps.refl _) (a := a) i3 (fun q hq => by rw [hq] at i5; cases i5) (argsL := as') (rest := rest) (lenOf hpd hal) hst (by show 2 * 0 + _ ≤ _; omega) (hb hc0 hd) (fun _ _ => ⟨rfl, eT, hc, hs⟩)
  obtain ⟨L, M', q1, q2, q3, q4, q5, q6, q7, q8⟩ := post
  obtain ⟨X3, hS3, hZ3, hown3⟩ := rebS hS hk X2 hS2 (by rw [← eT]; exact hle) hZ hown
  dsimp only [Pt.U, Pt.locs, Pt.cells, Pt.slots] at *
  obtain ⟨U, Lc, kc, sc⟩ := B
  dsimp only at *
  subst q3 q4 q5
  obtain ⟨s₂, o, h1, h2⟩ := k1 v M' U.heap (by rw [← eT]; exact hle) q1 U ⟨U.vm, locs ++ L, _, X3, rfl, hS3, Nat.le_refl _, hZ3, hown3, Fr.app N0 q2, H.trans q6, q7.app (S.chr q6), q8⟩
  exact ⟨s₂, o, stp.trans h1, h2⟩
theorem callSuper (hG : IsGo G l Z a0 EL n0 own name code maxL ret R Q) {y : MethodName} {bytes : ByteArray} {maxL' : Nat} {ret' : Option FieldType} {rm : Room} {a : Addr} {as' : List Value} {M0 : List Addr} {Q' : QT} {K : String} {index : Nat} {ps : List FieldType} {rt : Option FieldType} (hd : decode code pc = .ok (.invokespecial index, 3)) (F : Ins Z h a K true) (hn : y.name ≠ "<init>") (w1 : (Cond.methodLink own index y).before a0 Z = true) (wsm : (Cond.sameMethod y.cls y.cls y.name y.desc).before a0 Z = true) (w2 : (Cond.instanceMethod y).before a0 Z = true) (wsu : (Cond.superclass own y.cls).before a0 Z = true) (w3 : (Cond.initialized y.cls).before a0 Z = true) (w4 : (Cond.code y bytes maxL' ret').before a0 Z = true) (hy : y.cls ≠ "java/lang/invoke/MethodHandle" ∧ y.cls ≠ "java/lang/invoke/VarHandle") (hM : Met l Z EL n0 y bytes maxL' ret' [] rm (.ref a :: as') M0 h Q') (hpd : parseMethodDescriptor y.desc = some ⟨ps, rt⟩) (hal : as'.length = ps.length) (hst : st = as'.reverse ++ .ref a :: rest)
    (hls : ls.size = maxL) (hM0 : ∀ x ∈ M0, x ∈ M) (hf : rm.frames + 1 ≤ R.frames) {W : Nat} (hW : (rest.map fun v => v.category).sum ≤ W) (hl : W + (maxL' + 11) + rm.locals ≤ R.locals) (hc : k + rm.cells ≤ R.cells) (hs : n + rm.slots ≤ R.slots)
    (k1 : ∀ v M' h', h.size ≤ h'.size → Q' v M' h' → G (M' ++ M) h' (k + rm.cells) (n + rm.slots) (pc + 3) ls (v.toList ++ rest)) : G M h k n pc ls st := by
  obtain ⟨p, e, s, m, args, below, meth, c, hx, hc0, hml, hnm, hr, hlk, hEL, rfl⟩ := hG
  intro T I
  obtain ⟨vm0, locs, k0, X, eT, hS, hk, hZ, hown, N0, H, S, hn0⟩ := I
  obtain ⟨v, vm₁, B, -, X2, hS2, hle, post, stp⟩ := superBackS (s := s.setVm vm0) X hx hZ hown w1 wsm w2 wsu hn (hM.back (W := W) hZ w4 w3 hf hl hEL H.1 (S.sub hM0) hn0) eT F (g := mkF m pc ls st) rfl (by rw [hml]; exact hls) w4 (argsL := as') (rest := rest) (lenOf hpd hal) hst (by show 2 * 0 + _ ≤ _; omega) (hb hc0 hd) (fun _ _ => ⟨rfl, eT, hc, hs⟩)
  obtain ⟨L, M', q1, q2, q3, q4, q5, q6, q7, q8⟩ := post
  obtain ⟨X3, hS3, hZ3, hown3⟩ := rebS hS hk X2 hS2 (by rw [← eT]; exact hle) hZ hown
  dsimp only [Pt.U, Pt.locs, Pt.cells, Pt.slots] at *
  obtain ⟨U, Lc, kc, sc⟩ := B
  dsimp only at *
  subst q3 q4 q5
  obtain ⟨s₂, o, h1, h2⟩ := k1 v M' U.heap (by rw [← eT]; exact hle) q1 U ⟨U.vm, locs ++ L, _, X3, rfl, hS3, Nat.le_refl _, hZ3, hown3, Fr.app N0 q2, H.trans q6, q7.app (S.chr q6), q8⟩
  exact ⟨s₂, o, stp.trans h1, h2⟩
theorem ireturn (hG : IsGo G l Z a0 EL n0 own name code maxL (some .int) R Q) {x : Int32} (hd : decode code pc = .ok (.ireturn, 1)) (hq : Q (some (.int x)) M' h) (hM : ∀ x ∈ M', x ∈ M) (hk : k ≤ R.cells) (hn : n ≤ R.slots) : G M h k n pc ls (.int x :: st) :=
  leaves hG (fun q => by cases q) hq hM hk hn (fun _ _ _ _ _ _ _ _ _ _ _ X hx hc hr hl => retOut X hx hr rfl (Or.inl ⟨rfl, Or.inl rfl, x, rfl⟩) (hb hc hd) hl)
theorem ireturnN {t : FieldType} (hG : IsGo G l Z a0 EL n0 own name code maxL (some t) R Q) {x : Int32} (ht : t = .boolean ∨ t = .byte ∨ t = .char ∨ t = .short) (hd : decode code pc = .ok (.ireturn, 1)) (hq : Q (some (.int (nar t x))) M' h) (hM : ∀ x ∈ M', x ∈ M) (hk : k ≤ R.cells) (hn : n ≤ R.slots) : G M h k n pc ls (.int x :: st) :=
  leaves hG (fun q => by cases q) hq hM hk hn (fun _ _ _ _ _ _ _ _ _ _ _ X hx hc hr hl => retN X hx hr ht (hb hc hd) hl)
theorem areturn {t : FieldType} (hG : IsGo G l Z a0 EL n0 own name code maxL (some t) R Q) {v : Value} (ht : t.isReference = true) (hnr : narrow t v = v) (hv : v.isRef = true) (hd : decode code pc = .ok (.areturn, 1)) (hq : Q (some v) M' h) (hM : ∀ x ∈ M', x ∈ M) (hk : k ≤ R.cells) (hn : n ≤ R.slots) : G M h k n pc ls (v :: st) :=
  leaves hG (fun q => by cases q) hq hM hk hn (fun _ _ _ _ _ _ _ _ _ _ _ X hx hc hr hl => retOut X hx hr hnr (Or.inr (Or.inr (Or.inr (Or.inr ⟨rfl, ht, hv⟩)))) (hb hc hd) hl)
theorem return0 (hG : IsGo G l Z a0 EL n0 own name code maxL none R Q) (hd : decode code pc = .ok (.return_, 1)) (hq : Q none M' h) (hM : ∀ x ∈ M', x ∈ M) (hk : k ≤ R.cells) (hn : n ≤ R.slots) : G M h k n pc ls [] :=
  leaves hG (fun _ => rfl) hq hM hk hn (fun _ _ _ _ _ _ _ _ _ _ _ X hx hc hr hl => X.returnOut hx hr (hb hc hd) hl)
end Jvm.OwnWp
namespace Jvm.OwnWp
open Sem ClassFile Op Lib Bundle Jvm.Stand Jvm.Free Jvm.LawKit Jvm.RoadKit
/-- a list of ints as an array's values -/
abbrev ints (xs : List Int32) : List Value := xs.map Value.int
theorem ofN_clamp {i : Nat} (h : i < 2 ^ 31) : (Int32.ofNat i).toNatClampNeg = i := clamp_of rfl h
theorem ofN_toInt {i : Nat} (h : i < 2 ^ 31) : (Int32.ofNat i).toInt = i := toInt_of rfl h
theorem ofN_succ (i : Nat) : Int32.ofNat i + Int32.ofInt 1 = Int32.ofNat (i + 1) := (inc_ofNat i).symm
theorem ofN_lt {i n : Nat} (h : i < n) (hn : n < 2 ^ 31) : Int32.ofNat i < Int32.ofNat n := by
  rw [Int32.lt_iff_toInt_lt, ofN_toInt (by omega), ofN_toInt hn]; omega
theorem ofN_nlt {i n : Nat} (h : n ≤ i) (hi : i < 2 ^ 31) : ¬ Int32.ofNat i < Int32.ofNat n := by
  rw [Int32.lt_iff_toInt_lt, ofN_toInt hi, ofN_toInt (by omega)]; omega
theorem ofN_nn {i : Nat} (h : i < 2 ^ 31) : ¬ Int32.ofNat i < 0 := by
  have e : (0 : Int32) = Int32.ofNat 0 := rfl
  rw [e]; exact ofN_nlt (Nat.zero_le _) h
theorem ofN_inj {i n : Nat} (hi : i < 2 ^ 31) (hn : n < 2 ^ 31) (h : Int32.ofNat i = Int32.ofNat n) : i = n := by
  have := congrArg Int32.toInt h
  rw [ofN_toInt hi, ofN_toInt hn] at this; omega
theorem ofN_in {i n : Nat} (h : i < n) (hn : n < 2 ^ 31) : ¬ Int32.ofNat i < 0 ∧ Int32.ofNat i < Int32.ofNat n := ⟨ofN_nn (by omega), ofN_lt h hn⟩
theorem ints_at {xs : List Int32} {i : Nat} (h : i < 2 ^ 31) : (ints xs).getD (Int32.ofNat i).toNatClampNeg (.int 0) = .int (xs.getD i 0) := by
  rw [ofN_clamp h]; simp only [ints, List.getD_eq_getElem?_getD, List.getElem?_map]
  cases xs[i]? <;> rfl
theorem ints_rep (n : Nat) : ints (List.replicate n 0) = List.replicate n (Value.int 0) := by simp [ints]
theorem set_ints {xs : List Int32} {i : Nat} {v w : Int32} (hv : v = w) : (ints xs).set i (.int v) = ints (xs.set i w) := by subst hv; exact (List.map_set).symm
theorem byte_idem (x : Int32) : nar .byte (nar .byte x) = nar .byte x := by
  show x.toInt8.toInt32.toInt8.toInt32 = x.toInt8.toInt32
  simp
theorem byte_idem2 (x : Int32) : nar .byte x.toInt8.toInt32 = nar .byte x := byte_idem x
theorem nar_char {x : Int32} (h0 : ¬ x < 0) (h1 : ¬ (65535 : Int32) < x) : nar .char x = x := by
  have e := c_i2c x
  have r : (nar .char x).toInt = x.toInt := by
    show (x.toUInt32.toUInt16.toUInt32.toInt32).toInt = x.toInt
    rw [Int32.lt_iff_toInt_lt] at h0 h1
    have e1 : (65535 : Int32).toInt = 65535 := rfl
    have e2 : (0 : Int32).toInt = 0 := rfl
    omega
  exact Int32.toInt_inj.mp r
theorem nar_bool1 : nar .boolean 1 = 1 := by decide
theorem nar_bool0 : nar .boolean 0 = 0 := by decide
theorem Arv.neTy {Z : State} {h : Heap} {a b : Addr} {k k' : ClassId} {t t' : FieldType} {z z' : Int32} {vs vs' : List Value} {d d' : Value} (F : Arv Z h a k t z vs d) (F' : Arv Z h b k' t' z' vs' d') (hne : t ≠ t') : a ≠ b := fun q => by
  subst q
  obtain ⟨c, A, -⟩ := F
  obtain ⟨c', A', -⟩ := F'
  cases A.1.symm.trans A'.1
  obtain ⟨-, k1, h1, comp, h2⟩ := A.2.1
  obtain ⟨-, k2, h3, comp', h4⟩ := A'.2.1
  cases h1.symm.trans h3
  rw [h2] at h4
  cases h4
  exact hne rfl
theorem Sto.ofArv {Z : State} {h : Heap} {a y : Addr} {k : ClassId} {t : FieldType} {z : Int32} {vs : List Value} {d : Value} {C : String} (F : Arv Z h a k t z vs d) (O : Ovr Z k C) (I : Ins Z h y C true) : Sto Z h a (.ref y) := by
  obtain ⟨c, A, q, -⟩ := F
  exact Sto.ofV A q O I
/-- 1 where the two lists are one, 0 else -/
def eqv (xs ys : List Int32) : Int32 := if xs = ys then 1 else 0
theorem eqv_yes {xs ys : List Int32} (h : xs = ys) : eqv xs ys = 1 := if_pos h
theorem eqv_no {xs ys : List Int32} (h : ¬ xs = ys) : eqv xs ys = 0 := if_neg h
theorem getD_in {xs : List Int32} {i : Nat} (h : i < xs.length) : xs.getD i 0 ∈ xs := by
  rw [List.getD_eq_getElem?_getD, List.getElem?_eq_getElem h]; exact List.getElem_mem h
theorem take_succ' {xs : List Int32} {i : Nat} (h : i < xs.length) : xs.take (i + 1) = xs.take i ++ [xs.getD i 0] := by
  rw [List.take_add_one, List.getElem?_eq_getElem h, List.getD_eq_getElem?_getD, List.getElem?_eq_getElem h]; rfl
end Jvm.OwnWp
namespace Jvm.OwnWp
open Sem ClassFile Op Lib Bundle Jvm.Stand Jvm.Free Jvm.LawKit Jvm.RoadKit
theorem forallS {P : Int32 → Prop} {y : Int32} {L : List Int32} (q : P y) (r : ∀ x ∈ L, P x) : ∀ x ∈ y :: L, P x := fun x z => (List.mem_cons.mp z).elim (fun u => u ▸ q) (r x)
theorem eqv_one {xs ys : List Int32} (h : ¬ eqv xs ys = 0) : eqv xs ys = 1 := by
  unfold eqv at h ⊢
  by_cases q : xs = ys
  · rw [if_pos q]
  · rw [if_neg q] at h; exact absurd rfl h
theorem fill_step {cs : List Int32} {i r : Nat} {v : Int32} (h : i + (r + 1) = cs.length) (f : Int32 → Int32) (hv : v = f (cs.getD i 0)) : (ints ((cs.take i).map f ++ List.replicate (r + 1) 0)).set i (.int v) = ints ((cs.take (i + 1)).map f ++ List.replicate r 0) := by
  subst hv
  have e : List.replicate (r + 1) (0 : Int32) = 0 :: List.replicate r 0 := rfl
  have l1 : ((cs.take i).map f).length = i := by simp; omega
  show List.set (List.map Value.int _) i _ = _
  rw [← List.map_set, take_succ' (by omega), List.map_append, e, List.set_append_right _ _ (by omega), l1, Nat.sub_self]
  simp
end Jvm.OwnWp
namespace Jvm.OwnWp
open Sem ClassFile Op Lib Bundle Jvm.Stand Jvm.Free Jvm.LawKit Jvm.RoadKit
theorem shr0 (x : Int32) : x >>> ((0 : Int32) &&& 31) = x := by
  have s := c_ishr x 0 0 (by decide)
  refine Int32.toInt_inj.mp ?_
  rw [s]; simp
theorem ints_at' {xs : List Int32} (i : Nat) : (ints xs).getD i (.int 0) = .int (xs.getD i 0) := by
  simp only [ints, List.getD_eq_getElem?_getD, List.getElem?_map]
  cases xs[i]? <;> rfl
/-- a char read of a byte -/
def chr8 (u : Int32) : Int32 := nar .char ((u &&& 255).toUInt32.toUInt16.toUInt32.toInt32)
theorem char_idem (x : Int32) : nar .char (nar .char x) = nar .char x := by
  have e := c_i2c x
  have e' : (nar .char x).toInt = x.toUInt32.toUInt16.toUInt32.toInt32.toInt := rfl
  refine nar_char ?_ ?_
  · rw [Int32.lt_iff_toInt_lt, e']; have e0 : (0 : Int32).toInt = 0 := rfl; omega
  · rw [Int32.lt_iff_toInt_lt, e']; have e0 : (65535 : Int32).toInt = 65535 := rfl; omega
theorem chr8_nar (u : Int32) : nar .char (chr8 u) = chr8 u := char_idem _
theorem chr8_lo {c : Int32} (h : ¬ c < 0 ∧ ¬ (255 : Int32) < c) : chr8 (nar .byte c) = c := by
  obtain ⟨h0, h1⟩ := h
  rw [Int32.lt_iff_toInt_lt] at h0 h1
  have e0 : (0 : Int32).toInt = 0 := rfl
  have e1 : (255 : Int32).toInt = 255 := rfl
  have b := c_i2b c
  have b' : ((nar .byte c).toInt - c.toInt) % 256 = 0 := b.1
  have m := c_mask (nar .byte c) 255 8 (by decide) (by decide)
  have m' : (nar .byte c &&& 255).toInt = (nar .byte c).toInt % 256 := m
  have v : nar .byte c &&& 255 = c := Int32.toInt_inj.mp (by omega)
  show nar .char (nar .char (nar .byte c &&& 255)) = c
  rw [v, char_idem]
  refine nar_char ?_ ?_
  · rw [Int32.lt_iff_toInt_lt]; omega
  · rw [Int32.lt_iff_toInt_lt]; have e2 : (65535 : Int32).toInt = 65535 := rfl; omega
end Jvm.OwnWp
namespace Jvm.OwnWp
open Sem ClassFile Op Lib Bundle Jvm.Stand Jvm.Free Jvm.LawKit Jvm.RoadKit
theorem ofN_lt' {i n : Nat} (h : Int32.ofNat i < Int32.ofNat n) (hi : i < 2 ^ 31) (hn : n < 2 ^ 31) : i < n := by
  rw [Int32.lt_iff_toInt_lt, ofN_toInt hi, ofN_toInt hn] at h; omega
theorem chr8_lat (u : Int32) : ¬ chr8 u < 0 ∧ ¬ (255 : Int32) < chr8 u := by
  have a := c_and u 255 (by decide)
  have e1 : (255 : Int32).toInt = 255 := rfl
  have e0 : (0 : Int32).toInt = 0 := rfl
  have n1 : nar .char (u &&& 255) = u &&& 255 := nar_char (by rw [Int32.lt_iff_toInt_lt]; omega) (by rw [Int32.lt_iff_toInt_lt]; have e2 : (65535 : Int32).toInt = 65535 := rfl; omega)
  have n2 : chr8 u = u &&& 255 := by
    show nar .char (nar .char (u &&& 255)) = _
    rw [n1, n1]
  rw [n2, Int32.lt_iff_toInt_lt, Int32.lt_iff_toInt_lt]; omega
theorem lat_set {cs : List Int32} {P : Int32 → Prop} (h : ∀ c ∈ cs, P c) (i : Nat) {r : Int32} (hr : P r) : ∀ c ∈ cs.set i r, P c := fun c hc => by
  rcases List.mem_or_eq_of_mem_set hc with q | q
  · exact h c q
  · exact q ▸ hr
theorem lat_rep (n : Nat) : ∀ c ∈ List.replicate n (0 : Int32), ¬ c < 0 ∧ ¬ (255 : Int32) < c := fun c hc => by
  rw [List.eq_of_mem_replicate hc]; decide
theorem up16 {c : Int32} (h : ¬ c < 0 ∧ ¬ (255 : Int32) < c) : ¬ c < 0 ∧ ¬ (65535 : Int32) < c := ⟨h.1, fun q => h.2 (by rw [Int32.lt_iff_toInt_lt] at q ⊢; have e1 : (65535 : Int32).toInt = 65535 := rfl; have e2 : (255 : Int32).toInt = 255 := rfl; omega)⟩
theorem lat_nar {c : Int32} (h : ¬ c < 0 ∧ ¬ (255 : Int32) < c) : nar .char c = c := nar_char (up16 h).1 (up16 h).2
theorem eqv_eq {xs ys : List Int32} (h : ¬ eqv xs ys = 0) : xs = ys := by
  by_cases q : xs = ys
  · exact q
  · exact absurd (eqv_no q) h
theorem eqv_ne {xs ys : List Int32} (h : eqv xs ys = 0) : ¬ xs = ys := fun q => by
  rw [eqv_yes q] at h; exact absurd h (by decide)
theorem eqv_ne0 {xs ys : List Int32} (h : xs = ys) : ¬ eqv xs ys = 0 := by rw [eqv_yes h]; decide
theorem fold_all (f : Nat → Option Bool) : ∀ (L : List Nat) (acc : Option Bool), L.foldl (fun acc i => match acc with | some true => f i | x => x) acc = some true → acc = some true ∧ ∀ i ∈ L, f i = some true
  | [], acc, h => ⟨h, fun _ q => nomatch q⟩
  | i :: L, acc, h => by
    obtain ⟨h1, h2⟩ := fold_all f L _ h
    match acc, h1 with
    | some true, h1 => exact ⟨rfl, fun j hj => (List.mem_cons.mp hj).elim (fun e => e ▸ h1) (h2 j)⟩
theorem all_e {args : Array Value} {first s : State} {o : Option Outcome} {idx : List Nat} {t : Term} {c : Jvm.Cond} {a : Addr} {cell : Cell} (h : (Jvm.Cond.all t c).value args first o s idx = some true) (ht : t.eval args first o idx s = some (.ref a)) (ha : s.arrayAt? a = some cell) : ∀ i, i < cell.slots.size → c.value args first o s (i :: idx) = some true := by
  have h' : (match t.eval args first o idx s with
    | some (.ref a) => match s.arrayAt? a with
      | some cell => (List.range cell.slots.size).foldl (init := some true) fun acc i => match acc with
        | some true => c.value args first o s (i :: idx)
        | x => x
      | none => none
    | _ => none) = some true := h
  rw [ht] at h'
  dsimp only at h'
  rw [ha] at h'
  dsimp only at h'
  exact fun i hi => (fold_all (fun i => c.value args first o s (i :: idx)) _ _ h').2 i (List.mem_range.mpr hi)
/-- an array of the start whose length is said -/
theorem arr_said {args : Array Value} {s : State} {t : Term} {ty : FieldType} {N : Int32} {n : Nat} (h1 : (Jvm.Cond.arrayOf t ty).value args s none s [] = some true) (h2 : (Jvm.Cond.eq (.length t) (.int N)).value args s none s [] = some true) (hN : N = Int32.ofNat n) (hn : n < 2 ^ 31) :
    ∃ (a : Addr) (cl : Cell), t.eval args s none [] s = some (.ref a) ∧ Arr s s.heap a cl ty ∧ s.arrayAt? a = some cl ∧ cl.slots.size = n := by
  have hlen := Cond.eq_int (Cond.before_iff.mpr h2) (Term.int_eval N)
  obtain ⟨dg, cl', ed, hat, -⟩ := Term.length_spec hlen
  obtain ⟨cl, A⟩ := Arr.start ed h1
  have hat2 : s.arrayAt? dg = some cl := Arr.fin (Vm.Alike.refl _) A
  cases hat.symm.trans hat2
  have h31 := Jvm.Free.SBG.length_lt ed hat hlen
  have hsz : cl'.slots.size = n := by
    have e := (len_f ed hat h31).symm.trans hlen
    have e' : cl'.slots.size.toInt32 = N := Value.int.inj (Option.some.inj e)
    have := congrArg Int32.toInt e'
    rw [len_toInt h31, hN, ofN_toInt hn] at this
    omega
  exact ⟨dg, cl', ed, A, hat, hsz⟩
/-- a String of the start whose text is said, byte by byte -/
theorem str_said {args : Array Value} {s : State} (hf : Fit s) {t : Term} {N : Int32} {ys : List Int32} (hN : N = Int32.ofNat ys.length) (hn : ys.length < 2 ^ 31)
    (h1 : (Jvm.Cond.exactly t "java/lang/String").value args s none s [] = some true) (h2 : (Jvm.Cond.eq (.field t "java/lang/String" "coder" "B") (.int 0)).value args s none s [] = some true)
    (h3 : (Jvm.Cond.arrayOf (.field t "java/lang/String" "value" "[B") .byte).value args s none s [] = some true) (h4 : (Jvm.Cond.eq (.length (.field t "java/lang/String" "value" "[B")) (.int N)).value args s none s [] = some true)
    (h5 : ∀ i, i < ys.length → (Jvm.Cond.eq (.elem (.field t "java/lang/String" "value" "[B") (.int (Int32.ofNat i))) (.int (ys.getD i 0))).value args s none s [] = some true) :
    ∃ (a b : Addr) (k : ClassId), t.eval args s none [] s = some (.ref a) ∧ Exa s s.heap a "java/lang/String" ∧ Fld s s.heap a "java/lang/String" "coder" "B" (.int 0) ∧ Fld s s.heap a "java/lang/String" "value" "[B" (.ref b) ∧ Arv s s.heap b k .byte N (ints ys) (.int 0) := by
  obtain ⟨a, ea⟩ := exa_v h1
  obtain ⟨b, cl, eb, A, hat, hsz⟩ := arr_said h3 h4 hN hn
  have key : ∀ i, i < ys.length → cl.slots[i]? = some (.int (ys.getD i 0)) := fun i hi => by
    have e := Cond.eq_int (Cond.before_iff.mpr (h5 i hi)) (Term.int_eval _)
    have hel := elem_f eb (Term.int_eval (Int32.ofNat i)) hat (ofN_nn (by omega))
    rw [ofN_clamp (by omega)] at hel
    exact hel.symm.trans e
  refine ⟨a, b, cl.cls, ea, Exa.start ea h1, Fld.start ((fld_at ea).symm.trans (Cond.eq_int (Cond.before_iff.mpr h2) (Term.int_eval 0))), Fld.start ((fld_at ea).symm.trans eb), cl, A, rfl, by rw [hsz, hN, ofN_clamp hn], by rw [hN]; exact ofN_nn hn, fun i hi => ?_, fun i hi => ?_⟩
  · rw [key i (by omega), ints_at']
  · rw [ints_at']
    exact elem_fits hf A (j := Int32.ofNat i) (by rw [ofN_clamp (by omega)]; exact fun q => q.elim (ofN_nn (by omega)) (by omega)) (by rw [ofN_clamp (by omega)]; exact key i (by omega))
theorem ne_alias {x t t' : Addr} {n : Nat} (hor : t' = t ∨ n ≤ t') (h1 : x ≠ t) (h2 : x < n) : x ≠ t' := by
  rcases hor with rfl | q
  · exact h1
  · exact Nat.ne_of_lt (Nat.lt_of_lt_of_le h2 q)
theorem ge_alias {t t' : Addr} {n m : Nat} (hor : t' = t ∨ n ≤ t') (g : m ≤ t) (le : m ≤ n) : m ≤ t' := by
  rcases hor with rfl | q
  · exact g
  · exact Nat.le_trans le q
theorem side_alias {t t' : Addr} {n m : Nat} {ws : List Addr} (hor : t' = t ∨ n ≤ t') (h : t ∈ ws ∨ m ≤ t) (le : m ≤ n) : t' ∈ ws ∨ m ≤ t' := by
  rcases hor with rfl | q
  · exact h
  · exact Or.inr (Nat.le_trans le q)
theorem ofN_add (i j : Nat) : Int32.ofNat i + Int32.ofNat j = Int32.ofNat (i + j) := (Int32.ofNat_add i j).symm
theorem ofN_sub {i j : Nat} (h : j ≤ i) (hi : i < 2 ^ 31) : Int32.ofNat i - Int32.ofNat j = Int32.ofNat (i - j) := by
  have c := c_isub (Int32.ofNat i) (Int32.ofNat j)
  have r := rng32 (Int32.ofNat i - Int32.ofNat j)
  refine Int32.toInt_inj.mp ?_
  rw [ofN_toInt (by omega)]
  rw [ofN_toInt hi, ofN_toInt (by omega)] at c
  omega
theorem ofN_ne {i n : Nat} (hi : i < 2 ^ 31) (hn : n < 2 ^ 31) (h : i ≠ n) : ¬ Int32.ofNat i = Int32.ofNat n := fun q => h (ofN_inj hi hn q)
theorem shl0 (x : Int32) : x <<< ((0 : Int32) &&& 31) = x := by
  have s := c_ishl x 0 0 (by decide)
  have r1 := rng32 x
  have r2 := rng32 (x <<< ((0 : Int32) &&& 31))
  refine Int32.toInt_inj.mp ?_
  simp only [Nat.pow_zero] at s
  omega
theorem sub0 (x : Int32) : x - (0 : Int32) = x := by
  have c := c_isub x 0
  have r1 := rng32 x
  have r2 := rng32 (x - 0)
  have e : (0 : Int32).toInt = 0 := rfl
  exact Int32.toInt_inj.mp (by omega)
theorem add0 (x : Int32) : (0 : Int32) + x = x := by
  have c := c_iadd 0 x
  have r1 := rng32 x
  have r2 := rng32 (0 + x)
  have e : (0 : Int32).toInt = 0 := rfl
  exact Int32.toInt_inj.mp (by omega)
theorem add0' (x : Int32) : x + (0 : Int32) = x := by
  have c := c_iadd x 0
  have r1 := rng32 x
  have r2 := rng32 (x + 0)
  have e : (0 : Int32).toInt = 0 := rfl
  exact Int32.toInt_inj.mp (by omega)
theorem subLt {m n : Nat} (hm : m < 2 ^ 30) (hn : n < 2 ^ 30) (h : (0 : Int32) < Int32.ofNat m - Int32.ofNat n) : n < m := by
  have c := c_isub (Int32.ofNat m) (Int32.ofNat n)
  rw [ofN_toInt (by omega), ofN_toInt (by omega)] at c
  rw [Int32.lt_iff_toInt_lt] at h
  have e : (0 : Int32).toInt = 0 := rfl
  have r2 := rng32 (Int32.ofNat m - Int32.ofNat n)
  omega
theorem subLe {m n : Nat} (hm : m < 2 ^ 30) (hn : n < 2 ^ 30) (h : ¬ (0 : Int32) < Int32.ofNat m - Int32.ofNat n) : m ≤ n := by
  have c := c_isub (Int32.ofNat m) (Int32.ofNat n)
  rw [ofN_toInt (by omega), ofN_toInt (by omega)] at c
  rw [Int32.lt_iff_toInt_lt] at h
  have e : (0 : Int32).toInt = 0 := rfl
  have r2 := rng32 (Int32.ofNat m - Int32.ofNat n)
  omega
theorem splice_len {ws ys : List Int32} {n : Nat} (h : n + ys.length ≤ ws.length) : (ws.take n ++ ys ++ ws.drop (n + ys.length)).length = ws.length := by simp; omega
theorem splice_take {ws us ys : List Int32} {n : Nat} (h : n ≤ ws.length) : ((ws ++ us).take n ++ ys ++ (ws ++ us).drop (n + ys.length)).take (n + ys.length) = ws.take n ++ ys := by
  have l : ((ws ++ us).take n ++ ys).length = n + ys.length := by simp; omega
  rw [List.take_append_of_le_length (by omega), List.take_of_length_le (by omega), List.take_append_of_le_length h]
end Jvm.OwnWp
namespace Jvm.Pilot.@@N@@
open Jvm Jvm.ClassFile Sem Op Lib Jvm.Free Jvm.Stand Jvm.LawKit Jvm.RoadKit Bundle Jvm.OwnWp Jvm.Pilot.@@N@@.Jvm.D
theorem drop13 (ys : List Int32) : (ys ++ [(36 : Int32), (36 : Int32), (82 : Int32), (111 : Int32), (111 : Int32), (109 : Int32), (83 : Int32), (116 : Int32), (97 : Int32), (116 : Int32), (105 : Int32), (99 : Int32), (115 : Int32)]).take ((ys ++ [(36 : Int32), (36 : Int32), (82 : Int32), (111 : Int32), (111 : Int32), (109 : Int32), (83 : Int32), (116 : Int32), (97 : Int32), (116 : Int32), (105 : Int32), (99 : Int32), (115 : Int32)]).length - 13) = ys := by simp
abbrev EL0 : ELT := [("com/example/room_divider/roomdivider/isolation/GeneratedNames", (16 : Nat)), ("java/lang/String", (7 : Nat)), ("java/lang/StringLatin1", (151 : Nat))]
/-- what holds at the law's start -/
def Ctx (l : Launch) (Z : State) (a0 : Array Value) (n0 : Nat) (g0 : Int32) (gf : Value) : Prop := (∀ d ∈ tables_1, d.before a0 Z = true) ∧ (∀ a ∈ Bundle.stringAtoms, a.before a0 Z = true) ∧ EW Z a0 EL0 ∧ (Sta Z Z.heap "java/lang/String" "COMPACT_STRINGS" "Z" (.int g0) ∧ ¬ g0 = 0) ∧ (Sta Z Z.heap "jdk/internal/util/Preconditions" "SIOOBE_FORMATTER" "Ljava/util/function/BiFunction;" gf ∧ gf.isRef = true)
theorem d_jdk_52_method_21_code_3 : decode jdk_52_method_21_code 3 = .ok (.iload 5, 2) := by decide +kernel
theorem d_jdk_52_method_21_code_5 : decode jdk_52_method_21_code 5 = .ok (.iload 4, 2) := by decide +kernel
theorem d_jdk_52_method_21_code_7 : decode jdk_52_method_21_code 7 = .ok (.if_icmp .ge 37, 3) := by decide +kernel
theorem d_jdk_52_method_21_code_44 : decode jdk_52_method_21_code 44 = .ok (.iload 4, 2) := by decide +kernel
theorem d_jdk_52_method_21_code_46 : decode jdk_52_method_21_code 46 = .ok (.ireturn, 1) := by decide +kernel
theorem d_jdk_52_method_21_code_10 : decode jdk_52_method_21_code 10 = .ok (.aload_n 0, 1) := by decide +kernel
theorem d_jdk_52_method_21_code_11 : decode jdk_52_method_21_code 11 = .ok (.iload_n 1, 1) := by decide +kernel
theorem d_jdk_52_method_21_code_12 : decode jdk_52_method_21_code 12 = .ok (.caload, 1) := by decide +kernel
theorem d_jdk_52_method_21_code_13 : decode jdk_52_method_21_code 13 = .ok (.istore 6, 2) := by decide +kernel
theorem d_jdk_52_method_21_code_15 : decode jdk_52_method_21_code 15 = .ok (.iload 6, 2) := by decide +kernel
theorem d_jdk_52_method_21_code_17 : decode jdk_52_method_21_code 17 = .ok (.sipush 255, 3) := by decide +kernel
theorem d_jdk_52_method_21_code_20 : decode jdk_52_method_21_code 20 = .ok (.if_icmp .le 6, 3) := by decide +kernel
theorem d_jdk_52_method_21_code_26 : decode jdk_52_method_21_code 26 = .ok (.aload_n 2, 1) := by decide +kernel
theorem d_jdk_52_method_21_code_27 : decode jdk_52_method_21_code 27 = .ok (.iload_n 3, 1) := by decide +kernel
theorem d_jdk_52_method_21_code_28 : decode jdk_52_method_21_code 28 = .ok (.iload 6, 2) := by decide +kernel
theorem d_jdk_52_method_21_code_30 : decode jdk_52_method_21_code 30 = .ok (.i2b, 1) := by decide +kernel
theorem d_jdk_52_method_21_code_31 : decode jdk_52_method_21_code 31 = .ok (.bastore, 1) := by decide +kernel
theorem d_jdk_52_method_21_code_32 : decode jdk_52_method_21_code 32 = .ok (.iinc 1 1, 3) := by decide +kernel
theorem d_jdk_52_method_21_code_35 : decode jdk_52_method_21_code 35 = .ok (.iinc 3 1, 3) := by decide +kernel
theorem d_jdk_52_method_21_code_38 : decode jdk_52_method_21_code 38 = .ok (.iinc 5 1, 3) := by decide +kernel
theorem d_jdk_52_method_21_code_41 : decode jdk_52_method_21_code 41 = .ok (.goto (-38), 3) := by decide +kernel
theorem d_jdk_52_method_21_code_0 : decode jdk_52_method_21_code 0 = .ok (.iconst 0, 1) := by decide +kernel
theorem d_jdk_52_method_21_code_1 : decode jdk_52_method_21_code 1 = .ok (.istore 5, 2) := by decide +kernel
theorem pl_0 : plainFor (⟨"java/lang/StringUTF16", "compress", "([CI[BII)I"⟩ : MethodName) = true := by first | exact plainFor_of_name (by first | (simp [plainName, overriddenIn]; done) | decide +kernel) | decide +kernel
theorem d_jdk_52_method_16_code_0 : decode jdk_52_method_16_code 0 = .ok (.iload_n 2, 1) := by decide +kernel
theorem d_jdk_52_method_16_code_1 : decode jdk_52_method_16_code 1 = .ok (.newarray .byte, 2) := by decide +kernel
theorem w23 {Z : State} {a0 : Array Value} (hw : ∀ d ∈ tables_1, d.before a0 Z = true) : (Jvm.Cond.arrayClass Jvm.ClassFile.FieldType.byte).before a0 Z = true := hw _ (List.mem_of_getElem? (i := 23) rfl)
theorem d_jdk_52_method_16_code_3 : decode jdk_52_method_16_code 3 = .ok (.astore_n 3, 1) := by decide +kernel
theorem d_jdk_52_method_16_code_4 : decode jdk_52_method_16_code 4 = .ok (.aload_n 0, 1) := by decide +kernel
theorem d_jdk_52_method_16_code_5 : decode jdk_52_method_16_code 5 = .ok (.iload_n 1, 1) := by decide +kernel
theorem d_jdk_52_method_16_code_6 : decode jdk_52_method_16_code 6 = .ok (.aload_n 3, 1) := by decide +kernel
theorem d_jdk_52_method_16_code_7 : decode jdk_52_method_16_code 7 = .ok (.iconst 0, 1) := by decide +kernel
theorem d_jdk_52_method_16_code_8 : decode jdk_52_method_16_code 8 = .ok (.iload_n 2, 1) := by decide +kernel
theorem d_jdk_52_method_16_code_9 : decode jdk_52_method_16_code 9 = .ok (.invokestatic 115, 3) := by decide +kernel
theorem w187 {Z : State} {a0 : Array Value} (hw : ∀ d ∈ tables_1, d.before a0 Z = true) : (Jvm.Cond.methodLink "java/lang/StringUTF16" (115 : Nat) ({ cls := "java/lang/StringUTF16", name := "compress", desc := "([CI[BII)I" } : Jvm.MethodName)).before a0 Z = true := hw _ (List.mem_of_getElem? (i := 187) rfl)
theorem w189 {Z : State} {a0 : Array Value} (hw : ∀ d ∈ tables_1, d.before a0 Z = true) : (Jvm.Cond.code ({ cls := "java/lang/StringUTF16", name := "compress", desc := "([CI[BII)I" } : Jvm.MethodName) jdk_52_method_21_code (7 : Nat) (Option.some Jvm.ClassFile.FieldType.int)).before a0 Z = true := hw _ (List.mem_of_getElem? (i := 189) rfl)
theorem w185 {Z : State} {a0 : Array Value} (hw : ∀ d ∈ tables_1, d.before a0 Z = true) : (Jvm.Cond.initialized "java/lang/StringUTF16").before a0 Z = true := hw _ (List.mem_of_getElem? (i := 185) rfl)
theorem w188 {Z : State} {a0 : Array Value} (hw : ∀ d ∈ tables_1, d.before a0 Z = true) : (Jvm.Cond.static ({ cls := "java/lang/StringUTF16", name := "compress", desc := "([CI[BII)I" } : Jvm.MethodName)).before a0 Z = true := hw _ (List.mem_of_getElem? (i := 188) rfl)
theorem pd_0 : parseMethodDescriptor "([CI[BII)I" = some ⟨[(.array .char), .int, (.array .byte), .int, .int], some .int⟩ := by decide +kernel
theorem d_jdk_52_method_16_code_12 : decode jdk_52_method_16_code 12 = .ok (.istore 4, 2) := by decide +kernel
theorem d_jdk_52_method_16_code_14 : decode jdk_52_method_16_code 14 = .ok (.iload 4, 2) := by decide +kernel
theorem d_jdk_52_method_16_code_16 : decode jdk_52_method_16_code 16 = .ok (.iload_n 2, 1) := by decide +kernel
theorem d_jdk_52_method_16_code_17 : decode jdk_52_method_16_code 17 = .ok (.if_icmp .eq 40, 3) := by decide +kernel
theorem d_jdk_52_method_16_code_57 : decode jdk_52_method_16_code 57 = .ok (.aload_n 3, 1) := by decide +kernel
theorem d_jdk_52_method_16_code_58 : decode jdk_52_method_16_code 58 = .ok (.areturn, 1) := by decide +kernel
theorem pl_1 : plainFor (⟨"java/lang/StringUTF16", "compress", "([CII)[B"⟩ : MethodName) = true := by first | exact plainFor_of_name (by first | (simp [plainName, overriddenIn]; done) | decide +kernel) | decide +kernel
theorem d_jdk_52_method_15_code_0 : decode jdk_52_method_15_code 0 = .ok (.iload_n 1, 1) := by decide +kernel
theorem d_jdk_52_method_15_code_1 : decode jdk_52_method_15_code 1 = .ok (.aload_n 0, 1) := by decide +kernel
theorem d_jdk_52_method_15_code_2 : decode jdk_52_method_15_code 2 = .ok (.arraylength, 1) := by decide +kernel
theorem d_jdk_52_method_15_code_3 : decode jdk_52_method_15_code 3 = .ok (.isub, 1) := by decide +kernel
theorem d_jdk_52_method_15_code_4 : decode jdk_52_method_15_code 4 = .ok (.bipush 31, 2) := by decide +kernel
theorem d_jdk_52_method_15_code_6 : decode jdk_52_method_15_code 6 = .ok (.iushr, 1) := by decide +kernel
theorem d_jdk_52_method_15_code_7 : decode jdk_52_method_15_code 7 = .ok (.i2b, 1) := by decide +kernel
theorem d_jdk_52_method_15_code_8 : decode jdk_52_method_15_code 8 = .ok (.ireturn, 1) := by decide +kernel
theorem pl_2 : plainFor (⟨"java/lang/StringUTF16", "coderFromArrayLen", "([BI)B"⟩ : MethodName) = true := by first | exact plainFor_of_name (by first | (simp [plainName, overriddenIn]; done) | decide +kernel) | decide +kernel
theorem d_jdk_42_method_149_code_0 : decode jdk_42_method_149_code 0 = .ok (.aload_n 0, 1) := by decide +kernel
theorem d_jdk_42_method_149_code_1 : decode jdk_42_method_149_code 1 = .ok (.invokespecial 1, 3) := by decide +kernel
theorem w19 {Z : State} {a0 : Array Value} (hw : ∀ d ∈ tables_1, d.before a0 Z = true) : (Jvm.Cond.methodLink "java/lang/String" (1 : Nat) ({ cls := "java/lang/Object", name := "<init>", desc := "()V" } : Jvm.MethodName)).before a0 Z = true := hw _ (List.mem_of_getElem? (i := 19) rfl)
theorem w20 {Z : State} {a0 : Array Value} (hw : ∀ d ∈ tables_1, d.before a0 Z = true) : (Jvm.Cond.instanceMethod ({ cls := "java/lang/Object", name := "<init>", desc := "()V" } : Jvm.MethodName)).before a0 Z = true := hw _ (List.mem_of_getElem? (i := 20) rfl)
theorem w21 {Z : State} {a0 : Array Value} (hw : ∀ d ∈ tables_1, d.before a0 Z = true) : (Jvm.Cond.code ({ cls := "java/lang/Object", name := "<init>", desc := "()V" } : Jvm.MethodName) object_method_1_code (1 : Nat) (Option.none : Option Jvm.ClassFile.FieldType)).before a0 Z = true := hw _ (List.mem_of_getElem? (i := 21) rfl)
theorem d_jdk_42_method_149_code_4 : decode jdk_42_method_149_code 4 = .ok (.iload_n 3, 1) := by decide +kernel
theorem d_jdk_42_method_149_code_5 : decode jdk_42_method_149_code 5 = .ok (.ifCond .ne 22, 3) := by decide +kernel
theorem d_jdk_42_method_149_code_8 : decode jdk_42_method_149_code 8 = .ok (.aload_n 0, 1) := by decide +kernel
theorem d_jdk_42_method_149_code_9 : decode jdk_42_method_149_code 9 = .ok (.ldc 7, 2) := by decide +kernel
theorem w22 {Z : State} {a0 : Array Value} (hw : ∀ d ∈ tables_1, d.before a0 Z = true) : (Jvm.Cond.stringLink "java/lang/String" (7 : Nat) "").before a0 Z = true := hw _ (List.mem_of_getElem? (i := 22) rfl)
theorem d_jdk_42_method_149_code_11 : decode jdk_42_method_149_code 11 = .ok (.getfield 9, 3) := by decide +kernel
theorem w28 {Z : State} {a0 : Array Value} (hw : ∀ d ∈ tables_1, d.before a0 Z = true) : (Jvm.Cond.fieldLink "java/lang/String" (9 : Nat) "java/lang/String" "value" "[B").before a0 Z = true := hw _ (List.mem_of_getElem? (i := 28) rfl)
theorem d_jdk_42_method_149_code_14 : decode jdk_42_method_149_code 14 = .ok (.putfield 9, 3) := by decide +kernel
theorem w24 {Z : State} {a0 : Array Value} (hw : ∀ d ∈ tables_1, d.before a0 Z = true) : (Jvm.Cond.laysFinal "java/lang/String" "java/lang/String" "value" "[B").before a0 Z = true := hw _ (List.mem_of_getElem? (i := 24) rfl)
theorem w9 {Z : State} {a0 : Array Value} (hw : ∀ d ∈ tables_1, d.before a0 Z = true) : (Jvm.Cond.instantiable "java/lang/String" (4 : Nat)).before a0 Z = true := hw _ (List.mem_of_getElem? (i := 9) rfl)
theorem pf__B : parseFieldDescriptor "[B" = some (.array .byte) := by decide +kernel
theorem d_jdk_42_method_149_code_17 : decode jdk_42_method_149_code 17 = .ok (.aload_n 0, 1) := by decide +kernel
theorem d_jdk_42_method_149_code_18 : decode jdk_42_method_149_code 18 = .ok (.ldc 7, 2) := by decide +kernel
theorem d_jdk_42_method_149_code_20 : decode jdk_42_method_149_code 20 = .ok (.getfield 15, 3) := by decide +kernel
theorem w29 {Z : State} {a0 : Array Value} (hw : ∀ d ∈ tables_1, d.before a0 Z = true) : (Jvm.Cond.fieldLink "java/lang/String" (15 : Nat) "java/lang/String" "coder" "B").before a0 Z = true := hw _ (List.mem_of_getElem? (i := 29) rfl)
theorem d_jdk_42_method_149_code_23 : decode jdk_42_method_149_code 23 = .ok (.putfield 15, 3) := by decide +kernel
theorem w25 {Z : State} {a0 : Array Value} (hw : ∀ d ∈ tables_1, d.before a0 Z = true) : (Jvm.Cond.laysFinal "java/lang/String" "java/lang/String" "coder" "B").before a0 Z = true := hw _ (List.mem_of_getElem? (i := 25) rfl)
theorem pf_B : parseFieldDescriptor "B" = some .byte := by decide +kernel
theorem d_jdk_42_method_149_code_26 : decode jdk_42_method_149_code 26 = .ok (.return_, 1) := by decide +kernel
theorem pl_3 : plainFor (⟨"java/lang/String", "<init>", "([CIILjava/lang/Void;)V"⟩ : MethodName) = true := by first | exact plainFor_of_name (by first | (simp [plainName, overriddenIn]; done) | decide +kernel) | decide +kernel
theorem d_jdk_42_method_149_code_27 : decode jdk_42_method_149_code 27 = .ok (.getstatic 38, 3) := by decide +kernel
theorem w72 {Z : State} {a0 : Array Value} (hw : ∀ d ∈ tables_1, d.before a0 Z = true) : (Jvm.Cond.fieldLink "java/lang/String" (38 : Nat) "java/lang/String" "COMPACT_STRINGS" "Z").before a0 Z = true := hw _ (List.mem_of_getElem? (i := 72) rfl)
theorem d_jdk_42_method_149_code_30 : decode jdk_42_method_149_code 30 = .ok (.ifCond .eq 28, 3) := by decide +kernel
theorem d_jdk_42_method_149_code_33 : decode jdk_42_method_149_code 33 = .ok (.aload_n 1, 1) := by decide +kernel
theorem d_jdk_42_method_149_code_34 : decode jdk_42_method_149_code 34 = .ok (.iload_n 2, 1) := by decide +kernel
theorem d_jdk_42_method_149_code_35 : decode jdk_42_method_149_code 35 = .ok (.iload_n 3, 1) := by decide +kernel
theorem d_jdk_42_method_149_code_36 : decode jdk_42_method_149_code 36 = .ok (.invokestatic 177, 3) := by decide +kernel
theorem w183 {Z : State} {a0 : Array Value} (hw : ∀ d ∈ tables_1, d.before a0 Z = true) : (Jvm.Cond.methodLink "java/lang/String" (177 : Nat) ({ cls := "java/lang/StringUTF16", name := "compress", desc := "([CII)[B" } : Jvm.MethodName)).before a0 Z = true := hw _ (List.mem_of_getElem? (i := 183) rfl)
theorem w186 {Z : State} {a0 : Array Value} (hw : ∀ d ∈ tables_1, d.before a0 Z = true) : (Jvm.Cond.code ({ cls := "java/lang/StringUTF16", name := "compress", desc := "([CII)[B" } : Jvm.MethodName) jdk_52_method_16_code (6 : Nat) (Option.some (Jvm.ClassFile.FieldType.array Jvm.ClassFile.FieldType.byte))).before a0 Z = true := hw _ (List.mem_of_getElem? (i := 186) rfl)
theorem w184 {Z : State} {a0 : Array Value} (hw : ∀ d ∈ tables_1, d.before a0 Z = true) : (Jvm.Cond.static ({ cls := "java/lang/StringUTF16", name := "compress", desc := "([CII)[B" } : Jvm.MethodName)).before a0 Z = true := hw _ (List.mem_of_getElem? (i := 184) rfl)
theorem pd_1 : parseMethodDescriptor "([CII)[B" = some ⟨[(.array .char), .int, .int], some (.array .byte)⟩ := by decide +kernel
theorem d_jdk_42_method_149_code_39 : decode jdk_42_method_149_code 39 = .ok (.astore 5, 2) := by decide +kernel
theorem d_jdk_42_method_149_code_41 : decode jdk_42_method_149_code 41 = .ok (.aload_n 0, 1) := by decide +kernel
theorem d_jdk_42_method_149_code_42 : decode jdk_42_method_149_code 42 = .ok (.aload 5, 2) := by decide +kernel
theorem d_jdk_42_method_149_code_44 : decode jdk_42_method_149_code 44 = .ok (.iload_n 3, 1) := by decide +kernel
theorem d_jdk_42_method_149_code_45 : decode jdk_42_method_149_code 45 = .ok (.invokestatic 47, 3) := by decide +kernel
theorem w190 {Z : State} {a0 : Array Value} (hw : ∀ d ∈ tables_1, d.before a0 Z = true) : (Jvm.Cond.methodLink "java/lang/String" (47 : Nat) ({ cls := "java/lang/StringUTF16", name := "coderFromArrayLen", desc := "([BI)B" } : Jvm.MethodName)).before a0 Z = true := hw _ (List.mem_of_getElem? (i := 190) rfl)
theorem w192 {Z : State} {a0 : Array Value} (hw : ∀ d ∈ tables_1, d.before a0 Z = true) : (Jvm.Cond.code ({ cls := "java/lang/StringUTF16", name := "coderFromArrayLen", desc := "([BI)B" } : Jvm.MethodName) jdk_52_method_15_code (2 : Nat) (Option.some Jvm.ClassFile.FieldType.byte)).before a0 Z = true := hw _ (List.mem_of_getElem? (i := 192) rfl)
theorem w191 {Z : State} {a0 : Array Value} (hw : ∀ d ∈ tables_1, d.before a0 Z = true) : (Jvm.Cond.static ({ cls := "java/lang/StringUTF16", name := "coderFromArrayLen", desc := "([BI)B" } : Jvm.MethodName)).before a0 Z = true := hw _ (List.mem_of_getElem? (i := 191) rfl)
theorem pd_2 : parseMethodDescriptor "([BI)B" = some ⟨[(.array .byte), .int], some .byte⟩ := by decide +kernel
theorem d_jdk_42_method_149_code_48 : decode jdk_42_method_149_code 48 = .ok (.putfield 15, 3) := by decide +kernel
theorem d_jdk_42_method_149_code_51 : decode jdk_42_method_149_code 51 = .ok (.aload_n 0, 1) := by decide +kernel
theorem d_jdk_42_method_149_code_52 : decode jdk_42_method_149_code 52 = .ok (.aload 5, 2) := by decide +kernel
theorem d_jdk_42_method_149_code_54 : decode jdk_42_method_149_code 54 = .ok (.putfield 9, 3) := by decide +kernel
theorem d_jdk_42_method_149_code_57 : decode jdk_42_method_149_code 57 = .ok (.return_, 1) := by decide +kernel
theorem d_jdk_42_method_3_code_0 : decode jdk_42_method_3_code 0 = .ok (.aload_n 0, 1) := by decide +kernel
theorem d_jdk_42_method_3_code_1 : decode jdk_42_method_3_code 1 = .ok (.aload_n 1, 1) := by decide +kernel
theorem d_jdk_42_method_3_code_2 : decode jdk_42_method_3_code 2 = .ok (.iconst 0, 1) := by decide +kernel
theorem d_jdk_42_method_3_code_3 : decode jdk_42_method_3_code 3 = .ok (.aload_n 1, 1) := by decide +kernel
theorem d_jdk_42_method_3_code_4 : decode jdk_42_method_3_code 4 = .ok (.arraylength, 1) := by decide +kernel
theorem d_jdk_42_method_3_code_5 : decode jdk_42_method_3_code 5 = .ok (.aconst_null, 1) := by decide +kernel
theorem d_jdk_42_method_3_code_6 : decode jdk_42_method_3_code 6 = .ok (.invokespecial 27, 3) := by decide +kernel
theorem w15 {Z : State} {a0 : Array Value} (hw : ∀ d ∈ tables_1, d.before a0 Z = true) : (Jvm.Cond.methodLink "java/lang/String" (27 : Nat) ({ cls := "java/lang/String", name := "<init>", desc := "([CIILjava/lang/Void;)V" } : Jvm.MethodName)).before a0 Z = true := hw _ (List.mem_of_getElem? (i := 15) rfl)
theorem w18 {Z : State} {a0 : Array Value} (hw : ∀ d ∈ tables_1, d.before a0 Z = true) : (Jvm.Cond.code ({ cls := "java/lang/String", name := "<init>", desc := "([CIILjava/lang/Void;)V" } : Jvm.MethodName) jdk_42_method_149_code (6 : Nat) (Option.none : Option Jvm.ClassFile.FieldType)).before a0 Z = true := hw _ (List.mem_of_getElem? (i := 18) rfl)
theorem w10 {Z : State} {a0 : Array Value} (hw : ∀ d ∈ tables_1, d.before a0 Z = true) : (Jvm.Cond.initialized "java/lang/String").before a0 Z = true := hw _ (List.mem_of_getElem? (i := 10) rfl)
theorem w16 {Z : State} {a0 : Array Value} (hw : ∀ d ∈ tables_1, d.before a0 Z = true) : (Jvm.Cond.instanceMethod ({ cls := "java/lang/String", name := "<init>", desc := "([CIILjava/lang/Void;)V" } : Jvm.MethodName)).before a0 Z = true := hw _ (List.mem_of_getElem? (i := 16) rfl)
theorem pd_3 : parseMethodDescriptor "([CIILjava/lang/Void;)V" = some ⟨[(.array .char), .int, .int, (.object "java/lang/Void")], none⟩ := by decide +kernel
theorem d_jdk_42_method_3_code_9 : decode jdk_42_method_3_code 9 = .ok (.return_, 1) := by decide +kernel
theorem pl_4 : plainFor (⟨"java/lang/String", "<init>", "([C)V"⟩ : MethodName) = true := by first | exact plainFor_of_name (by first | (simp [plainName, overriddenIn]; done) | decide +kernel) | decide +kernel
theorem d_jdk_43_method_13_code_9 : decode jdk_43_method_13_code 9 = .ok (.iload_n 2, 1) := by decide +kernel
theorem d_jdk_43_method_13_code_10 : decode jdk_43_method_13_code 10 = .ok (.aload_n 0, 1) := by decide +kernel
theorem d_jdk_43_method_13_code_11 : decode jdk_43_method_13_code 11 = .ok (.arraylength, 1) := by decide +kernel
theorem d_jdk_43_method_13_code_12 : decode jdk_43_method_13_code 12 = .ok (.if_icmp .ge 20, 3) := by decide +kernel
theorem d_jdk_43_method_13_code_32 : decode jdk_43_method_13_code 32 = .ok (.iconst 1, 1) := by decide +kernel
theorem d_jdk_43_method_13_code_33 : decode jdk_43_method_13_code 33 = .ok (.ireturn, 1) := by decide +kernel
theorem d_jdk_43_method_13_code_15 : decode jdk_43_method_13_code 15 = .ok (.aload_n 0, 1) := by decide +kernel
theorem d_jdk_43_method_13_code_16 : decode jdk_43_method_13_code 16 = .ok (.iload_n 2, 1) := by decide +kernel
theorem d_jdk_43_method_13_code_17 : decode jdk_43_method_13_code 17 = .ok (.baload, 1) := by decide +kernel
theorem d_jdk_43_method_13_code_18 : decode jdk_43_method_13_code 18 = .ok (.aload_n 1, 1) := by decide +kernel
theorem d_jdk_43_method_13_code_19 : decode jdk_43_method_13_code 19 = .ok (.iload_n 2, 1) := by decide +kernel
theorem d_jdk_43_method_13_code_20 : decode jdk_43_method_13_code 20 = .ok (.baload, 1) := by decide +kernel
theorem d_jdk_43_method_13_code_21 : decode jdk_43_method_13_code 21 = .ok (.if_icmp .eq 5, 3) := by decide +kernel
theorem d_jdk_43_method_13_code_26 : decode jdk_43_method_13_code 26 = .ok (.iinc 2 1, 3) := by decide +kernel
theorem d_jdk_43_method_13_code_29 : decode jdk_43_method_13_code 29 = .ok (.goto (-20), 3) := by decide +kernel
theorem d_jdk_43_method_13_code_24 : decode jdk_43_method_13_code 24 = .ok (.iconst 0, 1) := by decide +kernel
theorem d_jdk_43_method_13_code_25 : decode jdk_43_method_13_code 25 = .ok (.ireturn, 1) := by decide +kernel
theorem d_jdk_43_method_13_code_0 : decode jdk_43_method_13_code 0 = .ok (.aload_n 0, 1) := by decide +kernel
theorem d_jdk_43_method_13_code_1 : decode jdk_43_method_13_code 1 = .ok (.arraylength, 1) := by decide +kernel
theorem d_jdk_43_method_13_code_2 : decode jdk_43_method_13_code 2 = .ok (.aload_n 1, 1) := by decide +kernel
theorem d_jdk_43_method_13_code_3 : decode jdk_43_method_13_code 3 = .ok (.arraylength, 1) := by decide +kernel
theorem d_jdk_43_method_13_code_4 : decode jdk_43_method_13_code 4 = .ok (.if_icmp .ne 30, 3) := by decide +kernel
theorem d_jdk_43_method_13_code_34 : decode jdk_43_method_13_code 34 = .ok (.iconst 0, 1) := by decide +kernel
theorem d_jdk_43_method_13_code_35 : decode jdk_43_method_13_code 35 = .ok (.ireturn, 1) := by decide +kernel
theorem d_jdk_43_method_13_code_7 : decode jdk_43_method_13_code 7 = .ok (.iconst 0, 1) := by decide +kernel
theorem d_jdk_43_method_13_code_8 : decode jdk_43_method_13_code 8 = .ok (.istore_n 2, 1) := by decide +kernel
theorem pl_5 : plainFor (⟨"java/lang/StringLatin1", "equals", "([B[B)Z"⟩ : MethodName) = true := by first | exact plainFor_of_name (by first | (simp [plainName, overriddenIn]; done) | decide +kernel) | decide +kernel
theorem d_jdk_42_method_66_code_0 : decode jdk_42_method_66_code 0 = .ok (.aload_n 0, 1) := by decide +kernel
theorem d_jdk_42_method_66_code_1 : decode jdk_42_method_66_code 1 = .ok (.aload_n 1, 1) := by decide +kernel
theorem d_jdk_42_method_66_code_2 : decode jdk_42_method_66_code 2 = .ok (.if_acmp .ne 5, 3) := by decide +kernel
theorem d_jdk_42_method_66_code_7 : decode jdk_42_method_66_code 7 = .ok (.aload_n 1, 1) := by decide +kernel
theorem d_jdk_42_method_66_code_8 : decode jdk_42_method_66_code 8 = .ok (.instanceof 10, 3) := by decide +kernel
theorem w179 {Z : State} {a0 : Array Value} (hw : ∀ d ∈ tables_1, d.before a0 Z = true) : (Jvm.Cond.classLink "java/lang/String" (10 : Nat) "java/lang/String").before a0 Z = true := hw _ (List.mem_of_getElem? (i := 179) rfl)
theorem w17 {Z : State} {a0 : Array Value} (hw : ∀ d ∈ tables_1, d.before a0 Z = true) : (Jvm.Cond.castable "java/lang/String" "java/lang/String").before a0 Z = true := hw _ (List.mem_of_getElem? (i := 17) rfl)
theorem d_jdk_42_method_66_code_11 : decode jdk_42_method_66_code 11 = .ok (.ifCond .eq 43, 3) := by decide +kernel
theorem d_jdk_42_method_66_code_14 : decode jdk_42_method_66_code 14 = .ok (.aload_n 1, 1) := by decide +kernel
theorem d_jdk_42_method_66_code_15 : decode jdk_42_method_66_code 15 = .ok (.checkcast 10, 3) := by decide +kernel
theorem d_jdk_42_method_66_code_18 : decode jdk_42_method_66_code 18 = .ok (.astore_n 2, 1) := by decide +kernel
theorem d_jdk_42_method_66_code_19 : decode jdk_42_method_66_code 19 = .ok (.getstatic 38, 3) := by decide +kernel
theorem d_jdk_42_method_66_code_22 : decode jdk_42_method_66_code 22 = .ok (.ifCond .eq 14, 3) := by decide +kernel
theorem d_jdk_42_method_66_code_25 : decode jdk_42_method_66_code 25 = .ok (.aload_n 0, 1) := by decide +kernel
theorem d_jdk_42_method_66_code_26 : decode jdk_42_method_66_code 26 = .ok (.getfield 15, 3) := by decide +kernel
theorem d_jdk_42_method_66_code_29 : decode jdk_42_method_66_code 29 = .ok (.aload_n 2, 1) := by decide +kernel
theorem d_jdk_42_method_66_code_30 : decode jdk_42_method_66_code 30 = .ok (.getfield 15, 3) := by decide +kernel
theorem d_jdk_42_method_66_code_33 : decode jdk_42_method_66_code 33 = .ok (.if_icmp .ne 21, 3) := by decide +kernel
theorem d_jdk_42_method_66_code_36 : decode jdk_42_method_66_code 36 = .ok (.aload_n 0, 1) := by decide +kernel
theorem d_jdk_42_method_66_code_37 : decode jdk_42_method_66_code 37 = .ok (.getfield 9, 3) := by decide +kernel
theorem d_jdk_42_method_66_code_40 : decode jdk_42_method_66_code 40 = .ok (.aload_n 2, 1) := by decide +kernel
theorem d_jdk_42_method_66_code_41 : decode jdk_42_method_66_code 41 = .ok (.getfield 9, 3) := by decide +kernel
theorem d_jdk_42_method_66_code_44 : decode jdk_42_method_66_code 44 = .ok (.invokestatic 541, 3) := by decide +kernel
theorem w180 {Z : State} {a0 : Array Value} (hw : ∀ d ∈ tables_1, d.before a0 Z = true) : (Jvm.Cond.methodLink "java/lang/String" (541 : Nat) ({ cls := "java/lang/StringLatin1", name := "equals", desc := "([B[B)Z" } : Jvm.MethodName)).before a0 Z = true := hw _ (List.mem_of_getElem? (i := 180) rfl)
theorem w182 {Z : State} {a0 : Array Value} (hw : ∀ d ∈ tables_1, d.before a0 Z = true) : (Jvm.Cond.code ({ cls := "java/lang/StringLatin1", name := "equals", desc := "([B[B)Z" } : Jvm.MethodName) jdk_43_method_13_code (3 : Nat) (Option.some Jvm.ClassFile.FieldType.boolean)).before a0 Z = true := hw _ (List.mem_of_getElem? (i := 182) rfl)
theorem w171 {Z : State} {a0 : Array Value} (hw : ∀ d ∈ tables_1, d.before a0 Z = true) : (Jvm.Cond.initialized "java/lang/StringLatin1").before a0 Z = true := hw _ (List.mem_of_getElem? (i := 171) rfl)
theorem w181 {Z : State} {a0 : Array Value} (hw : ∀ d ∈ tables_1, d.before a0 Z = true) : (Jvm.Cond.static ({ cls := "java/lang/StringLatin1", name := "equals", desc := "([B[B)Z" } : Jvm.MethodName)).before a0 Z = true := hw _ (List.mem_of_getElem? (i := 181) rfl)
theorem pd_4 : parseMethodDescriptor "([B[B)Z" = some ⟨[(.array .byte), (.array .byte)], some .boolean⟩ := by decide +kernel
theorem d_jdk_42_method_66_code_47 : decode jdk_42_method_66_code 47 = .ok (.ifCond .eq 7, 3) := by decide +kernel
theorem d_jdk_42_method_66_code_54 : decode jdk_42_method_66_code 54 = .ok (.iconst 0, 1) := by decide +kernel
theorem d_jdk_42_method_66_code_55 : decode jdk_42_method_66_code 55 = .ok (.ireturn, 1) := by decide +kernel
theorem d_jdk_42_method_66_code_50 : decode jdk_42_method_66_code 50 = .ok (.iconst 1, 1) := by decide +kernel
theorem d_jdk_42_method_66_code_51 : decode jdk_42_method_66_code 51 = .ok (.goto 4, 3) := by decide +kernel
theorem pl_6 : plainFor (⟨"java/lang/String", "equals", "(Ljava/lang/Object;)Z"⟩ : MethodName) = true := by first | exact plainFor_of_name (by first | (simp [plainName, overriddenIn]; done) | decide +kernel) | decide +kernel
theorem d_jdk_42_method_152_code_0 : decode jdk_42_method_152_code 0 = .ok (.getstatic 38, 3) := by decide +kernel
theorem d_jdk_42_method_152_code_3 : decode jdk_42_method_152_code 3 = .ok (.ifCond .eq 10, 3) := by decide +kernel
theorem d_jdk_42_method_152_code_6 : decode jdk_42_method_152_code 6 = .ok (.aload_n 0, 1) := by decide +kernel
theorem d_jdk_42_method_152_code_7 : decode jdk_42_method_152_code 7 = .ok (.getfield 15, 3) := by decide +kernel
theorem d_jdk_42_method_152_code_10 : decode jdk_42_method_152_code 10 = .ok (.goto 4, 3) := by decide +kernel
theorem d_jdk_42_method_152_code_14 : decode jdk_42_method_152_code 14 = .ok (.ireturn, 1) := by decide +kernel
theorem pl_7 : plainFor (⟨"java/lang/String", "coder", "()B"⟩ : MethodName) = true := by first | exact plainFor_of_name (by first | (simp [plainName, overriddenIn]; done) | decide +kernel) | decide +kernel
theorem d_jdk_42_method_154_code_0 : decode jdk_42_method_154_code 0 = .ok (.getstatic 38, 3) := by decide +kernel
theorem d_jdk_42_method_154_code_3 : decode jdk_42_method_154_code 3 = .ok (.ifCond .eq 14, 3) := by decide +kernel
theorem d_jdk_42_method_154_code_6 : decode jdk_42_method_154_code 6 = .ok (.aload_n 0, 1) := by decide +kernel
theorem d_jdk_42_method_154_code_7 : decode jdk_42_method_154_code 7 = .ok (.getfield 15, 3) := by decide +kernel
theorem d_jdk_42_method_154_code_10 : decode jdk_42_method_154_code 10 = .ok (.ifCond .ne 7, 3) := by decide +kernel
theorem d_jdk_42_method_154_code_13 : decode jdk_42_method_154_code 13 = .ok (.iconst 1, 1) := by decide +kernel
theorem d_jdk_42_method_154_code_14 : decode jdk_42_method_154_code 14 = .ok (.goto 4, 3) := by decide +kernel
theorem d_jdk_42_method_154_code_18 : decode jdk_42_method_154_code 18 = .ok (.ireturn, 1) := by decide +kernel
theorem pl_8 : plainFor (⟨"java/lang/String", "isLatin1", "()Z"⟩ : MethodName) = true := by first | exact plainFor_of_name (by first | (simp [plainName, overriddenIn]; done) | decide +kernel) | decide +kernel
theorem d_jdk_42_method_54_code_0 : decode jdk_42_method_54_code 0 = .ok (.aload_n 0, 1) := by decide +kernel
theorem d_jdk_42_method_54_code_1 : decode jdk_42_method_54_code 1 = .ok (.getfield 9, 3) := by decide +kernel
theorem d_jdk_42_method_54_code_4 : decode jdk_42_method_54_code 4 = .ok (.arraylength, 1) := by decide +kernel
theorem d_jdk_42_method_54_code_5 : decode jdk_42_method_54_code 5 = .ok (.aload_n 0, 1) := by decide +kernel
theorem d_jdk_42_method_54_code_6 : decode jdk_42_method_54_code 6 = .ok (.invokevirtual 335, 3) := by decide +kernel
theorem w67 {Z : State} {a0 : Array Value} (hw : ∀ d ∈ tables_1, d.before a0 Z = true) : (Jvm.Cond.methodLink "java/lang/String" (335 : Nat) ({ cls := "java/lang/String", name := "coder", desc := "()B" } : Jvm.MethodName)).before a0 Z = true := hw _ (List.mem_of_getElem? (i := 67) rfl)
theorem w71 {Z : State} {a0 : Array Value} (hw : ∀ d ∈ tables_1, d.before a0 Z = true) : (Jvm.Cond.code ({ cls := "java/lang/String", name := "coder", desc := "()B" } : Jvm.MethodName) jdk_42_method_152_code (1 : Nat) (Option.some Jvm.ClassFile.FieldType.byte)).before a0 Z = true := hw _ (List.mem_of_getElem? (i := 71) rfl)
theorem w70 {Z : State} {a0 : Array Value} (hw : ∀ d ∈ tables_1, d.before a0 Z = true) : (Jvm.Cond.selects "java/lang/String" ({ cls := "java/lang/String", name := "coder", desc := "()B" } : Jvm.MethodName) ({ cls := "java/lang/String", name := "coder", desc := "()B" } : Jvm.MethodName)).before a0 Z = true := hw _ (List.mem_of_getElem? (i := 70) rfl)
theorem w68 {Z : State} {a0 : Array Value} (hw : ∀ d ∈ tables_1, d.before a0 Z = true) : (Jvm.Cond.declares ({ cls := "java/lang/String", name := "coder", desc := "()B" } : Jvm.MethodName)).before a0 Z = true := hw _ (List.mem_of_getElem? (i := 68) rfl)
theorem w69 {Z : State} {a0 : Array Value} (hw : ∀ d ∈ tables_1, d.before a0 Z = true) : (Jvm.Cond.instanceMethod ({ cls := "java/lang/String", name := "coder", desc := "()B" } : Jvm.MethodName)).before a0 Z = true := hw _ (List.mem_of_getElem? (i := 69) rfl)
theorem pd_5 : parseMethodDescriptor "()B" = some ⟨[], some .byte⟩ := by decide +kernel
theorem d_jdk_42_method_54_code_9 : decode jdk_42_method_54_code 9 = .ok (.ishr, 1) := by decide +kernel
theorem d_jdk_42_method_54_code_10 : decode jdk_42_method_54_code 10 = .ok (.ireturn, 1) := by decide +kernel
theorem pl_9 : plainFor (⟨"java/lang/String", "length", "()I"⟩ : MethodName) = true := by first | exact plainFor_of_name (by first | (simp [plainName, overriddenIn]; done) | decide +kernel) | decide +kernel
theorem d_jdk_29_method_65_code_0 : decode jdk_29_method_65_code 0 = .ok (.iload_n 0, 1) := by decide +kernel
theorem d_jdk_29_method_65_code_1 : decode jdk_29_method_65_code 1 = .ok (.iload_n 1, 1) := by decide +kernel
theorem d_jdk_29_method_65_code_2 : decode jdk_29_method_65_code 2 = .ok (.if_icmp .lt 7, 3) := by decide +kernel
theorem d_jdk_29_method_65_code_9 : decode jdk_29_method_65_code 9 = .ok (.iload_n 1, 1) := by decide +kernel
theorem d_jdk_29_method_65_code_10 : decode jdk_29_method_65_code 10 = .ok (.ireturn, 1) := by decide +kernel
theorem d_jdk_29_method_65_code_5 : decode jdk_29_method_65_code 5 = .ok (.iload_n 0, 1) := by decide +kernel
theorem d_jdk_29_method_65_code_6 : decode jdk_29_method_65_code 6 = .ok (.goto 4, 3) := by decide +kernel
theorem pl_10 : plainFor (⟨"java/lang/Math", "max", "(II)I"⟩ : MethodName) = true := by first | exact plainFor_of_name (by first | (simp [plainName, overriddenIn]; done) | decide +kernel) | decide +kernel
theorem d_jdk_29_method_69_code_0 : decode jdk_29_method_69_code 0 = .ok (.iload_n 0, 1) := by decide +kernel
theorem d_jdk_29_method_69_code_1 : decode jdk_29_method_69_code 1 = .ok (.iload_n 1, 1) := by decide +kernel
theorem d_jdk_29_method_69_code_2 : decode jdk_29_method_69_code 2 = .ok (.if_icmp .gt 7, 3) := by decide +kernel
theorem d_jdk_29_method_69_code_9 : decode jdk_29_method_69_code 9 = .ok (.iload_n 1, 1) := by decide +kernel
theorem d_jdk_29_method_69_code_10 : decode jdk_29_method_69_code 10 = .ok (.ireturn, 1) := by decide +kernel
theorem d_jdk_29_method_69_code_5 : decode jdk_29_method_69_code 5 = .ok (.iload_n 0, 1) := by decide +kernel
theorem d_jdk_29_method_69_code_6 : decode jdk_29_method_69_code 6 = .ok (.goto 4, 3) := by decide +kernel
theorem pl_11 : plainFor (⟨"java/lang/Math", "min", "(II)I"⟩ : MethodName) = true := by first | exact plainFor_of_name (by first | (simp [plainName, overriddenIn]; done) | decide +kernel) | decide +kernel
theorem d_jdk_48_method_27_code_0 : decode jdk_48_method_27_code 0 = .ok (.iload_n 0, 1) := by decide +kernel
theorem d_jdk_48_method_27_code_1 : decode jdk_48_method_27_code 1 = .ok (.iload_n 1, 1) := by decide +kernel
theorem d_jdk_48_method_27_code_2 : decode jdk_48_method_27_code 2 = .ok (.iload_n 2, 1) := by decide +kernel
theorem d_jdk_48_method_27_code_3 : decode jdk_48_method_27_code 3 = .ok (.invokestatic 194, 3) := by decide +kernel
theorem w207 {Z : State} {a0 : Array Value} (hw : ∀ d ∈ tables_1, d.before a0 Z = true) : (Jvm.Cond.methodLink "jdk/internal/util/ArraysSupport" (194 : Nat) ({ cls := "java/lang/Math", name := "max", desc := "(II)I" } : Jvm.MethodName)).before a0 Z = true := hw _ (List.mem_of_getElem? (i := 207) rfl)
theorem w209 {Z : State} {a0 : Array Value} (hw : ∀ d ∈ tables_1, d.before a0 Z = true) : (Jvm.Cond.code ({ cls := "java/lang/Math", name := "max", desc := "(II)I" } : Jvm.MethodName) jdk_29_method_65_code (2 : Nat) (Option.some Jvm.ClassFile.FieldType.int)).before a0 Z = true := hw _ (List.mem_of_getElem? (i := 209) rfl)
theorem w143 {Z : State} {a0 : Array Value} (hw : ∀ d ∈ tables_1, d.before a0 Z = true) : (Jvm.Cond.initialized "java/lang/Math").before a0 Z = true := hw _ (List.mem_of_getElem? (i := 143) rfl)
theorem w208 {Z : State} {a0 : Array Value} (hw : ∀ d ∈ tables_1, d.before a0 Z = true) : (Jvm.Cond.static ({ cls := "java/lang/Math", name := "max", desc := "(II)I" } : Jvm.MethodName)).before a0 Z = true := hw _ (List.mem_of_getElem? (i := 208) rfl)
theorem pd_6 : parseMethodDescriptor "(II)I" = some ⟨[.int, .int], some .int⟩ := by decide +kernel
theorem d_jdk_48_method_27_code_6 : decode jdk_48_method_27_code 6 = .ok (.iadd, 1) := by decide +kernel
theorem d_jdk_48_method_27_code_7 : decode jdk_48_method_27_code 7 = .ok (.istore_n 3, 1) := by decide +kernel
theorem d_jdk_48_method_27_code_8 : decode jdk_48_method_27_code 8 = .ok (.iconst 0, 1) := by decide +kernel
theorem d_jdk_48_method_27_code_9 : decode jdk_48_method_27_code 9 = .ok (.iload_n 3, 1) := by decide +kernel
theorem d_jdk_48_method_27_code_10 : decode jdk_48_method_27_code 10 = .ok (.if_icmp .ge 11, 3) := by decide +kernel
theorem d_jdk_48_method_27_code_13 : decode jdk_48_method_27_code 13 = .ok (.iload_n 3, 1) := by decide +kernel
theorem d_jdk_48_method_27_code_14 : decode jdk_48_method_27_code 14 = .ok (.ldc 200, 2) := by decide +kernel
theorem w210 {Z : State} {a0 : Array Value} (hw : ∀ d ∈ tables_1, d.before a0 Z = true) : (Jvm.Cond.constant "jdk/internal/util/ArraysSupport" (200 : Nat) (2147483639 : Int32)).before a0 Z = true := hw _ (List.mem_of_getElem? (i := 210) rfl)
theorem d_jdk_48_method_27_code_16 : decode jdk_48_method_27_code 16 = .ok (.if_icmp .gt 5, 3) := by decide +kernel
theorem d_jdk_48_method_27_code_19 : decode jdk_48_method_27_code 19 = .ok (.iload_n 3, 1) := by decide +kernel
theorem d_jdk_48_method_27_code_20 : decode jdk_48_method_27_code 20 = .ok (.ireturn, 1) := by decide +kernel
theorem pl_12 : plainFor (⟨"jdk/internal/util/ArraysSupport", "newLength", "(III)I"⟩ : MethodName) = true := by first | exact plainFor_of_name (by first | (simp [plainName, overriddenIn]; done) | decide +kernel) | decide +kernel
theorem d_jdk_68_method_10_code_0 : decode jdk_68_method_10_code 0 = .ok (.aload_n 0, 1) := by decide +kernel
theorem d_jdk_68_method_10_code_1 : decode jdk_68_method_10_code 1 = .ok (.getfield 15, 3) := by decide +kernel
theorem w48 {Z : State} {a0 : Array Value} (hw : ∀ d ∈ tables_1, d.before a0 Z = true) : (Jvm.Cond.fieldLink "java/lang/AbstractStringBuilder" (15 : Nat) "java/lang/AbstractStringBuilder" "value" "[B").before a0 Z = true := hw _ (List.mem_of_getElem? (i := 48) rfl)
theorem d_jdk_68_method_10_code_4 : decode jdk_68_method_10_code 4 = .ok (.arraylength, 1) := by decide +kernel
theorem d_jdk_68_method_10_code_5 : decode jdk_68_method_10_code 5 = .ok (.istore_n 2, 1) := by decide +kernel
theorem d_jdk_68_method_10_code_6 : decode jdk_68_method_10_code 6 = .ok (.iload_n 1, 1) := by decide +kernel
theorem d_jdk_68_method_10_code_7 : decode jdk_68_method_10_code 7 = .ok (.aload_n 0, 1) := by decide +kernel
theorem d_jdk_68_method_10_code_8 : decode jdk_68_method_10_code 8 = .ok (.getfield 22, 3) := by decide +kernel
theorem w50 {Z : State} {a0 : Array Value} (hw : ∀ d ∈ tables_1, d.before a0 Z = true) : (Jvm.Cond.fieldLink "java/lang/AbstractStringBuilder" (22 : Nat) "java/lang/AbstractStringBuilder" "coder" "B").before a0 Z = true := hw _ (List.mem_of_getElem? (i := 50) rfl)
theorem d_jdk_68_method_10_code_11 : decode jdk_68_method_10_code 11 = .ok (.ishl, 1) := by decide +kernel
theorem d_jdk_68_method_10_code_12 : decode jdk_68_method_10_code 12 = .ok (.istore_n 3, 1) := by decide +kernel
theorem d_jdk_68_method_10_code_13 : decode jdk_68_method_10_code 13 = .ok (.iload_n 3, 1) := by decide +kernel
theorem d_jdk_68_method_10_code_14 : decode jdk_68_method_10_code 14 = .ok (.iload_n 2, 1) := by decide +kernel
theorem d_jdk_68_method_10_code_15 : decode jdk_68_method_10_code 15 = .ok (.isub, 1) := by decide +kernel
theorem d_jdk_68_method_10_code_16 : decode jdk_68_method_10_code 16 = .ok (.istore 4, 2) := by decide +kernel
theorem d_jdk_68_method_10_code_18 : decode jdk_68_method_10_code 18 = .ok (.iload_n 2, 1) := by decide +kernel
theorem d_jdk_68_method_10_code_19 : decode jdk_68_method_10_code 19 = .ok (.iload 4, 2) := by decide +kernel
theorem d_jdk_68_method_10_code_21 : decode jdk_68_method_10_code 21 = .ok (.iload_n 2, 1) := by decide +kernel
theorem d_jdk_68_method_10_code_22 : decode jdk_68_method_10_code 22 = .ok (.iconst 2, 1) := by decide +kernel
theorem d_jdk_68_method_10_code_23 : decode jdk_68_method_10_code 23 = .ok (.aload_n 0, 1) := by decide +kernel
theorem d_jdk_68_method_10_code_24 : decode jdk_68_method_10_code 24 = .ok (.getfield 22, 3) := by decide +kernel
theorem d_jdk_68_method_10_code_27 : decode jdk_68_method_10_code 27 = .ok (.ishl, 1) := by decide +kernel
theorem d_jdk_68_method_10_code_28 : decode jdk_68_method_10_code 28 = .ok (.iadd, 1) := by decide +kernel
theorem d_jdk_68_method_10_code_29 : decode jdk_68_method_10_code 29 = .ok (.invokestatic 114, 3) := by decide +kernel
theorem w203 {Z : State} {a0 : Array Value} (hw : ∀ d ∈ tables_1, d.before a0 Z = true) : (Jvm.Cond.methodLink "java/lang/AbstractStringBuilder" (114 : Nat) ({ cls := "jdk/internal/util/ArraysSupport", name := "newLength", desc := "(III)I" } : Jvm.MethodName)).before a0 Z = true := hw _ (List.mem_of_getElem? (i := 203) rfl)
theorem w206 {Z : State} {a0 : Array Value} (hw : ∀ d ∈ tables_1, d.before a0 Z = true) : (Jvm.Cond.code ({ cls := "jdk/internal/util/ArraysSupport", name := "newLength", desc := "(III)I" } : Jvm.MethodName) jdk_48_method_27_code (4 : Nat) (Option.some Jvm.ClassFile.FieldType.int)).before a0 Z = true := hw _ (List.mem_of_getElem? (i := 206) rfl)
theorem w205 {Z : State} {a0 : Array Value} (hw : ∀ d ∈ tables_1, d.before a0 Z = true) : (Jvm.Cond.initialized "jdk/internal/util/ArraysSupport").before a0 Z = true := hw _ (List.mem_of_getElem? (i := 205) rfl)
theorem w204 {Z : State} {a0 : Array Value} (hw : ∀ d ∈ tables_1, d.before a0 Z = true) : (Jvm.Cond.static ({ cls := "jdk/internal/util/ArraysSupport", name := "newLength", desc := "(III)I" } : Jvm.MethodName)).before a0 Z = true := hw _ (List.mem_of_getElem? (i := 204) rfl)
theorem pd_7 : parseMethodDescriptor "(III)I" = some ⟨[.int, .int, .int], some .int⟩ := by decide +kernel
theorem d_jdk_68_method_10_code_32 : decode jdk_68_method_10_code 32 = .ok (.istore 5, 2) := by decide +kernel
theorem d_jdk_68_method_10_code_34 : decode jdk_68_method_10_code 34 = .ok (.iload 5, 2) := by decide +kernel
theorem d_jdk_68_method_10_code_36 : decode jdk_68_method_10_code 36 = .ok (.ldc 39, 2) := by decide +kernel
theorem w211 {Z : State} {a0 : Array Value} (hw : ∀ d ∈ tables_1, d.before a0 Z = true) : (Jvm.Cond.constant "java/lang/AbstractStringBuilder" (39 : Nat) (2147483647 : Int32)).before a0 Z = true := hw _ (List.mem_of_getElem? (i := 211) rfl)
theorem d_jdk_68_method_10_code_38 : decode jdk_68_method_10_code 38 = .ok (.if_icmp .ne 13, 3) := by decide +kernel
theorem d_jdk_68_method_10_code_51 : decode jdk_68_method_10_code 51 = .ok (.iload 5, 2) := by decide +kernel
theorem d_jdk_68_method_10_code_53 : decode jdk_68_method_10_code 53 = .ok (.aload_n 0, 1) := by decide +kernel
theorem d_jdk_68_method_10_code_54 : decode jdk_68_method_10_code 54 = .ok (.getfield 22, 3) := by decide +kernel
theorem d_jdk_68_method_10_code_57 : decode jdk_68_method_10_code 57 = .ok (.ishr, 1) := by decide +kernel
theorem d_jdk_68_method_10_code_58 : decode jdk_68_method_10_code 58 = .ok (.ireturn, 1) := by decide +kernel
theorem pl_13 : plainFor (⟨"java/lang/AbstractStringBuilder", "newCapacity", "(I)I"⟩ : MethodName) = true := by first | exact plainFor_of_name (by first | (simp [plainName, overriddenIn]; done) | decide +kernel) | decide +kernel
theorem d_jdk_65_method_121_code_0 : decode jdk_65_method_121_code 0 = .ok (.iload_n 1, 1) := by decide +kernel
theorem d_jdk_65_method_121_code_1 : decode jdk_65_method_121_code 1 = .ok (.aload_n 0, 1) := by decide +kernel
theorem d_jdk_65_method_121_code_2 : decode jdk_65_method_121_code 2 = .ok (.arraylength, 1) := by decide +kernel
theorem d_jdk_65_method_121_code_3 : decode jdk_65_method_121_code 3 = .ok (.if_icmp .ne 11, 3) := by decide +kernel
theorem d_jdk_65_method_121_code_14 : decode jdk_65_method_121_code 14 = .ok (.iload_n 1, 1) := by decide +kernel
theorem d_jdk_65_method_121_code_15 : decode jdk_65_method_121_code 15 = .ok (.newarray .byte, 2) := by decide +kernel
theorem d_jdk_65_method_121_code_17 : decode jdk_65_method_121_code 17 = .ok (.astore_n 2, 1) := by decide +kernel
theorem d_jdk_65_method_121_code_18 : decode jdk_65_method_121_code 18 = .ok (.aload_n 0, 1) := by decide +kernel
theorem d_jdk_65_method_121_code_19 : decode jdk_65_method_121_code 19 = .ok (.iconst 0, 1) := by decide +kernel
theorem d_jdk_65_method_121_code_20 : decode jdk_65_method_121_code 20 = .ok (.aload_n 2, 1) := by decide +kernel
theorem d_jdk_65_method_121_code_21 : decode jdk_65_method_121_code 21 = .ok (.iconst 0, 1) := by decide +kernel
theorem d_jdk_65_method_121_code_22 : decode jdk_65_method_121_code 22 = .ok (.aload_n 0, 1) := by decide +kernel
theorem d_jdk_65_method_121_code_23 : decode jdk_65_method_121_code 23 = .ok (.arraylength, 1) := by decide +kernel
theorem d_jdk_65_method_121_code_24 : decode jdk_65_method_121_code 24 = .ok (.iload_n 1, 1) := by decide +kernel
theorem d_jdk_65_method_121_code_25 : decode jdk_65_method_121_code 25 = .ok (.invokestatic 304, 3) := by decide +kernel
theorem w141 {Z : State} {a0 : Array Value} (hw : ∀ d ∈ tables_1, d.before a0 Z = true) : (Jvm.Cond.methodLink "java/util/Arrays" (304 : Nat) ({ cls := "java/lang/Math", name := "min", desc := "(II)I" } : Jvm.MethodName)).before a0 Z = true := hw _ (List.mem_of_getElem? (i := 141) rfl)
theorem w144 {Z : State} {a0 : Array Value} (hw : ∀ d ∈ tables_1, d.before a0 Z = true) : (Jvm.Cond.code ({ cls := "java/lang/Math", name := "min", desc := "(II)I" } : Jvm.MethodName) jdk_29_method_69_code (2 : Nat) (Option.some Jvm.ClassFile.FieldType.int)).before a0 Z = true := hw _ (List.mem_of_getElem? (i := 144) rfl)
theorem w142 {Z : State} {a0 : Array Value} (hw : ∀ d ∈ tables_1, d.before a0 Z = true) : (Jvm.Cond.static ({ cls := "java/lang/Math", name := "min", desc := "(II)I" } : Jvm.MethodName)).before a0 Z = true := hw _ (List.mem_of_getElem? (i := 142) rfl)
theorem d_jdk_65_method_121_code_28 : decode jdk_65_method_121_code 28 = .ok (.invokestatic 150, 3) := by decide +kernel
theorem w145 {Z : State} {a0 : Array Value} (hw : ∀ d ∈ tables_1, d.before a0 Z = true) : (Jvm.Cond.methodLink "java/util/Arrays" (150 : Nat) ({ cls := "java/lang/System", name := "arraycopy", desc := "(Ljava/lang/Object;ILjava/lang/Object;II)V" } : Jvm.MethodName)).before a0 Z = true := hw _ (List.mem_of_getElem? (i := 145) rfl)
theorem w99 {Z : State} {a0 : Array Value} (hw : ∀ d ∈ tables_1, d.before a0 Z = true) : (Jvm.Cond.native ({ cls := "java/lang/System", name := "arraycopy", desc := "(Ljava/lang/Object;ILjava/lang/Object;II)V" } : Jvm.MethodName)).before a0 Z = true := hw _ (List.mem_of_getElem? (i := 99) rfl)
theorem w97 {Z : State} {a0 : Array Value} (hw : ∀ d ∈ tables_1, d.before a0 Z = true) : (Jvm.Cond.static ({ cls := "java/lang/System", name := "arraycopy", desc := "(Ljava/lang/Object;ILjava/lang/Object;II)V" } : Jvm.MethodName)).before a0 Z = true := hw _ (List.mem_of_getElem? (i := 97) rfl)
theorem w98 {Z : State} {a0 : Array Value} (hw : ∀ d ∈ tables_1, d.before a0 Z = true) : (Jvm.Cond.initialized "java/lang/System").before a0 Z = true := hw _ (List.mem_of_getElem? (i := 98) rfl)
theorem d_jdk_65_method_121_code_31 : decode jdk_65_method_121_code 31 = .ok (.aload_n 2, 1) := by decide +kernel
theorem d_jdk_65_method_121_code_32 : decode jdk_65_method_121_code 32 = .ok (.areturn, 1) := by decide +kernel
theorem pl_14 : plainFor (⟨"java/util/Arrays", "copyOf", "([BI)[B"⟩ : MethodName) = true := by first | exact plainFor_of_name (by first | (simp [plainName, overriddenIn]; done) | decide +kernel) | decide +kernel
theorem d_jdk_68_method_2_code_0 : decode jdk_68_method_2_code 0 = .ok (.aload_n 0, 1) := by decide +kernel
theorem d_jdk_68_method_2_code_1 : decode jdk_68_method_2_code 1 = .ok (.invokespecial 3, 3) := by decide +kernel
theorem w46 {Z : State} {a0 : Array Value} (hw : ∀ d ∈ tables_1, d.before a0 Z = true) : (Jvm.Cond.methodLink "java/lang/AbstractStringBuilder" (3 : Nat) ({ cls := "java/lang/Object", name := "<init>", desc := "()V" } : Jvm.MethodName)).before a0 Z = true := hw _ (List.mem_of_getElem? (i := 46) rfl)
theorem d_jdk_68_method_2_code_4 : decode jdk_68_method_2_code 4 = .ok (.getstatic 18, 3) := by decide +kernel
theorem w47 {Z : State} {a0 : Array Value} (hw : ∀ d ∈ tables_1, d.before a0 Z = true) : (Jvm.Cond.fieldLink "java/lang/AbstractStringBuilder" (18 : Nat) "java/lang/String" "COMPACT_STRINGS" "Z").before a0 Z = true := hw _ (List.mem_of_getElem? (i := 47) rfl)
theorem d_jdk_68_method_2_code_7 : decode jdk_68_method_2_code 7 = .ok (.ifCond .eq 18, 3) := by decide +kernel
theorem d_jdk_68_method_2_code_10 : decode jdk_68_method_2_code 10 = .ok (.aload_n 0, 1) := by decide +kernel
theorem d_jdk_68_method_2_code_11 : decode jdk_68_method_2_code 11 = .ok (.iload_n 1, 1) := by decide +kernel
theorem d_jdk_68_method_2_code_12 : decode jdk_68_method_2_code 12 = .ok (.newarray .byte, 2) := by decide +kernel
theorem d_jdk_68_method_2_code_14 : decode jdk_68_method_2_code 14 = .ok (.putfield 15, 3) := by decide +kernel
theorem w49 {Z : State} {a0 : Array Value} (hw : ∀ d ∈ tables_1, d.before a0 Z = true) : (Jvm.Cond.lays "java/lang/StringBuilder" "java/lang/AbstractStringBuilder" "value" "[B").before a0 Z = true := hw _ (List.mem_of_getElem? (i := 49) rfl)
theorem w35 {Z : State} {a0 : Array Value} (hw : ∀ d ∈ tables_1, d.before a0 Z = true) : (Jvm.Cond.instantiable "java/lang/StringBuilder" (4 : Nat)).before a0 Z = true := hw _ (List.mem_of_getElem? (i := 35) rfl)
theorem d_jdk_68_method_2_code_17 : decode jdk_68_method_2_code 17 = .ok (.aload_n 0, 1) := by decide +kernel
theorem d_jdk_68_method_2_code_18 : decode jdk_68_method_2_code 18 = .ok (.iconst 0, 1) := by decide +kernel
theorem d_jdk_68_method_2_code_19 : decode jdk_68_method_2_code 19 = .ok (.putfield 22, 3) := by decide +kernel
theorem w51 {Z : State} {a0 : Array Value} (hw : ∀ d ∈ tables_1, d.before a0 Z = true) : (Jvm.Cond.lays "java/lang/StringBuilder" "java/lang/AbstractStringBuilder" "coder" "B").before a0 Z = true := hw _ (List.mem_of_getElem? (i := 51) rfl)
theorem d_jdk_68_method_2_code_22 : decode jdk_68_method_2_code 22 = .ok (.goto 16, 3) := by decide +kernel
theorem d_jdk_68_method_2_code_38 : decode jdk_68_method_2_code 38 = .ok (.return_, 1) := by decide +kernel
theorem w74 {Z : State} {a0 : Array Value} (hw : ∀ d ∈ tables_1, d.before a0 Z = true) : (Jvm.Cond.lays "java/lang/StringBuilder" "java/lang/AbstractStringBuilder" "count" "I").before a0 Z = true := hw _ (List.mem_of_getElem? (i := 74) rfl)
theorem pf_I : parseFieldDescriptor "I" = some .int := by decide +kernel
theorem pl_15 : plainFor (⟨"java/lang/AbstractStringBuilder", "<init>", "(I)V"⟩ : MethodName) = true := by first | exact plainFor_of_name (by first | (simp [plainName, overriddenIn]; done) | decide +kernel) | decide +kernel
theorem d_jdk_67_method_1_code_0 : decode jdk_67_method_1_code 0 = .ok (.aload_n 0, 1) := by decide +kernel
theorem d_jdk_67_method_1_code_1 : decode jdk_67_method_1_code 1 = .ok (.bipush 16, 2) := by decide +kernel
theorem d_jdk_67_method_1_code_3 : decode jdk_67_method_1_code 3 = .ok (.invokespecial 1, 3) := by decide +kernel
theorem w40 {Z : State} {a0 : Array Value} (hw : ∀ d ∈ tables_1, d.before a0 Z = true) : (Jvm.Cond.methodLink "java/lang/StringBuilder" (1 : Nat) ({ cls := "java/lang/AbstractStringBuilder", name := "<init>", desc := "(I)V" } : Jvm.MethodName)).before a0 Z = true := hw _ (List.mem_of_getElem? (i := 40) rfl)
theorem w45 {Z : State} {a0 : Array Value} (hw : ∀ d ∈ tables_1, d.before a0 Z = true) : (Jvm.Cond.code ({ cls := "java/lang/AbstractStringBuilder", name := "<init>", desc := "(I)V" } : Jvm.MethodName) jdk_68_method_2_code (2 : Nat) (Option.none : Option Jvm.ClassFile.FieldType)).before a0 Z = true := hw _ (List.mem_of_getElem? (i := 45) rfl)
theorem w44 {Z : State} {a0 : Array Value} (hw : ∀ d ∈ tables_1, d.before a0 Z = true) : (Jvm.Cond.initialized "java/lang/AbstractStringBuilder").before a0 Z = true := hw _ (List.mem_of_getElem? (i := 44) rfl)
theorem w41 {Z : State} {a0 : Array Value} (hw : ∀ d ∈ tables_1, d.before a0 Z = true) : (Jvm.Cond.instanceMethod ({ cls := "java/lang/AbstractStringBuilder", name := "<init>", desc := "(I)V" } : Jvm.MethodName)).before a0 Z = true := hw _ (List.mem_of_getElem? (i := 41) rfl)
theorem pd_8 : parseMethodDescriptor "(I)V" = some ⟨[.int], none⟩ := by decide +kernel
theorem d_jdk_67_method_1_code_6 : decode jdk_67_method_1_code 6 = .ok (.return_, 1) := by decide +kernel
theorem pl_16 : plainFor (⟨"java/lang/StringBuilder", "<init>", "()V"⟩ : MethodName) = true := by first | exact plainFor_of_name (by first | (simp [plainName, overriddenIn]; done) | decide +kernel) | decide +kernel
theorem d_jdk_68_method_9_code_0 : decode jdk_68_method_9_code 0 = .ok (.aload_n 0, 1) := by decide +kernel
theorem d_jdk_68_method_9_code_1 : decode jdk_68_method_9_code 1 = .ok (.getfield 15, 3) := by decide +kernel
theorem d_jdk_68_method_9_code_4 : decode jdk_68_method_9_code 4 = .ok (.arraylength, 1) := by decide +kernel
theorem d_jdk_68_method_9_code_5 : decode jdk_68_method_9_code 5 = .ok (.aload_n 0, 1) := by decide +kernel
theorem d_jdk_68_method_9_code_6 : decode jdk_68_method_9_code 6 = .ok (.getfield 22, 3) := by decide +kernel
theorem d_jdk_68_method_9_code_9 : decode jdk_68_method_9_code 9 = .ok (.ishr, 1) := by decide +kernel
theorem d_jdk_68_method_9_code_10 : decode jdk_68_method_9_code 10 = .ok (.istore_n 2, 1) := by decide +kernel
theorem d_jdk_68_method_9_code_11 : decode jdk_68_method_9_code 11 = .ok (.iload_n 1, 1) := by decide +kernel
theorem d_jdk_68_method_9_code_12 : decode jdk_68_method_9_code 12 = .ok (.iload_n 2, 1) := by decide +kernel
theorem d_jdk_68_method_9_code_13 : decode jdk_68_method_9_code 13 = .ok (.isub, 1) := by decide +kernel
theorem d_jdk_68_method_9_code_14 : decode jdk_68_method_9_code 14 = .ok (.ifCond .le 24, 3) := by decide +kernel
theorem d_jdk_68_method_9_code_38 : decode jdk_68_method_9_code 38 = .ok (.return_, 1) := by decide +kernel
theorem d_jdk_68_method_9_code_17 : decode jdk_68_method_9_code 17 = .ok (.aload_n 0, 1) := by decide +kernel
theorem d_jdk_68_method_9_code_18 : decode jdk_68_method_9_code 18 = .ok (.aload_n 0, 1) := by decide +kernel
theorem d_jdk_68_method_9_code_19 : decode jdk_68_method_9_code 19 = .ok (.getfield 15, 3) := by decide +kernel
theorem d_jdk_68_method_9_code_22 : decode jdk_68_method_9_code 22 = .ok (.aload_n 0, 1) := by decide +kernel
theorem d_jdk_68_method_9_code_23 : decode jdk_68_method_9_code 23 = .ok (.iload_n 1, 1) := by decide +kernel
theorem d_jdk_68_method_9_code_24 : decode jdk_68_method_9_code 24 = .ok (.invokevirtual 104, 3) := by decide +kernel
theorem w198 {Z : State} {a0 : Array Value} (hw : ∀ d ∈ tables_1, d.before a0 Z = true) : (Jvm.Cond.methodLink "java/lang/AbstractStringBuilder" (104 : Nat) ({ cls := "java/lang/AbstractStringBuilder", name := "newCapacity", desc := "(I)I" } : Jvm.MethodName)).before a0 Z = true := hw _ (List.mem_of_getElem? (i := 198) rfl)
theorem w202 {Z : State} {a0 : Array Value} (hw : ∀ d ∈ tables_1, d.before a0 Z = true) : (Jvm.Cond.code ({ cls := "java/lang/AbstractStringBuilder", name := "newCapacity", desc := "(I)I" } : Jvm.MethodName) jdk_68_method_10_code (6 : Nat) (Option.some Jvm.ClassFile.FieldType.int)).before a0 Z = true := hw _ (List.mem_of_getElem? (i := 202) rfl)
theorem w200 {Z : State} {a0 : Array Value} (hw : ∀ d ∈ tables_1, d.before a0 Z = true) : (Jvm.Cond.privateMethod ({ cls := "java/lang/AbstractStringBuilder", name := "newCapacity", desc := "(I)I" } : Jvm.MethodName)).before a0 Z = true := hw _ (List.mem_of_getElem? (i := 200) rfl)
theorem w201 {Z : State} {a0 : Array Value} (hw : ∀ d ∈ tables_1, d.before a0 Z = true) : (Jvm.Cond.selects "java/lang/StringBuilder" ({ cls := "java/lang/AbstractStringBuilder", name := "newCapacity", desc := "(I)I" } : Jvm.MethodName) ({ cls := "java/lang/AbstractStringBuilder", name := "newCapacity", desc := "(I)I" } : Jvm.MethodName)).before a0 Z = true := hw _ (List.mem_of_getElem? (i := 201) rfl)
theorem w199 {Z : State} {a0 : Array Value} (hw : ∀ d ∈ tables_1, d.before a0 Z = true) : (Jvm.Cond.instanceMethod ({ cls := "java/lang/AbstractStringBuilder", name := "newCapacity", desc := "(I)I" } : Jvm.MethodName)).before a0 Z = true := hw _ (List.mem_of_getElem? (i := 199) rfl)
theorem pd_9 : parseMethodDescriptor "(I)I" = some ⟨[.int], some .int⟩ := by decide +kernel
theorem d_jdk_68_method_9_code_27 : decode jdk_68_method_9_code 27 = .ok (.aload_n 0, 1) := by decide +kernel
theorem d_jdk_68_method_9_code_28 : decode jdk_68_method_9_code 28 = .ok (.getfield 22, 3) := by decide +kernel
theorem d_jdk_68_method_9_code_31 : decode jdk_68_method_9_code 31 = .ok (.ishl, 1) := by decide +kernel
theorem d_jdk_68_method_9_code_32 : decode jdk_68_method_9_code 32 = .ok (.invokestatic 108, 3) := by decide +kernel
theorem w212 {Z : State} {a0 : Array Value} (hw : ∀ d ∈ tables_1, d.before a0 Z = true) : (Jvm.Cond.methodLink "java/lang/AbstractStringBuilder" (108 : Nat) ({ cls := "java/util/Arrays", name := "copyOf", desc := "([BI)[B" } : Jvm.MethodName)).before a0 Z = true := hw _ (List.mem_of_getElem? (i := 212) rfl)
theorem w214 {Z : State} {a0 : Array Value} (hw : ∀ d ∈ tables_1, d.before a0 Z = true) : (Jvm.Cond.code ({ cls := "java/util/Arrays", name := "copyOf", desc := "([BI)[B" } : Jvm.MethodName) jdk_65_method_121_code (3 : Nat) (Option.some (Jvm.ClassFile.FieldType.array Jvm.ClassFile.FieldType.byte))).before a0 Z = true := hw _ (List.mem_of_getElem? (i := 214) rfl)
theorem w133 {Z : State} {a0 : Array Value} (hw : ∀ d ∈ tables_1, d.before a0 Z = true) : (Jvm.Cond.initialized "java/util/Arrays").before a0 Z = true := hw _ (List.mem_of_getElem? (i := 133) rfl)
theorem w213 {Z : State} {a0 : Array Value} (hw : ∀ d ∈ tables_1, d.before a0 Z = true) : (Jvm.Cond.static ({ cls := "java/util/Arrays", name := "copyOf", desc := "([BI)[B" } : Jvm.MethodName)).before a0 Z = true := hw _ (List.mem_of_getElem? (i := 213) rfl)
theorem pd_10 : parseMethodDescriptor "([BI)[B" = some ⟨[(.array .byte), .int], some (.array .byte)⟩ := by decide +kernel
theorem d_jdk_68_method_9_code_35 : decode jdk_68_method_9_code 35 = .ok (.putfield 15, 3) := by decide +kernel
theorem pl_17 : plainFor (⟨"java/lang/AbstractStringBuilder", "ensureCapacityInternal", "(I)V"⟩ : MethodName) = true := by first | exact plainFor_of_name (by first | (simp [plainName, overriddenIn]; done) | decide +kernel) | decide +kernel
theorem d_jdk_42_method_147_code_0 : decode jdk_42_method_147_code 0 = .ok (.aload_n 0, 1) := by decide +kernel
theorem d_jdk_42_method_147_code_1 : decode jdk_42_method_147_code 1 = .ok (.invokevirtual 335, 3) := by decide +kernel
theorem d_jdk_42_method_147_code_4 : decode jdk_42_method_147_code 4 = .ok (.iload_n 3, 1) := by decide +kernel
theorem d_jdk_42_method_147_code_5 : decode jdk_42_method_147_code 5 = .ok (.if_icmp .ne 23, 3) := by decide +kernel
theorem d_jdk_42_method_147_code_8 : decode jdk_42_method_147_code 8 = .ok (.aload_n 0, 1) := by decide +kernel
theorem d_jdk_42_method_147_code_9 : decode jdk_42_method_147_code 9 = .ok (.getfield 9, 3) := by decide +kernel
theorem d_jdk_42_method_147_code_12 : decode jdk_42_method_147_code 12 = .ok (.iconst 0, 1) := by decide +kernel
theorem d_jdk_42_method_147_code_13 : decode jdk_42_method_147_code 13 = .ok (.aload_n 1, 1) := by decide +kernel
theorem d_jdk_42_method_147_code_14 : decode jdk_42_method_147_code 14 = .ok (.iload_n 2, 1) := by decide +kernel
theorem d_jdk_42_method_147_code_15 : decode jdk_42_method_147_code 15 = .ok (.iload_n 3, 1) := by decide +kernel
theorem d_jdk_42_method_147_code_16 : decode jdk_42_method_147_code 16 = .ok (.ishl, 1) := by decide +kernel
theorem d_jdk_42_method_147_code_17 : decode jdk_42_method_147_code 17 = .ok (.aload_n 0, 1) := by decide +kernel
theorem d_jdk_42_method_147_code_18 : decode jdk_42_method_147_code 18 = .ok (.getfield 9, 3) := by decide +kernel
theorem d_jdk_42_method_147_code_21 : decode jdk_42_method_147_code 21 = .ok (.arraylength, 1) := by decide +kernel
theorem d_jdk_42_method_147_code_22 : decode jdk_42_method_147_code 22 = .ok (.invokestatic 212, 3) := by decide +kernel
theorem w96 {Z : State} {a0 : Array Value} (hw : ∀ d ∈ tables_1, d.before a0 Z = true) : (Jvm.Cond.methodLink "java/lang/String" (212 : Nat) ({ cls := "java/lang/System", name := "arraycopy", desc := "(Ljava/lang/Object;ILjava/lang/Object;II)V" } : Jvm.MethodName)).before a0 Z = true := hw _ (List.mem_of_getElem? (i := 96) rfl)
theorem d_jdk_42_method_147_code_25 : decode jdk_42_method_147_code 25 = .ok (.goto 18, 3) := by decide +kernel
theorem d_jdk_42_method_147_code_43 : decode jdk_42_method_147_code 43 = .ok (.return_, 1) := by decide +kernel
theorem pl_18 : plainFor (⟨"java/lang/String", "getBytes", "([BIB)V"⟩ : MethodName) = true := by first | exact plainFor_of_name (by first | (simp [plainName, overriddenIn]; done) | decide +kernel) | decide +kernel
theorem d_jdk_68_method_71_code_0 : decode jdk_68_method_71_code 0 = .ok (.getstatic 18, 3) := by decide +kernel
theorem d_jdk_68_method_71_code_3 : decode jdk_68_method_71_code 3 = .ok (.ifCond .eq 18, 3) := by decide +kernel
theorem d_jdk_68_method_71_code_6 : decode jdk_68_method_71_code 6 = .ok (.aload_n 0, 1) := by decide +kernel
theorem d_jdk_68_method_71_code_7 : decode jdk_68_method_71_code 7 = .ok (.getfield 22, 3) := by decide +kernel
theorem d_jdk_68_method_71_code_10 : decode jdk_68_method_71_code 10 = .ok (.aload_n 1, 1) := by decide +kernel
theorem d_jdk_68_method_71_code_11 : decode jdk_68_method_71_code 11 = .ok (.invokevirtual 40, 3) := by decide +kernel
theorem w90 {Z : State} {a0 : Array Value} (hw : ∀ d ∈ tables_1, d.before a0 Z = true) : (Jvm.Cond.methodLink "java/lang/AbstractStringBuilder" (40 : Nat) ({ cls := "java/lang/String", name := "coder", desc := "()B" } : Jvm.MethodName)).before a0 Z = true := hw _ (List.mem_of_getElem? (i := 90) rfl)
theorem d_jdk_68_method_71_code_14 : decode jdk_68_method_71_code 14 = .ok (.if_icmp .eq 7, 3) := by decide +kernel
theorem d_jdk_68_method_71_code_21 : decode jdk_68_method_71_code 21 = .ok (.return_, 1) := by decide +kernel
theorem pl_19 : plainFor (⟨"java/lang/AbstractStringBuilder", "inflateIfNeededFor", "(Ljava/lang/String;)V"⟩ : MethodName) = true := by first | exact plainFor_of_name (by first | (simp [plainName, overriddenIn]; done) | decide +kernel) | decide +kernel
theorem d_jdk_68_method_73_code_0 : decode jdk_68_method_73_code 0 = .ok (.aload_n 0, 1) := by decide +kernel
theorem d_jdk_68_method_73_code_1 : decode jdk_68_method_73_code 1 = .ok (.aload_n 2, 1) := by decide +kernel
theorem d_jdk_68_method_73_code_2 : decode jdk_68_method_73_code 2 = .ok (.invokevirtual 397, 3) := by decide +kernel
theorem w85 {Z : State} {a0 : Array Value} (hw : ∀ d ∈ tables_1, d.before a0 Z = true) : (Jvm.Cond.methodLink "java/lang/AbstractStringBuilder" (397 : Nat) ({ cls := "java/lang/AbstractStringBuilder", name := "inflateIfNeededFor", desc := "(Ljava/lang/String;)V" } : Jvm.MethodName)).before a0 Z = true := hw _ (List.mem_of_getElem? (i := 85) rfl)
theorem w89 {Z : State} {a0 : Array Value} (hw : ∀ d ∈ tables_1, d.before a0 Z = true) : (Jvm.Cond.code ({ cls := "java/lang/AbstractStringBuilder", name := "inflateIfNeededFor", desc := "(Ljava/lang/String;)V" } : Jvm.MethodName) jdk_68_method_71_code (2 : Nat) (Option.none : Option Jvm.ClassFile.FieldType)).before a0 Z = true := hw _ (List.mem_of_getElem? (i := 89) rfl)
theorem w87 {Z : State} {a0 : Array Value} (hw : ∀ d ∈ tables_1, d.before a0 Z = true) : (Jvm.Cond.privateMethod ({ cls := "java/lang/AbstractStringBuilder", name := "inflateIfNeededFor", desc := "(Ljava/lang/String;)V" } : Jvm.MethodName)).before a0 Z = true := hw _ (List.mem_of_getElem? (i := 87) rfl)
theorem w88 {Z : State} {a0 : Array Value} (hw : ∀ d ∈ tables_1, d.before a0 Z = true) : (Jvm.Cond.selects "java/lang/StringBuilder" ({ cls := "java/lang/AbstractStringBuilder", name := "inflateIfNeededFor", desc := "(Ljava/lang/String;)V" } : Jvm.MethodName) ({ cls := "java/lang/AbstractStringBuilder", name := "inflateIfNeededFor", desc := "(Ljava/lang/String;)V" } : Jvm.MethodName)).before a0 Z = true := hw _ (List.mem_of_getElem? (i := 88) rfl)
theorem w86 {Z : State} {a0 : Array Value} (hw : ∀ d ∈ tables_1, d.before a0 Z = true) : (Jvm.Cond.instanceMethod ({ cls := "java/lang/AbstractStringBuilder", name := "inflateIfNeededFor", desc := "(Ljava/lang/String;)V" } : Jvm.MethodName)).before a0 Z = true := hw _ (List.mem_of_getElem? (i := 86) rfl)
theorem pd_11 : parseMethodDescriptor "(Ljava/lang/String;)V" = some ⟨[(.object "java/lang/String")], none⟩ := by decide +kernel
theorem d_jdk_68_method_73_code_5 : decode jdk_68_method_73_code 5 = .ok (.aload_n 2, 1) := by decide +kernel
theorem d_jdk_68_method_73_code_6 : decode jdk_68_method_73_code 6 = .ok (.aload_n 0, 1) := by decide +kernel
theorem d_jdk_68_method_73_code_7 : decode jdk_68_method_73_code 7 = .ok (.getfield 15, 3) := by decide +kernel
theorem d_jdk_68_method_73_code_10 : decode jdk_68_method_73_code 10 = .ok (.iload_n 1, 1) := by decide +kernel
theorem d_jdk_68_method_73_code_11 : decode jdk_68_method_73_code 11 = .ok (.aload_n 0, 1) := by decide +kernel
theorem d_jdk_68_method_73_code_12 : decode jdk_68_method_73_code 12 = .ok (.getfield 22, 3) := by decide +kernel
theorem d_jdk_68_method_73_code_15 : decode jdk_68_method_73_code 15 = .ok (.invokevirtual 399, 3) := by decide +kernel
theorem w91 {Z : State} {a0 : Array Value} (hw : ∀ d ∈ tables_1, d.before a0 Z = true) : (Jvm.Cond.methodLink "java/lang/AbstractStringBuilder" (399 : Nat) ({ cls := "java/lang/String", name := "getBytes", desc := "([BIB)V" } : Jvm.MethodName)).before a0 Z = true := hw _ (List.mem_of_getElem? (i := 91) rfl)
theorem w95 {Z : State} {a0 : Array Value} (hw : ∀ d ∈ tables_1, d.before a0 Z = true) : (Jvm.Cond.code ({ cls := "java/lang/String", name := "getBytes", desc := "([BIB)V" } : Jvm.MethodName) jdk_42_method_147_code (4 : Nat) (Option.none : Option Jvm.ClassFile.FieldType)).before a0 Z = true := hw _ (List.mem_of_getElem? (i := 95) rfl)
theorem w94 {Z : State} {a0 : Array Value} (hw : ∀ d ∈ tables_1, d.before a0 Z = true) : (Jvm.Cond.selects "java/lang/String" ({ cls := "java/lang/String", name := "getBytes", desc := "([BIB)V" } : Jvm.MethodName) ({ cls := "java/lang/String", name := "getBytes", desc := "([BIB)V" } : Jvm.MethodName)).before a0 Z = true := hw _ (List.mem_of_getElem? (i := 94) rfl)
theorem w92 {Z : State} {a0 : Array Value} (hw : ∀ d ∈ tables_1, d.before a0 Z = true) : (Jvm.Cond.declares ({ cls := "java/lang/String", name := "getBytes", desc := "([BIB)V" } : Jvm.MethodName)).before a0 Z = true := hw _ (List.mem_of_getElem? (i := 92) rfl)
theorem w93 {Z : State} {a0 : Array Value} (hw : ∀ d ∈ tables_1, d.before a0 Z = true) : (Jvm.Cond.instanceMethod ({ cls := "java/lang/String", name := "getBytes", desc := "([BIB)V" } : Jvm.MethodName)).before a0 Z = true := hw _ (List.mem_of_getElem? (i := 93) rfl)
theorem pd_12 : parseMethodDescriptor "([BIB)V" = some ⟨[(.array .byte), .int, .byte], none⟩ := by decide +kernel
theorem d_jdk_68_method_73_code_18 : decode jdk_68_method_73_code 18 = .ok (.return_, 1) := by decide +kernel
theorem pl_20 : plainFor (⟨"java/lang/AbstractStringBuilder", "putStringAt", "(ILjava/lang/String;)V"⟩ : MethodName) = true := by first | exact plainFor_of_name (by first | (simp [plainName, overriddenIn]; done) | decide +kernel) | decide +kernel
theorem d_jdk_68_method_22_code_0 : decode jdk_68_method_22_code 0 = .ok (.aload_n 1, 1) := by decide +kernel
theorem d_jdk_68_method_22_code_1 : decode jdk_68_method_22_code 1 = .ok (.ifnonnull 8, 3) := by decide +kernel
theorem d_jdk_68_method_22_code_9 : decode jdk_68_method_22_code 9 = .ok (.aload_n 1, 1) := by decide +kernel
theorem d_jdk_68_method_22_code_10 : decode jdk_68_method_22_code 10 = .ok (.invokevirtual 32, 3) := by decide +kernel
theorem w62 {Z : State} {a0 : Array Value} (hw : ∀ d ∈ tables_1, d.before a0 Z = true) : (Jvm.Cond.methodLink "java/lang/AbstractStringBuilder" (32 : Nat) ({ cls := "java/lang/String", name := "length", desc := "()I" } : Jvm.MethodName)).before a0 Z = true := hw _ (List.mem_of_getElem? (i := 62) rfl)
theorem w66 {Z : State} {a0 : Array Value} (hw : ∀ d ∈ tables_1, d.before a0 Z = true) : (Jvm.Cond.code ({ cls := "java/lang/String", name := "length", desc := "()I" } : Jvm.MethodName) jdk_42_method_54_code (1 : Nat) (Option.some Jvm.ClassFile.FieldType.int)).before a0 Z = true := hw _ (List.mem_of_getElem? (i := 66) rfl)
theorem w65 {Z : State} {a0 : Array Value} (hw : ∀ d ∈ tables_1, d.before a0 Z = true) : (Jvm.Cond.selects "java/lang/String" ({ cls := "java/lang/String", name := "length", desc := "()I" } : Jvm.MethodName) ({ cls := "java/lang/String", name := "length", desc := "()I" } : Jvm.MethodName)).before a0 Z = true := hw _ (List.mem_of_getElem? (i := 65) rfl)
theorem w63 {Z : State} {a0 : Array Value} (hw : ∀ d ∈ tables_1, d.before a0 Z = true) : (Jvm.Cond.declares ({ cls := "java/lang/String", name := "length", desc := "()I" } : Jvm.MethodName)).before a0 Z = true := hw _ (List.mem_of_getElem? (i := 63) rfl)
theorem w64 {Z : State} {a0 : Array Value} (hw : ∀ d ∈ tables_1, d.before a0 Z = true) : (Jvm.Cond.instanceMethod ({ cls := "java/lang/String", name := "length", desc := "()I" } : Jvm.MethodName)).before a0 Z = true := hw _ (List.mem_of_getElem? (i := 64) rfl)
theorem pd_13 : parseMethodDescriptor "()I" = some ⟨[], some .int⟩ := by decide +kernel
theorem d_jdk_68_method_22_code_13 : decode jdk_68_method_22_code 13 = .ok (.istore_n 2, 1) := by decide +kernel
theorem d_jdk_68_method_22_code_14 : decode jdk_68_method_22_code 14 = .ok (.aload_n 0, 1) := by decide +kernel
theorem d_jdk_68_method_22_code_15 : decode jdk_68_method_22_code 15 = .ok (.aload_n 0, 1) := by decide +kernel
theorem d_jdk_68_method_22_code_16 : decode jdk_68_method_22_code 16 = .ok (.getfield 79, 3) := by decide +kernel
theorem w73 {Z : State} {a0 : Array Value} (hw : ∀ d ∈ tables_1, d.before a0 Z = true) : (Jvm.Cond.fieldLink "java/lang/AbstractStringBuilder" (79 : Nat) "java/lang/AbstractStringBuilder" "count" "I").before a0 Z = true := hw _ (List.mem_of_getElem? (i := 73) rfl)
theorem d_jdk_68_method_22_code_19 : decode jdk_68_method_22_code 19 = .ok (.iload_n 2, 1) := by decide +kernel
theorem d_jdk_68_method_22_code_20 : decode jdk_68_method_22_code 20 = .ok (.iadd, 1) := by decide +kernel
theorem d_jdk_68_method_22_code_21 : decode jdk_68_method_22_code 21 = .ok (.invokevirtual 100, 3) := by decide +kernel
theorem w75 {Z : State} {a0 : Array Value} (hw : ∀ d ∈ tables_1, d.before a0 Z = true) : (Jvm.Cond.methodLink "java/lang/AbstractStringBuilder" (100 : Nat) ({ cls := "java/lang/AbstractStringBuilder", name := "ensureCapacityInternal", desc := "(I)V" } : Jvm.MethodName)).before a0 Z = true := hw _ (List.mem_of_getElem? (i := 75) rfl)
theorem w79 {Z : State} {a0 : Array Value} (hw : ∀ d ∈ tables_1, d.before a0 Z = true) : (Jvm.Cond.code ({ cls := "java/lang/AbstractStringBuilder", name := "ensureCapacityInternal", desc := "(I)V" } : Jvm.MethodName) jdk_68_method_9_code (3 : Nat) (Option.none : Option Jvm.ClassFile.FieldType)).before a0 Z = true := hw _ (List.mem_of_getElem? (i := 79) rfl)
theorem w77 {Z : State} {a0 : Array Value} (hw : ∀ d ∈ tables_1, d.before a0 Z = true) : (Jvm.Cond.privateMethod ({ cls := "java/lang/AbstractStringBuilder", name := "ensureCapacityInternal", desc := "(I)V" } : Jvm.MethodName)).before a0 Z = true := hw _ (List.mem_of_getElem? (i := 77) rfl)
theorem w78 {Z : State} {a0 : Array Value} (hw : ∀ d ∈ tables_1, d.before a0 Z = true) : (Jvm.Cond.selects "java/lang/StringBuilder" ({ cls := "java/lang/AbstractStringBuilder", name := "ensureCapacityInternal", desc := "(I)V" } : Jvm.MethodName) ({ cls := "java/lang/AbstractStringBuilder", name := "ensureCapacityInternal", desc := "(I)V" } : Jvm.MethodName)).before a0 Z = true := hw _ (List.mem_of_getElem? (i := 78) rfl)
theorem w76 {Z : State} {a0 : Array Value} (hw : ∀ d ∈ tables_1, d.before a0 Z = true) : (Jvm.Cond.instanceMethod ({ cls := "java/lang/AbstractStringBuilder", name := "ensureCapacityInternal", desc := "(I)V" } : Jvm.MethodName)).before a0 Z = true := hw _ (List.mem_of_getElem? (i := 76) rfl)
theorem d_jdk_68_method_22_code_24 : decode jdk_68_method_22_code 24 = .ok (.aload_n 0, 1) := by decide +kernel
theorem d_jdk_68_method_22_code_25 : decode jdk_68_method_22_code 25 = .ok (.aload_n 0, 1) := by decide +kernel
theorem d_jdk_68_method_22_code_26 : decode jdk_68_method_22_code 26 = .ok (.getfield 79, 3) := by decide +kernel
theorem d_jdk_68_method_22_code_29 : decode jdk_68_method_22_code 29 = .ok (.aload_n 1, 1) := by decide +kernel
theorem d_jdk_68_method_22_code_30 : decode jdk_68_method_22_code 30 = .ok (.invokevirtual 208, 3) := by decide +kernel
theorem w80 {Z : State} {a0 : Array Value} (hw : ∀ d ∈ tables_1, d.before a0 Z = true) : (Jvm.Cond.methodLink "java/lang/AbstractStringBuilder" (208 : Nat) ({ cls := "java/lang/AbstractStringBuilder", name := "putStringAt", desc := "(ILjava/lang/String;)V" } : Jvm.MethodName)).before a0 Z = true := hw _ (List.mem_of_getElem? (i := 80) rfl)
theorem w84 {Z : State} {a0 : Array Value} (hw : ∀ d ∈ tables_1, d.before a0 Z = true) : (Jvm.Cond.code ({ cls := "java/lang/AbstractStringBuilder", name := "putStringAt", desc := "(ILjava/lang/String;)V" } : Jvm.MethodName) jdk_68_method_73_code (3 : Nat) (Option.none : Option Jvm.ClassFile.FieldType)).before a0 Z = true := hw _ (List.mem_of_getElem? (i := 84) rfl)
theorem w82 {Z : State} {a0 : Array Value} (hw : ∀ d ∈ tables_1, d.before a0 Z = true) : (Jvm.Cond.privateMethod ({ cls := "java/lang/AbstractStringBuilder", name := "putStringAt", desc := "(ILjava/lang/String;)V" } : Jvm.MethodName)).before a0 Z = true := hw _ (List.mem_of_getElem? (i := 82) rfl)
theorem w83 {Z : State} {a0 : Array Value} (hw : ∀ d ∈ tables_1, d.before a0 Z = true) : (Jvm.Cond.selects "java/lang/StringBuilder" ({ cls := "java/lang/AbstractStringBuilder", name := "putStringAt", desc := "(ILjava/lang/String;)V" } : Jvm.MethodName) ({ cls := "java/lang/AbstractStringBuilder", name := "putStringAt", desc := "(ILjava/lang/String;)V" } : Jvm.MethodName)).before a0 Z = true := hw _ (List.mem_of_getElem? (i := 83) rfl)
theorem w81 {Z : State} {a0 : Array Value} (hw : ∀ d ∈ tables_1, d.before a0 Z = true) : (Jvm.Cond.instanceMethod ({ cls := "java/lang/AbstractStringBuilder", name := "putStringAt", desc := "(ILjava/lang/String;)V" } : Jvm.MethodName)).before a0 Z = true := hw _ (List.mem_of_getElem? (i := 81) rfl)
theorem pd_14 : parseMethodDescriptor "(ILjava/lang/String;)V" = some ⟨[.int, (.object "java/lang/String")], none⟩ := by decide +kernel
theorem d_jdk_68_method_22_code_33 : decode jdk_68_method_22_code 33 = .ok (.aload_n 0, 1) := by decide +kernel
theorem d_jdk_68_method_22_code_34 : decode jdk_68_method_22_code 34 = .ok (.dup, 1) := by decide +kernel
theorem d_jdk_68_method_22_code_35 : decode jdk_68_method_22_code 35 = .ok (.getfield 79, 3) := by decide +kernel
theorem d_jdk_68_method_22_code_38 : decode jdk_68_method_22_code 38 = .ok (.iload_n 2, 1) := by decide +kernel
theorem d_jdk_68_method_22_code_39 : decode jdk_68_method_22_code 39 = .ok (.iadd, 1) := by decide +kernel
theorem d_jdk_68_method_22_code_40 : decode jdk_68_method_22_code 40 = .ok (.putfield 79, 3) := by decide +kernel
theorem d_jdk_68_method_22_code_43 : decode jdk_68_method_22_code 43 = .ok (.aload_n 0, 1) := by decide +kernel
theorem d_jdk_68_method_22_code_44 : decode jdk_68_method_22_code 44 = .ok (.areturn, 1) := by decide +kernel
theorem pl_21 : plainFor (⟨"java/lang/AbstractStringBuilder", "append", "(Ljava/lang/String;)Ljava/lang/AbstractStringBuilder;"⟩ : MethodName) = true := by first | exact plainFor_of_name (by first | (simp [plainName, overriddenIn]; done) | decide +kernel) | decide +kernel
theorem d_jdk_67_method_7_code_0 : decode jdk_67_method_7_code 0 = .ok (.aload_n 0, 1) := by decide +kernel
theorem d_jdk_67_method_7_code_1 : decode jdk_67_method_7_code 1 = .ok (.aload_n 1, 1) := by decide +kernel
theorem d_jdk_67_method_7_code_2 : decode jdk_67_method_7_code 2 = .ok (.invokespecial 29, 3) := by decide +kernel
theorem w57 {Z : State} {a0 : Array Value} (hw : ∀ d ∈ tables_1, d.before a0 Z = true) : (Jvm.Cond.methodLink "java/lang/StringBuilder" (29 : Nat) ({ cls := "java/lang/AbstractStringBuilder", name := "append", desc := "(Ljava/lang/String;)Ljava/lang/AbstractStringBuilder;" } : Jvm.MethodName)).before a0 Z = true := hw _ (List.mem_of_getElem? (i := 57) rfl)
theorem w61 {Z : State} {a0 : Array Value} (hw : ∀ d ∈ tables_1, d.before a0 Z = true) : (Jvm.Cond.code ({ cls := "java/lang/AbstractStringBuilder", name := "append", desc := "(Ljava/lang/String;)Ljava/lang/AbstractStringBuilder;" } : Jvm.MethodName) jdk_68_method_22_code (3 : Nat) (Option.some (Jvm.ClassFile.FieldType.object "java/lang/AbstractStringBuilder"))).before a0 Z = true := hw _ (List.mem_of_getElem? (i := 61) rfl)
theorem w43 {Z : State} {a0 : Array Value} (hw : ∀ d ∈ tables_1, d.before a0 Z = true) : (Jvm.Cond.castable "java/lang/StringBuilder" "java/lang/AbstractStringBuilder").before a0 Z = true := hw _ (List.mem_of_getElem? (i := 43) rfl)
theorem w58 {Z : State} {a0 : Array Value} (hw : ∀ d ∈ tables_1, d.before a0 Z = true) : (Jvm.Cond.instanceMethod ({ cls := "java/lang/AbstractStringBuilder", name := "append", desc := "(Ljava/lang/String;)Ljava/lang/AbstractStringBuilder;" } : Jvm.MethodName)).before a0 Z = true := hw _ (List.mem_of_getElem? (i := 58) rfl)
theorem w59 {Z : State} {a0 : Array Value} (hw : ∀ d ∈ tables_1, d.before a0 Z = true) : (Jvm.Cond.superclass "java/lang/StringBuilder" "java/lang/AbstractStringBuilder").before a0 Z = true := hw _ (List.mem_of_getElem? (i := 59) rfl)
theorem pd_15 : parseMethodDescriptor "(Ljava/lang/String;)Ljava/lang/AbstractStringBuilder;" = some ⟨[(.object "java/lang/String")], some (.object "java/lang/AbstractStringBuilder")⟩ := by decide +kernel
theorem d_jdk_67_method_7_code_5 : decode jdk_67_method_7_code 5 = .ok (.pop, 1) := by decide +kernel
theorem d_jdk_67_method_7_code_6 : decode jdk_67_method_7_code 6 = .ok (.aload_n 0, 1) := by decide +kernel
theorem d_jdk_67_method_7_code_7 : decode jdk_67_method_7_code 7 = .ok (.areturn, 1) := by decide +kernel
theorem pl_22 : plainFor (⟨"java/lang/StringBuilder", "append", "(Ljava/lang/String;)Ljava/lang/StringBuilder;"⟩ : MethodName) = true := by first | exact plainFor_of_name (by first | (simp [plainName, overriddenIn]; done) | decide +kernel) | decide +kernel
theorem d_jdk_65_method_131_code_0 : decode jdk_65_method_131_code 0 = .ok (.iload_n 1, 1) := by decide +kernel
theorem d_jdk_65_method_131_code_1 : decode jdk_65_method_131_code 1 = .ok (.iload_n 0, 1) := by decide +kernel
theorem d_jdk_65_method_131_code_2 : decode jdk_65_method_131_code 2 = .ok (.if_icmp .ge 35, 3) := by decide +kernel
theorem d_jdk_65_method_131_code_37 : decode jdk_65_method_131_code 37 = .ok (.return_, 1) := by decide +kernel
theorem pl_23 : plainFor (⟨"java/util/Arrays", "checkLength", "(II)V"⟩ : MethodName) = true := by first | exact plainFor_of_name (by first | (simp [plainName, overriddenIn]; done) | decide +kernel) | decide +kernel
theorem d_jdk_65_method_133_code_0 : decode jdk_65_method_133_code 0 = .ok (.iload_n 1, 1) := by decide +kernel
theorem d_jdk_65_method_133_code_1 : decode jdk_65_method_133_code 1 = .ok (.iload_n 2, 1) := by decide +kernel
theorem d_jdk_65_method_133_code_2 : decode jdk_65_method_133_code 2 = .ok (.invokestatic 343, 3) := by decide +kernel
theorem w138 {Z : State} {a0 : Array Value} (hw : ∀ d ∈ tables_1, d.before a0 Z = true) : (Jvm.Cond.methodLink "java/util/Arrays" (343 : Nat) ({ cls := "java/util/Arrays", name := "checkLength", desc := "(II)V" } : Jvm.MethodName)).before a0 Z = true := hw _ (List.mem_of_getElem? (i := 138) rfl)
theorem w140 {Z : State} {a0 : Array Value} (hw : ∀ d ∈ tables_1, d.before a0 Z = true) : (Jvm.Cond.code ({ cls := "java/util/Arrays", name := "checkLength", desc := "(II)V" } : Jvm.MethodName) jdk_65_method_131_code (2 : Nat) (Option.none : Option Jvm.ClassFile.FieldType)).before a0 Z = true := hw _ (List.mem_of_getElem? (i := 140) rfl)
theorem w139 {Z : State} {a0 : Array Value} (hw : ∀ d ∈ tables_1, d.before a0 Z = true) : (Jvm.Cond.static ({ cls := "java/util/Arrays", name := "checkLength", desc := "(II)V" } : Jvm.MethodName)).before a0 Z = true := hw _ (List.mem_of_getElem? (i := 139) rfl)
theorem pd_16 : parseMethodDescriptor "(II)V" = some ⟨[.int, .int], none⟩ := by decide +kernel
theorem d_jdk_65_method_133_code_5 : decode jdk_65_method_133_code 5 = .ok (.iload_n 2, 1) := by decide +kernel
theorem d_jdk_65_method_133_code_6 : decode jdk_65_method_133_code 6 = .ok (.iload_n 1, 1) := by decide +kernel
theorem d_jdk_65_method_133_code_7 : decode jdk_65_method_133_code 7 = .ok (.isub, 1) := by decide +kernel
theorem d_jdk_65_method_133_code_8 : decode jdk_65_method_133_code 8 = .ok (.istore_n 3, 1) := by decide +kernel
theorem d_jdk_65_method_133_code_9 : decode jdk_65_method_133_code 9 = .ok (.iload_n 3, 1) := by decide +kernel
theorem d_jdk_65_method_133_code_10 : decode jdk_65_method_133_code 10 = .ok (.newarray .byte, 2) := by decide +kernel
theorem d_jdk_65_method_133_code_12 : decode jdk_65_method_133_code 12 = .ok (.astore 4, 2) := by decide +kernel
theorem d_jdk_65_method_133_code_14 : decode jdk_65_method_133_code 14 = .ok (.aload_n 0, 1) := by decide +kernel
theorem d_jdk_65_method_133_code_15 : decode jdk_65_method_133_code 15 = .ok (.iload_n 1, 1) := by decide +kernel
theorem d_jdk_65_method_133_code_16 : decode jdk_65_method_133_code 16 = .ok (.aload 4, 2) := by decide +kernel
theorem d_jdk_65_method_133_code_18 : decode jdk_65_method_133_code 18 = .ok (.iconst 0, 1) := by decide +kernel
theorem d_jdk_65_method_133_code_19 : decode jdk_65_method_133_code 19 = .ok (.aload_n 0, 1) := by decide +kernel
theorem d_jdk_65_method_133_code_20 : decode jdk_65_method_133_code 20 = .ok (.arraylength, 1) := by decide +kernel
theorem d_jdk_65_method_133_code_21 : decode jdk_65_method_133_code 21 = .ok (.iload_n 1, 1) := by decide +kernel
theorem d_jdk_65_method_133_code_22 : decode jdk_65_method_133_code 22 = .ok (.isub, 1) := by decide +kernel
theorem d_jdk_65_method_133_code_23 : decode jdk_65_method_133_code 23 = .ok (.iload_n 3, 1) := by decide +kernel
theorem d_jdk_65_method_133_code_24 : decode jdk_65_method_133_code 24 = .ok (.invokestatic 304, 3) := by decide +kernel
theorem d_jdk_65_method_133_code_27 : decode jdk_65_method_133_code 27 = .ok (.invokestatic 150, 3) := by decide +kernel
theorem d_jdk_65_method_133_code_30 : decode jdk_65_method_133_code 30 = .ok (.aload 4, 2) := by decide +kernel
theorem d_jdk_65_method_133_code_32 : decode jdk_65_method_133_code 32 = .ok (.areturn, 1) := by decide +kernel
theorem pl_24 : plainFor (⟨"java/util/Arrays", "copyOfRangeByte", "([BII)[B"⟩ : MethodName) = true := by first | exact plainFor_of_name (by first | (simp [plainName, overriddenIn]; done) | decide +kernel) | decide +kernel
theorem d_jdk_65_method_132_code_0 : decode jdk_65_method_132_code 0 = .ok (.iload_n 1, 1) := by decide +kernel
theorem d_jdk_65_method_132_code_1 : decode jdk_65_method_132_code 1 = .ok (.ifCond .ne 9, 3) := by decide +kernel
theorem d_jdk_65_method_132_code_4 : decode jdk_65_method_132_code 4 = .ok (.iload_n 2, 1) := by decide +kernel
theorem d_jdk_65_method_132_code_5 : decode jdk_65_method_132_code 5 = .ok (.aload_n 0, 1) := by decide +kernel
theorem d_jdk_65_method_132_code_6 : decode jdk_65_method_132_code 6 = .ok (.arraylength, 1) := by decide +kernel
theorem d_jdk_65_method_132_code_7 : decode jdk_65_method_132_code 7 = .ok (.if_icmp .eq 10, 3) := by decide +kernel
theorem d_jdk_65_method_132_code_17 : decode jdk_65_method_132_code 17 = .ok (.aload_n 0, 1) := by decide +kernel
theorem d_jdk_65_method_132_code_18 : decode jdk_65_method_132_code 18 = .ok (.invokevirtual 310, 3) := by decide +kernel
theorem w215 {Z : State} {a0 : Array Value} (hw : ∀ d ∈ tables_1, d.before a0 Z = true) : (Jvm.Cond.methodLink "java/util/Arrays" (310 : Nat) ({ cls := "[B", name := "clone", desc := "()Ljava/lang/Object;" } : Jvm.MethodName)).before a0 Z = true := hw _ (List.mem_of_getElem? (i := 215) rfl)
theorem w216 {Z : State} {a0 : Array Value} (hw : ∀ d ∈ tables_1, d.before a0 Z = true) : (Jvm.Cond.sameMethod "[B" "java/lang/Object" "clone" "()Ljava/lang/Object;").before a0 Z = true := hw _ (List.mem_of_getElem? (i := 216) rfl)
theorem w220 {Z : State} {a0 : Array Value} (hw : ∀ d ∈ tables_1, d.before a0 Z = true) : (Jvm.Cond.native ({ cls := "java/lang/Object", name := "clone", desc := "()Ljava/lang/Object;" } : Jvm.MethodName)).before a0 Z = true := hw _ (List.mem_of_getElem? (i := 220) rfl)
theorem w218 {Z : State} {a0 : Array Value} (hw : ∀ d ∈ tables_1, d.before a0 Z = true) : (Jvm.Cond.instanceMethod ({ cls := "java/lang/Object", name := "clone", desc := "()Ljava/lang/Object;" } : Jvm.MethodName)).before a0 Z = true := hw _ (List.mem_of_getElem? (i := 218) rfl)
theorem w219 {Z : State} {a0 : Array Value} (hw : ∀ d ∈ tables_1, d.before a0 Z = true) : (Jvm.Cond.selects "[B" ({ cls := "[B", name := "clone", desc := "()Ljava/lang/Object;" } : Jvm.MethodName) ({ cls := "java/lang/Object", name := "clone", desc := "()Ljava/lang/Object;" } : Jvm.MethodName)).before a0 Z = true := hw _ (List.mem_of_getElem? (i := 219) rfl)
theorem w221 {Z : State} {a0 : Array Value} (hw : ∀ d ∈ tables_1, d.before a0 Z = true) : (Jvm.Cond.castable "[B" "java/lang/Cloneable").before a0 Z = true := hw _ (List.mem_of_getElem? (i := 221) rfl)
theorem d_jdk_65_method_132_code_21 : decode jdk_65_method_132_code 21 = .ok (.checkcast 311, 3) := by decide +kernel
theorem w222 {Z : State} {a0 : Array Value} (hw : ∀ d ∈ tables_1, d.before a0 Z = true) : (Jvm.Cond.classLink "java/util/Arrays" (311 : Nat) "[B").before a0 Z = true := hw _ (List.mem_of_getElem? (i := 222) rfl)
theorem w223 {Z : State} {a0 : Array Value} (hw : ∀ d ∈ tables_1, d.before a0 Z = true) : (Jvm.Cond.castable "[B" "[B").before a0 Z = true := hw _ (List.mem_of_getElem? (i := 223) rfl)
theorem d_jdk_65_method_132_code_24 : decode jdk_65_method_132_code 24 = .ok (.areturn, 1) := by decide +kernel
theorem d_jdk_65_method_132_code_10 : decode jdk_65_method_132_code 10 = .ok (.aload_n 0, 1) := by decide +kernel
theorem d_jdk_65_method_132_code_11 : decode jdk_65_method_132_code 11 = .ok (.iload_n 1, 1) := by decide +kernel
theorem d_jdk_65_method_132_code_12 : decode jdk_65_method_132_code 12 = .ok (.iload_n 2, 1) := by decide +kernel
theorem d_jdk_65_method_132_code_13 : decode jdk_65_method_132_code 13 = .ok (.invokestatic 339, 3) := by decide +kernel
theorem w135 {Z : State} {a0 : Array Value} (hw : ∀ d ∈ tables_1, d.before a0 Z = true) : (Jvm.Cond.methodLink "java/util/Arrays" (339 : Nat) ({ cls := "java/util/Arrays", name := "copyOfRangeByte", desc := "([BII)[B" } : Jvm.MethodName)).before a0 Z = true := hw _ (List.mem_of_getElem? (i := 135) rfl)
theorem w137 {Z : State} {a0 : Array Value} (hw : ∀ d ∈ tables_1, d.before a0 Z = true) : (Jvm.Cond.code ({ cls := "java/util/Arrays", name := "copyOfRangeByte", desc := "([BII)[B" } : Jvm.MethodName) jdk_65_method_133_code (5 : Nat) (Option.some (Jvm.ClassFile.FieldType.array Jvm.ClassFile.FieldType.byte))).before a0 Z = true := hw _ (List.mem_of_getElem? (i := 137) rfl)
theorem w136 {Z : State} {a0 : Array Value} (hw : ∀ d ∈ tables_1, d.before a0 Z = true) : (Jvm.Cond.static ({ cls := "java/util/Arrays", name := "copyOfRangeByte", desc := "([BII)[B" } : Jvm.MethodName)).before a0 Z = true := hw _ (List.mem_of_getElem? (i := 136) rfl)
theorem pd_17 : parseMethodDescriptor "([BII)[B" = some ⟨[(.array .byte), .int, .int], some (.array .byte)⟩ := by decide +kernel
theorem d_jdk_65_method_132_code_16 : decode jdk_65_method_132_code 16 = .ok (.areturn, 1) := by decide +kernel
theorem pl_25 : plainFor (⟨"java/util/Arrays", "copyOfRange", "([BII)[B"⟩ : MethodName) = true := by first | exact plainFor_of_name (by first | (simp [plainName, overriddenIn]; done) | decide +kernel) | decide +kernel
theorem d_jdk_68_method_64_code_0 : decode jdk_68_method_64_code 0 = .ok (.aload_n 0, 1) := by decide +kernel
theorem d_jdk_68_method_64_code_1 : decode jdk_68_method_64_code 1 = .ok (.getfield 15, 3) := by decide +kernel
theorem d_jdk_68_method_64_code_4 : decode jdk_68_method_64_code 4 = .ok (.areturn, 1) := by decide +kernel
theorem pl_26 : plainFor (⟨"java/lang/AbstractStringBuilder", "getValue", "()[B"⟩ : MethodName) = true := by first | exact plainFor_of_name (by first | (simp [plainName, overriddenIn]; done) | decide +kernel) | decide +kernel
theorem d_jdk_68_method_6_code_0 : decode jdk_68_method_6_code 0 = .ok (.aload_n 0, 1) := by decide +kernel
theorem d_jdk_68_method_6_code_1 : decode jdk_68_method_6_code 1 = .ok (.getfield 79, 3) := by decide +kernel
theorem d_jdk_68_method_6_code_4 : decode jdk_68_method_6_code 4 = .ok (.ireturn, 1) := by decide +kernel
theorem pl_27 : plainFor (⟨"java/lang/AbstractStringBuilder", "length", "()I"⟩ : MethodName) = true := by first | exact plainFor_of_name (by first | (simp [plainName, overriddenIn]; done) | decide +kernel) | decide +kernel
theorem d_jdk_67_method_93_code_0 : decode jdk_67_method_93_code 0 = .ok (.aload_n 0, 1) := by decide +kernel
theorem d_jdk_67_method_93_code_1 : decode jdk_67_method_93_code 1 = .ok (.invokespecial 343, 3) := by decide +kernel
theorem w124 {Z : State} {a0 : Array Value} (hw : ∀ d ∈ tables_1, d.before a0 Z = true) : (Jvm.Cond.methodLink "java/lang/StringBuilder" (343 : Nat) ({ cls := "java/lang/AbstractStringBuilder", name := "length", desc := "()I" } : Jvm.MethodName)).before a0 Z = true := hw _ (List.mem_of_getElem? (i := 124) rfl)
theorem w125 {Z : State} {a0 : Array Value} (hw : ∀ d ∈ tables_1, d.before a0 Z = true) : (Jvm.Cond.code ({ cls := "java/lang/AbstractStringBuilder", name := "length", desc := "()I" } : Jvm.MethodName) jdk_68_method_6_code (1 : Nat) (Option.some Jvm.ClassFile.FieldType.int)).before a0 Z = true := hw _ (List.mem_of_getElem? (i := 125) rfl)
theorem w120 {Z : State} {a0 : Array Value} (hw : ∀ d ∈ tables_1, d.before a0 Z = true) : (Jvm.Cond.instanceMethod ({ cls := "java/lang/AbstractStringBuilder", name := "length", desc := "()I" } : Jvm.MethodName)).before a0 Z = true := hw _ (List.mem_of_getElem? (i := 120) rfl)
theorem d_jdk_67_method_93_code_4 : decode jdk_67_method_93_code 4 = .ok (.ireturn, 1) := by decide +kernel
theorem pl_28 : plainFor (⟨"java/lang/StringBuilder", "length", "()I"⟩ : MethodName) = true := by first | exact plainFor_of_name (by first | (simp [plainName, overriddenIn]; done) | decide +kernel) | decide +kernel
theorem d_jdk_68_method_68_code_0 : decode jdk_68_method_68_code 0 = .ok (.getstatic 18, 3) := by decide +kernel
theorem d_jdk_68_method_68_code_3 : decode jdk_68_method_68_code 3 = .ok (.ifCond .eq 14, 3) := by decide +kernel
theorem d_jdk_68_method_68_code_6 : decode jdk_68_method_68_code 6 = .ok (.aload_n 0, 1) := by decide +kernel
theorem d_jdk_68_method_68_code_7 : decode jdk_68_method_68_code 7 = .ok (.getfield 22, 3) := by decide +kernel
theorem d_jdk_68_method_68_code_10 : decode jdk_68_method_68_code 10 = .ok (.ifCond .ne 7, 3) := by decide +kernel
theorem d_jdk_68_method_68_code_13 : decode jdk_68_method_68_code 13 = .ok (.iconst 1, 1) := by decide +kernel
theorem d_jdk_68_method_68_code_14 : decode jdk_68_method_68_code 14 = .ok (.goto 4, 3) := by decide +kernel
theorem d_jdk_68_method_68_code_18 : decode jdk_68_method_68_code 18 = .ok (.ireturn, 1) := by decide +kernel
theorem pl_29 : plainFor (⟨"java/lang/AbstractStringBuilder", "isLatin1", "()Z"⟩ : MethodName) = true := by first | exact plainFor_of_name (by first | (simp [plainName, overriddenIn]; done) | decide +kernel) | decide +kernel
theorem d_jdk_42_method_150_code_0 : decode jdk_42_method_150_code 0 = .ok (.aload_n 0, 1) := by decide +kernel
theorem d_jdk_42_method_150_code_1 : decode jdk_42_method_150_code 1 = .ok (.invokespecial 1, 3) := by decide +kernel
theorem d_jdk_42_method_150_code_4 : decode jdk_42_method_150_code 4 = .ok (.aload_n 1, 1) := by decide +kernel
theorem d_jdk_42_method_150_code_5 : decode jdk_42_method_150_code 5 = .ok (.invokevirtual 552, 3) := by decide +kernel
theorem w113 {Z : State} {a0 : Array Value} (hw : ∀ d ∈ tables_1, d.before a0 Z = true) : (Jvm.Cond.methodLink "java/lang/String" (552 : Nat) ({ cls := "java/lang/AbstractStringBuilder", name := "getValue", desc := "()[B" } : Jvm.MethodName)).before a0 Z = true := hw _ (List.mem_of_getElem? (i := 113) rfl)
theorem w117 {Z : State} {a0 : Array Value} (hw : ∀ d ∈ tables_1, d.before a0 Z = true) : (Jvm.Cond.code ({ cls := "java/lang/AbstractStringBuilder", name := "getValue", desc := "()[B" } : Jvm.MethodName) jdk_68_method_64_code (1 : Nat) (Option.some (Jvm.ClassFile.FieldType.array Jvm.ClassFile.FieldType.byte))).before a0 Z = true := hw _ (List.mem_of_getElem? (i := 117) rfl)
theorem w116 {Z : State} {a0 : Array Value} (hw : ∀ d ∈ tables_1, d.before a0 Z = true) : (Jvm.Cond.selects "java/lang/StringBuilder" ({ cls := "java/lang/AbstractStringBuilder", name := "getValue", desc := "()[B" } : Jvm.MethodName) ({ cls := "java/lang/AbstractStringBuilder", name := "getValue", desc := "()[B" } : Jvm.MethodName)).before a0 Z = true := hw _ (List.mem_of_getElem? (i := 116) rfl)
theorem w114 {Z : State} {a0 : Array Value} (hw : ∀ d ∈ tables_1, d.before a0 Z = true) : (Jvm.Cond.declares ({ cls := "java/lang/AbstractStringBuilder", name := "getValue", desc := "()[B" } : Jvm.MethodName)).before a0 Z = true := hw _ (List.mem_of_getElem? (i := 114) rfl)
theorem w115 {Z : State} {a0 : Array Value} (hw : ∀ d ∈ tables_1, d.before a0 Z = true) : (Jvm.Cond.instanceMethod ({ cls := "java/lang/AbstractStringBuilder", name := "getValue", desc := "()[B" } : Jvm.MethodName)).before a0 Z = true := hw _ (List.mem_of_getElem? (i := 115) rfl)
theorem pd_18 : parseMethodDescriptor "()[B" = some ⟨[], some (.array .byte)⟩ := by decide +kernel
theorem d_jdk_42_method_150_code_8 : decode jdk_42_method_150_code 8 = .ok (.astore_n 3, 1) := by decide +kernel
theorem d_jdk_42_method_150_code_9 : decode jdk_42_method_150_code 9 = .ok (.aload_n 1, 1) := by decide +kernel
theorem d_jdk_42_method_150_code_10 : decode jdk_42_method_150_code 10 = .ok (.invokevirtual 549, 3) := by decide +kernel
theorem w118 {Z : State} {a0 : Array Value} (hw : ∀ d ∈ tables_1, d.before a0 Z = true) : (Jvm.Cond.methodLink "java/lang/String" (549 : Nat) ({ cls := "java/lang/AbstractStringBuilder", name := "length", desc := "()I" } : Jvm.MethodName)).before a0 Z = true := hw _ (List.mem_of_getElem? (i := 118) rfl)
theorem w123 {Z : State} {a0 : Array Value} (hw : ∀ d ∈ tables_1, d.before a0 Z = true) : (Jvm.Cond.code ({ cls := "java/lang/StringBuilder", name := "length", desc := "()I" } : Jvm.MethodName) jdk_67_method_93_code (1 : Nat) (Option.some Jvm.ClassFile.FieldType.int)).before a0 Z = true := hw _ (List.mem_of_getElem? (i := 123) rfl)
theorem w36 {Z : State} {a0 : Array Value} (hw : ∀ d ∈ tables_1, d.before a0 Z = true) : (Jvm.Cond.initialized "java/lang/StringBuilder").before a0 Z = true := hw _ (List.mem_of_getElem? (i := 36) rfl)
theorem w119 {Z : State} {a0 : Array Value} (hw : ∀ d ∈ tables_1, d.before a0 Z = true) : (Jvm.Cond.declares ({ cls := "java/lang/AbstractStringBuilder", name := "length", desc := "()I" } : Jvm.MethodName)).before a0 Z = true := hw _ (List.mem_of_getElem? (i := 119) rfl)
theorem w121 {Z : State} {a0 : Array Value} (hw : ∀ d ∈ tables_1, d.before a0 Z = true) : (Jvm.Cond.selects "java/lang/StringBuilder" ({ cls := "java/lang/AbstractStringBuilder", name := "length", desc := "()I" } : Jvm.MethodName) ({ cls := "java/lang/StringBuilder", name := "length", desc := "()I" } : Jvm.MethodName)).before a0 Z = true := hw _ (List.mem_of_getElem? (i := 121) rfl)
theorem w122 {Z : State} {a0 : Array Value} (hw : ∀ d ∈ tables_1, d.before a0 Z = true) : (Jvm.Cond.instanceMethod ({ cls := "java/lang/StringBuilder", name := "length", desc := "()I" } : Jvm.MethodName)).before a0 Z = true := hw _ (List.mem_of_getElem? (i := 122) rfl)
theorem d_jdk_42_method_150_code_13 : decode jdk_42_method_150_code 13 = .ok (.istore 4, 2) := by decide +kernel
theorem d_jdk_42_method_150_code_15 : decode jdk_42_method_150_code 15 = .ok (.aload_n 1, 1) := by decide +kernel
theorem d_jdk_42_method_150_code_16 : decode jdk_42_method_150_code 16 = .ok (.invokevirtual 1047, 3) := by decide +kernel
theorem w126 {Z : State} {a0 : Array Value} (hw : ∀ d ∈ tables_1, d.before a0 Z = true) : (Jvm.Cond.methodLink "java/lang/String" (1047 : Nat) ({ cls := "java/lang/AbstractStringBuilder", name := "isLatin1", desc := "()Z" } : Jvm.MethodName)).before a0 Z = true := hw _ (List.mem_of_getElem? (i := 126) rfl)
theorem w130 {Z : State} {a0 : Array Value} (hw : ∀ d ∈ tables_1, d.before a0 Z = true) : (Jvm.Cond.code ({ cls := "java/lang/AbstractStringBuilder", name := "isLatin1", desc := "()Z" } : Jvm.MethodName) jdk_68_method_68_code (1 : Nat) (Option.some Jvm.ClassFile.FieldType.boolean)).before a0 Z = true := hw _ (List.mem_of_getElem? (i := 130) rfl)
theorem w129 {Z : State} {a0 : Array Value} (hw : ∀ d ∈ tables_1, d.before a0 Z = true) : (Jvm.Cond.selects "java/lang/StringBuilder" ({ cls := "java/lang/AbstractStringBuilder", name := "isLatin1", desc := "()Z" } : Jvm.MethodName) ({ cls := "java/lang/AbstractStringBuilder", name := "isLatin1", desc := "()Z" } : Jvm.MethodName)).before a0 Z = true := hw _ (List.mem_of_getElem? (i := 129) rfl)
theorem w127 {Z : State} {a0 : Array Value} (hw : ∀ d ∈ tables_1, d.before a0 Z = true) : (Jvm.Cond.declares ({ cls := "java/lang/AbstractStringBuilder", name := "isLatin1", desc := "()Z" } : Jvm.MethodName)).before a0 Z = true := hw _ (List.mem_of_getElem? (i := 127) rfl)
theorem w128 {Z : State} {a0 : Array Value} (hw : ∀ d ∈ tables_1, d.before a0 Z = true) : (Jvm.Cond.instanceMethod ({ cls := "java/lang/AbstractStringBuilder", name := "isLatin1", desc := "()Z" } : Jvm.MethodName)).before a0 Z = true := hw _ (List.mem_of_getElem? (i := 128) rfl)
theorem pd_19 : parseMethodDescriptor "()Z" = some ⟨[], some .boolean⟩ := by decide +kernel
theorem d_jdk_42_method_150_code_19 : decode jdk_42_method_150_code 19 = .ok (.ifCond .eq 22, 3) := by decide +kernel
theorem d_jdk_42_method_150_code_22 : decode jdk_42_method_150_code 22 = .ok (.aload_n 0, 1) := by decide +kernel
theorem d_jdk_42_method_150_code_23 : decode jdk_42_method_150_code 23 = .ok (.iconst 0, 1) := by decide +kernel
theorem d_jdk_42_method_150_code_24 : decode jdk_42_method_150_code 24 = .ok (.putfield 15, 3) := by decide +kernel
theorem d_jdk_42_method_150_code_27 : decode jdk_42_method_150_code 27 = .ok (.aload_n 0, 1) := by decide +kernel
theorem d_jdk_42_method_150_code_28 : decode jdk_42_method_150_code 28 = .ok (.aload_n 3, 1) := by decide +kernel
theorem d_jdk_42_method_150_code_29 : decode jdk_42_method_150_code 29 = .ok (.iconst 0, 1) := by decide +kernel
theorem d_jdk_42_method_150_code_30 : decode jdk_42_method_150_code 30 = .ok (.iload 4, 2) := by decide +kernel
theorem d_jdk_42_method_150_code_32 : decode jdk_42_method_150_code 32 = .ok (.invokestatic 54, 3) := by decide +kernel
theorem w131 {Z : State} {a0 : Array Value} (hw : ∀ d ∈ tables_1, d.before a0 Z = true) : (Jvm.Cond.methodLink "java/lang/String" (54 : Nat) ({ cls := "java/util/Arrays", name := "copyOfRange", desc := "([BII)[B" } : Jvm.MethodName)).before a0 Z = true := hw _ (List.mem_of_getElem? (i := 131) rfl)
theorem w134 {Z : State} {a0 : Array Value} (hw : ∀ d ∈ tables_1, d.before a0 Z = true) : (Jvm.Cond.code ({ cls := "java/util/Arrays", name := "copyOfRange", desc := "([BII)[B" } : Jvm.MethodName) jdk_65_method_132_code (3 : Nat) (Option.some (Jvm.ClassFile.FieldType.array Jvm.ClassFile.FieldType.byte))).before a0 Z = true := hw _ (List.mem_of_getElem? (i := 134) rfl)
theorem w132 {Z : State} {a0 : Array Value} (hw : ∀ d ∈ tables_1, d.before a0 Z = true) : (Jvm.Cond.static ({ cls := "java/util/Arrays", name := "copyOfRange", desc := "([BII)[B" } : Jvm.MethodName)).before a0 Z = true := hw _ (List.mem_of_getElem? (i := 132) rfl)
theorem d_jdk_42_method_150_code_35 : decode jdk_42_method_150_code 35 = .ok (.putfield 9, 3) := by decide +kernel
theorem d_jdk_42_method_150_code_38 : decode jdk_42_method_150_code 38 = .ok (.goto 59, 3) := by decide +kernel
theorem d_jdk_42_method_150_code_97 : decode jdk_42_method_150_code 97 = .ok (.return_, 1) := by decide +kernel
theorem pl_30 : plainFor (⟨"java/lang/String", "<init>", "(Ljava/lang/AbstractStringBuilder;Ljava/lang/Void;)V"⟩ : MethodName) = true := by first | exact plainFor_of_name (by first | (simp [plainName, overriddenIn]; done) | decide +kernel) | decide +kernel
theorem d_jdk_42_method_53_code_0 : decode jdk_42_method_53_code 0 = .ok (.aload_n 0, 1) := by decide +kernel
theorem d_jdk_42_method_53_code_1 : decode jdk_42_method_53_code 1 = .ok (.aload_n 1, 1) := by decide +kernel
theorem d_jdk_42_method_53_code_2 : decode jdk_42_method_53_code 2 = .ok (.aconst_null, 1) := by decide +kernel
theorem d_jdk_42_method_53_code_3 : decode jdk_42_method_53_code 3 = .ok (.invokespecial 489, 3) := by decide +kernel
theorem w110 {Z : State} {a0 : Array Value} (hw : ∀ d ∈ tables_1, d.before a0 Z = true) : (Jvm.Cond.methodLink "java/lang/String" (489 : Nat) ({ cls := "java/lang/String", name := "<init>", desc := "(Ljava/lang/AbstractStringBuilder;Ljava/lang/Void;)V" } : Jvm.MethodName)).before a0 Z = true := hw _ (List.mem_of_getElem? (i := 110) rfl)
theorem w112 {Z : State} {a0 : Array Value} (hw : ∀ d ∈ tables_1, d.before a0 Z = true) : (Jvm.Cond.code ({ cls := "java/lang/String", name := "<init>", desc := "(Ljava/lang/AbstractStringBuilder;Ljava/lang/Void;)V" } : Jvm.MethodName) jdk_42_method_150_code (5 : Nat) (Option.none : Option Jvm.ClassFile.FieldType)).before a0 Z = true := hw _ (List.mem_of_getElem? (i := 112) rfl)
theorem w111 {Z : State} {a0 : Array Value} (hw : ∀ d ∈ tables_1, d.before a0 Z = true) : (Jvm.Cond.instanceMethod ({ cls := "java/lang/String", name := "<init>", desc := "(Ljava/lang/AbstractStringBuilder;Ljava/lang/Void;)V" } : Jvm.MethodName)).before a0 Z = true := hw _ (List.mem_of_getElem? (i := 111) rfl)
theorem pd_20 : parseMethodDescriptor "(Ljava/lang/AbstractStringBuilder;Ljava/lang/Void;)V" = some ⟨[(.object "java/lang/AbstractStringBuilder"), (.object "java/lang/Void")], none⟩ := by decide +kernel
theorem d_jdk_42_method_53_code_6 : decode jdk_42_method_53_code 6 = .ok (.return_, 1) := by decide +kernel
theorem pl_31 : plainFor (⟨"java/lang/String", "<init>", "(Ljava/lang/StringBuilder;)V"⟩ : MethodName) = true := by first | exact plainFor_of_name (by first | (simp [plainName, overriddenIn]; done) | decide +kernel) | decide +kernel
theorem d_jdk_67_method_42_code_0 : decode jdk_67_method_42_code 0 = .ok (.new 18, 3) := by decide +kernel
theorem w106 {Z : State} {a0 : Array Value} (hw : ∀ d ∈ tables_1, d.before a0 Z = true) : (Jvm.Cond.classLink "java/lang/StringBuilder" (18 : Nat) "java/lang/String").before a0 Z = true := hw _ (List.mem_of_getElem? (i := 106) rfl)
theorem d_jdk_67_method_42_code_3 : decode jdk_67_method_42_code 3 = .ok (.dup, 1) := by decide +kernel
theorem d_jdk_67_method_42_code_4 : decode jdk_67_method_42_code 4 = .ok (.aload_n 0, 1) := by decide +kernel
theorem d_jdk_67_method_42_code_5 : decode jdk_67_method_42_code 5 = .ok (.invokespecial 137, 3) := by decide +kernel
theorem w107 {Z : State} {a0 : Array Value} (hw : ∀ d ∈ tables_1, d.before a0 Z = true) : (Jvm.Cond.methodLink "java/lang/StringBuilder" (137 : Nat) ({ cls := "java/lang/String", name := "<init>", desc := "(Ljava/lang/StringBuilder;)V" } : Jvm.MethodName)).before a0 Z = true := hw _ (List.mem_of_getElem? (i := 107) rfl)
theorem w109 {Z : State} {a0 : Array Value} (hw : ∀ d ∈ tables_1, d.before a0 Z = true) : (Jvm.Cond.code ({ cls := "java/lang/String", name := "<init>", desc := "(Ljava/lang/StringBuilder;)V" } : Jvm.MethodName) jdk_42_method_53_code (2 : Nat) (Option.none : Option Jvm.ClassFile.FieldType)).before a0 Z = true := hw _ (List.mem_of_getElem? (i := 109) rfl)
theorem w108 {Z : State} {a0 : Array Value} (hw : ∀ d ∈ tables_1, d.before a0 Z = true) : (Jvm.Cond.instanceMethod ({ cls := "java/lang/String", name := "<init>", desc := "(Ljava/lang/StringBuilder;)V" } : Jvm.MethodName)).before a0 Z = true := hw _ (List.mem_of_getElem? (i := 108) rfl)
theorem pd_21 : parseMethodDescriptor "(Ljava/lang/StringBuilder;)V" = some ⟨[(.object "java/lang/StringBuilder")], none⟩ := by decide +kernel
theorem d_jdk_67_method_42_code_8 : decode jdk_67_method_42_code 8 = .ok (.areturn, 1) := by decide +kernel
theorem pl_32 : plainFor (⟨"java/lang/StringBuilder", "toString", "()Ljava/lang/String;"⟩ : MethodName) = true := by first | exact plainFor_of_name (by first | (simp [plainName, overriddenIn]; done) | decide +kernel) | decide +kernel
theorem d_method_2_code_0 : decode method_2_code 0 = .ok (.iload_n 0, 1) := by decide +kernel
theorem d_method_2_code_1 : decode method_2_code 1 = .ok (.iload_n 1, 1) := by decide +kernel
theorem d_method_2_code_2 : decode method_2_code 2 = .ok (.iushr, 1) := by decide +kernel
theorem d_method_2_code_3 : decode method_2_code 3 = .ok (.sipush 255, 3) := by decide +kernel
theorem d_method_2_code_6 : decode method_2_code 6 = .ok (.iand, 1) := by decide +kernel
theorem d_method_2_code_7 : decode method_2_code 7 = .ok (.i2c, 1) := by decide +kernel
theorem d_method_2_code_8 : decode method_2_code 8 = .ok (.ireturn, 1) := by decide +kernel
theorem pl_33 : plainFor (⟨"com/example/room_divider/roomdivider/isolation/GeneratedNamesOwnerPinLaw", "ch", "(II)C"⟩ : MethodName) = true := by first | exact plainFor_of_name (by first | (simp [plainName, overriddenIn]; done) | decide +kernel) | decide +kernel
theorem d_method_3_code_0 : decode method_3_code 0 = .ok (.iload_n 1, 1) := by decide +kernel
theorem d_method_3_code_1 : decode method_3_code 1 = .ok (.iconst 0, 1) := by decide +kernel
theorem d_method_3_code_2 : decode method_3_code 2 = .ok (.invokestatic 7, 3) := by decide +kernel
theorem w5 {Z : State} {a0 : Array Value} (hw : ∀ d ∈ tables_1, d.before a0 Z = true) : (Jvm.Cond.methodLink "com/example/room_divider/roomdivider/isolation/GeneratedNamesOwnerPinLaw" (7 : Nat) ({ cls := "com/example/room_divider/roomdivider/isolation/GeneratedNamesOwnerPinLaw", name := "ch", desc := "(II)C" } : Jvm.MethodName)).before a0 Z = true := hw _ (List.mem_of_getElem? (i := 5) rfl)
theorem w7 {Z : State} {a0 : Array Value} (hw : ∀ d ∈ tables_1, d.before a0 Z = true) : (Jvm.Cond.code ({ cls := "com/example/room_divider/roomdivider/isolation/GeneratedNamesOwnerPinLaw", name := "ch", desc := "(II)C" } : Jvm.MethodName) method_2_code (2 : Nat) (Option.some Jvm.ClassFile.FieldType.char)).before a0 Z = true := hw _ (List.mem_of_getElem? (i := 7) rfl)
theorem w3 {Z : State} {a0 : Array Value} (hw : ∀ d ∈ tables_1, d.before a0 Z = true) : (Jvm.Cond.initialized "com/example/room_divider/roomdivider/isolation/GeneratedNamesOwnerPinLaw").before a0 Z = true := hw _ (List.mem_of_getElem? (i := 3) rfl)
theorem w6 {Z : State} {a0 : Array Value} (hw : ∀ d ∈ tables_1, d.before a0 Z = true) : (Jvm.Cond.static ({ cls := "com/example/room_divider/roomdivider/isolation/GeneratedNamesOwnerPinLaw", name := "ch", desc := "(II)C" } : Jvm.MethodName)).before a0 Z = true := hw _ (List.mem_of_getElem? (i := 6) rfl)
theorem pd_22 : parseMethodDescriptor "(II)C" = some ⟨[.int, .int], some .char⟩ := by decide +kernel
theorem d_method_3_code_5 : decode method_3_code 5 = .ok (.istore_n 3, 1) := by decide +kernel
theorem d_method_3_code_6 : decode method_3_code 6 = .ok (.iload_n 1, 1) := by decide +kernel
theorem d_method_3_code_7 : decode method_3_code 7 = .ok (.bipush 8, 2) := by decide +kernel
theorem d_method_3_code_9 : decode method_3_code 9 = .ok (.invokestatic 7, 3) := by decide +kernel
theorem d_method_3_code_12 : decode method_3_code 12 = .ok (.istore 4, 2) := by decide +kernel
theorem d_method_3_code_14 : decode method_3_code 14 = .ok (.iload_n 1, 1) := by decide +kernel
theorem d_method_3_code_15 : decode method_3_code 15 = .ok (.bipush 16, 2) := by decide +kernel
theorem d_method_3_code_17 : decode method_3_code 17 = .ok (.invokestatic 7, 3) := by decide +kernel
theorem d_method_3_code_20 : decode method_3_code 20 = .ok (.istore 5, 2) := by decide +kernel
theorem d_method_3_code_22 : decode method_3_code 22 = .ok (.iload_n 1, 1) := by decide +kernel
theorem d_method_3_code_23 : decode method_3_code 23 = .ok (.bipush 24, 2) := by decide +kernel
theorem d_method_3_code_25 : decode method_3_code 25 = .ok (.invokestatic 7, 3) := by decide +kernel
theorem d_method_3_code_28 : decode method_3_code 28 = .ok (.istore 6, 2) := by decide +kernel
theorem d_method_3_code_30 : decode method_3_code 30 = .ok (.iload_n 2, 1) := by decide +kernel
theorem d_method_3_code_31 : decode method_3_code 31 = .ok (.iconst 0, 1) := by decide +kernel
theorem d_method_3_code_32 : decode method_3_code 32 = .ok (.invokestatic 7, 3) := by decide +kernel
theorem d_method_3_code_35 : decode method_3_code 35 = .ok (.istore 7, 2) := by decide +kernel
theorem d_method_3_code_37 : decode method_3_code 37 = .ok (.iload_n 0, 1) := by decide +kernel
theorem d_method_3_code_38 : decode method_3_code 38 = .ok (.ifCond .ne 14, 3) := by decide +kernel
theorem d_method_3_code_52 : decode method_3_code 52 = .ok (.iload_n 0, 1) := by decide +kernel
theorem d_method_3_code_53 : decode method_3_code 53 = .ok (.iconst 1, 1) := by decide +kernel
theorem d_method_3_code_54 : decode method_3_code 54 = .ok (.if_icmp .ne 18, 3) := by decide +kernel
theorem d_method_3_code_72 : decode method_3_code 72 = .ok (.iload_n 0, 1) := by decide +kernel
theorem d_method_3_code_73 : decode method_3_code 73 = .ok (.iconst 2, 1) := by decide +kernel
theorem d_method_3_code_74 : decode method_3_code 74 = .ok (.if_icmp .ne 23, 3) := by decide +kernel
theorem d_method_3_code_97 : decode method_3_code 97 = .ok (.iload_n 0, 1) := by decide +kernel
theorem d_method_3_code_98 : decode method_3_code 98 = .ok (.iconst 3, 1) := by decide +kernel
theorem d_method_3_code_99 : decode method_3_code 99 = .ok (.if_icmp .ne 28, 3) := by decide +kernel
theorem d_method_3_code_127 : decode method_3_code 127 = .ok (.iload_n 0, 1) := by decide +kernel
theorem d_method_3_code_128 : decode method_3_code 128 = .ok (.iconst 4, 1) := by decide +kernel
theorem d_method_3_code_129 : decode method_3_code 129 = .ok (.if_icmp .ne 33, 3) := by decide +kernel
theorem d_method_3_code_162 : decode method_3_code 162 = .ok (.new 13, 3) := by decide +kernel
theorem w8 {Z : State} {a0 : Array Value} (hw : ∀ d ∈ tables_1, d.before a0 Z = true) : (Jvm.Cond.classLink "com/example/room_divider/roomdivider/isolation/GeneratedNamesOwnerPinLaw" (13 : Nat) "java/lang/String").before a0 Z = true := hw _ (List.mem_of_getElem? (i := 8) rfl)
theorem d_method_3_code_165 : decode method_3_code 165 = .ok (.dup, 1) := by decide +kernel
theorem d_method_3_code_166 : decode method_3_code 166 = .ok (.iconst 5, 1) := by decide +kernel
theorem d_method_3_code_167 : decode method_3_code 167 = .ok (.newarray .char, 2) := by decide +kernel
theorem w11 {Z : State} {a0 : Array Value} (hw : ∀ d ∈ tables_1, d.before a0 Z = true) : (Jvm.Cond.arrayClass Jvm.ClassFile.FieldType.char).before a0 Z = true := hw _ (List.mem_of_getElem? (i := 11) rfl)
theorem d_method_3_code_169 : decode method_3_code 169 = .ok (.dup, 1) := by decide +kernel
theorem d_method_3_code_170 : decode method_3_code 170 = .ok (.iconst 0, 1) := by decide +kernel
theorem d_method_3_code_171 : decode method_3_code 171 = .ok (.iload_n 3, 1) := by decide +kernel
theorem d_method_3_code_172 : decode method_3_code 172 = .ok (.castore, 1) := by decide +kernel
theorem d_method_3_code_173 : decode method_3_code 173 = .ok (.dup, 1) := by decide +kernel
theorem d_method_3_code_174 : decode method_3_code 174 = .ok (.iconst 1, 1) := by decide +kernel
theorem d_method_3_code_175 : decode method_3_code 175 = .ok (.iload 4, 2) := by decide +kernel
theorem d_method_3_code_177 : decode method_3_code 177 = .ok (.castore, 1) := by decide +kernel
theorem d_method_3_code_178 : decode method_3_code 178 = .ok (.dup, 1) := by decide +kernel
theorem d_method_3_code_179 : decode method_3_code 179 = .ok (.iconst 2, 1) := by decide +kernel
theorem d_method_3_code_180 : decode method_3_code 180 = .ok (.iload 5, 2) := by decide +kernel
theorem d_method_3_code_182 : decode method_3_code 182 = .ok (.castore, 1) := by decide +kernel
theorem d_method_3_code_183 : decode method_3_code 183 = .ok (.dup, 1) := by decide +kernel
theorem d_method_3_code_184 : decode method_3_code 184 = .ok (.iconst 3, 1) := by decide +kernel
theorem d_method_3_code_185 : decode method_3_code 185 = .ok (.iload 6, 2) := by decide +kernel
theorem d_method_3_code_187 : decode method_3_code 187 = .ok (.castore, 1) := by decide +kernel
theorem d_method_3_code_188 : decode method_3_code 188 = .ok (.dup, 1) := by decide +kernel
theorem d_method_3_code_189 : decode method_3_code 189 = .ok (.iconst 4, 1) := by decide +kernel
theorem d_method_3_code_190 : decode method_3_code 190 = .ok (.iload 7, 2) := by decide +kernel
theorem d_method_3_code_192 : decode method_3_code 192 = .ok (.castore, 1) := by decide +kernel
theorem d_method_3_code_193 : decode method_3_code 193 = .ok (.invokespecial 15, 3) := by decide +kernel
theorem w12 {Z : State} {a0 : Array Value} (hw : ∀ d ∈ tables_1, d.before a0 Z = true) : (Jvm.Cond.methodLink "com/example/room_divider/roomdivider/isolation/GeneratedNamesOwnerPinLaw" (15 : Nat) ({ cls := "java/lang/String", name := "<init>", desc := "([C)V" } : Jvm.MethodName)).before a0 Z = true := hw _ (List.mem_of_getElem? (i := 12) rfl)
theorem w14 {Z : State} {a0 : Array Value} (hw : ∀ d ∈ tables_1, d.before a0 Z = true) : (Jvm.Cond.code ({ cls := "java/lang/String", name := "<init>", desc := "([C)V" } : Jvm.MethodName) jdk_42_method_3_code (2 : Nat) (Option.none : Option Jvm.ClassFile.FieldType)).before a0 Z = true := hw _ (List.mem_of_getElem? (i := 14) rfl)
theorem w13 {Z : State} {a0 : Array Value} (hw : ∀ d ∈ tables_1, d.before a0 Z = true) : (Jvm.Cond.instanceMethod ({ cls := "java/lang/String", name := "<init>", desc := "([C)V" } : Jvm.MethodName)).before a0 Z = true := hw _ (List.mem_of_getElem? (i := 13) rfl)
theorem pd_23 : parseMethodDescriptor "([C)V" = some ⟨[(.array .char)], none⟩ := by decide +kernel
theorem d_method_3_code_196 : decode method_3_code 196 = .ok (.areturn, 1) := by decide +kernel
theorem d_method_3_code_132 : decode method_3_code 132 = .ok (.new 13, 3) := by decide +kernel
theorem d_method_3_code_135 : decode method_3_code 135 = .ok (.dup, 1) := by decide +kernel
theorem d_method_3_code_136 : decode method_3_code 136 = .ok (.iconst 4, 1) := by decide +kernel
theorem d_method_3_code_137 : decode method_3_code 137 = .ok (.newarray .char, 2) := by decide +kernel
theorem d_method_3_code_139 : decode method_3_code 139 = .ok (.dup, 1) := by decide +kernel
theorem d_method_3_code_140 : decode method_3_code 140 = .ok (.iconst 0, 1) := by decide +kernel
theorem d_method_3_code_141 : decode method_3_code 141 = .ok (.iload_n 3, 1) := by decide +kernel
theorem d_method_3_code_142 : decode method_3_code 142 = .ok (.castore, 1) := by decide +kernel
theorem d_method_3_code_143 : decode method_3_code 143 = .ok (.dup, 1) := by decide +kernel
theorem d_method_3_code_144 : decode method_3_code 144 = .ok (.iconst 1, 1) := by decide +kernel
theorem d_method_3_code_145 : decode method_3_code 145 = .ok (.iload 4, 2) := by decide +kernel
theorem d_method_3_code_147 : decode method_3_code 147 = .ok (.castore, 1) := by decide +kernel
theorem d_method_3_code_148 : decode method_3_code 148 = .ok (.dup, 1) := by decide +kernel
theorem d_method_3_code_149 : decode method_3_code 149 = .ok (.iconst 2, 1) := by decide +kernel
theorem d_method_3_code_150 : decode method_3_code 150 = .ok (.iload 5, 2) := by decide +kernel
theorem d_method_3_code_152 : decode method_3_code 152 = .ok (.castore, 1) := by decide +kernel
theorem d_method_3_code_153 : decode method_3_code 153 = .ok (.dup, 1) := by decide +kernel
theorem d_method_3_code_154 : decode method_3_code 154 = .ok (.iconst 3, 1) := by decide +kernel
theorem d_method_3_code_155 : decode method_3_code 155 = .ok (.iload 6, 2) := by decide +kernel
theorem d_method_3_code_157 : decode method_3_code 157 = .ok (.castore, 1) := by decide +kernel
theorem d_method_3_code_158 : decode method_3_code 158 = .ok (.invokespecial 15, 3) := by decide +kernel
theorem d_method_3_code_161 : decode method_3_code 161 = .ok (.areturn, 1) := by decide +kernel
theorem d_method_3_code_102 : decode method_3_code 102 = .ok (.new 13, 3) := by decide +kernel
theorem d_method_3_code_105 : decode method_3_code 105 = .ok (.dup, 1) := by decide +kernel
theorem d_method_3_code_106 : decode method_3_code 106 = .ok (.iconst 3, 1) := by decide +kernel
theorem d_method_3_code_107 : decode method_3_code 107 = .ok (.newarray .char, 2) := by decide +kernel
theorem d_method_3_code_109 : decode method_3_code 109 = .ok (.dup, 1) := by decide +kernel
theorem d_method_3_code_110 : decode method_3_code 110 = .ok (.iconst 0, 1) := by decide +kernel
theorem d_method_3_code_111 : decode method_3_code 111 = .ok (.iload_n 3, 1) := by decide +kernel
theorem d_method_3_code_112 : decode method_3_code 112 = .ok (.castore, 1) := by decide +kernel
theorem d_method_3_code_113 : decode method_3_code 113 = .ok (.dup, 1) := by decide +kernel
theorem d_method_3_code_114 : decode method_3_code 114 = .ok (.iconst 1, 1) := by decide +kernel
theorem d_method_3_code_115 : decode method_3_code 115 = .ok (.iload 4, 2) := by decide +kernel
theorem d_method_3_code_117 : decode method_3_code 117 = .ok (.castore, 1) := by decide +kernel
theorem d_method_3_code_118 : decode method_3_code 118 = .ok (.dup, 1) := by decide +kernel
theorem d_method_3_code_119 : decode method_3_code 119 = .ok (.iconst 2, 1) := by decide +kernel
theorem d_method_3_code_120 : decode method_3_code 120 = .ok (.iload 5, 2) := by decide +kernel
theorem d_method_3_code_122 : decode method_3_code 122 = .ok (.castore, 1) := by decide +kernel
theorem d_method_3_code_123 : decode method_3_code 123 = .ok (.invokespecial 15, 3) := by decide +kernel
theorem d_method_3_code_126 : decode method_3_code 126 = .ok (.areturn, 1) := by decide +kernel
theorem d_method_3_code_77 : decode method_3_code 77 = .ok (.new 13, 3) := by decide +kernel
theorem d_method_3_code_80 : decode method_3_code 80 = .ok (.dup, 1) := by decide +kernel
theorem d_method_3_code_81 : decode method_3_code 81 = .ok (.iconst 2, 1) := by decide +kernel
theorem d_method_3_code_82 : decode method_3_code 82 = .ok (.newarray .char, 2) := by decide +kernel
theorem d_method_3_code_84 : decode method_3_code 84 = .ok (.dup, 1) := by decide +kernel
theorem d_method_3_code_85 : decode method_3_code 85 = .ok (.iconst 0, 1) := by decide +kernel
theorem d_method_3_code_86 : decode method_3_code 86 = .ok (.iload_n 3, 1) := by decide +kernel
theorem d_method_3_code_87 : decode method_3_code 87 = .ok (.castore, 1) := by decide +kernel
theorem d_method_3_code_88 : decode method_3_code 88 = .ok (.dup, 1) := by decide +kernel
theorem d_method_3_code_89 : decode method_3_code 89 = .ok (.iconst 1, 1) := by decide +kernel
theorem d_method_3_code_90 : decode method_3_code 90 = .ok (.iload 4, 2) := by decide +kernel
theorem d_method_3_code_92 : decode method_3_code 92 = .ok (.castore, 1) := by decide +kernel
theorem d_method_3_code_93 : decode method_3_code 93 = .ok (.invokespecial 15, 3) := by decide +kernel
theorem d_method_3_code_96 : decode method_3_code 96 = .ok (.areturn, 1) := by decide +kernel
theorem d_method_3_code_57 : decode method_3_code 57 = .ok (.new 13, 3) := by decide +kernel
theorem d_method_3_code_60 : decode method_3_code 60 = .ok (.dup, 1) := by decide +kernel
theorem d_method_3_code_61 : decode method_3_code 61 = .ok (.iconst 1, 1) := by decide +kernel
theorem d_method_3_code_62 : decode method_3_code 62 = .ok (.newarray .char, 2) := by decide +kernel
theorem d_method_3_code_64 : decode method_3_code 64 = .ok (.dup, 1) := by decide +kernel
theorem d_method_3_code_65 : decode method_3_code 65 = .ok (.iconst 0, 1) := by decide +kernel
theorem d_method_3_code_66 : decode method_3_code 66 = .ok (.iload_n 3, 1) := by decide +kernel
theorem d_method_3_code_67 : decode method_3_code 67 = .ok (.castore, 1) := by decide +kernel
theorem d_method_3_code_68 : decode method_3_code 68 = .ok (.invokespecial 15, 3) := by decide +kernel
theorem d_method_3_code_71 : decode method_3_code 71 = .ok (.areturn, 1) := by decide +kernel
theorem d_method_3_code_41 : decode method_3_code 41 = .ok (.new 13, 3) := by decide +kernel
theorem d_method_3_code_44 : decode method_3_code 44 = .ok (.dup, 1) := by decide +kernel
theorem d_method_3_code_45 : decode method_3_code 45 = .ok (.iconst 0, 1) := by decide +kernel
theorem d_method_3_code_46 : decode method_3_code 46 = .ok (.newarray .char, 2) := by decide +kernel
theorem d_method_3_code_48 : decode method_3_code 48 = .ok (.invokespecial 15, 3) := by decide +kernel
theorem d_method_3_code_51 : decode method_3_code 51 = .ok (.areturn, 1) := by decide +kernel
theorem pl_34 : plainFor (⟨"com/example/room_divider/roomdivider/isolation/GeneratedNamesOwnerPinLaw", "mk", "(III)Ljava/lang/String;"⟩ : MethodName) = true := by first | exact plainFor_of_name (by first | (simp [plainName, overriddenIn]; done) | decide +kernel) | decide +kernel
theorem d_prog_2_method_2_code_0 : decode prog_2_method_2_code 0 = .ok (.new 7, 3) := by decide +kernel
theorem w34 {Z : State} {a0 : Array Value} (hw : ∀ d ∈ tables_1, d.before a0 Z = true) : (Jvm.Cond.classLink "com/example/room_divider/roomdivider/isolation/GeneratedNames" (7 : Nat) "java/lang/StringBuilder").before a0 Z = true := hw _ (List.mem_of_getElem? (i := 34) rfl)
theorem d_prog_2_method_2_code_3 : decode prog_2_method_2_code 3 = .ok (.dup, 1) := by decide +kernel
theorem d_prog_2_method_2_code_4 : decode prog_2_method_2_code 4 = .ok (.invokespecial 9, 3) := by decide +kernel
theorem w37 {Z : State} {a0 : Array Value} (hw : ∀ d ∈ tables_1, d.before a0 Z = true) : (Jvm.Cond.methodLink "com/example/room_divider/roomdivider/isolation/GeneratedNames" (9 : Nat) ({ cls := "java/lang/StringBuilder", name := "<init>", desc := "()V" } : Jvm.MethodName)).before a0 Z = true := hw _ (List.mem_of_getElem? (i := 37) rfl)
theorem w39 {Z : State} {a0 : Array Value} (hw : ∀ d ∈ tables_1, d.before a0 Z = true) : (Jvm.Cond.code ({ cls := "java/lang/StringBuilder", name := "<init>", desc := "()V" } : Jvm.MethodName) jdk_67_method_1_code (1 : Nat) (Option.none : Option Jvm.ClassFile.FieldType)).before a0 Z = true := hw _ (List.mem_of_getElem? (i := 39) rfl)
theorem w38 {Z : State} {a0 : Array Value} (hw : ∀ d ∈ tables_1, d.before a0 Z = true) : (Jvm.Cond.instanceMethod ({ cls := "java/lang/StringBuilder", name := "<init>", desc := "()V" } : Jvm.MethodName)).before a0 Z = true := hw _ (List.mem_of_getElem? (i := 38) rfl)
theorem pd_24 : parseMethodDescriptor "()V" = some ⟨[], none⟩ := by decide +kernel
theorem d_prog_2_method_2_code_7 : decode prog_2_method_2_code 7 = .ok (.aload_n 0, 1) := by decide +kernel
theorem d_prog_2_method_2_code_8 : decode prog_2_method_2_code 8 = .ok (.invokevirtual 10, 3) := by decide +kernel
theorem w52 {Z : State} {a0 : Array Value} (hw : ∀ d ∈ tables_1, d.before a0 Z = true) : (Jvm.Cond.methodLink "com/example/room_divider/roomdivider/isolation/GeneratedNames" (10 : Nat) ({ cls := "java/lang/StringBuilder", name := "append", desc := "(Ljava/lang/String;)Ljava/lang/StringBuilder;" } : Jvm.MethodName)).before a0 Z = true := hw _ (List.mem_of_getElem? (i := 52) rfl)
theorem w56 {Z : State} {a0 : Array Value} (hw : ∀ d ∈ tables_1, d.before a0 Z = true) : (Jvm.Cond.code ({ cls := "java/lang/StringBuilder", name := "append", desc := "(Ljava/lang/String;)Ljava/lang/StringBuilder;" } : Jvm.MethodName) jdk_67_method_7_code (2 : Nat) (Option.some (Jvm.ClassFile.FieldType.object "java/lang/StringBuilder"))).before a0 Z = true := hw _ (List.mem_of_getElem? (i := 56) rfl)
theorem w55 {Z : State} {a0 : Array Value} (hw : ∀ d ∈ tables_1, d.before a0 Z = true) : (Jvm.Cond.selects "java/lang/StringBuilder" ({ cls := "java/lang/StringBuilder", name := "append", desc := "(Ljava/lang/String;)Ljava/lang/StringBuilder;" } : Jvm.MethodName) ({ cls := "java/lang/StringBuilder", name := "append", desc := "(Ljava/lang/String;)Ljava/lang/StringBuilder;" } : Jvm.MethodName)).before a0 Z = true := hw _ (List.mem_of_getElem? (i := 55) rfl)
theorem w53 {Z : State} {a0 : Array Value} (hw : ∀ d ∈ tables_1, d.before a0 Z = true) : (Jvm.Cond.declares ({ cls := "java/lang/StringBuilder", name := "append", desc := "(Ljava/lang/String;)Ljava/lang/StringBuilder;" } : Jvm.MethodName)).before a0 Z = true := hw _ (List.mem_of_getElem? (i := 53) rfl)
theorem w54 {Z : State} {a0 : Array Value} (hw : ∀ d ∈ tables_1, d.before a0 Z = true) : (Jvm.Cond.instanceMethod ({ cls := "java/lang/StringBuilder", name := "append", desc := "(Ljava/lang/String;)Ljava/lang/StringBuilder;" } : Jvm.MethodName)).before a0 Z = true := hw _ (List.mem_of_getElem? (i := 54) rfl)
theorem pd_25 : parseMethodDescriptor "(Ljava/lang/String;)Ljava/lang/StringBuilder;" = some ⟨[(.object "java/lang/String")], some (.object "java/lang/StringBuilder")⟩ := by decide +kernel
theorem d_prog_2_method_2_code_11 : decode prog_2_method_2_code 11 = .ok (.ldc 16, 2) := by decide +kernel
theorem w100 {Z : State} {a0 : Array Value} (hw : ∀ d ∈ tables_1, d.before a0 Z = true) : (Jvm.Cond.stringLink "com/example/room_divider/roomdivider/isolation/GeneratedNames" (16 : Nat) "$$RoomStatics").before a0 Z = true := hw _ (List.mem_of_getElem? (i := 100) rfl)
theorem d_prog_2_method_2_code_13 : decode prog_2_method_2_code 13 = .ok (.invokevirtual 10, 3) := by decide +kernel
theorem d_prog_2_method_2_code_16 : decode prog_2_method_2_code 16 = .ok (.invokevirtual 18, 3) := by decide +kernel
theorem w101 {Z : State} {a0 : Array Value} (hw : ∀ d ∈ tables_1, d.before a0 Z = true) : (Jvm.Cond.methodLink "com/example/room_divider/roomdivider/isolation/GeneratedNames" (18 : Nat) ({ cls := "java/lang/StringBuilder", name := "toString", desc := "()Ljava/lang/String;" } : Jvm.MethodName)).before a0 Z = true := hw _ (List.mem_of_getElem? (i := 101) rfl)
theorem w105 {Z : State} {a0 : Array Value} (hw : ∀ d ∈ tables_1, d.before a0 Z = true) : (Jvm.Cond.code ({ cls := "java/lang/StringBuilder", name := "toString", desc := "()Ljava/lang/String;" } : Jvm.MethodName) jdk_67_method_42_code (1 : Nat) (Option.some (Jvm.ClassFile.FieldType.object "java/lang/String"))).before a0 Z = true := hw _ (List.mem_of_getElem? (i := 105) rfl)
theorem w104 {Z : State} {a0 : Array Value} (hw : ∀ d ∈ tables_1, d.before a0 Z = true) : (Jvm.Cond.selects "java/lang/StringBuilder" ({ cls := "java/lang/StringBuilder", name := "toString", desc := "()Ljava/lang/String;" } : Jvm.MethodName) ({ cls := "java/lang/StringBuilder", name := "toString", desc := "()Ljava/lang/String;" } : Jvm.MethodName)).before a0 Z = true := hw _ (List.mem_of_getElem? (i := 104) rfl)
theorem w102 {Z : State} {a0 : Array Value} (hw : ∀ d ∈ tables_1, d.before a0 Z = true) : (Jvm.Cond.declares ({ cls := "java/lang/StringBuilder", name := "toString", desc := "()Ljava/lang/String;" } : Jvm.MethodName)).before a0 Z = true := hw _ (List.mem_of_getElem? (i := 102) rfl)
theorem w103 {Z : State} {a0 : Array Value} (hw : ∀ d ∈ tables_1, d.before a0 Z = true) : (Jvm.Cond.instanceMethod ({ cls := "java/lang/StringBuilder", name := "toString", desc := "()Ljava/lang/String;" } : Jvm.MethodName)).before a0 Z = true := hw _ (List.mem_of_getElem? (i := 103) rfl)
theorem pd_26 : parseMethodDescriptor "()Ljava/lang/String;" = some ⟨[], some (.object "java/lang/String")⟩ := by decide +kernel
theorem d_prog_2_method_2_code_19 : decode prog_2_method_2_code 19 = .ok (.areturn, 1) := by decide +kernel
theorem pl_35 : plainFor (⟨"com/example/room_divider/roomdivider/isolation/GeneratedNames", "companion", "(Ljava/lang/String;)Ljava/lang/String;"⟩ : MethodName) = true := by first | exact plainFor_of_name (by first | (simp [plainName, overriddenIn]; done) | decide +kernel) | decide +kernel
theorem d_jdk_41_method_12_code_0 : decode jdk_41_method_12_code 0 = .ok (.iload_n 0, 1) := by decide +kernel
theorem d_jdk_41_method_12_code_1 : decode jdk_41_method_12_code 1 = .ok (.ifCond .lt 13, 3) := by decide +kernel
theorem d_jdk_41_method_12_code_4 : decode jdk_41_method_12_code 4 = .ok (.iload_n 0, 1) := by decide +kernel
theorem d_jdk_41_method_12_code_5 : decode jdk_41_method_12_code 5 = .ok (.iload_n 1, 1) := by decide +kernel
theorem d_jdk_41_method_12_code_6 : decode jdk_41_method_12_code 6 = .ok (.if_icmp .gt 8, 3) := by decide +kernel
theorem d_jdk_41_method_12_code_9 : decode jdk_41_method_12_code 9 = .ok (.iload_n 1, 1) := by decide +kernel
theorem d_jdk_41_method_12_code_10 : decode jdk_41_method_12_code 10 = .ok (.iload_n 2, 1) := by decide +kernel
theorem d_jdk_41_method_12_code_11 : decode jdk_41_method_12_code 11 = .ok (.if_icmp .le 11, 3) := by decide +kernel
theorem d_jdk_41_method_12_code_22 : decode jdk_41_method_12_code 22 = .ok (.iload_n 0, 1) := by decide +kernel
theorem d_jdk_41_method_12_code_23 : decode jdk_41_method_12_code 23 = .ok (.ireturn, 1) := by decide +kernel
theorem pl_36 : plainFor (⟨"jdk/internal/util/Preconditions", "checkFromToIndex", "(IIILjava/util/function/BiFunction;)I"⟩ : MethodName) = true := by first | exact plainFor_of_name (by first | (simp [plainName, overriddenIn]; done) | decide +kernel) | decide +kernel
theorem d_jdk_42_method_158_code_0 : decode jdk_42_method_158_code 0 = .ok (.iload_n 0, 1) := by decide +kernel
theorem d_jdk_42_method_158_code_1 : decode jdk_42_method_158_code 1 = .ok (.iload_n 1, 1) := by decide +kernel
theorem d_jdk_42_method_158_code_2 : decode jdk_42_method_158_code 2 = .ok (.iload_n 2, 1) := by decide +kernel
theorem d_jdk_42_method_158_code_3 : decode jdk_42_method_158_code 3 = .ok (.getstatic 1053, 3) := by decide +kernel
theorem w159 {Z : State} {a0 : Array Value} (hw : ∀ d ∈ tables_1, d.before a0 Z = true) : (Jvm.Cond.fieldLink "java/lang/String" (1053 : Nat) "jdk/internal/util/Preconditions" "SIOOBE_FORMATTER" "Ljava/util/function/BiFunction;").before a0 Z = true := hw _ (List.mem_of_getElem? (i := 159) rfl)
theorem d_jdk_42_method_158_code_6 : decode jdk_42_method_158_code 6 = .ok (.invokestatic 1062, 3) := by decide +kernel
theorem w161 {Z : State} {a0 : Array Value} (hw : ∀ d ∈ tables_1, d.before a0 Z = true) : (Jvm.Cond.methodLink "java/lang/String" (1062 : Nat) ({ cls := "jdk/internal/util/Preconditions", name := "checkFromToIndex", desc := "(IIILjava/util/function/BiFunction;)I" } : Jvm.MethodName)).before a0 Z = true := hw _ (List.mem_of_getElem? (i := 161) rfl)
theorem w163 {Z : State} {a0 : Array Value} (hw : ∀ d ∈ tables_1, d.before a0 Z = true) : (Jvm.Cond.code ({ cls := "jdk/internal/util/Preconditions", name := "checkFromToIndex", desc := "(IIILjava/util/function/BiFunction;)I" } : Jvm.MethodName) jdk_41_method_12_code (4 : Nat) (Option.some Jvm.ClassFile.FieldType.int)).before a0 Z = true := hw _ (List.mem_of_getElem? (i := 163) rfl)
theorem w160 {Z : State} {a0 : Array Value} (hw : ∀ d ∈ tables_1, d.before a0 Z = true) : (Jvm.Cond.initialized "jdk/internal/util/Preconditions").before a0 Z = true := hw _ (List.mem_of_getElem? (i := 160) rfl)
theorem w162 {Z : State} {a0 : Array Value} (hw : ∀ d ∈ tables_1, d.before a0 Z = true) : (Jvm.Cond.static ({ cls := "jdk/internal/util/Preconditions", name := "checkFromToIndex", desc := "(IIILjava/util/function/BiFunction;)I" } : Jvm.MethodName)).before a0 Z = true := hw _ (List.mem_of_getElem? (i := 162) rfl)
theorem pd_27 : parseMethodDescriptor "(IIILjava/util/function/BiFunction;)I" = some ⟨[.int, .int, .int, (.object "java/util/function/BiFunction")], some .int⟩ := by decide +kernel
theorem d_jdk_42_method_158_code_9 : decode jdk_42_method_158_code 9 = .ok (.pop, 1) := by decide +kernel
theorem d_jdk_42_method_158_code_10 : decode jdk_42_method_158_code 10 = .ok (.return_, 1) := by decide +kernel
theorem pl_37 : plainFor (⟨"java/lang/String", "checkBoundsBeginEnd", "(III)V"⟩ : MethodName) = true := by first | exact plainFor_of_name (by first | (simp [plainName, overriddenIn]; done) | decide +kernel) | decide +kernel
theorem d_jdk_42_method_151_code_0 : decode jdk_42_method_151_code 0 = .ok (.aload_n 0, 1) := by decide +kernel
theorem d_jdk_42_method_151_code_1 : decode jdk_42_method_151_code 1 = .ok (.invokespecial 1, 3) := by decide +kernel
theorem d_jdk_42_method_151_code_4 : decode jdk_42_method_151_code 4 = .ok (.aload_n 0, 1) := by decide +kernel
theorem d_jdk_42_method_151_code_5 : decode jdk_42_method_151_code 5 = .ok (.aload_n 1, 1) := by decide +kernel
theorem d_jdk_42_method_151_code_6 : decode jdk_42_method_151_code 6 = .ok (.putfield 9, 3) := by decide +kernel
theorem d_jdk_42_method_151_code_9 : decode jdk_42_method_151_code 9 = .ok (.aload_n 0, 1) := by decide +kernel
theorem d_jdk_42_method_151_code_10 : decode jdk_42_method_151_code 10 = .ok (.iload_n 2, 1) := by decide +kernel
theorem d_jdk_42_method_151_code_11 : decode jdk_42_method_151_code 11 = .ok (.putfield 15, 3) := by decide +kernel
theorem d_jdk_42_method_151_code_14 : decode jdk_42_method_151_code 14 = .ok (.return_, 1) := by decide +kernel
theorem pl_38 : plainFor (⟨"java/lang/String", "<init>", "([BB)V"⟩ : MethodName) = true := by first | exact plainFor_of_name (by first | (simp [plainName, overriddenIn]; done) | decide +kernel) | decide +kernel
theorem d_jdk_43_method_47_code_0 : decode jdk_43_method_47_code 0 = .ok (.iload_n 2, 1) := by decide +kernel
theorem d_jdk_43_method_47_code_1 : decode jdk_43_method_47_code 1 = .ok (.ifCond .ne 6, 3) := by decide +kernel
theorem d_jdk_43_method_47_code_7 : decode jdk_43_method_47_code 7 = .ok (.new 1, 3) := by decide +kernel
theorem w193 {Z : State} {a0 : Array Value} (hw : ∀ d ∈ tables_1, d.before a0 Z = true) : (Jvm.Cond.classLink "java/lang/StringLatin1" (1 : Nat) "java/lang/String").before a0 Z = true := hw _ (List.mem_of_getElem? (i := 193) rfl)
theorem d_jdk_43_method_47_code_10 : decode jdk_43_method_47_code 10 = .ok (.dup, 1) := by decide +kernel
theorem d_jdk_43_method_47_code_11 : decode jdk_43_method_47_code 11 = .ok (.aload_n 0, 1) := by decide +kernel
theorem d_jdk_43_method_47_code_12 : decode jdk_43_method_47_code 12 = .ok (.iload_n 1, 1) := by decide +kernel
theorem d_jdk_43_method_47_code_13 : decode jdk_43_method_47_code 13 = .ok (.iload_n 1, 1) := by decide +kernel
theorem d_jdk_43_method_47_code_14 : decode jdk_43_method_47_code 14 = .ok (.iload_n 2, 1) := by decide +kernel
theorem d_jdk_43_method_47_code_15 : decode jdk_43_method_47_code 15 = .ok (.iadd, 1) := by decide +kernel
theorem d_jdk_43_method_47_code_16 : decode jdk_43_method_47_code 16 = .ok (.invokestatic 232, 3) := by decide +kernel
theorem w194 {Z : State} {a0 : Array Value} (hw : ∀ d ∈ tables_1, d.before a0 Z = true) : (Jvm.Cond.methodLink "java/lang/StringLatin1" (232 : Nat) ({ cls := "java/util/Arrays", name := "copyOfRange", desc := "([BII)[B" } : Jvm.MethodName)).before a0 Z = true := hw _ (List.mem_of_getElem? (i := 194) rfl)
theorem d_jdk_43_method_47_code_19 : decode jdk_43_method_47_code 19 = .ok (.iconst 0, 1) := by decide +kernel
theorem d_jdk_43_method_47_code_20 : decode jdk_43_method_47_code 20 = .ok (.invokespecial 112, 3) := by decide +kernel
theorem w195 {Z : State} {a0 : Array Value} (hw : ∀ d ∈ tables_1, d.before a0 Z = true) : (Jvm.Cond.methodLink "java/lang/StringLatin1" (112 : Nat) ({ cls := "java/lang/String", name := "<init>", desc := "([BB)V" } : Jvm.MethodName)).before a0 Z = true := hw _ (List.mem_of_getElem? (i := 195) rfl)
theorem w197 {Z : State} {a0 : Array Value} (hw : ∀ d ∈ tables_1, d.before a0 Z = true) : (Jvm.Cond.code ({ cls := "java/lang/String", name := "<init>", desc := "([BB)V" } : Jvm.MethodName) jdk_42_method_151_code (3 : Nat) (Option.none : Option Jvm.ClassFile.FieldType)).before a0 Z = true := hw _ (List.mem_of_getElem? (i := 197) rfl)
theorem w196 {Z : State} {a0 : Array Value} (hw : ∀ d ∈ tables_1, d.before a0 Z = true) : (Jvm.Cond.instanceMethod ({ cls := "java/lang/String", name := "<init>", desc := "([BB)V" } : Jvm.MethodName)).before a0 Z = true := hw _ (List.mem_of_getElem? (i := 196) rfl)
theorem pd_28 : parseMethodDescriptor "([BB)V" = some ⟨[(.array .byte), .byte], none⟩ := by decide +kernel
theorem d_jdk_43_method_47_code_23 : decode jdk_43_method_47_code 23 = .ok (.areturn, 1) := by decide +kernel
theorem d_jdk_43_method_47_code_4 : decode jdk_43_method_47_code 4 = .ok (.ldc 151, 2) := by decide +kernel
theorem w173 {Z : State} {a0 : Array Value} (hw : ∀ d ∈ tables_1, d.before a0 Z = true) : (Jvm.Cond.stringLink "java/lang/StringLatin1" (151 : Nat) "").before a0 Z = true := hw _ (List.mem_of_getElem? (i := 173) rfl)
theorem d_jdk_43_method_47_code_6 : decode jdk_43_method_47_code 6 = .ok (.areturn, 1) := by decide +kernel
theorem pl_39 : plainFor (⟨"java/lang/StringLatin1", "newString", "([BII)Ljava/lang/String;"⟩ : MethodName) = true := by first | exact plainFor_of_name (by first | (simp [plainName, overriddenIn]; done) | decide +kernel) | decide +kernel
theorem d_jdk_42_method_92_code_0 : decode jdk_42_method_92_code 0 = .ok (.aload_n 0, 1) := by decide +kernel
theorem d_jdk_42_method_92_code_1 : decode jdk_42_method_92_code 1 = .ok (.invokevirtual 505, 3) := by decide +kernel
theorem w155 {Z : State} {a0 : Array Value} (hw : ∀ d ∈ tables_1, d.before a0 Z = true) : (Jvm.Cond.methodLink "java/lang/String" (505 : Nat) ({ cls := "java/lang/String", name := "length", desc := "()I" } : Jvm.MethodName)).before a0 Z = true := hw _ (List.mem_of_getElem? (i := 155) rfl)
theorem d_jdk_42_method_92_code_4 : decode jdk_42_method_92_code 4 = .ok (.istore_n 3, 1) := by decide +kernel
theorem d_jdk_42_method_92_code_5 : decode jdk_42_method_92_code 5 = .ok (.iload_n 1, 1) := by decide +kernel
theorem d_jdk_42_method_92_code_6 : decode jdk_42_method_92_code 6 = .ok (.iload_n 2, 1) := by decide +kernel
theorem d_jdk_42_method_92_code_7 : decode jdk_42_method_92_code 7 = .ok (.iload_n 3, 1) := by decide +kernel
theorem d_jdk_42_method_92_code_8 : decode jdk_42_method_92_code 8 = .ok (.invokestatic 521, 3) := by decide +kernel
theorem w156 {Z : State} {a0 : Array Value} (hw : ∀ d ∈ tables_1, d.before a0 Z = true) : (Jvm.Cond.methodLink "java/lang/String" (521 : Nat) ({ cls := "java/lang/String", name := "checkBoundsBeginEnd", desc := "(III)V" } : Jvm.MethodName)).before a0 Z = true := hw _ (List.mem_of_getElem? (i := 156) rfl)
theorem w158 {Z : State} {a0 : Array Value} (hw : ∀ d ∈ tables_1, d.before a0 Z = true) : (Jvm.Cond.code ({ cls := "java/lang/String", name := "checkBoundsBeginEnd", desc := "(III)V" } : Jvm.MethodName) jdk_42_method_158_code (3 : Nat) (Option.none : Option Jvm.ClassFile.FieldType)).before a0 Z = true := hw _ (List.mem_of_getElem? (i := 158) rfl)
theorem w157 {Z : State} {a0 : Array Value} (hw : ∀ d ∈ tables_1, d.before a0 Z = true) : (Jvm.Cond.static ({ cls := "java/lang/String", name := "checkBoundsBeginEnd", desc := "(III)V" } : Jvm.MethodName)).before a0 Z = true := hw _ (List.mem_of_getElem? (i := 157) rfl)
theorem pd_29 : parseMethodDescriptor "(III)V" = some ⟨[.int, .int, .int], none⟩ := by decide +kernel
theorem d_jdk_42_method_92_code_11 : decode jdk_42_method_92_code 11 = .ok (.iload_n 1, 1) := by decide +kernel
theorem d_jdk_42_method_92_code_12 : decode jdk_42_method_92_code 12 = .ok (.ifCond .ne 10, 3) := by decide +kernel
theorem d_jdk_42_method_92_code_15 : decode jdk_42_method_92_code 15 = .ok (.iload_n 2, 1) := by decide +kernel
theorem d_jdk_42_method_92_code_16 : decode jdk_42_method_92_code 16 = .ok (.iload_n 3, 1) := by decide +kernel
theorem d_jdk_42_method_92_code_17 : decode jdk_42_method_92_code 17 = .ok (.if_icmp .ne 5, 3) := by decide +kernel
theorem d_jdk_42_method_92_code_22 : decode jdk_42_method_92_code 22 = .ok (.iload_n 2, 1) := by decide +kernel
theorem d_jdk_42_method_92_code_23 : decode jdk_42_method_92_code 23 = .ok (.iload_n 1, 1) := by decide +kernel
theorem d_jdk_42_method_92_code_24 : decode jdk_42_method_92_code 24 = .ok (.isub, 1) := by decide +kernel
theorem d_jdk_42_method_92_code_25 : decode jdk_42_method_92_code 25 = .ok (.istore 4, 2) := by decide +kernel
theorem d_jdk_42_method_92_code_27 : decode jdk_42_method_92_code 27 = .ok (.aload_n 0, 1) := by decide +kernel
theorem d_jdk_42_method_92_code_28 : decode jdk_42_method_92_code 28 = .ok (.invokevirtual 492, 3) := by decide +kernel
theorem w164 {Z : State} {a0 : Array Value} (hw : ∀ d ∈ tables_1, d.before a0 Z = true) : (Jvm.Cond.methodLink "java/lang/String" (492 : Nat) ({ cls := "java/lang/String", name := "isLatin1", desc := "()Z" } : Jvm.MethodName)).before a0 Z = true := hw _ (List.mem_of_getElem? (i := 164) rfl)
theorem w168 {Z : State} {a0 : Array Value} (hw : ∀ d ∈ tables_1, d.before a0 Z = true) : (Jvm.Cond.code ({ cls := "java/lang/String", name := "isLatin1", desc := "()Z" } : Jvm.MethodName) jdk_42_method_154_code (1 : Nat) (Option.some Jvm.ClassFile.FieldType.boolean)).before a0 Z = true := hw _ (List.mem_of_getElem? (i := 168) rfl)
theorem w167 {Z : State} {a0 : Array Value} (hw : ∀ d ∈ tables_1, d.before a0 Z = true) : (Jvm.Cond.selects "java/lang/String" ({ cls := "java/lang/String", name := "isLatin1", desc := "()Z" } : Jvm.MethodName) ({ cls := "java/lang/String", name := "isLatin1", desc := "()Z" } : Jvm.MethodName)).before a0 Z = true := hw _ (List.mem_of_getElem? (i := 167) rfl)
theorem w165 {Z : State} {a0 : Array Value} (hw : ∀ d ∈ tables_1, d.before a0 Z = true) : (Jvm.Cond.declares ({ cls := "java/lang/String", name := "isLatin1", desc := "()Z" } : Jvm.MethodName)).before a0 Z = true := hw _ (List.mem_of_getElem? (i := 165) rfl)
theorem w166 {Z : State} {a0 : Array Value} (hw : ∀ d ∈ tables_1, d.before a0 Z = true) : (Jvm.Cond.instanceMethod ({ cls := "java/lang/String", name := "isLatin1", desc := "()Z" } : Jvm.MethodName)).before a0 Z = true := hw _ (List.mem_of_getElem? (i := 166) rfl)
theorem d_jdk_42_method_92_code_31 : decode jdk_42_method_92_code 31 = .ok (.ifCond .eq 16, 3) := by decide +kernel
theorem d_jdk_42_method_92_code_34 : decode jdk_42_method_92_code 34 = .ok (.aload_n 0, 1) := by decide +kernel
theorem d_jdk_42_method_92_code_35 : decode jdk_42_method_92_code 35 = .ok (.getfield 9, 3) := by decide +kernel
theorem d_jdk_42_method_92_code_38 : decode jdk_42_method_92_code 38 = .ok (.iload_n 1, 1) := by decide +kernel
theorem d_jdk_42_method_92_code_39 : decode jdk_42_method_92_code 39 = .ok (.iload 4, 2) := by decide +kernel
theorem d_jdk_42_method_92_code_41 : decode jdk_42_method_92_code 41 = .ok (.invokestatic 685, 3) := by decide +kernel
theorem w169 {Z : State} {a0 : Array Value} (hw : ∀ d ∈ tables_1, d.before a0 Z = true) : (Jvm.Cond.methodLink "java/lang/String" (685 : Nat) ({ cls := "java/lang/StringLatin1", name := "newString", desc := "([BII)Ljava/lang/String;" } : Jvm.MethodName)).before a0 Z = true := hw _ (List.mem_of_getElem? (i := 169) rfl)
theorem w172 {Z : State} {a0 : Array Value} (hw : ∀ d ∈ tables_1, d.before a0 Z = true) : (Jvm.Cond.code ({ cls := "java/lang/StringLatin1", name := "newString", desc := "([BII)Ljava/lang/String;" } : Jvm.MethodName) jdk_43_method_47_code (3 : Nat) (Option.some (Jvm.ClassFile.FieldType.object "java/lang/String"))).before a0 Z = true := hw _ (List.mem_of_getElem? (i := 172) rfl)
theorem w170 {Z : State} {a0 : Array Value} (hw : ∀ d ∈ tables_1, d.before a0 Z = true) : (Jvm.Cond.static ({ cls := "java/lang/StringLatin1", name := "newString", desc := "([BII)Ljava/lang/String;" } : Jvm.MethodName)).before a0 Z = true := hw _ (List.mem_of_getElem? (i := 170) rfl)
theorem pd_30 : parseMethodDescriptor "([BII)Ljava/lang/String;" = some ⟨[(.array .byte), .int, .int], some (.object "java/lang/String")⟩ := by decide +kernel
theorem d_jdk_42_method_92_code_44 : decode jdk_42_method_92_code 44 = .ok (.goto 13, 3) := by decide +kernel
theorem d_jdk_42_method_92_code_57 : decode jdk_42_method_92_code 57 = .ok (.areturn, 1) := by decide +kernel
theorem pl_40 : plainFor (⟨"java/lang/String", "substring", "(II)Ljava/lang/String;"⟩ : MethodName) = true := by first | exact plainFor_of_name (by first | (simp [plainName, overriddenIn]; done) | decide +kernel) | decide +kernel
theorem d_prog_2_method_4_code_0 : decode prog_2_method_4_code 0 = .ok (.aload_n 0, 1) := by decide +kernel
theorem d_prog_2_method_4_code_1 : decode prog_2_method_4_code 1 = .ok (.iconst 0, 1) := by decide +kernel
theorem d_prog_2_method_4_code_2 : decode prog_2_method_4_code 2 = .ok (.aload_n 0, 1) := by decide +kernel
theorem d_prog_2_method_4_code_3 : decode prog_2_method_4_code 3 = .ok (.invokevirtual 28, 3) := by decide +kernel
theorem w149 {Z : State} {a0 : Array Value} (hw : ∀ d ∈ tables_1, d.before a0 Z = true) : (Jvm.Cond.methodLink "com/example/room_divider/roomdivider/isolation/GeneratedNames" (28 : Nat) ({ cls := "java/lang/String", name := "length", desc := "()I" } : Jvm.MethodName)).before a0 Z = true := hw _ (List.mem_of_getElem? (i := 149) rfl)
theorem d_prog_2_method_4_code_6 : decode prog_2_method_4_code 6 = .ok (.ldc 16, 2) := by decide +kernel
theorem d_prog_2_method_4_code_8 : decode prog_2_method_4_code 8 = .ok (.invokevirtual 28, 3) := by decide +kernel
theorem d_prog_2_method_4_code_11 : decode prog_2_method_4_code 11 = .ok (.isub, 1) := by decide +kernel
theorem d_prog_2_method_4_code_12 : decode prog_2_method_4_code 12 = .ok (.invokevirtual 32, 3) := by decide +kernel
theorem w150 {Z : State} {a0 : Array Value} (hw : ∀ d ∈ tables_1, d.before a0 Z = true) : (Jvm.Cond.methodLink "com/example/room_divider/roomdivider/isolation/GeneratedNames" (32 : Nat) ({ cls := "java/lang/String", name := "substring", desc := "(II)Ljava/lang/String;" } : Jvm.MethodName)).before a0 Z = true := hw _ (List.mem_of_getElem? (i := 150) rfl)
theorem w154 {Z : State} {a0 : Array Value} (hw : ∀ d ∈ tables_1, d.before a0 Z = true) : (Jvm.Cond.code ({ cls := "java/lang/String", name := "substring", desc := "(II)Ljava/lang/String;" } : Jvm.MethodName) jdk_42_method_92_code (5 : Nat) (Option.some (Jvm.ClassFile.FieldType.object "java/lang/String"))).before a0 Z = true := hw _ (List.mem_of_getElem? (i := 154) rfl)
theorem w153 {Z : State} {a0 : Array Value} (hw : ∀ d ∈ tables_1, d.before a0 Z = true) : (Jvm.Cond.selects "java/lang/String" ({ cls := "java/lang/String", name := "substring", desc := "(II)Ljava/lang/String;" } : Jvm.MethodName) ({ cls := "java/lang/String", name := "substring", desc := "(II)Ljava/lang/String;" } : Jvm.MethodName)).before a0 Z = true := hw _ (List.mem_of_getElem? (i := 153) rfl)
theorem w151 {Z : State} {a0 : Array Value} (hw : ∀ d ∈ tables_1, d.before a0 Z = true) : (Jvm.Cond.declares ({ cls := "java/lang/String", name := "substring", desc := "(II)Ljava/lang/String;" } : Jvm.MethodName)).before a0 Z = true := hw _ (List.mem_of_getElem? (i := 151) rfl)
theorem w152 {Z : State} {a0 : Array Value} (hw : ∀ d ∈ tables_1, d.before a0 Z = true) : (Jvm.Cond.instanceMethod ({ cls := "java/lang/String", name := "substring", desc := "(II)Ljava/lang/String;" } : Jvm.MethodName)).before a0 Z = true := hw _ (List.mem_of_getElem? (i := 152) rfl)
theorem pd_31 : parseMethodDescriptor "(II)Ljava/lang/String;" = some ⟨[.int, .int], some (.object "java/lang/String")⟩ := by decide +kernel
theorem d_prog_2_method_4_code_15 : decode prog_2_method_4_code 15 = .ok (.areturn, 1) := by decide +kernel
theorem pl_41 : plainFor (⟨"com/example/room_divider/roomdivider/isolation/GeneratedNames", "owner", "(Ljava/lang/String;)Ljava/lang/String;"⟩ : MethodName) = true := by first | exact plainFor_of_name (by first | (simp [plainName, overriddenIn]; done) | decide +kernel) | decide +kernel
theorem w0 {Z : State} {a0 : Array Value} (hw : ∀ d ∈ tables_1, d.before a0 Z = true) : (Jvm.Cond.constant "com/example/room_divider/roomdivider/isolation/GeneratedNamesOwnerPinLaw" (18 : Nat) (2147483647 : Int32)).before a0 Z = true := hw _ (List.mem_of_getElem? (i := 0) rfl)
theorem w1 {Z : State} {a0 : Array Value} (hw : ∀ d ∈ tables_1, d.before a0 Z = true) : (Jvm.Cond.methodLink "com/example/room_divider/roomdivider/isolation/GeneratedNamesOwnerPinLaw" (19 : Nat) ({ cls := "com/example/room_divider/roomdivider/isolation/GeneratedNamesOwnerPinLaw", name := "mk", desc := "(III)Ljava/lang/String;" } : Jvm.MethodName)).before a0 Z = true := hw _ (List.mem_of_getElem? (i := 1) rfl)
theorem w4 {Z : State} {a0 : Array Value} (hw : ∀ d ∈ tables_1, d.before a0 Z = true) : (Jvm.Cond.code ({ cls := "com/example/room_divider/roomdivider/isolation/GeneratedNamesOwnerPinLaw", name := "mk", desc := "(III)Ljava/lang/String;" } : Jvm.MethodName) method_3_code (8 : Nat) (Option.some (Jvm.ClassFile.FieldType.object "java/lang/String"))).before a0 Z = true := hw _ (List.mem_of_getElem? (i := 4) rfl)
theorem w2 {Z : State} {a0 : Array Value} (hw : ∀ d ∈ tables_1, d.before a0 Z = true) : (Jvm.Cond.static ({ cls := "com/example/room_divider/roomdivider/isolation/GeneratedNamesOwnerPinLaw", name := "mk", desc := "(III)Ljava/lang/String;" } : Jvm.MethodName)).before a0 Z = true := hw _ (List.mem_of_getElem? (i := 2) rfl)
theorem pd_32 : parseMethodDescriptor "(III)Ljava/lang/String;" = some ⟨[.int, .int, .int], some (.object "java/lang/String")⟩ := by decide +kernel
theorem w30 {Z : State} {a0 : Array Value} (hw : ∀ d ∈ tables_1, d.before a0 Z = true) : (Jvm.Cond.methodLink "com/example/room_divider/roomdivider/isolation/GeneratedNamesOwnerPinLaw" (23 : Nat) ({ cls := "com/example/room_divider/roomdivider/isolation/GeneratedNames", name := "companion", desc := "(Ljava/lang/String;)Ljava/lang/String;" } : Jvm.MethodName)).before a0 Z = true := hw _ (List.mem_of_getElem? (i := 30) rfl)
theorem w33 {Z : State} {a0 : Array Value} (hw : ∀ d ∈ tables_1, d.before a0 Z = true) : (Jvm.Cond.code ({ cls := "com/example/room_divider/roomdivider/isolation/GeneratedNames", name := "companion", desc := "(Ljava/lang/String;)Ljava/lang/String;" } : Jvm.MethodName) prog_2_method_2_code (1 : Nat) (Option.some (Jvm.ClassFile.FieldType.object "java/lang/String"))).before a0 Z = true := hw _ (List.mem_of_getElem? (i := 33) rfl)
theorem w32 {Z : State} {a0 : Array Value} (hw : ∀ d ∈ tables_1, d.before a0 Z = true) : (Jvm.Cond.initialized "com/example/room_divider/roomdivider/isolation/GeneratedNames").before a0 Z = true := hw _ (List.mem_of_getElem? (i := 32) rfl)
theorem w31 {Z : State} {a0 : Array Value} (hw : ∀ d ∈ tables_1, d.before a0 Z = true) : (Jvm.Cond.static ({ cls := "com/example/room_divider/roomdivider/isolation/GeneratedNames", name := "companion", desc := "(Ljava/lang/String;)Ljava/lang/String;" } : Jvm.MethodName)).before a0 Z = true := hw _ (List.mem_of_getElem? (i := 31) rfl)
theorem pd_33 : parseMethodDescriptor "(Ljava/lang/String;)Ljava/lang/String;" = some ⟨[(.object "java/lang/String")], some (.object "java/lang/String")⟩ := by decide +kernel
theorem w146 {Z : State} {a0 : Array Value} (hw : ∀ d ∈ tables_1, d.before a0 Z = true) : (Jvm.Cond.methodLink "com/example/room_divider/roomdivider/isolation/GeneratedNamesOwnerPinLaw" (29 : Nat) ({ cls := "com/example/room_divider/roomdivider/isolation/GeneratedNames", name := "owner", desc := "(Ljava/lang/String;)Ljava/lang/String;" } : Jvm.MethodName)).before a0 Z = true := hw _ (List.mem_of_getElem? (i := 146) rfl)
theorem w148 {Z : State} {a0 : Array Value} (hw : ∀ d ∈ tables_1, d.before a0 Z = true) : (Jvm.Cond.code ({ cls := "com/example/room_divider/roomdivider/isolation/GeneratedNames", name := "owner", desc := "(Ljava/lang/String;)Ljava/lang/String;" } : Jvm.MethodName) prog_2_method_4_code (1 : Nat) (Option.some (Jvm.ClassFile.FieldType.object "java/lang/String"))).before a0 Z = true := hw _ (List.mem_of_getElem? (i := 148) rfl)
theorem w147 {Z : State} {a0 : Array Value} (hw : ∀ d ∈ tables_1, d.before a0 Z = true) : (Jvm.Cond.static ({ cls := "com/example/room_divider/roomdivider/isolation/GeneratedNames", name := "owner", desc := "(Ljava/lang/String;)Ljava/lang/String;" } : Jvm.MethodName)).before a0 Z = true := hw _ (List.mem_of_getElem? (i := 147) rfl)
theorem w174 {Z : State} {a0 : Array Value} (hw : ∀ d ∈ tables_1, d.before a0 Z = true) : (Jvm.Cond.methodLink "com/example/room_divider/roomdivider/isolation/GeneratedNamesOwnerPinLaw" (32 : Nat) ({ cls := "java/lang/String", name := "equals", desc := "(Ljava/lang/Object;)Z" } : Jvm.MethodName)).before a0 Z = true := hw _ (List.mem_of_getElem? (i := 174) rfl)
theorem w178 {Z : State} {a0 : Array Value} (hw : ∀ d ∈ tables_1, d.before a0 Z = true) : (Jvm.Cond.code ({ cls := "java/lang/String", name := "equals", desc := "(Ljava/lang/Object;)Z" } : Jvm.MethodName) jdk_42_method_66_code (3 : Nat) (Option.some Jvm.ClassFile.FieldType.boolean)).before a0 Z = true := hw _ (List.mem_of_getElem? (i := 178) rfl)
theorem w177 {Z : State} {a0 : Array Value} (hw : ∀ d ∈ tables_1, d.before a0 Z = true) : (Jvm.Cond.selects "java/lang/String" ({ cls := "java/lang/String", name := "equals", desc := "(Ljava/lang/Object;)Z" } : Jvm.MethodName) ({ cls := "java/lang/String", name := "equals", desc := "(Ljava/lang/Object;)Z" } : Jvm.MethodName)).before a0 Z = true := hw _ (List.mem_of_getElem? (i := 177) rfl)
theorem w175 {Z : State} {a0 : Array Value} (hw : ∀ d ∈ tables_1, d.before a0 Z = true) : (Jvm.Cond.declares ({ cls := "java/lang/String", name := "equals", desc := "(Ljava/lang/Object;)Z" } : Jvm.MethodName)).before a0 Z = true := hw _ (List.mem_of_getElem? (i := 175) rfl)
theorem w176 {Z : State} {a0 : Array Value} (hw : ∀ d ∈ tables_1, d.before a0 Z = true) : (Jvm.Cond.instanceMethod ({ cls := "java/lang/String", name := "equals", desc := "(Ljava/lang/Object;)Z" } : Jvm.MethodName)).before a0 Z = true := hw _ (List.mem_of_getElem? (i := 176) rfl)
theorem pd_34 : parseMethodDescriptor "(Ljava/lang/Object;)Z" = some ⟨[(.object "java/lang/Object")], some .boolean⟩ := by decide +kernel
theorem pl_42 : plainFor (⟨"com/example/room_divider/roomdivider/isolation/GeneratedNamesOwnerPinLaw", "law", "(III)Z"⟩ : MethodName) = true := by first | exact plainFor_of_name (by first | (simp [plainName, overriddenIn]; done) | decide +kernel) | decide +kernel
def Q_cmp5 (Z : State) (g0 : Int32) (gf : Value) (b : Addr) (d : Addr) (kb : ClassId) (kd : ClassId) (N : Int32) (cs : List Int32) (h : Heap) : QT := fun v' M9 h9 => v' = some (.int N) ∧ M9 = [] ∧ Keep h h9 [d] ∧ Arv Z h9 d kd .byte N (ints (cs.map (nar .byte))) (.int 0)
theorem ef_cmp5 (m9 : MethodId) (b : Addr) (d : Addr) (kb : ClassId) (kd : ClassId) (N : Int32) (cs : List Int32) : entryFrame m9 [(.ref b), (.int (0 : Int32)), (.ref d), (.int (0 : Int32)), (.int N)].toArray 7 = mkF m9 0 #[.val (.ref b), .val (.int (0 : Int32)), .val (.ref d), .val (.int (0 : Int32)), .val (.int N), .unset, .unset] [] := by first | rfl | (simp [entryFrame, mkF, argsToLocals, Value.category]; done)
set_option maxRecDepth 65536 in
set_option maxHeartbeats 4000000 in
theorem m_cmp5 {l : Launch} {Z : State} {a0 : Array Value} {n0 : Nat} {g0 : Int32} {gf : Value} (hC : Ctx l Z a0 n0 g0 gf) (b : Addr) (d : Addr) (kb : ClassId) (kd : ClassId) (N : Int32) (cs : List Int32) (h : Heap) (p0_arv : Arv Z h b kb .char N (ints cs) (.int 0)) (p1_arv : Arv Z h d kd .byte N (ints (List.replicate cs.length 0)) (.int 0)) (hN : N = Int32.ofNat cs.length) (hlen : cs.length ≤ 32) (hlat : ∀ c ∈ cs, ¬ c < 0 ∧ ¬ (255 : Int32) < c) :
    Met l Z EL0 n0 (⟨"java/lang/StringUTF16", "compress", "([CI[BII)I"⟩ : MethodName) jdk_52_method_21_code 7 (some .int) [] ({ frames := 0, cells := 0, slots := 0, locals := 0 } : Room) [(.ref b), (.int (0 : Int32)), (.ref d), (.int (0 : Int32)), (.int N)] [d] h (Q_cmp5 Z g0 gf b d kb kd N cs h) := by
  obtain ⟨hw, hS, hE, hK, hX⟩ := id hC
  refine Met.intro pl_0 (fun m9 => ef_cmp5 m9 b d kb kd N cs) hE ?_
  intro G hG
  have loop : ∀ (r i : Nat) (h1 : Heap) (s6 : Slot), i + r = cs.length → One s6 → Keep h h1 [d] → Arv Z h1 d kd .byte N (ints ((cs.take i).map (nar .byte) ++ List.replicate r 0)) (.int 0) → Arv Z h1 b kb .char N (ints cs) (.int 0) → G [d] h1 0 0 3 #[.val (.ref b), .val (.int (Int32.ofNat i)), .val (.ref d), .val (.int (Int32.ofNat i)), .val (.int N), .val (.int (Int32.ofNat i)), s6] [] := by
    intro r; induction r with
    | zero =>
      intro i h1 s6 hi hs6 K V1 V2
      have e : i = cs.length := by omega
      have V3 : Arv Z h1 d kd .byte N (ints (cs.map (nar .byte))) (.int 0) := by subst e; simpa using V1
      refine iload hG d_jdk_52_method_21_code_3 rfl ?_
      refine iload hG d_jdk_52_method_21_code_5 rfl ?_
      refine icmpYes hG d_jdk_52_method_21_code_7 (flt (by rw [hN]; exact ofN_nlt (by omega) (by omega))).2.1 (by decide) (pc' := 44) rfl ?_
      refine iload hG d_jdk_52_method_21_code_44 rfl ?_
      have K1 : Keep h h1 [d] := ((Keep.refl _ _).trans K (allS (Or.inl (List.mem_of_getElem? (i := 0) rfl)) all0))
      exact ireturn hG d_jdk_52_method_21_code_46 (M' := []) ⟨rfl, rfl, K1, V3⟩ all0 (Nat.le_of_ble_eq_true rfl) (Nat.le_of_ble_eq_true rfl)
    | succ r ih =>
      intro i h1 s6 hi hs6 K V1 V2
      have hin := ofN_in (i := i) (n := cs.length) (by omega) (by omega)
      rw [← hN] at hin
      have hc := hlat _ (getD_in (xs := cs) (i := i) (by omega))
      refine iload hG d_jdk_52_method_21_code_3 rfl ?_
      refine iload hG d_jdk_52_method_21_code_5 rfl ?_
      refine icmpNo hG d_jdk_52_method_21_code_7 (tlt hin.2).2.1 ?_
      refine aloadN hG d_jdk_52_method_21_code_10 rfl rfl ?_
      refine iloadN hG d_jdk_52_method_21_code_11 rfl ?_
      refine caload hG d_jdk_52_method_21_code_12 V2 hin (v := (.int (cs.getD i 0))) (ints_at (by omega)) ?_
      refine istoreS hG d_jdk_52_method_21_code_13 (o := s6) rfl hs6 ?_
      show G [d] h1 (0) (0) 15 #[.val (.ref b), .val (.int (Int32.ofNat i)), .val (.ref d), .val (.int (Int32.ofNat i)), .val (.int N), .val (.int (Int32.ofNat i)), .val (.int (cs.getD i 0))] []
      refine iload hG d_jdk_52_method_21_code_15 rfl ?_
      refine sipush hG d_jdk_52_method_21_code_17 (255) rfl ?_
      refine icmpYes hG d_jdk_52_method_21_code_20 (flt hc.2).2.2.2 (by decide) (pc' := 26) rfl ?_
      refine aloadN hG d_jdk_52_method_21_code_26 rfl rfl ?_
      refine iloadN hG d_jdk_52_method_21_code_27 rfl ?_
      refine iload hG d_jdk_52_method_21_code_28 rfl ?_
      refine i2b hG d_jdk_52_method_21_code_30 ?_
      refine bastore hG d_jdk_52_method_21_code_31 V1 hin (i := i) (ofN_clamp (by omega)) (by simp; omega) (List.mem_of_getElem? (i := 0) rfl) (fun h2 W3 V4 => ?_)
      have V5 : Arv Z h2 d kd .byte N (ints ((cs.take (i + 1)).map (nar .byte) ++ List.replicate r 0)) (.int 0) := by rw [fill_step (by omega) (nar .byte) (byte_idem2 _)] at V4; assumption
      refine iinc hG d_jdk_52_method_21_code_32 rfl (Int32.ofNat (i + 1)) (ofN_succ i) rfl ?_
      refine iinc hG d_jdk_52_method_21_code_35 rfl (Int32.ofNat (i + 1)) (ofN_succ i) rfl ?_
      refine iinc hG d_jdk_52_method_21_code_38 rfl (Int32.ofNat (i + 1)) (ofN_succ i) rfl ?_
      refine goto hG d_jdk_52_method_21_code_41 (by decide) (pc' := 3) rfl ?_
      have ne6 : b ≠ d := (Arv.neTy V2 V1 (by decide))
      have V7 : Arv Z h2 b kb .char N (ints cs) (.int 0) := (V2.other W3 ne6)
      exact ih (i + 1) h2 _ (by omega) (One.val rfl) (((Keep.refl _ _).trans K (allS (Or.inl (List.mem_of_getElem? (i := 0) rfl)) all0)).wr W3 (Or.inl (List.mem_of_getElem? (i := 0) rfl))) V5 V7
  refine iconst hG d_jdk_52_method_21_code_0 (0) rfl ?_
  refine istore hG d_jdk_52_method_21_code_1 rfl ?_
  exact loop cs.length 0 h _ (by omega) One.u (Keep.refl _ _) (by simpa using p1_arv) p0_arv
def Q_cmp3 (Z : State) (g0 : Int32) (gf : Value) (b : Addr) (kb : ClassId) (N : Int32) (cs : List Int32) (h : Heap) : QT := fun v' M9 h9 => ∃ (t : Addr), ∃ (kt : ClassId), v' = some (.ref t) ∧ M9 = [t] ∧ Keep h h9 [] ∧ h.size ≤ t ∧ Arv Z h9 t kt .byte N (ints (cs.map (nar .byte))) (.int 0)
theorem ef_cmp3 (m9 : MethodId) (b : Addr) (kb : ClassId) (N : Int32) (cs : List Int32) : entryFrame m9 [(.ref b), (.int (0 : Int32)), (.int N)].toArray 6 = mkF m9 0 #[.val (.ref b), .val (.int (0 : Int32)), .val (.int N), .unset, .unset, .unset] [] := by first | rfl | (simp [entryFrame, mkF, argsToLocals, Value.category]; done)
set_option maxRecDepth 65536 in
set_option maxHeartbeats 4000000 in
theorem m_cmp3 {l : Launch} {Z : State} {a0 : Array Value} {n0 : Nat} {g0 : Int32} {gf : Value} (hC : Ctx l Z a0 n0 g0 gf) (b : Addr) (kb : ClassId) (N : Int32) (cs : List Int32) (h : Heap) (p0_arv : Arv Z h b kb .char N (ints cs) (.int 0)) (hN : N = Int32.ofNat cs.length) (hlen : cs.length ≤ 32) (hlat : ∀ c ∈ cs, ¬ c < 0 ∧ ¬ (255 : Int32) < c) :
    Met l Z EL0 n0 (⟨"java/lang/StringUTF16", "compress", "([CII)[B"⟩ : MethodName) jdk_52_method_16_code 6 (some (.array .byte)) [] ({ frames := 1, cells := 1, slots := 32, locals := 18 } : Room) [(.ref b), (.int (0 : Int32)), (.int N)] [] h (Q_cmp3 Z g0 gf b kb N cs h) := by
  obtain ⟨hw, hS, hE, hK, hX⟩ := id hC
  refine Met.intro pl_1 (fun m9 => ef_cmp3 m9 b kb N cs) hE ?_
  intro G hG
  refine iloadN hG d_jdk_52_method_16_code_0 rfl ?_
  refine newarray hG d_jdk_52_method_16_code_1 rfl (w23 hw) (by rw [hN]; exact ofN_nn (by omega)) (cap := 32) (by rw [hN, ofN_clamp (by omega)]; exact hlen) (by decide) (Nat.le_of_ble_eq_true rfl) (Nat.le_of_ble_eq_true rfl) (cnt := cs.length) (vs := (ints (List.replicate cs.length 0))) (ints_rep _) (ad := "[B") (by decide +kernel) (fun h8 a9 kk10 g11 E12 V13 X14 => ?_)
  show G [a9] h8 (1) (32) 3 #[.val (.ref b), .val (.int (0 : Int32)), .val (.int N), .unset, .unset, .unset] [(.ref a9)]
  refine astoreN hG d_jdk_52_method_16_code_3 rfl rfl ?_
  refine aloadN hG d_jdk_52_method_16_code_4 rfl rfl ?_
  refine iloadN hG d_jdk_52_method_16_code_5 rfl ?_
  refine aloadN hG d_jdk_52_method_16_code_6 rfl rfl ?_
  refine iconst hG d_jdk_52_method_16_code_7 (0) rfl ?_
  refine iloadN hG d_jdk_52_method_16_code_8 rfl ?_
  have V15 : Arv Z h8 b kb .char N (ints cs) (.int 0) := (p0_arv.ext E12)
  refine callStatic hG d_jdk_52_method_16_code_9 (w187 hw) (w188 hw) (w185 hw) (w189 hw) (by decide) (m_cmp5 hC (b) (a9) (kb) (kk10) (N) (cs) h8 V15 V13 hN hlen hlat) pd_0 rfl (rest := []) rfl rfl (allS (List.mem_of_getElem? (i := 0) rfl) all0) (Nat.le_of_ble_eq_true rfl) (W := 0) (Nat.le_of_ble_eq_true rfl) (Nat.le_of_ble_eq_true rfl) (Nat.le_of_ble_eq_true rfl) (Nat.le_of_ble_eq_true rfl) (fun v16 M17 h18 le19 hq20 => ?_)
  obtain ⟨rfl, rfl, K21, f22⟩ := hq20
  show G [a9] h18 (1) (32) 12 #[.val (.ref b), .val (.int (0 : Int32)), .val (.int N), .val (.ref a9), .unset, .unset] [(.int N)]
  refine istore hG d_jdk_52_method_16_code_12 rfl ?_
  refine iload hG d_jdk_52_method_16_code_14 rfl ?_
  refine iloadN hG d_jdk_52_method_16_code_16 rfl ?_
  refine icmpYes hG d_jdk_52_method_16_code_17 (teq rfl).1 (by decide) (pc' := 57) rfl ?_
  refine aloadN hG d_jdk_52_method_16_code_57 rfl rfl ?_
  have K23 : Keep h h18 [] := (((Keep.refl _ _).ext E12).trans K21 (allS (Or.inr g11) all0))
  exact areturn hG rfl rfl rfl d_jdk_52_method_16_code_58 (M' := [a9]) ⟨a9, kk10, rfl, rfl, K23, g11, f22⟩ (allS (List.mem_of_getElem? (i := 0) rfl) all0) (Nat.le_of_ble_eq_true rfl) (Nat.le_of_ble_eq_true rfl)
def Q_codL (Z : State) (g0 : Int32) (gf : Value) (t : Addr) (kt : ClassId) (N : Int32) (xs : List Int32) (h : Heap) : QT := fun v' M9 h9 => v' = some (.int (0 : Int32)) ∧ M9 = [] ∧ h = h9
theorem ef_codL (m9 : MethodId) (t : Addr) (kt : ClassId) (N : Int32) (xs : List Int32) : entryFrame m9 [(.ref t), (.int N)].toArray 2 = mkF m9 0 #[.val (.ref t), .val (.int N)] [] := by first | rfl | (simp [entryFrame, mkF, argsToLocals, Value.category]; done)
set_option maxRecDepth 65536 in
set_option maxHeartbeats 4000000 in
theorem m_codL {l : Launch} {Z : State} {a0 : Array Value} {n0 : Nat} {g0 : Int32} {gf : Value} (hC : Ctx l Z a0 n0 g0 gf) (t : Addr) (kt : ClassId) (N : Int32) (xs : List Int32) (h : Heap) (p0_arv : Arv Z h t kt .byte N (ints xs) (.int 0)) :
    Met l Z EL0 n0 (⟨"java/lang/StringUTF16", "coderFromArrayLen", "([BI)B"⟩ : MethodName) jdk_52_method_15_code 2 (some .byte) [] ({ frames := 0, cells := 0, slots := 0, locals := 0 } : Room) [(.ref t), (.int N)] [] h (Q_codL Z g0 gf t kt N xs h) := by
  obtain ⟨hw, hS, hE, hK, hX⟩ := id hC
  refine Met.intro pl_2 (fun m9 => ef_codL m9 t kt N xs) hE ?_
  intro G hG
  refine iloadN hG d_jdk_52_method_15_code_0 rfl ?_
  refine aloadN hG d_jdk_52_method_15_code_1 rfl rfl ?_
  refine alen hG d_jdk_52_method_15_code_2 p0_arv ?_
  refine isub hG d_jdk_52_method_15_code_3 ?_
  refine bipush hG d_jdk_52_method_15_code_4 (31) rfl ?_
  refine iushr hG d_jdk_52_method_15_code_6 ?_
  refine i2b hG d_jdk_52_method_15_code_7 ?_
  exact ireturnN hG (by simp) d_jdk_52_method_15_code_8 (M' := []) ⟨(by rw [Int32.sub_self]; decide), rfl, rfl⟩ all0 (Nat.le_of_ble_eq_true rfl) (Nat.le_of_ble_eq_true rfl)
def Q_initV0 (Z : State) (g0 : Int32) (gf : Value) (a : Addr) (b : Addr) (h : Heap) : QT := fun v' M9 h9 => ∃ (t : Addr), ∃ (kt : ClassId), v' = none ∧ M9 = [] ∧ Keep h h9 [a] ∧ Exa Z h9 a "java/lang/String" ∧ Fld Z h9 a "java/lang/String" "coder" "B" (.int (0 : Int32)) ∧ Fld Z h9 a "java/lang/String" "value" "[B" (.ref t) ∧ Arv Z h9 t kt .byte (0 : Int32) (ints []) (.int 0) ∧ (a ≠ t)
theorem ef_initV0 (m9 : MethodId) (a : Addr) (b : Addr) : entryFrame m9 [(.ref a), (.ref b), (.int (0 : Int32)), (.int (0 : Int32)), .null].toArray 6 = mkF m9 0 #[.val (.ref a), .val (.ref b), .val (.int (0 : Int32)), .val (.int (0 : Int32)), .val .null, .unset] [] := by first | rfl | (simp [entryFrame, mkF, argsToLocals, Value.category]; done)
set_option maxRecDepth 65536 in
set_option maxHeartbeats 4000000 in
theorem m_initV0 {l : Launch} {Z : State} {a0 : Array Value} {n0 : Nat} {g0 : Int32} {gf : Value} (hC : Ctx l Z a0 n0 g0 gf) (a : Addr) (b : Addr) (h : Heap) (p0_exa : Exa Z h a "java/lang/String") (p1_fld : Fld Z h a "java/lang/String" "value" "[B" .null) (p2_fld : Fld Z h a "java/lang/String" "coder" "B" (.int (0 : Int32))) :
    Met l Z EL0 n0 (⟨"java/lang/String", "<init>", "([CIILjava/lang/Void;)V"⟩ : MethodName) jdk_42_method_149_code 6 none [] ({ frames := 1, cells := 4, slots := 8, locals := 12 } : Room) [(.ref a), (.ref b), (.int (0 : Int32)), (.int (0 : Int32)), .null] [a] h (Q_initV0 Z g0 gf a b h) := by
  obtain ⟨hw, hS, hE, hK, hX⟩ := id hC
  refine Met.intro pl_3 (fun m9 => ef_initV0 m9 a b) hE ?_
  intro G hG
  refine aloadN hG d_jdk_42_method_149_code_0 rfl rfl ?_
  refine objInit hG d_jdk_42_method_149_code_1 (w19 hw) (w20 hw) (w21 hw) rfl (Nat.le_of_ble_eq_true rfl) (W := 0) (Nat.le_of_ble_eq_true rfl) (Nat.le_of_ble_eq_true rfl) ?_
  refine iloadN hG d_jdk_42_method_149_code_4 rfl ?_
  refine ifNo hG d_jdk_42_method_149_code_5 (by decide) ?_
  refine aloadN hG d_jdk_42_method_149_code_8 rfl rfl ?_
  refine ldc hG d_jdk_42_method_149_code_9 (w22 hw) hS (by decide) (vs := []) (N := 0) ⟨by decide +kernel, by decide +kernel⟩ (by decide) (by decide) (nn := 0) (by decide) (by decide) (Nat.le_of_ble_eq_true rfl) (Nat.le_of_ble_eq_true rfl) (fun h24 a25 b26 kk27 E28 X29 F30 F31 V32 ne33 => ?_)
  show G [a] h24 (2) (4) 11 #[.val (.ref a), .val (.ref b), .val (.int (0 : Int32)), .val (.int (0 : Int32)), .val .null, .unset] [(.ref a25), (.ref a)]
  refine getfield hG d_jdk_42_method_149_code_11 (w28 hw) Via.refl F31 ?_
  have E34 : Exa Z h24 a "java/lang/String" := (p0_exa.ext E28)
  have F35 : Fld Z h24 a "java/lang/String" "value" "[B" .null := (p1_fld.ext E28)
  refine putfield hG d_jdk_42_method_149_code_14 (w28 hw) Via.refl F35 E34 (Or.inr ⟨(w24 hw), rfl, rfl⟩) (w9 hw) pf__B rfl rfl (List.mem_of_getElem? (i := 0) rfl) (fun h36 W37 => ?_)
  have F38 : Fld Z h36 a "java/lang/String" "value" "[B" (.ref b26) := F35.same W37
  refine aloadN hG d_jdk_42_method_149_code_17 rfl rfl ?_
  refine ldc hG d_jdk_42_method_149_code_18 (w22 hw) hS (by decide) (vs := []) (N := 0) ⟨by decide +kernel, by decide +kernel⟩ (by decide) (by decide) (nn := 0) (by decide) (by decide) (Nat.le_of_ble_eq_true rfl) (Nat.le_of_ble_eq_true rfl) (fun h39 a40 b41 kk42 E43 X44 F45 F46 V47 ne48 => ?_)
  show G [a] h39 (4) (8) 20 #[.val (.ref a), .val (.ref b), .val (.int (0 : Int32)), .val (.int (0 : Int32)), .val .null, .unset] [(.ref a40), (.ref a)]
  refine getfield hG d_jdk_42_method_149_code_20 (w29 hw) Via.refl F45 ?_
  have E49 : Exa Z h39 a "java/lang/String" := ((E34.wr W37).ext E43)
  have F50 : Fld Z h39 a "java/lang/String" "coder" "B" (.int (0 : Int32)) := (((p2_fld.ext E28).other W37 (Or.inr (RoadKit.slot_ne (Or.inr (w25 hw)) (Or.inr (w24 hw)) (by decide) pf_B pf__B))).ext E43)
  refine putfield hG d_jdk_42_method_149_code_23 (w29 hw) Via.refl F50 E49 (Or.inr ⟨(w25 hw), rfl, rfl⟩) (w9 hw) pf_B rfl rfl (List.mem_of_getElem? (i := 0) rfl) (fun h51 W52 => ?_)
  have F53 : Fld Z h51 a "java/lang/String" "coder" "B" (.int (0 : Int32)) := F50.same W52
  have E54 : Exa Z h51 a "java/lang/String" := (E49.wr W52)
  have F55 : Fld Z h51 a "java/lang/String" "value" "[B" (.ref b26) := ((F38.ext E43).other W52 (Or.inr (RoadKit.slot_ne (Or.inr (w24 hw)) (Or.inr (w25 hw)) (by decide) pf__B pf_B)))
  have V56 : Arv Z h51 b26 kk27 .byte (0 : Int32) [] (.int 0) := (((V32.other W37 (Ne.symm (ne33 _ (List.mem_of_getElem? (i := 0) rfl)).2)).ext E43).other W52 (Ne.symm (ne33 _ (List.mem_of_getElem? (i := 0) rfl)).2))
  have K57 : Keep h h51 [a] := (((((Keep.refl _ _).ext E28).wr W37 (Or.inl (List.mem_of_getElem? (i := 0) rfl))).ext E43).wr W52 (Or.inl (List.mem_of_getElem? (i := 0) rfl)))
  exact return0 hG d_jdk_42_method_149_code_26 (M' := []) ⟨b26, kk27, rfl, rfl, K57, E54, F53, F55, V56, (ne33 _ (List.mem_of_getElem? (i := 0) rfl)).2⟩ all0 (Nat.le_of_ble_eq_true rfl) (Nat.le_of_ble_eq_true rfl)
def Q_initV1 (Z : State) (g0 : Int32) (gf : Value) (a : Addr) (b : Addr) (kb : ClassId) (N : Int32) (cs : List Int32) (h : Heap) : QT := fun v' M9 h9 => ∃ (t : Addr), ∃ (kt : ClassId), v' = none ∧ M9 = [t] ∧ Keep h h9 [a] ∧ h.size ≤ t ∧ Exa Z h9 a "java/lang/String" ∧ Fld Z h9 a "java/lang/String" "coder" "B" (.int (0 : Int32)) ∧ Fld Z h9 a "java/lang/String" "value" "[B" (.ref t) ∧ Arv Z h9 t kt .byte N (ints (cs.map (nar .byte))) (.int 0)
theorem ef_initV1 (m9 : MethodId) (a : Addr) (b : Addr) (kb : ClassId) (N : Int32) (cs : List Int32) : entryFrame m9 [(.ref a), (.ref b), (.int (0 : Int32)), (.int N), .null].toArray 6 = mkF m9 0 #[.val (.ref a), .val (.ref b), .val (.int (0 : Int32)), .val (.int N), .val .null, .unset] [] := by first | rfl | (simp [entryFrame, mkF, argsToLocals, Value.category]; done)
set_option maxRecDepth 65536 in
set_option maxHeartbeats 4000000 in
theorem m_initV1 {l : Launch} {Z : State} {a0 : Array Value} {n0 : Nat} {g0 : Int32} {gf : Value} (hC : Ctx l Z a0 n0 g0 gf) (a : Addr) (b : Addr) (kb : ClassId) (N : Int32) (cs : List Int32) (h : Heap) (p0_exa : Exa Z h a "java/lang/String") (p1_fld : Fld Z h a "java/lang/String" "value" "[B" .null) (p2_fld : Fld Z h a "java/lang/String" "coder" "B" (.int (0 : Int32))) (p3_arv : Arv Z h b kb .char N (ints cs) (.int 0)) (hN : N = Int32.ofNat cs.length) (hlen : cs.length ≤ 32) (hlat : ∀ c ∈ cs, ¬ c < 0 ∧ ¬ (255 : Int32) < c) (hpos : ¬ N = 0) :
    Met l Z EL0 n0 (⟨"java/lang/String", "<init>", "([CIILjava/lang/Void;)V"⟩ : MethodName) jdk_42_method_149_code 6 none [] ({ frames := 2, cells := 1, slots := 32, locals := 35 } : Room) [(.ref a), (.ref b), (.int (0 : Int32)), (.int N), .null] [a] h (Q_initV1 Z g0 gf a b kb N cs h) := by
  obtain ⟨hw, hS, hE, hK, hX⟩ := id hC
  refine Met.intro pl_3 (fun m9 => ef_initV1 m9 a b kb N cs) hE ?_
  intro G hG
  refine aloadN hG d_jdk_42_method_149_code_0 rfl rfl ?_
  refine objInit hG d_jdk_42_method_149_code_1 (w19 hw) (w20 hw) (w21 hw) rfl (Nat.le_of_ble_eq_true rfl) (W := 0) (Nat.le_of_ble_eq_true rfl) (Nat.le_of_ble_eq_true rfl) ?_
  refine iloadN hG d_jdk_42_method_149_code_4 rfl ?_
  refine ifYes hG d_jdk_42_method_149_code_5 (feq hpos).2 (by decide) (pc' := 27) rfl ?_
  refine getstatic hG d_jdk_42_method_149_code_27 (w72 hw) Via.refl hK.1 ?_
  refine ifNo hG d_jdk_42_method_149_code_30 (feq hK.2).1 ?_
  refine aloadN hG d_jdk_42_method_149_code_33 rfl rfl ?_
  refine iloadN hG d_jdk_42_method_149_code_34 rfl ?_
  refine iloadN hG d_jdk_42_method_149_code_35 rfl ?_
  refine callStatic hG d_jdk_42_method_149_code_36 (w183 hw) (w184 hw) (w185 hw) (w186 hw) (by decide) (m_cmp3 hC (b) (kb) (N) (cs) h p3_arv hN hlen hlat) pd_1 rfl (rest := []) rfl rfl all0 (Nat.le_of_ble_eq_true rfl) (W := 0) (Nat.le_of_ble_eq_true rfl) (Nat.le_of_ble_eq_true rfl) (Nat.le_of_ble_eq_true rfl) (Nat.le_of_ble_eq_true rfl) (fun v58 M59 h60 le61 hq62 => ?_)
  obtain ⟨t63, kt64, rfl, rfl, K65, g66, f67⟩ := hq62
  show G [t63, a] h60 (1) (32) 39 #[.val (.ref a), .val (.ref b), .val (.int (0 : Int32)), .val (.int N), .val .null, .unset] [(.ref t63)]
  refine astore hG d_jdk_42_method_149_code_39 rfl rfl ?_
  refine aloadN hG d_jdk_42_method_149_code_41 rfl rfl ?_
  refine aload hG d_jdk_42_method_149_code_42 rfl rfl ?_
  refine iloadN hG d_jdk_42_method_149_code_44 rfl ?_
  refine callStatic hG d_jdk_42_method_149_code_45 (w190 hw) (w191 hw) (w185 hw) (w192 hw) (by decide) (m_codL hC (t63) (kt64) (N) ((cs.map (nar .byte))) h60 f67) pd_2 rfl (rest := [(.ref a)]) rfl rfl all0 (Nat.le_of_ble_eq_true rfl) (W := 1) (Nat.le_of_ble_eq_true rfl) (Nat.le_of_ble_eq_true rfl) (Nat.le_of_ble_eq_true rfl) (Nat.le_of_ble_eq_true rfl) (fun v68 M69 h70 le71 hq72 => ?_)
  obtain ⟨rfl, rfl, rfl⟩ := hq72
  show G [t63, a] h60 (1) (32) 48 #[.val (.ref a), .val (.ref b), .val (.int (0 : Int32)), .val (.int N), .val .null, .val (.ref t63)] [(.int (0 : Int32)), (.ref a)]
  have E73 : Exa Z h60 a "java/lang/String" := (p0_exa.keep K65)
  have F74 : Fld Z h60 a "java/lang/String" "coder" "B" (.int (0 : Int32)) := (p2_fld.keep K65 nin0)
  refine putfield hG d_jdk_42_method_149_code_48 (w29 hw) Via.refl F74 E73 (Or.inr ⟨(w25 hw), rfl, rfl⟩) (w9 hw) pf_B rfl rfl (List.mem_of_getElem? (i := 1) rfl) (fun h75 W76 => ?_)
  have F77 : Fld Z h75 a "java/lang/String" "coder" "B" (.int (0 : Int32)) := F74.same W76
  refine aloadN hG d_jdk_42_method_149_code_51 rfl rfl ?_
  refine aload hG d_jdk_42_method_149_code_52 rfl rfl ?_
  have E78 : Exa Z h75 a "java/lang/String" := (E73.wr W76)
  have F79 : Fld Z h75 a "java/lang/String" "value" "[B" .null := ((p1_fld.keep K65 nin0).other W76 (Or.inr (RoadKit.slot_ne (Or.inr (w24 hw)) (Or.inr (w25 hw)) (by decide) pf__B pf_B)))
  refine putfield hG d_jdk_42_method_149_code_54 (w28 hw) Via.refl F79 E78 (Or.inr ⟨(w24 hw), rfl, rfl⟩) (w9 hw) pf__B rfl rfl (List.mem_of_getElem? (i := 1) rfl) (fun h80 W81 => ?_)
  have F82 : Fld Z h80 a "java/lang/String" "value" "[B" (.ref t63) := F79.same W81
  have E83 : Exa Z h80 a "java/lang/String" := (E78.wr W81)
  have F84 : Fld Z h80 a "java/lang/String" "coder" "B" (.int (0 : Int32)) := (F77.other W81 (Or.inr (RoadKit.slot_ne (Or.inr (w25 hw)) (Or.inr (w24 hw)) (by decide) pf_B pf__B)))
  have ne85 : t63 ≠ a := (Nat.ne_of_gt (Nat.lt_of_lt_of_le p0_exa.lt g66))
  have V86 : Arv Z h80 t63 kt64 .byte N (ints (cs.map (nar .byte))) (.int 0) := ((f67.other W76 ne85).other W81 ne85)
  have K87 : Keep h h80 [a] := ((((Keep.refl _ _).trans K65 all0).wr W76 (Or.inl (List.mem_of_getElem? (i := 0) rfl))).wr W81 (Or.inl (List.mem_of_getElem? (i := 0) rfl)))
  exact return0 hG d_jdk_42_method_149_code_57 (M' := [t63]) ⟨t63, kt64, rfl, rfl, K87, g66, E83, F84, F82, V86⟩ (allS (List.mem_of_getElem? (i := 0) rfl) all0) (Nat.le_of_ble_eq_true rfl) (Nat.le_of_ble_eq_true rfl)
def Q_initC0 (Z : State) (g0 : Int32) (gf : Value) (a : Addr) (b : Addr) (kb : ClassId) (h : Heap) : QT := fun v' M9 h9 => ∃ (t : Addr), ∃ (kt : ClassId), v' = none ∧ M9 = [] ∧ Keep h h9 [a] ∧ Exa Z h9 a "java/lang/String" ∧ Fld Z h9 a "java/lang/String" "coder" "B" (.int (0 : Int32)) ∧ Fld Z h9 a "java/lang/String" "value" "[B" (.ref t) ∧ Arv Z h9 t kt .byte (0 : Int32) (ints []) (.int 0) ∧ (a ≠ t)
theorem ef_initC0 (m9 : MethodId) (a : Addr) (b : Addr) (kb : ClassId) : entryFrame m9 [(.ref a), (.ref b)].toArray 2 = mkF m9 0 #[.val (.ref a), .val (.ref b)] [] := by first | rfl | (simp [entryFrame, mkF, argsToLocals, Value.category]; done)
set_option maxRecDepth 65536 in
set_option maxHeartbeats 4000000 in
theorem m_initC0 {l : Launch} {Z : State} {a0 : Array Value} {n0 : Nat} {g0 : Int32} {gf : Value} (hC : Ctx l Z a0 n0 g0 gf) (a : Addr) (b : Addr) (kb : ClassId) (h : Heap) (p0_exa : Exa Z h a "java/lang/String") (p1_fld : Fld Z h a "java/lang/String" "value" "[B" .null) (p2_fld : Fld Z h a "java/lang/String" "coder" "B" (.int (0 : Int32))) (p3_arv : Arv Z h b kb .char (0 : Int32) (ints []) (.int 0)) :
    Met l Z EL0 n0 (⟨"java/lang/String", "<init>", "([C)V"⟩ : MethodName) jdk_42_method_3_code 2 none [] ({ frames := 2, cells := 4, slots := 8, locals := 29 } : Room) [(.ref a), (.ref b)] [a] h (Q_initC0 Z g0 gf a b kb h) := by
  obtain ⟨hw, hS, hE, hK, hX⟩ := id hC
  refine Met.intro pl_4 (fun m9 => ef_initC0 m9 a b kb) hE ?_
  intro G hG
  refine aloadN hG d_jdk_42_method_3_code_0 rfl rfl ?_
  refine aloadN hG d_jdk_42_method_3_code_1 rfl rfl ?_
  refine iconst hG d_jdk_42_method_3_code_2 (0) rfl ?_
  refine aloadN hG d_jdk_42_method_3_code_3 rfl rfl ?_
  refine alen hG d_jdk_42_method_3_code_4 p3_arv ?_
  refine aconst_null hG d_jdk_42_method_3_code_5 ?_
  refine callInit hG d_jdk_42_method_3_code_6 rfl (w15 hw) (w16 hw) (w10 hw) (w18 hw) (by decide) (m_initV0 hC (a) (b) h p0_exa p1_fld p2_fld) pd_3 rfl (rest := []) rfl rfl (allS (List.mem_of_getElem? (i := 0) rfl) all0) (Nat.le_of_ble_eq_true rfl) (W := 0) (Nat.le_of_ble_eq_true rfl) (Nat.le_of_ble_eq_true rfl) (Nat.le_of_ble_eq_true rfl) (Nat.le_of_ble_eq_true rfl) (fun v88 M89 h90 le91 hq92 => ?_)
  obtain ⟨t93, kt94, rfl, rfl, K95, f96, f97, f98, f99, hat100⟩ := hq92
  show G [a] h90 (4) (8) 9 #[.val (.ref a), .val (.ref b)] []
  have K101 : Keep h h90 [a] := ((Keep.refl _ _).trans K95 (allS (Or.inl (List.mem_of_getElem? (i := 0) rfl)) all0))
  exact return0 hG d_jdk_42_method_3_code_9 (M' := []) ⟨t93, kt94, rfl, rfl, K101, f96, f97, f98, f99, hat100⟩ all0 (Nat.le_of_ble_eq_true rfl) (Nat.le_of_ble_eq_true rfl)
def Q_initC1 (Z : State) (g0 : Int32) (gf : Value) (a : Addr) (b : Addr) (kb : ClassId) (N : Int32) (cs : List Int32) (h : Heap) : QT := fun v' M9 h9 => ∃ (t : Addr), ∃ (kt : ClassId), v' = none ∧ M9 = [t] ∧ Keep h h9 [a] ∧ h.size ≤ t ∧ Exa Z h9 a "java/lang/String" ∧ Fld Z h9 a "java/lang/String" "coder" "B" (.int (0 : Int32)) ∧ Fld Z h9 a "java/lang/String" "value" "[B" (.ref t) ∧ Arv Z h9 t kt .byte N (ints (cs.map (nar .byte))) (.int 0)
theorem ef_initC1 (m9 : MethodId) (a : Addr) (b : Addr) (kb : ClassId) (N : Int32) (cs : List Int32) : entryFrame m9 [(.ref a), (.ref b)].toArray 2 = mkF m9 0 #[.val (.ref a), .val (.ref b)] [] := by first | rfl | (simp [entryFrame, mkF, argsToLocals, Value.category]; done)
set_option maxRecDepth 65536 in
set_option maxHeartbeats 4000000 in
theorem m_initC1 {l : Launch} {Z : State} {a0 : Array Value} {n0 : Nat} {g0 : Int32} {gf : Value} (hC : Ctx l Z a0 n0 g0 gf) (a : Addr) (b : Addr) (kb : ClassId) (N : Int32) (cs : List Int32) (h : Heap) (p0_exa : Exa Z h a "java/lang/String") (p1_fld : Fld Z h a "java/lang/String" "value" "[B" .null) (p2_fld : Fld Z h a "java/lang/String" "coder" "B" (.int (0 : Int32))) (p3_arv : Arv Z h b kb .char N (ints cs) (.int 0)) (hN : N = Int32.ofNat cs.length) (hlen : cs.length ≤ 32) (hlat : ∀ c ∈ cs, ¬ c < 0 ∧ ¬ (255 : Int32) < c) (hpos : ¬ N = 0) :
    Met l Z EL0 n0 (⟨"java/lang/String", "<init>", "([C)V"⟩ : MethodName) jdk_42_method_3_code 2 none [] ({ frames := 3, cells := 1, slots := 32, locals := 52 } : Room) [(.ref a), (.ref b)] [a] h (Q_initC1 Z g0 gf a b kb N cs h) := by
  obtain ⟨hw, hS, hE, hK, hX⟩ := id hC
  refine Met.intro pl_4 (fun m9 => ef_initC1 m9 a b kb N cs) hE ?_
  intro G hG
  refine aloadN hG d_jdk_42_method_3_code_0 rfl rfl ?_
  refine aloadN hG d_jdk_42_method_3_code_1 rfl rfl ?_
  refine iconst hG d_jdk_42_method_3_code_2 (0) rfl ?_
  refine aloadN hG d_jdk_42_method_3_code_3 rfl rfl ?_
  refine alen hG d_jdk_42_method_3_code_4 p3_arv ?_
  refine aconst_null hG d_jdk_42_method_3_code_5 ?_
  refine callInit hG d_jdk_42_method_3_code_6 rfl (w15 hw) (w16 hw) (w10 hw) (w18 hw) (by decide) (m_initV1 hC (a) (b) (kb) (N) (cs) h p0_exa p1_fld p2_fld p3_arv hN hlen hlat hpos) pd_3 rfl (rest := []) rfl rfl (allS (List.mem_of_getElem? (i := 0) rfl) all0) (Nat.le_of_ble_eq_true rfl) (W := 0) (Nat.le_of_ble_eq_true rfl) (Nat.le_of_ble_eq_true rfl) (Nat.le_of_ble_eq_true rfl) (Nat.le_of_ble_eq_true rfl) (fun v102 M103 h104 le105 hq106 => ?_)
  obtain ⟨t107, kt108, rfl, rfl, K109, g110, f111, f112, f113, f114⟩ := hq106
  show G [t107, a] h104 (1) (32) 9 #[.val (.ref a), .val (.ref b)] []
  have K115 : Keep h h104 [a] := ((Keep.refl _ _).trans K109 (allS (Or.inl (List.mem_of_getElem? (i := 0) rfl)) all0))
  exact return0 hG d_jdk_42_method_3_code_9 (M' := [t107]) ⟨t107, kt108, rfl, rfl, K115, g110, f111, f112, f113, f114⟩ (allS (List.mem_of_getElem? (i := 0) rfl) all0) (Nat.le_of_ble_eq_true rfl) (Nat.le_of_ble_eq_true rfl)
def Q_eqL1 (Z : State) (g0 : Int32) (gf : Value) (a : Addr) (b : Addr) (ka : ClassId) (kb : ClassId) (Na : Int32) (Nb : Int32) (xs : List Int32) (ys : List Int32) (h : Heap) : QT := fun v' M9 h9 => v' = some (.int (eqv xs ys)) ∧ M9 = [] ∧ h = h9
theorem ef_eqL1 (m9 : MethodId) (a : Addr) (b : Addr) (ka : ClassId) (kb : ClassId) (Na : Int32) (Nb : Int32) (xs : List Int32) (ys : List Int32) : entryFrame m9 [(.ref a), (.ref b)].toArray 3 = mkF m9 0 #[.val (.ref a), .val (.ref b), .unset] [] := by first | rfl | (simp [entryFrame, mkF, argsToLocals, Value.category]; done)
set_option maxRecDepth 65536 in
set_option maxHeartbeats 4000000 in
theorem m_eqL1 {l : Launch} {Z : State} {a0 : Array Value} {n0 : Nat} {g0 : Int32} {gf : Value} (hC : Ctx l Z a0 n0 g0 gf) (a : Addr) (b : Addr) (ka : ClassId) (kb : ClassId) (Na : Int32) (Nb : Int32) (xs : List Int32) (ys : List Int32) (h : Heap) (p0_arv : Arv Z h a ka .byte Na (ints xs) (.int 0)) (p1_arv : Arv Z h b kb .byte Nb (ints ys) (.int 0)) (hNa : Na = Int32.ofNat xs.length) (hNb : Nb = Int32.ofNat ys.length) (hla : xs.length ≤ 2000) (hlb : ys.length ≤ 2000) :
    Met l Z EL0 n0 (⟨"java/lang/StringLatin1", "equals", "([B[B)Z"⟩ : MethodName) jdk_43_method_13_code 3 (some .boolean) [] ({ frames := 0, cells := 0, slots := 0, locals := 0 } : Room) [(.ref a), (.ref b)] [] h (Q_eqL1 Z g0 gf a b ka kb Na Nb xs ys h) := by
  obtain ⟨hw, hS, hE, hK, hX⟩ := id hC
  refine Met.intro pl_5 (fun m9 => ef_eqL1 m9 a b ka kb Na Nb xs ys) hE ?_
  intro G hG
  have loop : xs.length = ys.length → ∀ (r i : Nat), i + r = xs.length → xs.take i = ys.take i → G [] h 0 0 9 #[.val (.ref a), .val (.ref b), .val (.int (Int32.ofNat i))] [] := by
    intro hl r; induction r with
    | zero =>
      intro i hi ht
      have e : xs = ys := by rw [List.take_of_length_le (by omega), List.take_of_length_le (by omega)] at ht; exact ht
      refine iloadN hG d_jdk_43_method_13_code_9 rfl ?_
      refine aloadN hG d_jdk_43_method_13_code_10 rfl rfl ?_
      refine alen hG d_jdk_43_method_13_code_11 p0_arv ?_
      refine icmpYes hG d_jdk_43_method_13_code_12 (flt (by rw [hNa]; exact ofN_nlt (by omega) (by omega))).2.1 (by decide) (pc' := 32) rfl ?_
      refine iconst hG d_jdk_43_method_13_code_32 (1) rfl ?_
      exact ireturnN hG (by simp) d_jdk_43_method_13_code_33 (M' := []) ⟨(by rw [eqv_yes e]; rfl), rfl, rfl⟩ all0 (Nat.le_of_ble_eq_true rfl) (Nat.le_of_ble_eq_true rfl)
    | succ r ih =>
      intro i hi ht
      have hina := ofN_in (i := i) (n := xs.length) (by omega) (by omega)
      have hinb := ofN_in (i := i) (n := ys.length) (by omega) (by omega)
      rw [← hNa] at hina
      rw [← hNb] at hinb
      refine iloadN hG d_jdk_43_method_13_code_9 rfl ?_
      refine aloadN hG d_jdk_43_method_13_code_10 rfl rfl ?_
      refine alen hG d_jdk_43_method_13_code_11 p0_arv ?_
      refine icmpNo hG d_jdk_43_method_13_code_12 (tlt hina.2).2.1 ?_
      refine aloadN hG d_jdk_43_method_13_code_15 rfl rfl ?_
      refine iloadN hG d_jdk_43_method_13_code_16 rfl ?_
      refine baload hG d_jdk_43_method_13_code_17 p0_arv hina (v := (.int (xs.getD i 0))) (ints_at (by omega)) ?_
      refine aloadN hG d_jdk_43_method_13_code_18 rfl rfl ?_
      refine iloadN hG d_jdk_43_method_13_code_19 rfl ?_
      refine baload hG d_jdk_43_method_13_code_20 p1_arv hinb (v := (.int (ys.getD i 0))) (ints_at (by omega)) ?_
      refine icmp_eq hG d_jdk_43_method_13_code_21 (by decide) (pc' := 26) rfl (fun q116 => ?_) (fun q116 => ?_)
      · skip
        refine iinc hG d_jdk_43_method_13_code_26 rfl (Int32.ofNat (i + 1)) (ofN_succ i) rfl ?_
        refine goto hG d_jdk_43_method_13_code_29 (by decide) (pc' := 9) rfl ?_
        exact ih (i + 1) (by omega) (by rw [take_succ' (by omega), take_succ' (by omega), ht, q116])
      · skip
        refine iconst hG d_jdk_43_method_13_code_24 (0) rfl ?_
        exact ireturnN hG (by simp) d_jdk_43_method_13_code_25 (M' := []) ⟨(by rw [eqv_no (fun e => q116 (by rw [e]))]; rfl), rfl, rfl⟩ all0 (Nat.le_of_ble_eq_true rfl) (Nat.le_of_ble_eq_true rfl)
  refine aloadN hG d_jdk_43_method_13_code_0 rfl rfl ?_
  refine alen hG d_jdk_43_method_13_code_1 p0_arv ?_
  refine aloadN hG d_jdk_43_method_13_code_2 rfl rfl ?_
  refine alen hG d_jdk_43_method_13_code_3 p1_arv ?_
  refine icmp_ne hG d_jdk_43_method_13_code_4 (by decide) (pc' := 34) rfl (fun q117 => ?_) (fun q117 => ?_)
  · skip
    refine iconst hG d_jdk_43_method_13_code_34 (0) rfl ?_
    exact ireturnN hG (by simp) d_jdk_43_method_13_code_35 (M' := []) ⟨(by rw [eqv_no (fun e => q117 (by rw [hNa, hNb, e]))]; rfl), rfl, rfl⟩ all0 (Nat.le_of_ble_eq_true rfl) (Nat.le_of_ble_eq_true rfl)
  · skip
    refine iconst hG d_jdk_43_method_13_code_7 (0) rfl ?_
    refine istoreN hG d_jdk_43_method_13_code_8 rfl ?_
    exact loop (ofN_inj (by omega) (by omega) (by rw [← hNa, ← hNb]; exact q117)) xs.length 0 (by omega) rfl
def Q_eqS (Z : State) (g0 : Int32) (gf : Value) (a : Addr) (b : Addr) (ta : Addr) (tb : Addr) (ka : ClassId) (kb : ClassId) (Na : Int32) (Nb : Int32) (xs : List Int32) (ys : List Int32) (h : Heap) : QT := fun v' M9 h9 => v' = some (.int (eqv xs ys)) ∧ M9 = [] ∧ h = h9
theorem ef_eqS (m9 : MethodId) (a : Addr) (b : Addr) (ta : Addr) (tb : Addr) (ka : ClassId) (kb : ClassId) (Na : Int32) (Nb : Int32) (xs : List Int32) (ys : List Int32) : entryFrame m9 [(.ref a), (.ref b)].toArray 3 = mkF m9 0 #[.val (.ref a), .val (.ref b), .unset] [] := by first | rfl | (simp [entryFrame, mkF, argsToLocals, Value.category]; done)
set_option maxRecDepth 65536 in
set_option maxHeartbeats 4000000 in
theorem m_eqS {l : Launch} {Z : State} {a0 : Array Value} {n0 : Nat} {g0 : Int32} {gf : Value} (hC : Ctx l Z a0 n0 g0 gf) (a : Addr) (b : Addr) (ta : Addr) (tb : Addr) (ka : ClassId) (kb : ClassId) (Na : Int32) (Nb : Int32) (xs : List Int32) (ys : List Int32) (h : Heap) (p0_exa : Exa Z h a "java/lang/String") (p1_exa : Exa Z h b "java/lang/String") (p2_fld : Fld Z h a "java/lang/String" "coder" "B" (.int (0 : Int32))) (p3_fld : Fld Z h b "java/lang/String" "coder" "B" (.int (0 : Int32))) (p4_fld : Fld Z h a "java/lang/String" "value" "[B" (.ref ta)) (p5_fld : Fld Z h b "java/lang/String" "value" "[B" (.ref tb)) (p6_arv : Arv Z h ta ka .byte Na (ints xs) (.int 0)) (p7_arv : Arv Z h tb kb .byte Nb (ints ys) (.int 0)) (hNa : Na = Int32.ofNat xs.length) (hNb : Nb = Int32.ofNat ys.length) (hla : xs.length ≤ 2000) (hlb : ys.length ≤ 2000) (hab : a ≠ b) :
    Met l Z EL0 n0 (⟨"java/lang/String", "equals", "(Ljava/lang/Object;)Z"⟩ : MethodName) jdk_42_method_66_code 3 (some .boolean) [] ({ frames := 1, cells := 0, slots := 0, locals := 14 } : Room) [(.ref a), (.ref b)] [] h (Q_eqS Z g0 gf a b ta tb ka kb Na Nb xs ys h) := by
  obtain ⟨hw, hS, hE, hK, hX⟩ := id hC
  refine Met.intro pl_6 (fun m9 => ef_eqS m9 a b ta tb ka kb Na Nb xs ys) hE ?_
  intro G hG
  refine aloadN hG d_jdk_42_method_66_code_0 rfl rfl ?_
  refine aloadN hG d_jdk_42_method_66_code_1 rfl rfl ?_
  refine acmp_ne hG d_jdk_42_method_66_code_2 rfl rfl (by decide) (pc' := 7) rfl (fun _ => ?_) (fun q => absurd q (fun q => hab (Value.ref.inj q)))
  refine aloadN hG d_jdk_42_method_66_code_7 rfl rfl ?_
  refine instYes hG d_jdk_42_method_66_code_8 (w179 hw) (Ins.of_exa p1_exa (w17 hw)) ?_
  refine ifNo hG d_jdk_42_method_66_code_11 (by decide) ?_
  refine aloadN hG d_jdk_42_method_66_code_14 rfl rfl ?_
  refine checkcast hG d_jdk_42_method_66_code_15 (w179 hw) (Ins.of_exa p1_exa (w17 hw)) ?_
  refine astoreN hG d_jdk_42_method_66_code_18 rfl rfl ?_
  refine getstatic hG d_jdk_42_method_66_code_19 (w72 hw) Via.refl hK.1 ?_
  refine ifNo hG d_jdk_42_method_66_code_22 (feq hK.2).1 ?_
  refine aloadN hG d_jdk_42_method_66_code_25 rfl rfl ?_
  refine getfield hG d_jdk_42_method_66_code_26 (w29 hw) Via.refl p2_fld ?_
  refine aloadN hG d_jdk_42_method_66_code_29 rfl rfl ?_
  refine getfield hG d_jdk_42_method_66_code_30 (w29 hw) Via.refl p3_fld ?_
  refine icmpNo hG d_jdk_42_method_66_code_33 (by decide) ?_
  refine aloadN hG d_jdk_42_method_66_code_36 rfl rfl ?_
  refine getfield hG d_jdk_42_method_66_code_37 (w28 hw) Via.refl p4_fld ?_
  refine aloadN hG d_jdk_42_method_66_code_40 rfl rfl ?_
  refine getfield hG d_jdk_42_method_66_code_41 (w28 hw) Via.refl p5_fld ?_
  refine callStatic hG d_jdk_42_method_66_code_44 (w180 hw) (w181 hw) (w171 hw) (w182 hw) (by decide) (m_eqL1 hC (ta) (tb) (ka) (kb) (Na) (Nb) (xs) (ys) h p6_arv p7_arv hNa hNb hla hlb) pd_4 rfl (rest := []) rfl rfl all0 (Nat.le_of_ble_eq_true rfl) (W := 0) (Nat.le_of_ble_eq_true rfl) (Nat.le_of_ble_eq_true rfl) (Nat.le_of_ble_eq_true rfl) (Nat.le_of_ble_eq_true rfl) (fun v118 M119 h120 le121 hq122 => ?_)
  obtain ⟨rfl, rfl, rfl⟩ := hq122
  show G [] h (0) (0) 47 #[.val (.ref a), .val (.ref b), .val (.ref b)] [(.int (eqv xs ys))]
  refine if_eq hG d_jdk_42_method_66_code_47 (by decide) (pc' := 54) rfl (fun q123 => ?_) (fun q123 => ?_)
  · skip
    refine iconst hG d_jdk_42_method_66_code_54 (0) rfl ?_
    exact ireturnN hG (by simp) d_jdk_42_method_66_code_55 (M' := []) ⟨(by rw [q123]; rfl), rfl, rfl⟩ all0 (Nat.le_of_ble_eq_true rfl) (Nat.le_of_ble_eq_true rfl)
  · skip
    refine iconst hG d_jdk_42_method_66_code_50 (1) rfl ?_
    refine goto hG d_jdk_42_method_66_code_51 (by decide) (pc' := 55) rfl ?_
    exact ireturnN hG (by simp) d_jdk_42_method_66_code_55 (M' := []) ⟨(by rw [eqv_one q123]; rfl), rfl, rfl⟩ all0 (Nat.le_of_ble_eq_true rfl) (Nat.le_of_ble_eq_true rfl)
def Q_coder (Z : State) (g0 : Int32) (gf : Value) (a : Addr) (cd : Int32) (h : Heap) : QT := fun v' M9 h9 => v' = some (.int cd) ∧ M9 = [] ∧ h = h9
theorem ef_coder (m9 : MethodId) (a : Addr) (cd : Int32) : entryFrame m9 [(.ref a)].toArray 1 = mkF m9 0 #[.val (.ref a)] [] := by first | rfl | (simp [entryFrame, mkF, argsToLocals, Value.category]; done)
set_option maxRecDepth 65536 in
set_option maxHeartbeats 4000000 in
theorem m_coder {l : Launch} {Z : State} {a0 : Array Value} {n0 : Nat} {g0 : Int32} {gf : Value} (hC : Ctx l Z a0 n0 g0 gf) (a : Addr) (cd : Int32) (h : Heap) (p0_fld : Fld Z h a "java/lang/String" "coder" "B" (.int cd)) (hcd : nar .byte cd = cd) :
    Met l Z EL0 n0 (⟨"java/lang/String", "coder", "()B"⟩ : MethodName) jdk_42_method_152_code 1 (some .byte) [] ({ frames := 0, cells := 0, slots := 0, locals := 0 } : Room) [(.ref a)] [] h (Q_coder Z g0 gf a cd h) := by
  obtain ⟨hw, hS, hE, hK, hX⟩ := id hC
  refine Met.intro pl_7 (fun m9 => ef_coder m9 a cd) hE ?_
  intro G hG
  refine getstatic hG d_jdk_42_method_152_code_0 (w72 hw) Via.refl hK.1 ?_
  refine ifNo hG d_jdk_42_method_152_code_3 (feq hK.2).1 ?_
  refine aloadN hG d_jdk_42_method_152_code_6 rfl rfl ?_
  refine getfield hG d_jdk_42_method_152_code_7 (w29 hw) Via.refl p0_fld ?_
  refine goto hG d_jdk_42_method_152_code_10 (by decide) (pc' := 14) rfl ?_
  exact ireturnN hG (by simp) d_jdk_42_method_152_code_14 (M' := []) ⟨(by rw [hcd]), rfl, rfl⟩ all0 (Nat.le_of_ble_eq_true rfl) (Nat.le_of_ble_eq_true rfl)
def Q_isl (Z : State) (g0 : Int32) (gf : Value) (a : Addr) (h : Heap) : QT := fun v' M9 h9 => v' = some (.int (1 : Int32)) ∧ M9 = [] ∧ h = h9
theorem ef_isl (m9 : MethodId) (a : Addr) : entryFrame m9 [(.ref a)].toArray 1 = mkF m9 0 #[.val (.ref a)] [] := by first | rfl | (simp [entryFrame, mkF, argsToLocals, Value.category]; done)
set_option maxRecDepth 65536 in
set_option maxHeartbeats 4000000 in
theorem m_isl {l : Launch} {Z : State} {a0 : Array Value} {n0 : Nat} {g0 : Int32} {gf : Value} (hC : Ctx l Z a0 n0 g0 gf) (a : Addr) (h : Heap) (p0_fld : Fld Z h a "java/lang/String" "coder" "B" (.int (0 : Int32))) :
    Met l Z EL0 n0 (⟨"java/lang/String", "isLatin1", "()Z"⟩ : MethodName) jdk_42_method_154_code 1 (some .boolean) [] ({ frames := 0, cells := 0, slots := 0, locals := 0 } : Room) [(.ref a)] [] h (Q_isl Z g0 gf a h) := by
  obtain ⟨hw, hS, hE, hK, hX⟩ := id hC
  refine Met.intro pl_8 (fun m9 => ef_isl m9 a) hE ?_
  intro G hG
  refine getstatic hG d_jdk_42_method_154_code_0 (w72 hw) Via.refl hK.1 ?_
  refine ifNo hG d_jdk_42_method_154_code_3 (feq hK.2).1 ?_
  refine aloadN hG d_jdk_42_method_154_code_6 rfl rfl ?_
  refine getfield hG d_jdk_42_method_154_code_7 (w29 hw) Via.refl p0_fld ?_
  refine ifNo hG d_jdk_42_method_154_code_10 (by decide) ?_
  refine iconst hG d_jdk_42_method_154_code_13 (1) rfl ?_
  refine goto hG d_jdk_42_method_154_code_14 (by decide) (pc' := 18) rfl ?_
  exact ireturnN hG (by simp) d_jdk_42_method_154_code_18 (M' := []) ⟨rfl, rfl, rfl⟩ all0 (Nat.le_of_ble_eq_true rfl) (Nat.le_of_ble_eq_true rfl)
def Q_len (Z : State) (g0 : Int32) (gf : Value) (a : Addr) (ta : Addr) (ka : ClassId) (Na : Int32) (xs : List Int32) (h : Heap) : QT := fun v' M9 h9 => v' = some (.int Na) ∧ M9 = [] ∧ h = h9
theorem ef_len (m9 : MethodId) (a : Addr) (ta : Addr) (ka : ClassId) (Na : Int32) (xs : List Int32) : entryFrame m9 [(.ref a)].toArray 1 = mkF m9 0 #[.val (.ref a)] [] := by first | rfl | (simp [entryFrame, mkF, argsToLocals, Value.category]; done)
set_option maxRecDepth 65536 in
set_option maxHeartbeats 4000000 in
theorem m_len {l : Launch} {Z : State} {a0 : Array Value} {n0 : Nat} {g0 : Int32} {gf : Value} (hC : Ctx l Z a0 n0 g0 gf) (a : Addr) (ta : Addr) (ka : ClassId) (Na : Int32) (xs : List Int32) (h : Heap) (p0_exa : Exa Z h a "java/lang/String") (p1_fld : Fld Z h a "java/lang/String" "coder" "B" (.int (0 : Int32))) (p2_fld : Fld Z h a "java/lang/String" "value" "[B" (.ref ta)) (p3_arv : Arv Z h ta ka .byte Na (ints xs) (.int 0)) :
    Met l Z EL0 n0 (⟨"java/lang/String", "length", "()I"⟩ : MethodName) jdk_42_method_54_code 1 (some .int) [] ({ frames := 1, cells := 0, slots := 0, locals := 13 } : Room) [(.ref a)] [] h (Q_len Z g0 gf a ta ka Na xs h) := by
  obtain ⟨hw, hS, hE, hK, hX⟩ := id hC
  refine Met.intro pl_9 (fun m9 => ef_len m9 a ta ka Na xs) hE ?_
  intro G hG
  refine aloadN hG d_jdk_42_method_54_code_0 rfl rfl ?_
  refine getfield hG d_jdk_42_method_54_code_1 (w28 hw) Via.refl p2_fld ?_
  refine alen hG d_jdk_42_method_54_code_4 p3_arv ?_
  refine aloadN hG d_jdk_42_method_54_code_5 rfl rfl ?_
  refine callVirtual hG d_jdk_42_method_54_code_6 p0_exa (w67 hw) (w68 hw) (fun _ hz => notFace_of_selects (args := #[]) (mvT hz (w70 hw))) (w70 hw) (w69 hw) (w10 hw) (w71 hw) (by decide) (m_coder hC (a) ((0 : Int32)) h p1_fld rfl) pd_5 rfl (rest := [(.int Na)]) rfl rfl all0 (Nat.le_of_ble_eq_true rfl) (W := 1) (Nat.le_of_ble_eq_true rfl) (Nat.le_of_ble_eq_true rfl) (Nat.le_of_ble_eq_true rfl) (Nat.le_of_ble_eq_true rfl) (fun v124 M125 h126 le127 hq128 => ?_)
  obtain ⟨rfl, rfl, rfl⟩ := hq128
  show G [] h (0) (0) 9 #[.val (.ref a)] [(.int (0 : Int32)), (.int Na)]
  refine ishr hG d_jdk_42_method_54_code_9 ?_
  exact ireturn hG d_jdk_42_method_54_code_10 (M' := []) ⟨(by rw [shr0]), rfl, rfl⟩ all0 (Nat.le_of_ble_eq_true rfl) (Nat.le_of_ble_eq_true rfl)
def Q_mmax (Z : State) (g0 : Int32) (gf : Value) (i : Nat) (j : Nat) (h : Heap) : QT := fun v' M9 h9 => v' = some (.int (Int32.ofNat (max i j))) ∧ M9 = [] ∧ h = h9
theorem ef_mmax (m9 : MethodId) (i : Nat) (j : Nat) : entryFrame m9 [(.int (Int32.ofNat i)), (.int (Int32.ofNat j))].toArray 2 = mkF m9 0 #[.val (.int (Int32.ofNat i)), .val (.int (Int32.ofNat j))] [] := by first | rfl | (simp [entryFrame, mkF, argsToLocals, Value.category]; done)
set_option maxRecDepth 65536 in
set_option maxHeartbeats 4000000 in
theorem m_mmax {l : Launch} {Z : State} {a0 : Array Value} {n0 : Nat} {g0 : Int32} {gf : Value} (hC : Ctx l Z a0 n0 g0 gf) (i : Nat) (j : Nat) (h : Heap) (hi31 : i < 2 ^ 31) (hj31 : j < 2 ^ 31) :
    Met l Z EL0 n0 (⟨"java/lang/Math", "max", "(II)I"⟩ : MethodName) jdk_29_method_65_code 2 (some .int) [] ({ frames := 0, cells := 0, slots := 0, locals := 0 } : Room) [(.int (Int32.ofNat i)), (.int (Int32.ofNat j))] [] h (Q_mmax Z g0 gf i j h) := by
  obtain ⟨hw, hS, hE, hK, hX⟩ := id hC
  refine Met.intro pl_10 (fun m9 => ef_mmax m9 i j) hE ?_
  intro G hG
  refine iloadN hG d_jdk_29_method_65_code_0 rfl ?_
  refine iloadN hG d_jdk_29_method_65_code_1 rfl ?_
  refine icmp_lt hG d_jdk_29_method_65_code_2 (by decide) (pc' := 9) rfl (fun q129 => ?_) (fun q129 => ?_)
  · skip
    refine iloadN hG d_jdk_29_method_65_code_9 rfl ?_
    exact ireturn hG d_jdk_29_method_65_code_10 (M' := []) ⟨(by have q9 := q129; first | (have q8 := ofN_lt' q9 hi31 hj31; rw [show max i j = j from by omega]) | (have q8 := ofN_lt' q9 hj31 hi31; rw [show max i j = j from by omega]) | (have q8 : ¬ i < j := fun r => q9 (ofN_lt r hj31); rw [show max i j = j from by omega]) | (have q8 : ¬ j < i := fun r => q9 (ofN_lt r hi31); rw [show max i j = j from by omega])), rfl, rfl⟩ all0 (Nat.le_of_ble_eq_true rfl) (Nat.le_of_ble_eq_true rfl)
  · skip
    refine iloadN hG d_jdk_29_method_65_code_5 rfl ?_
    refine goto hG d_jdk_29_method_65_code_6 (by decide) (pc' := 10) rfl ?_
    exact ireturn hG d_jdk_29_method_65_code_10 (M' := []) ⟨(by have q9 := q129; first | (have q8 := ofN_lt' q9 hi31 hj31; rw [show max i j = i from by omega]) | (have q8 := ofN_lt' q9 hj31 hi31; rw [show max i j = i from by omega]) | (have q8 : ¬ i < j := fun r => q9 (ofN_lt r hj31); rw [show max i j = i from by omega]) | (have q8 : ¬ j < i := fun r => q9 (ofN_lt r hi31); rw [show max i j = i from by omega])), rfl, rfl⟩ all0 (Nat.le_of_ble_eq_true rfl) (Nat.le_of_ble_eq_true rfl)
def Q_mmin (Z : State) (g0 : Int32) (gf : Value) (i : Nat) (j : Nat) (h : Heap) : QT := fun v' M9 h9 => v' = some (.int (Int32.ofNat (min i j))) ∧ M9 = [] ∧ h = h9
theorem ef_mmin (m9 : MethodId) (i : Nat) (j : Nat) : entryFrame m9 [(.int (Int32.ofNat i)), (.int (Int32.ofNat j))].toArray 2 = mkF m9 0 #[.val (.int (Int32.ofNat i)), .val (.int (Int32.ofNat j))] [] := by first | rfl | (simp [entryFrame, mkF, argsToLocals, Value.category]; done)
set_option maxRecDepth 65536 in
set_option maxHeartbeats 4000000 in
theorem m_mmin {l : Launch} {Z : State} {a0 : Array Value} {n0 : Nat} {g0 : Int32} {gf : Value} (hC : Ctx l Z a0 n0 g0 gf) (i : Nat) (j : Nat) (h : Heap) (hi31 : i < 2 ^ 31) (hj31 : j < 2 ^ 31) :
    Met l Z EL0 n0 (⟨"java/lang/Math", "min", "(II)I"⟩ : MethodName) jdk_29_method_69_code 2 (some .int) [] ({ frames := 0, cells := 0, slots := 0, locals := 0 } : Room) [(.int (Int32.ofNat i)), (.int (Int32.ofNat j))] [] h (Q_mmin Z g0 gf i j h) := by
  obtain ⟨hw, hS, hE, hK, hX⟩ := id hC
  refine Met.intro pl_11 (fun m9 => ef_mmin m9 i j) hE ?_
  intro G hG
  refine iloadN hG d_jdk_29_method_69_code_0 rfl ?_
  refine iloadN hG d_jdk_29_method_69_code_1 rfl ?_
  refine icmp_gt hG d_jdk_29_method_69_code_2 (by decide) (pc' := 9) rfl (fun q130 => ?_) (fun q130 => ?_)
  · skip
    refine iloadN hG d_jdk_29_method_69_code_9 rfl ?_
    exact ireturn hG d_jdk_29_method_69_code_10 (M' := []) ⟨(by have q9 := q130; first | (have q8 := ofN_lt' q9 hi31 hj31; rw [show min i j = j from by omega]) | (have q8 := ofN_lt' q9 hj31 hi31; rw [show min i j = j from by omega]) | (have q8 : ¬ i < j := fun r => q9 (ofN_lt r hj31); rw [show min i j = j from by omega]) | (have q8 : ¬ j < i := fun r => q9 (ofN_lt r hi31); rw [show min i j = j from by omega])), rfl, rfl⟩ all0 (Nat.le_of_ble_eq_true rfl) (Nat.le_of_ble_eq_true rfl)
  · skip
    refine iloadN hG d_jdk_29_method_69_code_5 rfl ?_
    refine goto hG d_jdk_29_method_69_code_6 (by decide) (pc' := 10) rfl ?_
    exact ireturn hG d_jdk_29_method_69_code_10 (M' := []) ⟨(by have q9 := q130; first | (have q8 := ofN_lt' q9 hi31 hj31; rw [show min i j = i from by omega]) | (have q8 := ofN_lt' q9 hj31 hi31; rw [show min i j = i from by omega]) | (have q8 : ¬ i < j := fun r => q9 (ofN_lt r hj31); rw [show min i j = i from by omega]) | (have q8 : ¬ j < i := fun r => q9 (ofN_lt r hi31); rw [show min i j = i from by omega])), rfl, rfl⟩ all0 (Nat.le_of_ble_eq_true rfl) (Nat.le_of_ble_eq_true rfl)
def Q_newLen (Z : State) (g0 : Int32) (gf : Value) (i : Nat) (g : Nat) (p : Nat) (h : Heap) : QT := fun v' M9 h9 => v' = some (.int (Int32.ofNat (i + max g p))) ∧ M9 = [] ∧ h = h9
theorem ef_newLen (m9 : MethodId) (i : Nat) (g : Nat) (p : Nat) : entryFrame m9 [(.int (Int32.ofNat i)), (.int (Int32.ofNat g)), (.int (Int32.ofNat p))].toArray 4 = mkF m9 0 #[.val (.int (Int32.ofNat i)), .val (.int (Int32.ofNat g)), .val (.int (Int32.ofNat p)), .unset] [] := by first | rfl | (simp [entryFrame, mkF, argsToLocals, Value.category]; done)
set_option maxRecDepth 65536 in
set_option maxHeartbeats 4000000 in
theorem m_newLen {l : Launch} {Z : State} {a0 : Array Value} {n0 : Nat} {g0 : Int32} {gf : Value} (hC : Ctx l Z a0 n0 g0 gf) (i : Nat) (g : Nat) (p : Nat) (h : Heap) (hps : 0 < i + max g p) (hbd : i + max g p < 2 ^ 30) :
    Met l Z EL0 n0 (⟨"jdk/internal/util/ArraysSupport", "newLength", "(III)I"⟩ : MethodName) jdk_48_method_27_code 4 (some .int) [] ({ frames := 1, cells := 0, slots := 0, locals := 14 } : Room) [(.int (Int32.ofNat i)), (.int (Int32.ofNat g)), (.int (Int32.ofNat p))] [] h (Q_newLen Z g0 gf i g p h) := by
  obtain ⟨hw, hS, hE, hK, hX⟩ := id hC
  refine Met.intro pl_12 (fun m9 => ef_newLen m9 i g p) hE ?_
  intro G hG
  refine iloadN hG d_jdk_48_method_27_code_0 rfl ?_
  refine iloadN hG d_jdk_48_method_27_code_1 rfl ?_
  refine iloadN hG d_jdk_48_method_27_code_2 rfl ?_
  refine callStatic hG d_jdk_48_method_27_code_3 (w207 hw) (w208 hw) (w143 hw) (w209 hw) (by decide) (m_mmax hC (g) (p) h (by first | omega | (simp; omega) | (simp; done) | decide) (by first | omega | (simp; omega) | (simp; done) | decide)) pd_6 rfl (rest := [(.int (Int32.ofNat i))]) rfl rfl all0 (Nat.le_of_ble_eq_true rfl) (W := 1) (Nat.le_of_ble_eq_true rfl) (Nat.le_of_ble_eq_true rfl) (Nat.le_of_ble_eq_true rfl) (Nat.le_of_ble_eq_true rfl) (fun v131 M132 h133 le134 hq135 => ?_)
  obtain ⟨rfl, rfl, rfl⟩ := hq135
  show G [] h (0) (0) 6 #[.val (.int (Int32.ofNat i)), .val (.int (Int32.ofNat g)), .val (.int (Int32.ofNat p)), .unset] [(.int (Int32.ofNat (max g p))), (.int (Int32.ofNat i))]
  refine iadd hG d_jdk_48_method_27_code_6 ?_
  have e136 : ((Int32.ofNat i) + (Int32.ofNat (max g p))) = (Int32.ofNat (i + (max g p))) := ofN_add _ _
  rw [e136]
  show G [] h (0) (0) 7 #[.val (.int (Int32.ofNat i)), .val (.int (Int32.ofNat g)), .val (.int (Int32.ofNat p)), .unset] [(.int (Int32.ofNat (i + (max g p))))]
  refine istoreN hG d_jdk_48_method_27_code_7 rfl ?_
  refine iconst hG d_jdk_48_method_27_code_8 (0) rfl ?_
  refine iloadN hG d_jdk_48_method_27_code_9 rfl ?_
  refine icmpNo hG d_jdk_48_method_27_code_10 (tlt (ofN_lt (i := 0) (by omega) (by omega))).2.1 ?_
  refine iloadN hG d_jdk_48_method_27_code_13 rfl ?_
  refine ldcInt hG d_jdk_48_method_27_code_14 (w210 hw) ?_
  refine icmpNo hG d_jdk_48_method_27_code_16 (flt (ofN_nlt (n := i + max g p) (i := 2147483639) (by omega) (by omega))).2.2.1 ?_
  refine iloadN hG d_jdk_48_method_27_code_19 rfl ?_
  exact ireturn hG d_jdk_48_method_27_code_20 (M' := []) ⟨rfl, rfl, rfl⟩ all0 (Nat.le_of_ble_eq_true rfl) (Nat.le_of_ble_eq_true rfl)
def Q_newCap (Z : State) (g0 : Int32) (gf : Value) (a : Addr) (t : Addr) (kt : ClassId) (ws : List Int32) (m : Nat) (h : Heap) : QT := fun v' M9 h9 => v' = some (.int (Int32.ofNat (ws.length + max (m - ws.length) (ws.length + 2)))) ∧ M9 = [] ∧ h = h9
theorem ef_newCap (m9 : MethodId) (a : Addr) (t : Addr) (kt : ClassId) (ws : List Int32) (m : Nat) : entryFrame m9 [(.ref a), (.int (Int32.ofNat m))].toArray 6 = mkF m9 0 #[.val (.ref a), .val (.int (Int32.ofNat m)), .unset, .unset, .unset, .unset] [] := by first | rfl | (simp [entryFrame, mkF, argsToLocals, Value.category]; done)
set_option maxRecDepth 65536 in
set_option maxHeartbeats 4000000 in
theorem m_newCap {l : Launch} {Z : State} {a0 : Array Value} {n0 : Nat} {g0 : Int32} {gf : Value} (hC : Ctx l Z a0 n0 g0 gf) (a : Addr) (t : Addr) (kt : ClassId) (ws : List Int32) (m : Nat) (h : Heap) (p0_exa : Exa Z h a "java/lang/StringBuilder") (p1_fld : Fld Z h a "java/lang/AbstractStringBuilder" "value" "[B" (.ref t)) (p2_fld : Fld Z h a "java/lang/AbstractStringBuilder" "coder" "B" (.int (0 : Int32))) (p3_arv : Arv Z h t kt .byte (Int32.ofNat ws.length) (ints ws) (.int 0)) (hlt : ws.length < m) (hm : m ≤ 100) :
    Met l Z EL0 n0 (⟨"java/lang/AbstractStringBuilder", "newCapacity", "(I)I"⟩ : MethodName) jdk_68_method_10_code 6 (some .int) [] ({ frames := 2, cells := 0, slots := 0, locals := 29 } : Room) [(.ref a), (.int (Int32.ofNat m))] [] h (Q_newCap Z g0 gf a t kt ws m h) := by
  obtain ⟨hw, hS, hE, hK, hX⟩ := id hC
  refine Met.intro pl_13 (fun m9 => ef_newCap m9 a t kt ws m) hE ?_
  intro G hG
  refine aloadN hG d_jdk_68_method_10_code_0 rfl rfl ?_
  refine getfield hG d_jdk_68_method_10_code_1 (w48 hw) Via.refl p1_fld ?_
  refine alen hG d_jdk_68_method_10_code_4 p3_arv ?_
  refine istoreN hG d_jdk_68_method_10_code_5 rfl ?_
  refine iloadN hG d_jdk_68_method_10_code_6 rfl ?_
  refine aloadN hG d_jdk_68_method_10_code_7 rfl rfl ?_
  refine getfield hG d_jdk_68_method_10_code_8 (w50 hw) Via.refl p2_fld ?_
  refine ishl hG d_jdk_68_method_10_code_11 ?_
  have e137 : ((Int32.ofNat m) <<< ((0 : Int32) &&& 31)) = (Int32.ofNat m) := shl0 _
  rw [e137]
  show G [] h (0) (0) 12 #[.val (.ref a), .val (.int (Int32.ofNat m)), .val (.int (Int32.ofNat ws.length)), .unset, .unset, .unset] [(.int (Int32.ofNat m))]
  refine istoreN hG d_jdk_68_method_10_code_12 rfl ?_
  refine iloadN hG d_jdk_68_method_10_code_13 rfl ?_
  refine iloadN hG d_jdk_68_method_10_code_14 rfl ?_
  refine isub hG d_jdk_68_method_10_code_15 ?_
  have e138 : ((Int32.ofNat m) - (Int32.ofNat ws.length)) = (Int32.ofNat (m - ws.length)) := ofN_sub (by omega) (by omega)
  rw [e138]
  show G [] h (0) (0) 16 #[.val (.ref a), .val (.int (Int32.ofNat m)), .val (.int (Int32.ofNat ws.length)), .val (.int (Int32.ofNat m)), .unset, .unset] [(.int (Int32.ofNat (m - ws.length)))]
  refine istore hG d_jdk_68_method_10_code_16 rfl ?_
  refine iloadN hG d_jdk_68_method_10_code_18 rfl ?_
  refine iload hG d_jdk_68_method_10_code_19 rfl ?_
  refine iloadN hG d_jdk_68_method_10_code_21 rfl ?_
  refine iconst hG d_jdk_68_method_10_code_22 (2) rfl ?_
  refine aloadN hG d_jdk_68_method_10_code_23 rfl rfl ?_
  refine getfield hG d_jdk_68_method_10_code_24 (w50 hw) Via.refl p2_fld ?_
  refine ishl hG d_jdk_68_method_10_code_27 ?_
  show G [] h (0) (0) 28 #[.val (.ref a), .val (.int (Int32.ofNat m)), .val (.int (Int32.ofNat ws.length)), .val (.int (Int32.ofNat m)), .val (.int (Int32.ofNat (m - ws.length))), .unset] [(.int (2 : Int32)), (.int (Int32.ofNat ws.length)), (.int (Int32.ofNat (m - ws.length))), (.int (Int32.ofNat ws.length))]
  refine iadd hG d_jdk_68_method_10_code_28 ?_
  have e139 : ((Int32.ofNat ws.length) + (2 : Int32)) = (Int32.ofNat (ws.length + 2)) := ofN_add _ _
  rw [e139]
  show G [] h (0) (0) 29 #[.val (.ref a), .val (.int (Int32.ofNat m)), .val (.int (Int32.ofNat ws.length)), .val (.int (Int32.ofNat m)), .val (.int (Int32.ofNat (m - ws.length))), .unset] [(.int (Int32.ofNat (ws.length + 2))), (.int (Int32.ofNat (m - ws.length))), (.int (Int32.ofNat ws.length))]
  refine callStatic hG d_jdk_68_method_10_code_29 (w203 hw) (w204 hw) (w205 hw) (w206 hw) (by decide) (m_newLen hC (ws.length) ((m - ws.length)) ((ws.length + 2)) h (by first | omega | (simp; omega) | (simp; done) | decide) (by first | omega | (simp; omega) | (simp; done) | decide)) pd_7 rfl (rest := []) rfl rfl all0 (Nat.le_of_ble_eq_true rfl) (W := 0) (Nat.le_of_ble_eq_true rfl) (Nat.le_of_ble_eq_true rfl) (Nat.le_of_ble_eq_true rfl) (Nat.le_of_ble_eq_true rfl) (fun v140 M141 h142 le143 hq144 => ?_)
  obtain ⟨rfl, rfl, rfl⟩ := hq144
  show G [] h (0) (0) 32 #[.val (.ref a), .val (.int (Int32.ofNat m)), .val (.int (Int32.ofNat ws.length)), .val (.int (Int32.ofNat m)), .val (.int (Int32.ofNat (m - ws.length))), .unset] [(.int (Int32.ofNat (ws.length + max (m - ws.length) (ws.length + 2))))]
  refine istore hG d_jdk_68_method_10_code_32 rfl ?_
  refine iload hG d_jdk_68_method_10_code_34 rfl ?_
  refine ldcInt hG d_jdk_68_method_10_code_36 (w211 hw) ?_
  refine icmpYes hG d_jdk_68_method_10_code_38 (feq (ofN_ne (n := 2147483647) (by omega) (by omega) (by omega))).2 (by decide) (pc' := 51) rfl ?_
  refine iload hG d_jdk_68_method_10_code_51 rfl ?_
  refine aloadN hG d_jdk_68_method_10_code_53 rfl rfl ?_
  refine getfield hG d_jdk_68_method_10_code_54 (w50 hw) Via.refl p2_fld ?_
  refine ishr hG d_jdk_68_method_10_code_57 ?_
  have e145 : ((Int32.ofNat (ws.length + max (m - ws.length) (ws.length + 2))) >>> ((0 : Int32) &&& 31)) = (Int32.ofNat (ws.length + max (m - ws.length) (ws.length + 2))) := shr0 _
  rw [e145]
  show G [] h (0) (0) 58 #[.val (.ref a), .val (.int (Int32.ofNat m)), .val (.int (Int32.ofNat ws.length)), .val (.int (Int32.ofNat m)), .val (.int (Int32.ofNat (m - ws.length))), .val (.int (Int32.ofNat (ws.length + max (m - ws.length) (ws.length + 2))))] [(.int (Int32.ofNat (ws.length + max (m - ws.length) (ws.length + 2))))]
  exact ireturn hG d_jdk_68_method_10_code_58 (M' := []) ⟨rfl, rfl, rfl⟩ all0 (Nat.le_of_ble_eq_true rfl) (Nat.le_of_ble_eq_true rfl)
def Q_cpOf (Z : State) (g0 : Int32) (gf : Value) (t : Addr) (kt : ClassId) (ws : List Int32) (m : Nat) (h : Heap) : QT := fun v' M9 h9 => ∃ (t2 : Addr), ∃ (k2 : ClassId), v' = some (.ref t2) ∧ M9 = [t2] ∧ Keep h h9 [] ∧ h.size ≤ t2 ∧ Arv Z h9 t2 k2 .byte (Int32.ofNat m) (ints (ws ++ List.replicate (m - ws.length) 0)) (.int 0) ∧ Exa Z h9 t2 "[B"
theorem ef_cpOf (m9 : MethodId) (t : Addr) (kt : ClassId) (ws : List Int32) (m : Nat) : entryFrame m9 [(.ref t), (.int (Int32.ofNat m))].toArray 3 = mkF m9 0 #[.val (.ref t), .val (.int (Int32.ofNat m)), .unset] [] := by first | rfl | (simp [entryFrame, mkF, argsToLocals, Value.category]; done)
set_option maxRecDepth 65536 in
set_option maxHeartbeats 4000000 in
theorem m_cpOf {l : Launch} {Z : State} {a0 : Array Value} {n0 : Nat} {g0 : Int32} {gf : Value} (hC : Ctx l Z a0 n0 g0 gf) (t : Addr) (kt : ClassId) (ws : List Int32) (m : Nat) (h : Heap) (p0_arv : Arv Z h t kt .byte (Int32.ofNat ws.length) (ints ws) (.int 0)) (hlt : ws.length < m) (hm : m ≤ 100) :
    Met l Z EL0 n0 (⟨"java/util/Arrays", "copyOf", "([BI)[B"⟩ : MethodName) jdk_65_method_121_code 3 (some (.array .byte)) [] ({ frames := 1, cells := 1, slots := 100, locals := 18 } : Room) [(.ref t), (.int (Int32.ofNat m))] [] h (Q_cpOf Z g0 gf t kt ws m h) := by
  obtain ⟨hw, hS, hE, hK, hX⟩ := id hC
  refine Met.intro pl_14 (fun m9 => ef_cpOf m9 t kt ws m) hE ?_
  intro G hG
  refine iloadN hG d_jdk_65_method_121_code_0 rfl ?_
  refine aloadN hG d_jdk_65_method_121_code_1 rfl rfl ?_
  refine alen hG d_jdk_65_method_121_code_2 p0_arv ?_
  refine icmpYes hG d_jdk_65_method_121_code_3 (feq (ofN_ne (by omega) (by omega) (by omega))).2 (by decide) (pc' := 14) rfl ?_
  refine iloadN hG d_jdk_65_method_121_code_14 rfl ?_
  refine newarray hG d_jdk_65_method_121_code_15 rfl (w23 hw) (ofN_nn (by omega)) (cap := 100) (by rw [ofN_clamp (by omega)]; omega) (by decide) (Nat.le_of_ble_eq_true rfl) (Nat.le_of_ble_eq_true rfl) (cnt := m) (vs := (ints (List.replicate m 0))) (ints_rep _) (ad := "[B") (by decide +kernel) (fun h146 a147 kk148 g149 E150 V151 X152 => ?_)
  show G [a147] h146 (1) (100) 17 #[.val (.ref t), .val (.int (Int32.ofNat m)), .unset] [(.ref a147)]
  refine astoreN hG d_jdk_65_method_121_code_17 rfl rfl ?_
  refine aloadN hG d_jdk_65_method_121_code_18 rfl rfl ?_
  refine iconst hG d_jdk_65_method_121_code_19 (0) rfl ?_
  refine aloadN hG d_jdk_65_method_121_code_20 rfl rfl ?_
  refine iconst hG d_jdk_65_method_121_code_21 (0) rfl ?_
  refine aloadN hG d_jdk_65_method_121_code_22 rfl rfl ?_
  have V153 : Arv Z h146 t kt .byte (Int32.ofNat ws.length) (ints ws) (.int 0) := (p0_arv.ext E150)
  refine alen hG d_jdk_65_method_121_code_23 V153 ?_
  refine iloadN hG d_jdk_65_method_121_code_24 rfl ?_
  refine callStatic hG d_jdk_65_method_121_code_25 (w141 hw) (w142 hw) (w143 hw) (w144 hw) (by decide) (m_mmin hC (ws.length) (m) h146 (by first | omega | (simp; omega) | (simp; done) | decide) (by first | omega | (simp; omega) | (simp; done) | decide)) pd_6 rfl (rest := [(.int (0 : Int32)), (.ref a147), (.int (0 : Int32)), (.ref t)]) rfl rfl all0 (Nat.le_of_ble_eq_true rfl) (W := 4) (Nat.le_of_ble_eq_true rfl) (Nat.le_of_ble_eq_true rfl) (Nat.le_of_ble_eq_true rfl) (Nat.le_of_ble_eq_true rfl) (fun v154 M155 h156 le157 hq158 => ?_)
  obtain ⟨rfl, rfl, rfl⟩ := hq158
  show G [a147] h146 (1) (100) 28 #[.val (.ref t), .val (.int (Int32.ofNat m)), .val (.ref a147)] [(.int (Int32.ofNat (min ws.length m))), (.int (0 : Int32)), (.ref a147), (.int (0 : Int32)), (.ref t)]
  refine arraycopyI hG d_jdk_65_method_121_code_28 (w145 hw) (w99 hw) (w97 hw) (w98 hw) (xs := ws) (ys := (List.replicate m 0)) (dv := .int 0) (dd := .int 0) V153 V151 rfl (0) (0) ((min ws.length m)) (by first | rfl | (simp; done)) (by first | rfl | (simp; done)) rfl rfl rfl (by first | omega | (simp; omega) | decide) (by first | omega | (simp; omega) | decide) (by omega) (by simp; omega) (List.mem_of_getElem? (i := 0) rfl) rfl (Nat.le_of_ble_eq_true rfl) (W := 0) (Nat.le_of_ble_eq_true rfl) (Nat.le_of_ble_eq_true rfl) (fun h159 K160 V161 => ?_)
  have V162 : Arv Z h159 a147 kk148 .byte (Int32.ofNat m) (ints (ws ++ List.replicate (m - ws.length) 0)) (.int 0) := by have e9 := V161; rw [show min ws.length m = ws.length from by omega] at e9; simpa using e9
  show G [a147] h159 (1) (100) 31 #[.val (.ref t), .val (.int (Int32.ofNat m)), .val (.ref a147)] []
  refine aloadN hG d_jdk_65_method_121_code_31 rfl rfl ?_
  have E163 : Exa Z h159 a147 "[B" := (X152.keep K160)
  have K164 : Keep h h159 [] := (((Keep.refl _ _).ext E150).trans K160 (allS (Or.inr g149) all0))
  exact areturn hG rfl rfl rfl d_jdk_65_method_121_code_32 (M' := [a147]) ⟨a147, kk148, rfl, rfl, K164, g149, V162, E163⟩ (allS (List.mem_of_getElem? (i := 0) rfl) all0) (Nat.le_of_ble_eq_true rfl) (Nat.le_of_ble_eq_true rfl)
def Q_asbI (Z : State) (g0 : Int32) (gf : Value) (a : Addr) (h : Heap) : QT := fun v' M9 h9 => ∃ (t : Addr), ∃ (kt : ClassId), v' = none ∧ M9 = [t] ∧ Keep h h9 [a] ∧ h.size ≤ t ∧ Exa Z h9 a "java/lang/StringBuilder" ∧ Fld Z h9 a "java/lang/AbstractStringBuilder" "value" "[B" (.ref t) ∧ Fld Z h9 a "java/lang/AbstractStringBuilder" "coder" "B" (.int (0 : Int32)) ∧ Fld Z h9 a "java/lang/AbstractStringBuilder" "count" "I" (.int (0 : Int32)) ∧ Arv Z h9 t kt .byte (16 : Int32) (ints (List.replicate 16 0)) (.int 0) ∧ Exa Z h9 t "[B"
theorem ef_asbI (m9 : MethodId) (a : Addr) : entryFrame m9 [(.ref a), (.int (16 : Int32))].toArray 2 = mkF m9 0 #[.val (.ref a), .val (.int (16 : Int32))] [] := by first | rfl | (simp [entryFrame, mkF, argsToLocals, Value.category]; done)
set_option maxRecDepth 65536 in
set_option maxHeartbeats 4000000 in
theorem m_asbI {l : Launch} {Z : State} {a0 : Array Value} {n0 : Nat} {g0 : Int32} {gf : Value} (hC : Ctx l Z a0 n0 g0 gf) (a : Addr) (h : Heap) (p0_exa : Exa Z h a "java/lang/StringBuilder") (p1_fld : Fld Z h a "java/lang/AbstractStringBuilder" "value" "[B" .null) (p2_fld : Fld Z h a "java/lang/AbstractStringBuilder" "coder" "B" (.int (0 : Int32))) (p3_fld : Fld Z h a "java/lang/AbstractStringBuilder" "count" "I" (.int (0 : Int32))) :
    Met l Z EL0 n0 (⟨"java/lang/AbstractStringBuilder", "<init>", "(I)V"⟩ : MethodName) jdk_68_method_2_code 2 none [] ({ frames := 1, cells := 1, slots := 16, locals := 12 } : Room) [(.ref a), (.int (16 : Int32))] [a] h (Q_asbI Z g0 gf a h) := by
  obtain ⟨hw, hS, hE, hK, hX⟩ := id hC
  refine Met.intro pl_15 (fun m9 => ef_asbI m9 a) hE ?_
  intro G hG
  refine aloadN hG d_jdk_68_method_2_code_0 rfl rfl ?_
  refine objInit hG d_jdk_68_method_2_code_1 (w46 hw) (w20 hw) (w21 hw) rfl (Nat.le_of_ble_eq_true rfl) (W := 0) (Nat.le_of_ble_eq_true rfl) (Nat.le_of_ble_eq_true rfl) ?_
  refine getstatic hG d_jdk_68_method_2_code_4 (w47 hw) Via.refl hK.1 ?_
  refine ifNo hG d_jdk_68_method_2_code_7 (feq hK.2).1 ?_
  refine aloadN hG d_jdk_68_method_2_code_10 rfl rfl ?_
  refine iloadN hG d_jdk_68_method_2_code_11 rfl ?_
  refine newarray hG d_jdk_68_method_2_code_12 rfl (w23 hw) (by decide) (cap := 16) (by decide) (by decide) (Nat.le_of_ble_eq_true rfl) (Nat.le_of_ble_eq_true rfl) (cnt := 16) (vs := [(.int (0 : Int32)), (.int (0 : Int32)), (.int (0 : Int32)), (.int (0 : Int32)), (.int (0 : Int32)), (.int (0 : Int32)), (.int (0 : Int32)), (.int (0 : Int32)), (.int (0 : Int32)), (.int (0 : Int32)), (.int (0 : Int32)), (.int (0 : Int32)), (.int (0 : Int32)), (.int (0 : Int32)), (.int (0 : Int32)), (.int (0 : Int32))]) rfl (ad := "[B") (by decide +kernel) (fun h165 a166 kk167 g168 E169 V170 X171 => ?_)
  show G [a166, a] h165 (1) (16) 14 #[.val (.ref a), .val (.int (16 : Int32))] [(.ref a166), (.ref a)]
  have E172 : Exa Z h165 a "java/lang/StringBuilder" := (p0_exa.ext E169)
  have F173 : Fld Z h165 a "java/lang/AbstractStringBuilder" "value" "[B" .null := (p1_fld.ext E169)
  refine putfield hG d_jdk_68_method_2_code_14 (w48 hw) Via.refl F173 E172 (Or.inl (w49 hw)) (w35 hw) pf__B rfl rfl (List.mem_of_getElem? (i := 1) rfl) (fun h174 W175 => ?_)
  have F176 : Fld Z h174 a "java/lang/AbstractStringBuilder" "value" "[B" (.ref a166) := F173.same W175
  refine aloadN hG d_jdk_68_method_2_code_17 rfl rfl ?_
  refine iconst hG d_jdk_68_method_2_code_18 (0) rfl ?_
  have E177 : Exa Z h174 a "java/lang/StringBuilder" := (E172.wr W175)
  have F178 : Fld Z h174 a "java/lang/AbstractStringBuilder" "coder" "B" (.int (0 : Int32)) := ((p2_fld.ext E169).other W175 (Or.inr (RoadKit.slot_ne (Or.inl (w51 hw)) (Or.inl (w49 hw)) (by decide) pf_B pf__B)))
  refine putfield hG d_jdk_68_method_2_code_19 (w50 hw) Via.refl F178 E177 (Or.inl (w51 hw)) (w35 hw) pf_B rfl rfl (List.mem_of_getElem? (i := 1) rfl) (fun h179 W180 => ?_)
  have F181 : Fld Z h179 a "java/lang/AbstractStringBuilder" "coder" "B" (.int (0 : Int32)) := F178.same W180
  refine goto hG d_jdk_68_method_2_code_22 (by decide) (pc' := 38) rfl ?_
  have E182 : Exa Z h179 a "java/lang/StringBuilder" := (E177.wr W180)
  have F183 : Fld Z h179 a "java/lang/AbstractStringBuilder" "value" "[B" (.ref a166) := (F176.other W180 (Or.inr (RoadKit.slot_ne (Or.inl (w49 hw)) (Or.inl (w51 hw)) (by decide) pf__B pf_B)))
  have F184 : Fld Z h179 a "java/lang/AbstractStringBuilder" "count" "I" (.int (0 : Int32)) := (((p3_fld.ext E169).other W175 (Or.inr (RoadKit.slot_ne (Or.inl (w74 hw)) (Or.inl (w49 hw)) (by decide) pf_I pf__B))).other W180 (Or.inr (RoadKit.slot_ne (Or.inl (w74 hw)) (Or.inl (w51 hw)) (by decide) pf_I pf_B)))
  have ne185 : a166 ≠ a := (Nat.ne_of_gt (Nat.lt_of_lt_of_le p0_exa.lt g168))
  have V186 : Arv Z h179 a166 kk167 .byte (16 : Int32) [(.int (0 : Int32)), (.int (0 : Int32)), (.int (0 : Int32)), (.int (0 : Int32)), (.int (0 : Int32)), (.int (0 : Int32)), (.int (0 : Int32)), (.int (0 : Int32)), (.int (0 : Int32)), (.int (0 : Int32)), (.int (0 : Int32)), (.int (0 : Int32)), (.int (0 : Int32)), (.int (0 : Int32)), (.int (0 : Int32)), (.int (0 : Int32))] (.int 0) := ((V170.other W175 ne185).other W180 ne185)
  have E187 : Exa Z h179 a166 "[B" := ((X171.wr W175).wr W180)
  have K188 : Keep h h179 [a] := ((((Keep.refl _ _).ext E169).wr W175 (Or.inl (List.mem_of_getElem? (i := 0) rfl))).wr W180 (Or.inl (List.mem_of_getElem? (i := 0) rfl)))
  exact return0 hG d_jdk_68_method_2_code_38 (M' := [a166]) ⟨a166, kk167, rfl, rfl, K188, g168, E182, F183, F181, F184, V186, E187⟩ (allS (List.mem_of_getElem? (i := 0) rfl) all0) (Nat.le_of_ble_eq_true rfl) (Nat.le_of_ble_eq_true rfl)
def Q_sbI (Z : State) (g0 : Int32) (gf : Value) (a : Addr) (h : Heap) : QT := fun v' M9 h9 => ∃ (t : Addr), ∃ (kt : ClassId), v' = none ∧ M9 = [t] ∧ Keep h h9 [a] ∧ h.size ≤ t ∧ Exa Z h9 a "java/lang/StringBuilder" ∧ Fld Z h9 a "java/lang/AbstractStringBuilder" "value" "[B" (.ref t) ∧ Fld Z h9 a "java/lang/AbstractStringBuilder" "coder" "B" (.int (0 : Int32)) ∧ Fld Z h9 a "java/lang/AbstractStringBuilder" "count" "I" (.int (0 : Int32)) ∧ Arv Z h9 t kt .byte (16 : Int32) (ints (List.replicate 16 0)) (.int 0) ∧ Exa Z h9 t "[B"
theorem ef_sbI (m9 : MethodId) (a : Addr) : entryFrame m9 [(.ref a)].toArray 1 = mkF m9 0 #[.val (.ref a)] [] := by first | rfl | (simp [entryFrame, mkF, argsToLocals, Value.category]; done)
set_option maxRecDepth 65536 in
set_option maxHeartbeats 4000000 in
theorem m_sbI {l : Launch} {Z : State} {a0 : Array Value} {n0 : Nat} {g0 : Int32} {gf : Value} (hC : Ctx l Z a0 n0 g0 gf) (a : Addr) (h : Heap) (p0_exa : Exa Z h a "java/lang/StringBuilder") (p1_fld : Fld Z h a "java/lang/AbstractStringBuilder" "value" "[B" .null) (p2_fld : Fld Z h a "java/lang/AbstractStringBuilder" "coder" "B" (.int (0 : Int32))) (p3_fld : Fld Z h a "java/lang/AbstractStringBuilder" "count" "I" (.int (0 : Int32))) :
    Met l Z EL0 n0 (⟨"java/lang/StringBuilder", "<init>", "()V"⟩ : MethodName) jdk_67_method_1_code 1 none [] ({ frames := 2, cells := 1, slots := 16, locals := 25 } : Room) [(.ref a)] [a] h (Q_sbI Z g0 gf a h) := by
  obtain ⟨hw, hS, hE, hK, hX⟩ := id hC
  refine Met.intro pl_16 (fun m9 => ef_sbI m9 a) hE ?_
  intro G hG
  refine aloadN hG d_jdk_67_method_1_code_0 rfl rfl ?_
  refine bipush hG d_jdk_67_method_1_code_1 (16) rfl ?_
  refine callInit hG d_jdk_67_method_1_code_3 rfl (w40 hw) (w41 hw) (w44 hw) (w45 hw) (by decide) (m_asbI hC (a) h p0_exa p1_fld p2_fld p3_fld) pd_8 rfl (rest := []) rfl rfl (allS (List.mem_of_getElem? (i := 0) rfl) all0) (Nat.le_of_ble_eq_true rfl) (W := 0) (Nat.le_of_ble_eq_true rfl) (Nat.le_of_ble_eq_true rfl) (Nat.le_of_ble_eq_true rfl) (Nat.le_of_ble_eq_true rfl) (fun v189 M190 h191 le192 hq193 => ?_)
  obtain ⟨t194, kt195, rfl, rfl, K196, g197, f198, f199, f200, f201, f202, f203⟩ := hq193
  show G [t194, a] h191 (1) (16) 6 #[.val (.ref a)] []
  have K204 : Keep h h191 [a] := ((Keep.refl _ _).trans K196 (allS (Or.inl (List.mem_of_getElem? (i := 0) rfl)) all0))
  exact return0 hG d_jdk_67_method_1_code_6 (M' := [t194]) ⟨t194, kt195, rfl, rfl, K204, g197, f198, f199, f200, f201, f202, f203⟩ (allS (List.mem_of_getElem? (i := 0) rfl) all0) (Nat.le_of_ble_eq_true rfl) (Nat.le_of_ble_eq_true rfl)
def Q_ens (Z : State) (g0 : Int32) (gf : Value) (a : Addr) (t : Addr) (kt : ClassId) (ws : List Int32) (m : Nat) (cnt : Int32) (h : Heap) : QT := fun v' M9 h9 => ∃ (t2 : Addr), ∃ (k2 : ClassId), ∃ (us : List Int32), v' = none ∧ M9 = [t2] ∧ Keep h h9 [a] ∧ Exa Z h9 a "java/lang/StringBuilder" ∧ Fld Z h9 a "java/lang/AbstractStringBuilder" "value" "[B" (.ref t2) ∧ Fld Z h9 a "java/lang/AbstractStringBuilder" "coder" "B" (.int (0 : Int32)) ∧ Fld Z h9 a "java/lang/AbstractStringBuilder" "count" "I" (.int cnt) ∧ Arv Z h9 t2 k2 .byte (Int32.ofNat (ws ++ us).length) (ints (ws ++ us)) (.int 0) ∧ Exa Z h9 t2 "[B" ∧ (t2 = t ∨ h.size ≤ t2) ∧ (m ≤ (ws ++ us).length) ∧ (us = [] ∨ (ws.length < m ∧ (ws ++ us).length ≤ max m (2 * ws.length + 2)))
theorem ef_ens (m9 : MethodId) (a : Addr) (t : Addr) (kt : ClassId) (ws : List Int32) (m : Nat) (cnt : Int32) : entryFrame m9 [(.ref a), (.int (Int32.ofNat m))].toArray 3 = mkF m9 0 #[.val (.ref a), .val (.int (Int32.ofNat m)), .unset] [] := by first | rfl | (simp [entryFrame, mkF, argsToLocals, Value.category]; done)
set_option maxRecDepth 65536 in
set_option maxHeartbeats 4000000 in
theorem m_ens {l : Launch} {Z : State} {a0 : Array Value} {n0 : Nat} {g0 : Int32} {gf : Value} (hC : Ctx l Z a0 n0 g0 gf) (a : Addr) (t : Addr) (kt : ClassId) (ws : List Int32) (m : Nat) (cnt : Int32) (h : Heap) (p0_exa : Exa Z h a "java/lang/StringBuilder") (p1_fld : Fld Z h a "java/lang/AbstractStringBuilder" "value" "[B" (.ref t)) (p2_fld : Fld Z h a "java/lang/AbstractStringBuilder" "coder" "B" (.int (0 : Int32))) (p3_fld : Fld Z h a "java/lang/AbstractStringBuilder" "count" "I" (.int cnt)) (p4_arv : Arv Z h t kt .byte (Int32.ofNat ws.length) (ints ws) (.int 0)) (p5_exa : Exa Z h t "[B") (hm : m ≤ 100) (hwl : 2 * ws.length + 2 ≤ 100) :
    Met l Z EL0 n0 (⟨"java/lang/AbstractStringBuilder", "ensureCapacityInternal", "(I)V"⟩ : MethodName) jdk_68_method_9_code 3 none [] ({ frames := 3, cells := 1, slots := 100, locals := 48 } : Room) [(.ref a), (.int (Int32.ofNat m))] [a, t] h (Q_ens Z g0 gf a t kt ws m cnt h) := by
  obtain ⟨hw, hS, hE, hK, hX⟩ := id hC
  refine Met.intro pl_17 (fun m9 => ef_ens m9 a t kt ws m cnt) hE ?_
  intro G hG
  refine aloadN hG d_jdk_68_method_9_code_0 rfl rfl ?_
  refine getfield hG d_jdk_68_method_9_code_1 (w48 hw) Via.refl p1_fld ?_
  refine alen hG d_jdk_68_method_9_code_4 p4_arv ?_
  refine aloadN hG d_jdk_68_method_9_code_5 rfl rfl ?_
  refine getfield hG d_jdk_68_method_9_code_6 (w50 hw) Via.refl p2_fld ?_
  refine ishr hG d_jdk_68_method_9_code_9 ?_
  have e205 : ((Int32.ofNat ws.length) >>> ((0 : Int32) &&& 31)) = (Int32.ofNat ws.length) := shr0 _
  rw [e205]
  show G [a, t] h (0) (0) 10 #[.val (.ref a), .val (.int (Int32.ofNat m)), .unset] [(.int (Int32.ofNat ws.length))]
  refine istoreN hG d_jdk_68_method_9_code_10 rfl ?_
  refine iloadN hG d_jdk_68_method_9_code_11 rfl ?_
  refine iloadN hG d_jdk_68_method_9_code_12 rfl ?_
  refine isub hG d_jdk_68_method_9_code_13 ?_
  refine if_le hG d_jdk_68_method_9_code_14 (by decide) (pc' := 38) rfl (fun q206 => ?_) (fun q206 => ?_)
  · skip
    have hl207 : m ≤ ws.length := subLe (by omega) (by omega) q206
    have V208 : Arv Z h t kt .byte (Int32.ofNat (ws ++ []).length) (ints (ws ++ [])) (.int 0) := by simpa using p4_arv
    have K209 : Keep h h [a] := (Keep.refl _ _)
    exact return0 hG d_jdk_68_method_9_code_38 (M' := [t]) ⟨t, kt, [], rfl, rfl, K209, p0_exa, p1_fld, p2_fld, p3_fld, V208, p5_exa, (Or.inl rfl), (by simpa using hl207), (Or.inl rfl)⟩ (allS (List.mem_of_getElem? (i := 1) rfl) all0) (Nat.le_of_ble_eq_true rfl) (Nat.le_of_ble_eq_true rfl)
  · skip
    have hl210 : ws.length < m := subLt (by omega) (by omega) q206
    refine aloadN hG d_jdk_68_method_9_code_17 rfl rfl ?_
    refine aloadN hG d_jdk_68_method_9_code_18 rfl rfl ?_
    refine getfield hG d_jdk_68_method_9_code_19 (w48 hw) Via.refl p1_fld ?_
    refine aloadN hG d_jdk_68_method_9_code_22 rfl rfl ?_
    refine iloadN hG d_jdk_68_method_9_code_23 rfl ?_
    refine callPrivate hG d_jdk_68_method_9_code_24 p0_exa (w198 hw) (w200 hw) (w201 hw) (w199 hw) (w44 hw) (w202 hw) (by decide) (m_newCap hC (a) (t) (kt) (ws) (m) h p0_exa p1_fld p2_fld p4_arv hl210 hm) pd_9 rfl (rest := [(.ref t), (.ref a)]) rfl rfl all0 (Nat.le_of_ble_eq_true rfl) (W := 2) (Nat.le_of_ble_eq_true rfl) (Nat.le_of_ble_eq_true rfl) (Nat.le_of_ble_eq_true rfl) (Nat.le_of_ble_eq_true rfl) (fun v211 M212 h213 le214 hq215 => ?_)
    obtain ⟨rfl, rfl, rfl⟩ := hq215
    show G [a, t] h (0) (0) 27 #[.val (.ref a), .val (.int (Int32.ofNat m)), .val (.int (Int32.ofNat ws.length))] [(.int (Int32.ofNat (ws.length + max (m - ws.length) (ws.length + 2)))), (.ref t), (.ref a)]
    refine aloadN hG d_jdk_68_method_9_code_27 rfl rfl ?_
    refine getfield hG d_jdk_68_method_9_code_28 (w50 hw) Via.refl p2_fld ?_
    refine ishl hG d_jdk_68_method_9_code_31 ?_
    have e216 : ((Int32.ofNat (ws.length + max (m - ws.length) (ws.length + 2))) <<< ((0 : Int32) &&& 31)) = (Int32.ofNat (ws.length + max (m - ws.length) (ws.length + 2))) := shl0 _
    rw [e216]
    show G [a, t] h (0) (0) 32 #[.val (.ref a), .val (.int (Int32.ofNat m)), .val (.int (Int32.ofNat ws.length))] [(.int (Int32.ofNat (ws.length + max (m - ws.length) (ws.length + 2)))), (.ref t), (.ref a)]
    refine callStatic hG d_jdk_68_method_9_code_32 (w212 hw) (w213 hw) (w133 hw) (w214 hw) (by decide) (m_cpOf hC (t) (kt) (ws) ((ws.length + max (m - ws.length) (ws.length + 2))) h p4_arv (by first | omega | (simp; omega) | (simp; done) | decide) (by first | omega | (simp; omega) | (simp; done) | decide)) pd_10 rfl (rest := [(.ref a)]) rfl rfl all0 (Nat.le_of_ble_eq_true rfl) (W := 1) (Nat.le_of_ble_eq_true rfl) (Nat.le_of_ble_eq_true rfl) (Nat.le_of_ble_eq_true rfl) (Nat.le_of_ble_eq_true rfl) (fun v217 M218 h219 le220 hq221 => ?_)
    obtain ⟨t2222, k2223, rfl, rfl, K224, g225, f226, f227⟩ := hq221
    show G [t2222, a, t] h219 (1) (100) 35 #[.val (.ref a), .val (.int (Int32.ofNat m)), .val (.int (Int32.ofNat ws.length))] [(.ref t2222), (.ref a)]
    have E228 : Exa Z h219 a "java/lang/StringBuilder" := (p0_exa.keep K224)
    have F229 : Fld Z h219 a "java/lang/AbstractStringBuilder" "value" "[B" (.ref t) := (p1_fld.keep K224 nin0)
    refine putfield hG d_jdk_68_method_9_code_35 (w48 hw) Via.refl F229 E228 (Or.inl (w49 hw)) (w35 hw) pf__B rfl rfl (List.mem_of_getElem? (i := 1) rfl) (fun h230 W231 => ?_)
    have F232 : Fld Z h230 a "java/lang/AbstractStringBuilder" "value" "[B" (.ref t2222) := F229.same W231
    have ne233 : t2222 ≠ a := (Nat.ne_of_gt (Nat.lt_of_lt_of_le p0_exa.lt g225))
    have V234 : Arv Z h230 t2222 k2223 .byte (Int32.ofNat (ws.length + max (m - ws.length) (ws.length + 2))) (ints (ws ++ List.replicate ((ws.length + max (m - ws.length) (ws.length + 2)) - ws.length) 0)) (.int 0) := (f226.other W231 ne233)
    have V235 : Arv Z h230 t2222 k2223 .byte (Int32.ofNat (ws ++ (List.replicate ((ws.length + max (m - ws.length) (ws.length + 2)) - ws.length) 0)).length) (ints (ws ++ (List.replicate ((ws.length + max (m - ws.length) (ws.length + 2)) - ws.length) 0))) (.int 0) := (by have e9 : (ws ++ (List.replicate ((ws.length + max (m - ws.length) (ws.length + 2)) - ws.length) 0)).length = (ws.length + max (m - ws.length) (ws.length + 2)) := (by first | (simp; done) | (simp; omega)); rw [e9]; exact V234)
    have E236 : Exa Z h230 a "java/lang/StringBuilder" := (E228.wr W231)
    have F237 : Fld Z h230 a "java/lang/AbstractStringBuilder" "coder" "B" (.int (0 : Int32)) := ((p2_fld.keep K224 nin0).other W231 (Or.inr (RoadKit.slot_ne (Or.inl (w51 hw)) (Or.inl (w49 hw)) (by decide) pf_B pf__B)))
    have F238 : Fld Z h230 a "java/lang/AbstractStringBuilder" "count" "I" (.int cnt) := ((p3_fld.keep K224 nin0).other W231 (Or.inr (RoadKit.slot_ne (Or.inl (w74 hw)) (Or.inl (w49 hw)) (by decide) pf_I pf__B)))
    have E239 : Exa Z h230 t2222 "[B" := (f227.wr W231)
    have K240 : Keep h h230 [a] := (((Keep.refl _ _).trans K224 all0).wr W231 (Or.inl (List.mem_of_getElem? (i := 0) rfl)))
    exact return0 hG d_jdk_68_method_9_code_38 (M' := [t2222]) ⟨t2222, k2223, (List.replicate ((ws.length + max (m - ws.length) (ws.length + 2)) - ws.length) 0), rfl, rfl, K240, E236, F232, F237, F238, V235, E239, (Or.inr g225), (by simp; omega), (Or.inr ⟨hl210, by simp; omega⟩)⟩ (allS (List.mem_of_getElem? (i := 0) rfl) all0) (Nat.le_of_ble_eq_true rfl) (Nat.le_of_ble_eq_true rfl)
def Q_gb3 (Z : State) (g0 : Int32) (gf : Value) (sa : Addr) (tb : Addr) (kb : ClassId) (ys : List Int32) (t : Addr) (kt : ClassId) (ws : List Int32) (i : Nat) (h : Heap) : QT := fun v' M9 h9 => v' = none ∧ M9 = [] ∧ Keep h h9 [t] ∧ Arv Z h9 t kt .byte (Int32.ofNat ws.length) (ints (ws.take i ++ ys ++ ws.drop (i + ys.length))) (.int 0)
theorem ef_gb3 (m9 : MethodId) (sa : Addr) (tb : Addr) (kb : ClassId) (ys : List Int32) (t : Addr) (kt : ClassId) (ws : List Int32) (i : Nat) : entryFrame m9 [(.ref sa), (.ref t), (.int (Int32.ofNat i)), (.int (0 : Int32))].toArray 4 = mkF m9 0 #[.val (.ref sa), .val (.ref t), .val (.int (Int32.ofNat i)), .val (.int (0 : Int32))] [] := by first | rfl | (simp [entryFrame, mkF, argsToLocals, Value.category]; done)
set_option maxRecDepth 65536 in
set_option maxHeartbeats 4000000 in
theorem m_gb3 {l : Launch} {Z : State} {a0 : Array Value} {n0 : Nat} {g0 : Int32} {gf : Value} (hC : Ctx l Z a0 n0 g0 gf) (sa : Addr) (tb : Addr) (kb : ClassId) (ys : List Int32) (t : Addr) (kt : ClassId) (ws : List Int32) (i : Nat) (h : Heap) (p0_exa : Exa Z h sa "java/lang/String") (p1_fld : Fld Z h sa "java/lang/String" "coder" "B" (.int (0 : Int32))) (p2_fld : Fld Z h sa "java/lang/String" "value" "[B" (.ref tb)) (p3_arv : Arv Z h tb kb .byte (Int32.ofNat ys.length) (ints ys) (.int 0)) (p4_arv : Arv Z h t kt .byte (Int32.ofNat ws.length) (ints ws) (.int 0)) (hfit : i + ys.length ≤ ws.length) (hw31 : ws.length < 2 ^ 31) :
    Met l Z EL0 n0 (⟨"java/lang/String", "getBytes", "([BIB)V"⟩ : MethodName) jdk_42_method_147_code 4 none [] ({ frames := 1, cells := 0, slots := 0, locals := 18 } : Room) [(.ref sa), (.ref t), (.int (Int32.ofNat i)), (.int (0 : Int32))] [t] h (Q_gb3 Z g0 gf sa tb kb ys t kt ws i h) := by
  obtain ⟨hw, hS, hE, hK, hX⟩ := id hC
  refine Met.intro pl_18 (fun m9 => ef_gb3 m9 sa tb kb ys t kt ws i) hE ?_
  intro G hG
  refine aloadN hG d_jdk_42_method_147_code_0 rfl rfl ?_
  refine callVirtual hG d_jdk_42_method_147_code_1 p0_exa (w67 hw) (w68 hw) (fun _ hz => notFace_of_selects (args := #[]) (mvT hz (w70 hw))) (w70 hw) (w69 hw) (w10 hw) (w71 hw) (by decide) (m_coder hC (sa) ((0 : Int32)) h p1_fld rfl) pd_5 rfl (rest := []) rfl rfl all0 (Nat.le_of_ble_eq_true rfl) (W := 0) (Nat.le_of_ble_eq_true rfl) (Nat.le_of_ble_eq_true rfl) (Nat.le_of_ble_eq_true rfl) (Nat.le_of_ble_eq_true rfl) (fun v241 M242 h243 le244 hq245 => ?_)
  obtain ⟨rfl, rfl, rfl⟩ := hq245
  show G [t] h (0) (0) 4 #[.val (.ref sa), .val (.ref t), .val (.int (Int32.ofNat i)), .val (.int (0 : Int32))] [(.int (0 : Int32))]
  refine iloadN hG d_jdk_42_method_147_code_4 rfl ?_
  refine icmpNo hG d_jdk_42_method_147_code_5 (by decide) ?_
  refine aloadN hG d_jdk_42_method_147_code_8 rfl rfl ?_
  refine getfield hG d_jdk_42_method_147_code_9 (w28 hw) Via.refl p2_fld ?_
  refine iconst hG d_jdk_42_method_147_code_12 (0) rfl ?_
  refine aloadN hG d_jdk_42_method_147_code_13 rfl rfl ?_
  refine iloadN hG d_jdk_42_method_147_code_14 rfl ?_
  refine iloadN hG d_jdk_42_method_147_code_15 rfl ?_
  refine ishl hG d_jdk_42_method_147_code_16 ?_
  have e246 : ((Int32.ofNat i) <<< ((0 : Int32) &&& 31)) = (Int32.ofNat i) := shl0 _
  rw [e246]
  show G [t] h (0) (0) 17 #[.val (.ref sa), .val (.ref t), .val (.int (Int32.ofNat i)), .val (.int (0 : Int32))] [(.int (Int32.ofNat i)), (.ref t), (.int (0 : Int32)), (.ref tb)]
  refine aloadN hG d_jdk_42_method_147_code_17 rfl rfl ?_
  refine getfield hG d_jdk_42_method_147_code_18 (w28 hw) Via.refl p2_fld ?_
  refine alen hG d_jdk_42_method_147_code_21 p3_arv ?_
  refine arraycopyI hG d_jdk_42_method_147_code_22 (w96 hw) (w99 hw) (w97 hw) (w98 hw) (xs := ys) (ys := ws) (dv := .int 0) (dd := .int 0) p3_arv p4_arv rfl (0) (i) (ys.length) (by first | rfl | (simp; done)) (by first | rfl | (simp; done)) rfl rfl rfl (by first | omega | (simp; omega) | decide) (by first | omega | (simp; omega) | decide) (by omega) (by omega) (List.mem_of_getElem? (i := 0) rfl) rfl (Nat.le_of_ble_eq_true rfl) (W := 0) (Nat.le_of_ble_eq_true rfl) (Nat.le_of_ble_eq_true rfl) (fun h247 K248 V249 => ?_)
  have V250 : Arv Z h247 t kt .byte (Int32.ofNat ws.length) (ints (ws.take i ++ ys ++ ws.drop (i + ys.length))) (.int 0) := by simpa using V249
  show G [t] h247 (0) (0) 25 #[.val (.ref sa), .val (.ref t), .val (.int (Int32.ofNat i)), .val (.int (0 : Int32))] []
  refine goto hG d_jdk_42_method_147_code_25 (by decide) (pc' := 43) rfl ?_
  have K251 : Keep h h247 [t] := ((Keep.refl _ _).trans K248 (allS (Or.inl (List.mem_of_getElem? (i := 0) rfl)) all0))
  exact return0 hG d_jdk_42_method_147_code_43 (M' := []) ⟨rfl, rfl, K251, V250⟩ all0 (Nat.le_of_ble_eq_true rfl) (Nat.le_of_ble_eq_true rfl)
def Q_infl (Z : State) (g0 : Int32) (gf : Value) (a : Addr) (sa : Addr) (h : Heap) : QT := fun v' M9 h9 => v' = none ∧ M9 = [] ∧ h = h9
theorem ef_infl (m9 : MethodId) (a : Addr) (sa : Addr) : entryFrame m9 [(.ref a), (.ref sa)].toArray 2 = mkF m9 0 #[.val (.ref a), .val (.ref sa)] [] := by first | rfl | (simp [entryFrame, mkF, argsToLocals, Value.category]; done)
set_option maxRecDepth 65536 in
set_option maxHeartbeats 4000000 in
theorem m_infl {l : Launch} {Z : State} {a0 : Array Value} {n0 : Nat} {g0 : Int32} {gf : Value} (hC : Ctx l Z a0 n0 g0 gf) (a : Addr) (sa : Addr) (h : Heap) (p0_exa : Exa Z h a "java/lang/StringBuilder") (p1_fld : Fld Z h a "java/lang/AbstractStringBuilder" "coder" "B" (.int (0 : Int32))) (p2_exa : Exa Z h sa "java/lang/String") (p3_fld : Fld Z h sa "java/lang/String" "coder" "B" (.int (0 : Int32))) :
    Met l Z EL0 n0 (⟨"java/lang/AbstractStringBuilder", "inflateIfNeededFor", "(Ljava/lang/String;)V"⟩ : MethodName) jdk_68_method_71_code 2 none [] ({ frames := 1, cells := 0, slots := 0, locals := 13 } : Room) [(.ref a), (.ref sa)] [] h (Q_infl Z g0 gf a sa h) := by
  obtain ⟨hw, hS, hE, hK, hX⟩ := id hC
  refine Met.intro pl_19 (fun m9 => ef_infl m9 a sa) hE ?_
  intro G hG
  refine getstatic hG d_jdk_68_method_71_code_0 (w47 hw) Via.refl hK.1 ?_
  refine ifNo hG d_jdk_68_method_71_code_3 (feq hK.2).1 ?_
  refine aloadN hG d_jdk_68_method_71_code_6 rfl rfl ?_
  refine getfield hG d_jdk_68_method_71_code_7 (w50 hw) Via.refl p1_fld ?_
  refine aloadN hG d_jdk_68_method_71_code_10 rfl rfl ?_
  refine callVirtual hG d_jdk_68_method_71_code_11 p2_exa (w90 hw) (w68 hw) (fun _ hz => notFace_of_selects (args := #[]) (mvT hz (w70 hw))) (w70 hw) (w69 hw) (w10 hw) (w71 hw) (by decide) (m_coder hC (sa) ((0 : Int32)) h p3_fld rfl) pd_5 rfl (rest := [(.int (0 : Int32))]) rfl rfl all0 (Nat.le_of_ble_eq_true rfl) (W := 1) (Nat.le_of_ble_eq_true rfl) (Nat.le_of_ble_eq_true rfl) (Nat.le_of_ble_eq_true rfl) (Nat.le_of_ble_eq_true rfl) (fun v252 M253 h254 le255 hq256 => ?_)
  obtain ⟨rfl, rfl, rfl⟩ := hq256
  show G [] h (0) (0) 14 #[.val (.ref a), .val (.ref sa)] [(.int (0 : Int32)), (.int (0 : Int32))]
  refine icmpYes hG d_jdk_68_method_71_code_14 (by decide) (by decide) (pc' := 21) rfl ?_
  exact return0 hG d_jdk_68_method_71_code_21 (M' := []) ⟨rfl, rfl, rfl⟩ all0 (Nat.le_of_ble_eq_true rfl) (Nat.le_of_ble_eq_true rfl)
def Q_psa (Z : State) (g0 : Int32) (gf : Value) (a : Addr) (sa : Addr) (tb : Addr) (kb : ClassId) (ys : List Int32) (t : Addr) (kt : ClassId) (ws : List Int32) (i : Nat) (h : Heap) : QT := fun v' M9 h9 => v' = none ∧ M9 = [] ∧ Keep h h9 [t] ∧ Arv Z h9 t kt .byte (Int32.ofNat ws.length) (ints (ws.take i ++ ys ++ ws.drop (i + ys.length))) (.int 0)
theorem ef_psa (m9 : MethodId) (a : Addr) (sa : Addr) (tb : Addr) (kb : ClassId) (ys : List Int32) (t : Addr) (kt : ClassId) (ws : List Int32) (i : Nat) : entryFrame m9 [(.ref a), (.int (Int32.ofNat i)), (.ref sa)].toArray 3 = mkF m9 0 #[.val (.ref a), .val (.int (Int32.ofNat i)), .val (.ref sa)] [] := by first | rfl | (simp [entryFrame, mkF, argsToLocals, Value.category]; done)
set_option maxRecDepth 65536 in
set_option maxHeartbeats 4000000 in
theorem m_psa {l : Launch} {Z : State} {a0 : Array Value} {n0 : Nat} {g0 : Int32} {gf : Value} (hC : Ctx l Z a0 n0 g0 gf) (a : Addr) (sa : Addr) (tb : Addr) (kb : ClassId) (ys : List Int32) (t : Addr) (kt : ClassId) (ws : List Int32) (i : Nat) (h : Heap) (p0_exa : Exa Z h a "java/lang/StringBuilder") (p1_fld : Fld Z h a "java/lang/AbstractStringBuilder" "value" "[B" (.ref t)) (p2_fld : Fld Z h a "java/lang/AbstractStringBuilder" "coder" "B" (.int (0 : Int32))) (p3_exa : Exa Z h sa "java/lang/String") (p4_fld : Fld Z h sa "java/lang/String" "coder" "B" (.int (0 : Int32))) (p5_fld : Fld Z h sa "java/lang/String" "value" "[B" (.ref tb)) (p6_arv : Arv Z h tb kb .byte (Int32.ofNat ys.length) (ints ys) (.int 0)) (p7_arv : Arv Z h t kt .byte (Int32.ofNat ws.length) (ints ws) (.int 0)) (hfit : i + ys.length ≤ ws.length) (hw31 : ws.length < 2 ^ 31) :
    Met l Z EL0 n0 (⟨"java/lang/AbstractStringBuilder", "putStringAt", "(ILjava/lang/String;)V"⟩ : MethodName) jdk_68_method_73_code 3 none [] ({ frames := 2, cells := 0, slots := 0, locals := 33 } : Room) [(.ref a), (.int (Int32.ofNat i)), (.ref sa)] [t] h (Q_psa Z g0 gf a sa tb kb ys t kt ws i h) := by
  obtain ⟨hw, hS, hE, hK, hX⟩ := id hC
  refine Met.intro pl_20 (fun m9 => ef_psa m9 a sa tb kb ys t kt ws i) hE ?_
  intro G hG
  refine aloadN hG d_jdk_68_method_73_code_0 rfl rfl ?_
  refine aloadN hG d_jdk_68_method_73_code_1 rfl rfl ?_
  refine callPrivate hG d_jdk_68_method_73_code_2 p0_exa (w85 hw) (w87 hw) (w88 hw) (w86 hw) (w44 hw) (w89 hw) (by decide) (m_infl hC (a) (sa) h p0_exa p2_fld p3_exa p4_fld) pd_11 rfl (rest := []) rfl rfl all0 (Nat.le_of_ble_eq_true rfl) (W := 0) (Nat.le_of_ble_eq_true rfl) (Nat.le_of_ble_eq_true rfl) (Nat.le_of_ble_eq_true rfl) (Nat.le_of_ble_eq_true rfl) (fun v257 M258 h259 le260 hq261 => ?_)
  obtain ⟨rfl, rfl, rfl⟩ := hq261
  show G [t] h (0) (0) 5 #[.val (.ref a), .val (.int (Int32.ofNat i)), .val (.ref sa)] []
  refine aloadN hG d_jdk_68_method_73_code_5 rfl rfl ?_
  refine aloadN hG d_jdk_68_method_73_code_6 rfl rfl ?_
  refine getfield hG d_jdk_68_method_73_code_7 (w48 hw) Via.refl p1_fld ?_
  refine iloadN hG d_jdk_68_method_73_code_10 rfl ?_
  refine aloadN hG d_jdk_68_method_73_code_11 rfl rfl ?_
  refine getfield hG d_jdk_68_method_73_code_12 (w50 hw) Via.refl p2_fld ?_
  refine callVirtual hG d_jdk_68_method_73_code_15 p3_exa (w91 hw) (w92 hw) (fun _ hz => notFace_of_selects (args := #[]) (mvT hz (w94 hw))) (w94 hw) (w93 hw) (w10 hw) (w95 hw) (by decide) (m_gb3 hC (sa) (tb) (kb) (ys) (t) (kt) (ws) (i) h p3_exa p4_fld p5_fld p6_arv p7_arv hfit hw31) pd_12 rfl (rest := []) rfl rfl (allS (List.mem_of_getElem? (i := 0) rfl) all0) (Nat.le_of_ble_eq_true rfl) (W := 0) (Nat.le_of_ble_eq_true rfl) (Nat.le_of_ble_eq_true rfl) (Nat.le_of_ble_eq_true rfl) (Nat.le_of_ble_eq_true rfl) (fun v262 M263 h264 le265 hq266 => ?_)
  obtain ⟨rfl, rfl, K267, f268⟩ := hq266
  show G [t] h264 (0) (0) 18 #[.val (.ref a), .val (.int (Int32.ofNat i)), .val (.ref sa)] []
  have K269 : Keep h h264 [t] := ((Keep.refl _ _).trans K267 (allS (Or.inl (List.mem_of_getElem? (i := 0) rfl)) all0))
  exact return0 hG d_jdk_68_method_73_code_18 (M' := []) ⟨rfl, rfl, K269, f268⟩ all0 (Nat.le_of_ble_eq_true rfl) (Nat.le_of_ble_eq_true rfl)
def Q_asbA (Z : State) (g0 : Int32) (gf : Value) (a : Addr) (t : Addr) (kt : ClassId) (ws : List Int32) (n : Nat) (sa : Addr) (tb : Addr) (kb : ClassId) (ys : List Int32) (h : Heap) : QT := fun v' M9 h9 => ∃ (t2 : Addr), ∃ (k2 : ClassId), ∃ (ws2 : List Int32), v' = some (.ref a) ∧ M9 = [t2] ∧ Keep h h9 [a, t] ∧ Exa Z h9 a "java/lang/StringBuilder" ∧ Fld Z h9 a "java/lang/AbstractStringBuilder" "value" "[B" (.ref t2) ∧ Fld Z h9 a "java/lang/AbstractStringBuilder" "coder" "B" (.int (0 : Int32)) ∧ Fld Z h9 a "java/lang/AbstractStringBuilder" "count" "I" (.int (Int32.ofNat (n + ys.length))) ∧ Arv Z h9 t2 k2 .byte (Int32.ofNat ws2.length) (ints ws2) (.int 0) ∧ Exa Z h9 t2 "[B" ∧ (t2 = t ∨ h.size ≤ t2) ∧ (n + ys.length ≤ ws2.length) ∧ (ws2.take (n + ys.length) = ws.take n ++ ys) ∧ (ws2.length = ws.length ∨ (ws.length < n + ys.length ∧ ws2.length ≤ max (n + ys.length) (2 * ws.length + 2)))
theorem ef_asbA (m9 : MethodId) (a : Addr) (t : Addr) (kt : ClassId) (ws : List Int32) (n : Nat) (sa : Addr) (tb : Addr) (kb : ClassId) (ys : List Int32) : entryFrame m9 [(.ref a), (.ref sa)].toArray 3 = mkF m9 0 #[.val (.ref a), .val (.ref sa), .unset] [] := by first | rfl | (simp [entryFrame, mkF, argsToLocals, Value.category]; done)
set_option maxRecDepth 65536 in
set_option maxHeartbeats 4000000 in
theorem m_asbA {l : Launch} {Z : State} {a0 : Array Value} {n0 : Nat} {g0 : Int32} {gf : Value} (hC : Ctx l Z a0 n0 g0 gf) (a : Addr) (t : Addr) (kt : ClassId) (ws : List Int32) (n : Nat) (sa : Addr) (tb : Addr) (kb : ClassId) (ys : List Int32) (h : Heap) (p0_exa : Exa Z h a "java/lang/StringBuilder") (p1_fld : Fld Z h a "java/lang/AbstractStringBuilder" "value" "[B" (.ref t)) (p2_fld : Fld Z h a "java/lang/AbstractStringBuilder" "coder" "B" (.int (0 : Int32))) (p3_fld : Fld Z h a "java/lang/AbstractStringBuilder" "count" "I" (.int (Int32.ofNat n))) (p4_arv : Arv Z h t kt .byte (Int32.ofNat ws.length) (ints ws) (.int 0)) (p5_exa : Exa Z h t "[B") (p6_exa : Exa Z h sa "java/lang/String") (p7_fld : Fld Z h sa "java/lang/String" "coder" "B" (.int (0 : Int32))) (p8_fld : Fld Z h sa "java/lang/String" "value" "[B" (.ref tb)) (p9_arv : Arv Z h tb kb .byte (Int32.ofNat ys.length) (ints ys) (.int 0)) (hnw : n ≤ ws.length) (hm : n + ys.length ≤ 100) (hwl : 2 * ws.length + 2 ≤ 100) (htt : tb ≠ t) :
    Met l Z EL0 n0 (⟨"java/lang/AbstractStringBuilder", "append", "(Ljava/lang/String;)Ljava/lang/AbstractStringBuilder;"⟩ : MethodName) jdk_68_method_22_code 3 (some (.object "java/lang/AbstractStringBuilder")) [] ({ frames := 4, cells := 1, slots := 100, locals := 62 } : Room) [(.ref a), (.ref sa)] [a, t] h (Q_asbA Z g0 gf a t kt ws n sa tb kb ys h) := by
  obtain ⟨hw, hS, hE, hK, hX⟩ := id hC
  refine Met.intro pl_21 (fun m9 => ef_asbA m9 a t kt ws n sa tb kb ys) hE ?_
  intro G hG
  refine aloadN hG d_jdk_68_method_22_code_0 rfl rfl ?_
  refine ifnonnullYes hG d_jdk_68_method_22_code_1 (by decide) (pc' := 9) rfl ?_
  refine aloadN hG d_jdk_68_method_22_code_9 rfl rfl ?_
  refine callVirtual hG d_jdk_68_method_22_code_10 p6_exa (w62 hw) (w63 hw) (fun _ hz => notFace_of_selects (args := #[]) (mvT hz (w65 hw))) (w65 hw) (w64 hw) (w10 hw) (w66 hw) (by decide) (m_len hC (sa) (tb) (kb) ((Int32.ofNat ys.length)) (ys) h p6_exa p7_fld p8_fld p9_arv) pd_13 rfl (rest := []) rfl rfl all0 (Nat.le_of_ble_eq_true rfl) (W := 0) (Nat.le_of_ble_eq_true rfl) (Nat.le_of_ble_eq_true rfl) (Nat.le_of_ble_eq_true rfl) (Nat.le_of_ble_eq_true rfl) (fun v270 M271 h272 le273 hq274 => ?_)
  obtain ⟨rfl, rfl, rfl⟩ := hq274
  show G [a, t] h (0) (0) 13 #[.val (.ref a), .val (.ref sa), .unset] [(.int (Int32.ofNat ys.length))]
  refine istoreN hG d_jdk_68_method_22_code_13 rfl ?_
  refine aloadN hG d_jdk_68_method_22_code_14 rfl rfl ?_
  refine aloadN hG d_jdk_68_method_22_code_15 rfl rfl ?_
  refine getfield hG d_jdk_68_method_22_code_16 (w73 hw) Via.refl p3_fld ?_
  refine iloadN hG d_jdk_68_method_22_code_19 rfl ?_
  refine iadd hG d_jdk_68_method_22_code_20 ?_
  have e275 : ((Int32.ofNat n) + (Int32.ofNat ys.length)) = (Int32.ofNat (n + ys.length)) := ofN_add _ _
  rw [e275]
  show G [a, t] h (0) (0) 21 #[.val (.ref a), .val (.ref sa), .val (.int (Int32.ofNat ys.length))] [(.int (Int32.ofNat (n + ys.length))), (.ref a)]
  refine callPrivate hG d_jdk_68_method_22_code_21 p0_exa (w75 hw) (w77 hw) (w78 hw) (w76 hw) (w44 hw) (w79 hw) (by decide) (m_ens hC (a) (t) (kt) (ws) ((n + ys.length)) ((Int32.ofNat n)) h p0_exa p1_fld p2_fld p3_fld p4_arv p5_exa (by first | omega | (simp; omega) | (simp; done) | decide) hwl) pd_8 rfl (rest := []) rfl rfl (allS (List.mem_of_getElem? (i := 0) rfl) (allS (List.mem_of_getElem? (i := 1) rfl) all0)) (Nat.le_of_ble_eq_true rfl) (W := 0) (Nat.le_of_ble_eq_true rfl) (Nat.le_of_ble_eq_true rfl) (Nat.le_of_ble_eq_true rfl) (Nat.le_of_ble_eq_true rfl) (fun v276 M277 h278 le279 hq280 => ?_)
  obtain ⟨t2281, k2282, us283, rfl, rfl, K284, f285, f286, f287, f288, f289, f290, hor291, hfit292, hgr293⟩ := hq280
  show G [t2281, a, t] h278 (1) (100) 24 #[.val (.ref a), .val (.ref sa), .val (.int (Int32.ofNat ys.length))] []
  have hw294 : (ws ++ us283).length < 2 ^ 31 := by rcases hgr293 with q9 | q9 <;> first | (rw [q9]; simp; omega) | omega
  refine aloadN hG d_jdk_68_method_22_code_24 rfl rfl ?_
  refine aloadN hG d_jdk_68_method_22_code_25 rfl rfl ?_
  refine getfield hG d_jdk_68_method_22_code_26 (w73 hw) Via.refl f288 ?_
  refine aloadN hG d_jdk_68_method_22_code_29 rfl rfl ?_
  have E295 : Exa Z h278 sa "java/lang/String" := (p6_exa.keep K284)
  have ne296 : sa ≠ a := (RoadKit.Exa.ne p6_exa p0_exa (by decide))
  have F297 : Fld Z h278 sa "java/lang/String" "coder" "B" (.int (0 : Int32)) := (p7_fld.keep K284 (ninS ne296 nin0))
  have F298 : Fld Z h278 sa "java/lang/String" "value" "[B" (.ref tb) := (p8_fld.keep K284 (ninS ne296 nin0))
  have ne299 : tb ≠ a := (Ne.symm (RoadKit.Exa.neArv p0_exa p9_arv (w35 hw)))
  have V300 : Arv Z h278 tb kb .byte (Int32.ofNat ys.length) (ints ys) (.int 0) := (p9_arv.keep K284 (ninS ne299 nin0))
  refine callPrivate hG d_jdk_68_method_22_code_30 f285 (w80 hw) (w82 hw) (w83 hw) (w81 hw) (w44 hw) (w84 hw) (by decide) (m_psa hC (a) (sa) (tb) (kb) (ys) (t2281) (k2282) ((ws ++ us283)) (n) h278 f285 f286 f287 E295 F297 F298 V300 f289 (by first | omega | (simp; omega) | (simp; done) | decide) hw294) pd_14 rfl (rest := []) rfl rfl (allS (List.mem_of_getElem? (i := 0) rfl) all0) (Nat.le_of_ble_eq_true rfl) (W := 0) (Nat.le_of_ble_eq_true rfl) (Nat.le_of_ble_eq_true rfl) (Nat.le_of_ble_eq_true rfl) (Nat.le_of_ble_eq_true rfl) (fun v301 M302 h303 le304 hq305 => ?_)
  obtain ⟨rfl, rfl, K306, f307⟩ := hq305
  show G [t2281, a, t] h303 (1) (100) 33 #[.val (.ref a), .val (.ref sa), .val (.int (Int32.ofNat ys.length))] []
  refine aloadN hG d_jdk_68_method_22_code_33 rfl rfl ?_
  refine dup hG d_jdk_68_method_22_code_34 rfl ?_
  have ne308 : a ≠ t2281 := (RoadKit.Exa.neArv f285 f289 (w35 hw))
  have F309 : Fld Z h303 a "java/lang/AbstractStringBuilder" "count" "I" (.int (Int32.ofNat n)) := (f288.keep K306 (ninS ne308 nin0))
  refine getfield hG d_jdk_68_method_22_code_35 (w73 hw) Via.refl F309 ?_
  refine iloadN hG d_jdk_68_method_22_code_38 rfl ?_
  refine iadd hG d_jdk_68_method_22_code_39 ?_
  have e310 : ((Int32.ofNat n) + (Int32.ofNat ys.length)) = (Int32.ofNat (n + ys.length)) := ofN_add _ _
  rw [e310]
  show G [t2281, a, t] h303 (1) (100) 40 #[.val (.ref a), .val (.ref sa), .val (.int (Int32.ofNat ys.length))] [(.int (Int32.ofNat (n + ys.length))), (.ref a)]
  have E311 : Exa Z h303 a "java/lang/StringBuilder" := (f285.keep K306)
  refine putfield hG d_jdk_68_method_22_code_40 (w73 hw) Via.refl F309 E311 (Or.inl (w74 hw)) (w35 hw) pf_I rfl rfl (List.mem_of_getElem? (i := 1) rfl) (fun h312 W313 => ?_)
  have F314 : Fld Z h312 a "java/lang/AbstractStringBuilder" "count" "I" (.int (Int32.ofNat (n + ys.length))) := F309.same W313
  refine aloadN hG d_jdk_68_method_22_code_43 rfl rfl ?_
  have V315 : Arv Z h312 t2281 k2282 .byte (Int32.ofNat (ws ++ us283).length) (ints ((ws ++ us283).take n ++ ys ++ (ws ++ us283).drop (n + ys.length))) (.int 0) := (f307.other W313 (Ne.symm ne308))
  have hL316 : ((ws ++ us283).take n ++ ys ++ (ws ++ us283).drop (n + ys.length)).length = (ws ++ us283).length := splice_len (by have := hfit292; simp at this ⊢; omega)
  have V317 : Arv Z h312 t2281 k2282 .byte (Int32.ofNat ((ws ++ us283).take n ++ ys ++ (ws ++ us283).drop (n + ys.length)).length) (ints ((ws ++ us283).take n ++ ys ++ (ws ++ us283).drop (n + ys.length))) (.int 0) := by rw [hL316]; exact V315
  have E318 : Exa Z h312 a "java/lang/StringBuilder" := (E311.wr W313)
  have F319 : Fld Z h312 a "java/lang/AbstractStringBuilder" "value" "[B" (.ref t2281) := ((f286.keep K306 (ninS ne308 nin0)).other W313 (Or.inr (RoadKit.slot_ne (Or.inl (w49 hw)) (Or.inl (w74 hw)) (by decide) pf__B pf_I)))
  have F320 : Fld Z h312 a "java/lang/AbstractStringBuilder" "coder" "B" (.int (0 : Int32)) := ((f287.keep K306 (ninS ne308 nin0)).other W313 (Or.inr (RoadKit.slot_ne (Or.inl (w51 hw)) (Or.inl (w74 hw)) (by decide) pf_B pf_I)))
  have E321 : Exa Z h312 t2281 "[B" := ((f290.keep K306).wr W313)
  have K322 : Keep h h312 [a, t] := ((((Keep.refl _ _).trans K284 (allS (Or.inl (List.mem_of_getElem? (i := 0) rfl)) all0)).trans K306 (allS (side_alias hor291 (Or.inl (List.mem_of_getElem? (i := 1) rfl)) (Nat.le_refl _)) all0)).wr W313 (Or.inl (List.mem_of_getElem? (i := 0) rfl)))
  exact areturn hG rfl rfl rfl d_jdk_68_method_22_code_44 (M' := [t2281]) ⟨t2281, k2282, ((ws ++ us283).take n ++ ys ++ (ws ++ us283).drop (n + ys.length)), rfl, rfl, K322, E318, F319, F320, F314, V317, E321, hor291, (by rw [hL316]; exact hfit292), (splice_take hnw), (by rw [hL316]; rcases hgr293 with q9 | q9 <;> first | (rw [q9]; simp; done) | exact Or.inr q9)⟩ (allS (List.mem_of_getElem? (i := 0) rfl) all0) (Nat.le_of_ble_eq_true rfl) (Nat.le_of_ble_eq_true rfl)
def Q_sbA (Z : State) (g0 : Int32) (gf : Value) (a : Addr) (t : Addr) (kt : ClassId) (ws : List Int32) (n : Nat) (sa : Addr) (tb : Addr) (kb : ClassId) (ys : List Int32) (h : Heap) : QT := fun v' M9 h9 => ∃ (t2 : Addr), ∃ (k2 : ClassId), ∃ (ws2 : List Int32), v' = some (.ref a) ∧ M9 = [t2] ∧ Keep h h9 [a, t] ∧ Exa Z h9 a "java/lang/StringBuilder" ∧ Fld Z h9 a "java/lang/AbstractStringBuilder" "value" "[B" (.ref t2) ∧ Fld Z h9 a "java/lang/AbstractStringBuilder" "coder" "B" (.int (0 : Int32)) ∧ Fld Z h9 a "java/lang/AbstractStringBuilder" "count" "I" (.int (Int32.ofNat (n + ys.length))) ∧ Arv Z h9 t2 k2 .byte (Int32.ofNat ws2.length) (ints ws2) (.int 0) ∧ Exa Z h9 t2 "[B" ∧ (t2 = t ∨ h.size ≤ t2) ∧ (n + ys.length ≤ ws2.length) ∧ (ws2.take (n + ys.length) = ws.take n ++ ys) ∧ (ws2.length = ws.length ∨ (ws.length < n + ys.length ∧ ws2.length ≤ max (n + ys.length) (2 * ws.length + 2)))
theorem ef_sbA (m9 : MethodId) (a : Addr) (t : Addr) (kt : ClassId) (ws : List Int32) (n : Nat) (sa : Addr) (tb : Addr) (kb : ClassId) (ys : List Int32) : entryFrame m9 [(.ref a), (.ref sa)].toArray 2 = mkF m9 0 #[.val (.ref a), .val (.ref sa)] [] := by first | rfl | (simp [entryFrame, mkF, argsToLocals, Value.category]; done)
set_option maxRecDepth 65536 in
set_option maxHeartbeats 4000000 in
theorem m_sbA {l : Launch} {Z : State} {a0 : Array Value} {n0 : Nat} {g0 : Int32} {gf : Value} (hC : Ctx l Z a0 n0 g0 gf) (a : Addr) (t : Addr) (kt : ClassId) (ws : List Int32) (n : Nat) (sa : Addr) (tb : Addr) (kb : ClassId) (ys : List Int32) (h : Heap) (p0_exa : Exa Z h a "java/lang/StringBuilder") (p1_fld : Fld Z h a "java/lang/AbstractStringBuilder" "value" "[B" (.ref t)) (p2_fld : Fld Z h a "java/lang/AbstractStringBuilder" "coder" "B" (.int (0 : Int32))) (p3_fld : Fld Z h a "java/lang/AbstractStringBuilder" "count" "I" (.int (Int32.ofNat n))) (p4_arv : Arv Z h t kt .byte (Int32.ofNat ws.length) (ints ws) (.int 0)) (p5_exa : Exa Z h t "[B") (p6_exa : Exa Z h sa "java/lang/String") (p7_fld : Fld Z h sa "java/lang/String" "coder" "B" (.int (0 : Int32))) (p8_fld : Fld Z h sa "java/lang/String" "value" "[B" (.ref tb)) (p9_arv : Arv Z h tb kb .byte (Int32.ofNat ys.length) (ints ys) (.int 0)) (hnw : n ≤ ws.length) (hm : n + ys.length ≤ 100) (hwl : 2 * ws.length + 2 ≤ 100) (htt : tb ≠ t) :
    Met l Z EL0 n0 (⟨"java/lang/StringBuilder", "append", "(Ljava/lang/String;)Ljava/lang/StringBuilder;"⟩ : MethodName) jdk_67_method_7_code 2 (some (.object "java/lang/StringBuilder")) [] ({ frames := 5, cells := 1, slots := 100, locals := 76 } : Room) [(.ref a), (.ref sa)] [a, t] h (Q_sbA Z g0 gf a t kt ws n sa tb kb ys h) := by
  obtain ⟨hw, hS, hE, hK, hX⟩ := id hC
  refine Met.intro pl_22 (fun m9 => ef_sbA m9 a t kt ws n sa tb kb ys) hE ?_
  intro G hG
  refine aloadN hG d_jdk_67_method_7_code_0 rfl rfl ?_
  refine aloadN hG d_jdk_67_method_7_code_1 rfl rfl ?_
  refine callSuper hG d_jdk_67_method_7_code_2 (Ins.of_exa p0_exa (w43 hw)) (by decide) (w57 hw) (sameM (y := (⟨"java/lang/AbstractStringBuilder", "append", "(Ljava/lang/String;)Ljava/lang/AbstractStringBuilder;"⟩ : MethodName)) (w58 hw) (by decide) (by rfl) (w78 hw)) (w58 hw) (w59 hw) (w44 hw) (w61 hw) (by decide) (m_asbA hC (a) (t) (kt) (ws) (n) (sa) (tb) (kb) (ys) h p0_exa p1_fld p2_fld p3_fld p4_arv p5_exa p6_exa p7_fld p8_fld p9_arv hnw hm hwl htt) pd_15 rfl (rest := []) rfl rfl (allS (List.mem_of_getElem? (i := 0) rfl) (allS (List.mem_of_getElem? (i := 1) rfl) all0)) (Nat.le_of_ble_eq_true rfl) (W := 0) (Nat.le_of_ble_eq_true rfl) (Nat.le_of_ble_eq_true rfl) (Nat.le_of_ble_eq_true rfl) (Nat.le_of_ble_eq_true rfl) (fun v323 M324 h325 le326 hq327 => ?_)
  obtain ⟨t2328, k2329, ws2330, rfl, rfl, K331, f332, f333, f334, f335, f336, f337, hor338, hfit339, htk340, hgr341⟩ := hq327
  show G [t2328, a, t] h325 (1) (100) 5 #[.val (.ref a), .val (.ref sa)] [(.ref a)]
  refine OwnWp.pop hG d_jdk_67_method_7_code_5 rfl ?_
  refine aloadN hG d_jdk_67_method_7_code_6 rfl rfl ?_
  have K342 : Keep h h325 [a, t] := ((Keep.refl _ _).trans K331 (allS (Or.inl (List.mem_of_getElem? (i := 0) rfl)) (allS (Or.inl (List.mem_of_getElem? (i := 1) rfl)) all0)))
  exact areturn hG rfl rfl rfl d_jdk_67_method_7_code_7 (M' := [t2328]) ⟨t2328, k2329, ws2330, rfl, rfl, K342, f332, f333, f334, f335, f336, f337, hor338, hfit339, htk340, hgr341⟩ (allS (List.mem_of_getElem? (i := 0) rfl) all0) (Nat.le_of_ble_eq_true rfl) (Nat.le_of_ble_eq_true rfl)
def Q_ckl (Z : State) (g0 : Int32) (gf : Value) (j : Nat) (h : Heap) : QT := fun v' M9 h9 => v' = none ∧ M9 = [] ∧ h = h9
theorem ef_ckl (m9 : MethodId) (j : Nat) : entryFrame m9 [(.int (0 : Int32)), (.int (Int32.ofNat j))].toArray 2 = mkF m9 0 #[.val (.int (0 : Int32)), .val (.int (Int32.ofNat j))] [] := by first | rfl | (simp [entryFrame, mkF, argsToLocals, Value.category]; done)
set_option maxRecDepth 65536 in
set_option maxHeartbeats 4000000 in
theorem m_ckl {l : Launch} {Z : State} {a0 : Array Value} {n0 : Nat} {g0 : Int32} {gf : Value} (hC : Ctx l Z a0 n0 g0 gf) (j : Nat) (h : Heap) (hj31 : j < 2 ^ 31) :
    Met l Z EL0 n0 (⟨"java/util/Arrays", "checkLength", "(II)V"⟩ : MethodName) jdk_65_method_131_code 2 none [] ({ frames := 0, cells := 0, slots := 0, locals := 0 } : Room) [(.int (0 : Int32)), (.int (Int32.ofNat j))] [] h (Q_ckl Z g0 gf j h) := by
  obtain ⟨hw, hS, hE, hK, hX⟩ := id hC
  refine Met.intro pl_23 (fun m9 => ef_ckl m9 j) hE ?_
  intro G hG
  refine iloadN hG d_jdk_65_method_131_code_0 rfl ?_
  refine iloadN hG d_jdk_65_method_131_code_1 rfl ?_
  refine icmpYes hG d_jdk_65_method_131_code_2 (flt (ofN_nn hj31)).2.1 (by decide) (pc' := 37) rfl ?_
  exact return0 hG d_jdk_65_method_131_code_37 (M' := []) ⟨rfl, rfl, rfl⟩ all0 (Nat.le_of_ble_eq_true rfl) (Nat.le_of_ble_eq_true rfl)
def Q_crb (Z : State) (g0 : Int32) (gf : Value) (t : Addr) (kt : ClassId) (ws : List Int32) (n : Nat) (h : Heap) : QT := fun v' M9 h9 => ∃ (t2 : Addr), ∃ (k2 : ClassId), v' = some (.ref t2) ∧ M9 = [t2] ∧ Keep h h9 [] ∧ h.size ≤ t2 ∧ Arv Z h9 t2 k2 .byte (Int32.ofNat n) (ints (ws.take n)) (.int 0) ∧ Exa Z h9 t2 "[B"
theorem ef_crb (m9 : MethodId) (t : Addr) (kt : ClassId) (ws : List Int32) (n : Nat) : entryFrame m9 [(.ref t), (.int (0 : Int32)), (.int (Int32.ofNat n))].toArray 5 = mkF m9 0 #[.val (.ref t), .val (.int (0 : Int32)), .val (.int (Int32.ofNat n)), .unset, .unset] [] := by first | rfl | (simp [entryFrame, mkF, argsToLocals, Value.category]; done)
set_option maxRecDepth 65536 in
set_option maxHeartbeats 4000000 in
theorem m_crb {l : Launch} {Z : State} {a0 : Array Value} {n0 : Nat} {g0 : Int32} {gf : Value} (hC : Ctx l Z a0 n0 g0 gf) (t : Addr) (kt : ClassId) (ws : List Int32) (n : Nat) (h : Heap) (p0_arv : Arv Z h t kt .byte (Int32.ofNat ws.length) (ints ws) (.int 0)) (hn : n ≤ ws.length) (hcp : n ≤ 100) (hw31 : ws.length < 2 ^ 31) :
    Met l Z EL0 n0 (⟨"java/util/Arrays", "copyOfRangeByte", "([BII)[B"⟩ : MethodName) jdk_65_method_133_code 5 (some (.array .byte)) [] ({ frames := 1, cells := 1, slots := 100, locals := 18 } : Room) [(.ref t), (.int (0 : Int32)), (.int (Int32.ofNat n))] [] h (Q_crb Z g0 gf t kt ws n h) := by
  obtain ⟨hw, hS, hE, hK, hX⟩ := id hC
  refine Met.intro pl_24 (fun m9 => ef_crb m9 t kt ws n) hE ?_
  intro G hG
  refine iloadN hG d_jdk_65_method_133_code_0 rfl ?_
  refine iloadN hG d_jdk_65_method_133_code_1 rfl ?_
  refine callStatic hG d_jdk_65_method_133_code_2 (w138 hw) (w139 hw) (w133 hw) (w140 hw) (by decide) (m_ckl hC (n) h (by first | omega | (simp; omega) | (simp; done) | decide)) pd_16 rfl (rest := []) rfl rfl all0 (Nat.le_of_ble_eq_true rfl) (W := 0) (Nat.le_of_ble_eq_true rfl) (Nat.le_of_ble_eq_true rfl) (Nat.le_of_ble_eq_true rfl) (Nat.le_of_ble_eq_true rfl) (fun v343 M344 h345 le346 hq347 => ?_)
  obtain ⟨rfl, rfl, rfl⟩ := hq347
  show G [] h (0) (0) 5 #[.val (.ref t), .val (.int (0 : Int32)), .val (.int (Int32.ofNat n)), .unset, .unset] []
  refine iloadN hG d_jdk_65_method_133_code_5 rfl ?_
  refine iloadN hG d_jdk_65_method_133_code_6 rfl ?_
  refine isub hG d_jdk_65_method_133_code_7 ?_
  have e348 : ((Int32.ofNat n) - (0 : Int32)) = (Int32.ofNat n) := sub0 _
  rw [e348]
  show G [] h (0) (0) 8 #[.val (.ref t), .val (.int (0 : Int32)), .val (.int (Int32.ofNat n)), .unset, .unset] [(.int (Int32.ofNat n))]
  refine istoreN hG d_jdk_65_method_133_code_8 rfl ?_
  refine iloadN hG d_jdk_65_method_133_code_9 rfl ?_
  refine newarray hG d_jdk_65_method_133_code_10 rfl (w23 hw) (ofN_nn (by omega)) (cap := 100) (by rw [ofN_clamp (by omega)]; omega) (by decide) (Nat.le_of_ble_eq_true rfl) (Nat.le_of_ble_eq_true rfl) (cnt := n) (vs := (ints (List.replicate n 0))) (ints_rep _) (ad := "[B") (by decide +kernel) (fun h349 a350 kk351 g352 E353 V354 X355 => ?_)
  show G [a350] h349 (1) (100) 12 #[.val (.ref t), .val (.int (0 : Int32)), .val (.int (Int32.ofNat n)), .val (.int (Int32.ofNat n)), .unset] [(.ref a350)]
  refine astore hG d_jdk_65_method_133_code_12 rfl rfl ?_
  refine aloadN hG d_jdk_65_method_133_code_14 rfl rfl ?_
  refine iloadN hG d_jdk_65_method_133_code_15 rfl ?_
  refine aload hG d_jdk_65_method_133_code_16 rfl rfl ?_
  refine iconst hG d_jdk_65_method_133_code_18 (0) rfl ?_
  refine aloadN hG d_jdk_65_method_133_code_19 rfl rfl ?_
  have V356 : Arv Z h349 t kt .byte (Int32.ofNat ws.length) (ints ws) (.int 0) := (p0_arv.ext E353)
  refine alen hG d_jdk_65_method_133_code_20 V356 ?_
  refine iloadN hG d_jdk_65_method_133_code_21 rfl ?_
  refine isub hG d_jdk_65_method_133_code_22 ?_
  have e357 : ((Int32.ofNat ws.length) - (0 : Int32)) = (Int32.ofNat ws.length) := sub0 _
  rw [e357]
  show G [a350] h349 (1) (100) 23 #[.val (.ref t), .val (.int (0 : Int32)), .val (.int (Int32.ofNat n)), .val (.int (Int32.ofNat n)), .val (.ref a350)] [(.int (Int32.ofNat ws.length)), (.int (0 : Int32)), (.ref a350), (.int (0 : Int32)), (.ref t)]
  refine iloadN hG d_jdk_65_method_133_code_23 rfl ?_
  refine callStatic hG d_jdk_65_method_133_code_24 (w141 hw) (w142 hw) (w143 hw) (w144 hw) (by decide) (m_mmin hC (ws.length) (n) h349 hw31 (by first | omega | (simp; omega) | (simp; done) | decide)) pd_6 rfl (rest := [(.int (0 : Int32)), (.ref a350), (.int (0 : Int32)), (.ref t)]) rfl rfl all0 (Nat.le_of_ble_eq_true rfl) (W := 4) (Nat.le_of_ble_eq_true rfl) (Nat.le_of_ble_eq_true rfl) (Nat.le_of_ble_eq_true rfl) (Nat.le_of_ble_eq_true rfl) (fun v358 M359 h360 le361 hq362 => ?_)
  obtain ⟨rfl, rfl, rfl⟩ := hq362
  show G [a350] h349 (1) (100) 27 #[.val (.ref t), .val (.int (0 : Int32)), .val (.int (Int32.ofNat n)), .val (.int (Int32.ofNat n)), .val (.ref a350)] [(.int (Int32.ofNat (min ws.length n))), (.int (0 : Int32)), (.ref a350), (.int (0 : Int32)), (.ref t)]
  refine arraycopyI hG d_jdk_65_method_133_code_27 (w145 hw) (w99 hw) (w97 hw) (w98 hw) (xs := ws) (ys := (List.replicate n 0)) (dv := .int 0) (dd := .int 0) V356 V354 rfl (0) (0) ((min ws.length n)) (by first | rfl | (simp; done)) (by first | rfl | (simp; done)) rfl rfl rfl (by first | omega | (simp; omega) | decide) (by first | omega | (simp; omega) | decide) (by omega) (by simp; omega) (List.mem_of_getElem? (i := 0) rfl) rfl (Nat.le_of_ble_eq_true rfl) (W := 0) (Nat.le_of_ble_eq_true rfl) (Nat.le_of_ble_eq_true rfl) (fun h363 K364 V365 => ?_)
  have V366 : Arv Z h363 a350 kk351 .byte (Int32.ofNat n) (ints (ws.take n)) (.int 0) := by have e9 := V365; rw [show min ws.length n = n from by omega] at e9; simpa using e9
  show G [a350] h363 (1) (100) 30 #[.val (.ref t), .val (.int (0 : Int32)), .val (.int (Int32.ofNat n)), .val (.int (Int32.ofNat n)), .val (.ref a350)] []
  refine aload hG d_jdk_65_method_133_code_30 rfl rfl ?_
  have E367 : Exa Z h363 a350 "[B" := (X355.keep K364)
  have K368 : Keep h h363 [] := (((Keep.refl _ _).ext E353).trans K364 (allS (Or.inr g352) all0))
  exact areturn hG rfl rfl rfl d_jdk_65_method_133_code_32 (M' := [a350]) ⟨a350, kk351, rfl, rfl, K368, g352, V366, E367⟩ (allS (List.mem_of_getElem? (i := 0) rfl) all0) (Nat.le_of_ble_eq_true rfl) (Nat.le_of_ble_eq_true rfl)
def Q_cor (Z : State) (g0 : Int32) (gf : Value) (t : Addr) (kt : ClassId) (ws : List Int32) (n : Nat) (h : Heap) : QT := fun v' M9 h9 => ∃ (t2 : Addr), ∃ (k2 : ClassId), v' = some (.ref t2) ∧ M9 = [t2] ∧ Keep h h9 [] ∧ h.size ≤ t2 ∧ Arv Z h9 t2 k2 .byte (Int32.ofNat n) (ints (ws.take n)) (.int 0) ∧ Exa Z h9 t2 "[B"
theorem ef_cor (m9 : MethodId) (t : Addr) (kt : ClassId) (ws : List Int32) (n : Nat) : entryFrame m9 [(.ref t), (.int (0 : Int32)), (.int (Int32.ofNat n))].toArray 3 = mkF m9 0 #[.val (.ref t), .val (.int (0 : Int32)), .val (.int (Int32.ofNat n))] [] := by first | rfl | (simp [entryFrame, mkF, argsToLocals, Value.category]; done)
set_option maxRecDepth 65536 in
set_option maxHeartbeats 4000000 in
theorem m_cor {l : Launch} {Z : State} {a0 : Array Value} {n0 : Nat} {g0 : Int32} {gf : Value} (hC : Ctx l Z a0 n0 g0 gf) (t : Addr) (kt : ClassId) (ws : List Int32) (n : Nat) (h : Heap) (p0_arv : Arv Z h t kt .byte (Int32.ofNat ws.length) (ints ws) (.int 0)) (p1_exa : Exa Z h t "[B") (hn : n ≤ ws.length) (hcp : n ≤ 100) (hw31 : ws.length < 2 ^ 31) :
    Met l Z EL0 n0 (⟨"java/util/Arrays", "copyOfRange", "([BII)[B"⟩ : MethodName) jdk_65_method_132_code 3 (some (.array .byte)) [] ({ frames := 2, cells := 1, slots := 100, locals := 34 } : Room) [(.ref t), (.int (0 : Int32)), (.int (Int32.ofNat n))] [] h (Q_cor Z g0 gf t kt ws n h) := by
  obtain ⟨hw, hS, hE, hK, hX⟩ := id hC
  refine Met.intro pl_25 (fun m9 => ef_cor m9 t kt ws n) hE ?_
  intro G hG
  refine iloadN hG d_jdk_65_method_132_code_0 rfl ?_
  refine ifNo hG d_jdk_65_method_132_code_1 (by decide) ?_
  refine iloadN hG d_jdk_65_method_132_code_4 rfl ?_
  refine aloadN hG d_jdk_65_method_132_code_5 rfl rfl ?_
  refine alen hG d_jdk_65_method_132_code_6 p0_arv ?_
  refine icmp_eq hG d_jdk_65_method_132_code_7 (by decide) (pc' := 17) rfl (fun q369 => ?_) (fun q369 => ?_)
  · skip
    refine aloadN hG d_jdk_65_method_132_code_17 rfl rfl ?_
    refine cloneArr hG d_jdk_65_method_132_code_18 (w215 hw) (w216 hw) (w220 hw) (w218 hw) (w219 hw) (w221 hw) p0_arv p1_exa rfl (Nat.le_of_ble_eq_true rfl) (W := 0) (Nat.le_of_ble_eq_true rfl) (Nat.le_of_ble_eq_true rfl) (cap := 100) (by rw [ofN_clamp (by omega)]; have q9 := ofN_inj (by omega) (by omega) q369; omega) (Nat.le_of_ble_eq_true rfl) (Nat.le_of_ble_eq_true rfl) (fun h370 a371 g372 E373 V374 X375 => ?_)
    show G [a371] h370 (1) (100) 21 #[.val (.ref t), .val (.int (0 : Int32)), .val (.int (Int32.ofNat n))] [(.ref a371)]
    refine checkcast hG d_jdk_65_method_132_code_21 (w222 hw) (Ins.of_exa X375 (w223 hw)) ?_
    have q376 := ofN_inj (by omega) (by omega) q369
    have V377 : Arv Z h370 a371 kt .byte (Int32.ofNat n) (ints (ws.take n)) (.int 0) := by rw [q376, List.take_length]; exact V374
    have K378 : Keep h h370 [] := ((Keep.refl _ _).ext E373)
    exact areturn hG rfl rfl rfl d_jdk_65_method_132_code_24 (M' := [a371]) ⟨a371, kt, rfl, rfl, K378, g372, V377, X375⟩ (allS (List.mem_of_getElem? (i := 0) rfl) all0) (Nat.le_of_ble_eq_true rfl) (Nat.le_of_ble_eq_true rfl)
  · skip
    refine aloadN hG d_jdk_65_method_132_code_10 rfl rfl ?_
    refine iloadN hG d_jdk_65_method_132_code_11 rfl ?_
    refine iloadN hG d_jdk_65_method_132_code_12 rfl ?_
    refine callStatic hG d_jdk_65_method_132_code_13 (w135 hw) (w136 hw) (w133 hw) (w137 hw) (by decide) (m_crb hC (t) (kt) (ws) (n) h p0_arv hn hcp hw31) pd_17 rfl (rest := []) rfl rfl all0 (Nat.le_of_ble_eq_true rfl) (W := 0) (Nat.le_of_ble_eq_true rfl) (Nat.le_of_ble_eq_true rfl) (Nat.le_of_ble_eq_true rfl) (Nat.le_of_ble_eq_true rfl) (fun v379 M380 h381 le382 hq383 => ?_)
    obtain ⟨t2384, k2385, rfl, rfl, K386, g387, f388, f389⟩ := hq383
    show G [t2384] h381 (1) (100) 16 #[.val (.ref t), .val (.int (0 : Int32)), .val (.int (Int32.ofNat n))] [(.ref t2384)]
    have K390 : Keep h h381 [] := ((Keep.refl _ _).trans K386 all0)
    exact areturn hG rfl rfl rfl d_jdk_65_method_132_code_16 (M' := [t2384]) ⟨t2384, k2385, rfl, rfl, K390, g387, f388, f389⟩ (allS (List.mem_of_getElem? (i := 0) rfl) all0) (Nat.le_of_ble_eq_true rfl) (Nat.le_of_ble_eq_true rfl)
def Q_gval (Z : State) (g0 : Int32) (gf : Value) (a : Addr) (t : Addr) (h : Heap) : QT := fun v' M9 h9 => v' = some (.ref t) ∧ M9 = [] ∧ h = h9
theorem ef_gval (m9 : MethodId) (a : Addr) (t : Addr) : entryFrame m9 [(.ref a)].toArray 1 = mkF m9 0 #[.val (.ref a)] [] := by first | rfl | (simp [entryFrame, mkF, argsToLocals, Value.category]; done)
set_option maxRecDepth 65536 in
set_option maxHeartbeats 4000000 in
theorem m_gval {l : Launch} {Z : State} {a0 : Array Value} {n0 : Nat} {g0 : Int32} {gf : Value} (hC : Ctx l Z a0 n0 g0 gf) (a : Addr) (t : Addr) (h : Heap) (p0_fld : Fld Z h a "java/lang/AbstractStringBuilder" "value" "[B" (.ref t)) :
    Met l Z EL0 n0 (⟨"java/lang/AbstractStringBuilder", "getValue", "()[B"⟩ : MethodName) jdk_68_method_64_code 1 (some (.array .byte)) [] ({ frames := 0, cells := 0, slots := 0, locals := 0 } : Room) [(.ref a)] [] h (Q_gval Z g0 gf a t h) := by
  obtain ⟨hw, hS, hE, hK, hX⟩ := id hC
  refine Met.intro pl_26 (fun m9 => ef_gval m9 a t) hE ?_
  intro G hG
  refine aloadN hG d_jdk_68_method_64_code_0 rfl rfl ?_
  refine getfield hG d_jdk_68_method_64_code_1 (w48 hw) Via.refl p0_fld ?_
  exact areturn hG rfl rfl rfl d_jdk_68_method_64_code_4 (M' := []) ⟨rfl, rfl, rfl⟩ all0 (Nat.le_of_ble_eq_true rfl) (Nat.le_of_ble_eq_true rfl)
def Q_alen0 (Z : State) (g0 : Int32) (gf : Value) (a : Addr) (c : Int32) (h : Heap) : QT := fun v' M9 h9 => v' = some (.int c) ∧ M9 = [] ∧ h = h9
theorem ef_alen0 (m9 : MethodId) (a : Addr) (c : Int32) : entryFrame m9 [(.ref a)].toArray 1 = mkF m9 0 #[.val (.ref a)] [] := by first | rfl | (simp [entryFrame, mkF, argsToLocals, Value.category]; done)
set_option maxRecDepth 65536 in
set_option maxHeartbeats 4000000 in
theorem m_alen0 {l : Launch} {Z : State} {a0 : Array Value} {n0 : Nat} {g0 : Int32} {gf : Value} (hC : Ctx l Z a0 n0 g0 gf) (a : Addr) (c : Int32) (h : Heap) (p0_fld : Fld Z h a "java/lang/AbstractStringBuilder" "count" "I" (.int c)) :
    Met l Z EL0 n0 (⟨"java/lang/AbstractStringBuilder", "length", "()I"⟩ : MethodName) jdk_68_method_6_code 1 (some .int) [] ({ frames := 0, cells := 0, slots := 0, locals := 0 } : Room) [(.ref a)] [] h (Q_alen0 Z g0 gf a c h) := by
  obtain ⟨hw, hS, hE, hK, hX⟩ := id hC
  refine Met.intro pl_27 (fun m9 => ef_alen0 m9 a c) hE ?_
  intro G hG
  refine aloadN hG d_jdk_68_method_6_code_0 rfl rfl ?_
  refine getfield hG d_jdk_68_method_6_code_1 (w73 hw) Via.refl p0_fld ?_
  exact ireturn hG d_jdk_68_method_6_code_4 (M' := []) ⟨rfl, rfl, rfl⟩ all0 (Nat.le_of_ble_eq_true rfl) (Nat.le_of_ble_eq_true rfl)
def Q_slen0 (Z : State) (g0 : Int32) (gf : Value) (a : Addr) (c : Int32) (h : Heap) : QT := fun v' M9 h9 => v' = some (.int c) ∧ M9 = [] ∧ h = h9
theorem ef_slen0 (m9 : MethodId) (a : Addr) (c : Int32) : entryFrame m9 [(.ref a)].toArray 1 = mkF m9 0 #[.val (.ref a)] [] := by first | rfl | (simp [entryFrame, mkF, argsToLocals, Value.category]; done)
set_option maxRecDepth 65536 in
set_option maxHeartbeats 4000000 in
theorem m_slen0 {l : Launch} {Z : State} {a0 : Array Value} {n0 : Nat} {g0 : Int32} {gf : Value} (hC : Ctx l Z a0 n0 g0 gf) (a : Addr) (c : Int32) (h : Heap) (p0_exa : Exa Z h a "java/lang/StringBuilder") (p1_fld : Fld Z h a "java/lang/AbstractStringBuilder" "count" "I" (.int c)) :
    Met l Z EL0 n0 (⟨"java/lang/StringBuilder", "length", "()I"⟩ : MethodName) jdk_67_method_93_code 1 (some .int) [] ({ frames := 1, cells := 0, slots := 0, locals := 12 } : Room) [(.ref a)] [] h (Q_slen0 Z g0 gf a c h) := by
  obtain ⟨hw, hS, hE, hK, hX⟩ := id hC
  refine Met.intro pl_28 (fun m9 => ef_slen0 m9 a c) hE ?_
  intro G hG
  refine aloadN hG d_jdk_67_method_93_code_0 rfl rfl ?_
  refine callSuper hG d_jdk_67_method_93_code_1 (Ins.of_exa p0_exa (w43 hw)) (by decide) (w124 hw) (sameM (y := (⟨"java/lang/AbstractStringBuilder", "length", "()I"⟩ : MethodName)) (w120 hw) (by decide) (by rfl) (w78 hw)) (w120 hw) (w59 hw) (w44 hw) (w125 hw) (by decide) (m_alen0 hC (a) (c) h p1_fld) pd_13 rfl (rest := []) rfl rfl all0 (Nat.le_of_ble_eq_true rfl) (W := 0) (Nat.le_of_ble_eq_true rfl) (Nat.le_of_ble_eq_true rfl) (Nat.le_of_ble_eq_true rfl) (Nat.le_of_ble_eq_true rfl) (fun v391 M392 h393 le394 hq395 => ?_)
  obtain ⟨rfl, rfl, rfl⟩ := hq395
  show G [] h (0) (0) 4 #[.val (.ref a)] [(.int c)]
  exact ireturn hG d_jdk_67_method_93_code_4 (M' := []) ⟨rfl, rfl, rfl⟩ all0 (Nat.le_of_ble_eq_true rfl) (Nat.le_of_ble_eq_true rfl)
def Q_aisl (Z : State) (g0 : Int32) (gf : Value) (a : Addr) (h : Heap) : QT := fun v' M9 h9 => v' = some (.int (1 : Int32)) ∧ M9 = [] ∧ h = h9
theorem ef_aisl (m9 : MethodId) (a : Addr) : entryFrame m9 [(.ref a)].toArray 1 = mkF m9 0 #[.val (.ref a)] [] := by first | rfl | (simp [entryFrame, mkF, argsToLocals, Value.category]; done)
set_option maxRecDepth 65536 in
set_option maxHeartbeats 4000000 in
theorem m_aisl {l : Launch} {Z : State} {a0 : Array Value} {n0 : Nat} {g0 : Int32} {gf : Value} (hC : Ctx l Z a0 n0 g0 gf) (a : Addr) (h : Heap) (p0_fld : Fld Z h a "java/lang/AbstractStringBuilder" "coder" "B" (.int (0 : Int32))) :
    Met l Z EL0 n0 (⟨"java/lang/AbstractStringBuilder", "isLatin1", "()Z"⟩ : MethodName) jdk_68_method_68_code 1 (some .boolean) [] ({ frames := 0, cells := 0, slots := 0, locals := 0 } : Room) [(.ref a)] [] h (Q_aisl Z g0 gf a h) := by
  obtain ⟨hw, hS, hE, hK, hX⟩ := id hC
  refine Met.intro pl_29 (fun m9 => ef_aisl m9 a) hE ?_
  intro G hG
  refine getstatic hG d_jdk_68_method_68_code_0 (w47 hw) Via.refl hK.1 ?_
  refine ifNo hG d_jdk_68_method_68_code_3 (feq hK.2).1 ?_
  refine aloadN hG d_jdk_68_method_68_code_6 rfl rfl ?_
  refine getfield hG d_jdk_68_method_68_code_7 (w50 hw) Via.refl p0_fld ?_
  refine ifNo hG d_jdk_68_method_68_code_10 (by decide) ?_
  refine iconst hG d_jdk_68_method_68_code_13 (1) rfl ?_
  refine goto hG d_jdk_68_method_68_code_14 (by decide) (pc' := 18) rfl ?_
  exact ireturnN hG (by simp) d_jdk_68_method_68_code_18 (M' := []) ⟨rfl, rfl, rfl⟩ all0 (Nat.le_of_ble_eq_true rfl) (Nat.le_of_ble_eq_true rfl)
def Q_strV (Z : State) (g0 : Int32) (gf : Value) (a : Addr) (sb : Addr) (t : Addr) (kt : ClassId) (ws : List Int32) (n : Nat) (h : Heap) : QT := fun v' M9 h9 => ∃ (t2 : Addr), ∃ (k2 : ClassId), v' = none ∧ M9 = [t2] ∧ Keep h h9 [a] ∧ h.size ≤ t2 ∧ Exa Z h9 a "java/lang/String" ∧ Fld Z h9 a "java/lang/String" "coder" "B" (.int (0 : Int32)) ∧ Fld Z h9 a "java/lang/String" "value" "[B" (.ref t2) ∧ Arv Z h9 t2 k2 .byte (Int32.ofNat n) (ints (ws.take n)) (.int 0) ∧ Exa Z h9 t2 "[B"
theorem ef_strV (m9 : MethodId) (a : Addr) (sb : Addr) (t : Addr) (kt : ClassId) (ws : List Int32) (n : Nat) : entryFrame m9 [(.ref a), (.ref sb), .null].toArray 5 = mkF m9 0 #[.val (.ref a), .val (.ref sb), .val .null, .unset, .unset] [] := by first | rfl | (simp [entryFrame, mkF, argsToLocals, Value.category]; done)
set_option maxRecDepth 65536 in
set_option maxHeartbeats 4000000 in
theorem m_strV {l : Launch} {Z : State} {a0 : Array Value} {n0 : Nat} {g0 : Int32} {gf : Value} (hC : Ctx l Z a0 n0 g0 gf) (a : Addr) (sb : Addr) (t : Addr) (kt : ClassId) (ws : List Int32) (n : Nat) (h : Heap) (p0_exa : Exa Z h a "java/lang/String") (p1_fld : Fld Z h a "java/lang/String" "value" "[B" .null) (p2_fld : Fld Z h a "java/lang/String" "coder" "B" (.int (0 : Int32))) (p3_exa : Exa Z h sb "java/lang/StringBuilder") (p4_fld : Fld Z h sb "java/lang/AbstractStringBuilder" "value" "[B" (.ref t)) (p5_fld : Fld Z h sb "java/lang/AbstractStringBuilder" "coder" "B" (.int (0 : Int32))) (p6_fld : Fld Z h sb "java/lang/AbstractStringBuilder" "count" "I" (.int (Int32.ofNat n))) (p7_arv : Arv Z h t kt .byte (Int32.ofNat ws.length) (ints ws) (.int 0)) (p8_exa : Exa Z h t "[B") (hn : n ≤ ws.length) (hcp : n ≤ 100) (hw31 : ws.length < 2 ^ 31) :
    Met l Z EL0 n0 (⟨"java/lang/String", "<init>", "(Ljava/lang/AbstractStringBuilder;Ljava/lang/Void;)V"⟩ : MethodName) jdk_42_method_150_code 5 none [] ({ frames := 3, cells := 1, slots := 100, locals := 49 } : Room) [(.ref a), (.ref sb), .null] [a] h (Q_strV Z g0 gf a sb t kt ws n h) := by
  obtain ⟨hw, hS, hE, hK, hX⟩ := id hC
  refine Met.intro pl_30 (fun m9 => ef_strV m9 a sb t kt ws n) hE ?_
  intro G hG
  refine aloadN hG d_jdk_42_method_150_code_0 rfl rfl ?_
  refine objInit hG d_jdk_42_method_150_code_1 (w19 hw) (w20 hw) (w21 hw) rfl (Nat.le_of_ble_eq_true rfl) (W := 0) (Nat.le_of_ble_eq_true rfl) (Nat.le_of_ble_eq_true rfl) ?_
  refine aloadN hG d_jdk_42_method_150_code_4 rfl rfl ?_
  refine callVirtual hG d_jdk_42_method_150_code_5 p3_exa (w113 hw) (w114 hw) (fun _ hz => notFace_of_selects (args := #[]) (mvT hz (w116 hw))) (w116 hw) (w115 hw) (w44 hw) (w117 hw) (by decide) (m_gval hC (sb) (t) h p4_fld) pd_18 rfl (rest := []) rfl rfl all0 (Nat.le_of_ble_eq_true rfl) (W := 0) (Nat.le_of_ble_eq_true rfl) (Nat.le_of_ble_eq_true rfl) (Nat.le_of_ble_eq_true rfl) (Nat.le_of_ble_eq_true rfl) (fun v396 M397 h398 le399 hq400 => ?_)
  obtain ⟨rfl, rfl, rfl⟩ := hq400
  show G [a] h (0) (0) 8 #[.val (.ref a), .val (.ref sb), .val .null, .unset, .unset] [(.ref t)]
  refine astoreN hG d_jdk_42_method_150_code_8 rfl rfl ?_
  refine aloadN hG d_jdk_42_method_150_code_9 rfl rfl ?_
  refine callVirtual hG d_jdk_42_method_150_code_10 p3_exa (w118 hw) (w119 hw) (fun _ hz => nf_other (args := #[]) (by rfl) (mvT hz (w78 hw))) (w121 hw) (w122 hw) (w36 hw) (w123 hw) (by decide) (m_slen0 hC (sb) ((Int32.ofNat n)) h p3_exa p6_fld) pd_13 rfl (rest := []) rfl rfl all0 (Nat.le_of_ble_eq_true rfl) (W := 0) (Nat.le_of_ble_eq_true rfl) (Nat.le_of_ble_eq_true rfl) (Nat.le_of_ble_eq_true rfl) (Nat.le_of_ble_eq_true rfl) (fun v401 M402 h403 le404 hq405 => ?_)
  obtain ⟨rfl, rfl, rfl⟩ := hq405
  show G [a] h (0) (0) 13 #[.val (.ref a), .val (.ref sb), .val .null, .val (.ref t), .unset] [(.int (Int32.ofNat n))]
  refine istore hG d_jdk_42_method_150_code_13 rfl ?_
  refine aloadN hG d_jdk_42_method_150_code_15 rfl rfl ?_
  refine callVirtual hG d_jdk_42_method_150_code_16 p3_exa (w126 hw) (w127 hw) (fun _ hz => notFace_of_selects (args := #[]) (mvT hz (w129 hw))) (w129 hw) (w128 hw) (w44 hw) (w130 hw) (by decide) (m_aisl hC (sb) h p5_fld) pd_19 rfl (rest := []) rfl rfl all0 (Nat.le_of_ble_eq_true rfl) (W := 0) (Nat.le_of_ble_eq_true rfl) (Nat.le_of_ble_eq_true rfl) (Nat.le_of_ble_eq_true rfl) (Nat.le_of_ble_eq_true rfl) (fun v406 M407 h408 le409 hq410 => ?_)
  obtain ⟨rfl, rfl, rfl⟩ := hq410
  show G [a] h (0) (0) 19 #[.val (.ref a), .val (.ref sb), .val .null, .val (.ref t), .val (.int (Int32.ofNat n))] [(.int (1 : Int32))]
  refine ifNo hG d_jdk_42_method_150_code_19 (by decide) ?_
  refine aloadN hG d_jdk_42_method_150_code_22 rfl rfl ?_
  refine iconst hG d_jdk_42_method_150_code_23 (0) rfl ?_
  refine putfield hG d_jdk_42_method_150_code_24 (w29 hw) Via.refl p2_fld p0_exa (Or.inr ⟨(w25 hw), rfl, rfl⟩) (w9 hw) pf_B rfl rfl (List.mem_of_getElem? (i := 0) rfl) (fun h411 W412 => ?_)
  have F413 : Fld Z h411 a "java/lang/String" "coder" "B" (.int (0 : Int32)) := p2_fld.same W412
  refine aloadN hG d_jdk_42_method_150_code_27 rfl rfl ?_
  refine aloadN hG d_jdk_42_method_150_code_28 rfl rfl ?_
  refine iconst hG d_jdk_42_method_150_code_29 (0) rfl ?_
  refine iload hG d_jdk_42_method_150_code_30 rfl ?_
  have ne414 : t ≠ a := (Ne.symm (RoadKit.Exa.neArv p0_exa p7_arv (w9 hw)))
  have V415 : Arv Z h411 t kt .byte (Int32.ofNat ws.length) (ints ws) (.int 0) := (p7_arv.other W412 ne414)
  have E416 : Exa Z h411 t "[B" := (p8_exa.wr W412)
  refine callStatic hG d_jdk_42_method_150_code_32 (w131 hw) (w132 hw) (w133 hw) (w134 hw) (by decide) (m_cor hC (t) (kt) (ws) (n) h411 V415 E416 hn hcp hw31) pd_17 rfl (rest := [(.ref a)]) rfl rfl all0 (Nat.le_of_ble_eq_true rfl) (W := 1) (Nat.le_of_ble_eq_true rfl) (Nat.le_of_ble_eq_true rfl) (Nat.le_of_ble_eq_true rfl) (Nat.le_of_ble_eq_true rfl) (fun v417 M418 h419 le420 hq421 => ?_)
  obtain ⟨t2422, k2423, rfl, rfl, K424, g425, f426, f427⟩ := hq421
  show G [t2422, a] h419 (1) (100) 35 #[.val (.ref a), .val (.ref sb), .val .null, .val (.ref t), .val (.int (Int32.ofNat n))] [(.ref t2422), (.ref a)]
  have E428 : Exa Z h419 a "java/lang/String" := ((p0_exa.wr W412).keep K424)
  have F429 : Fld Z h419 a "java/lang/String" "value" "[B" .null := ((p1_fld.other W412 (Or.inr (RoadKit.slot_ne (Or.inr (w24 hw)) (Or.inr (w25 hw)) (by decide) pf__B pf_B))).keep K424 nin0)
  refine putfield hG d_jdk_42_method_150_code_35 (w28 hw) Via.refl F429 E428 (Or.inr ⟨(w24 hw), rfl, rfl⟩) (w9 hw) pf__B rfl rfl (List.mem_of_getElem? (i := 1) rfl) (fun h430 W431 => ?_)
  have F432 : Fld Z h430 a "java/lang/String" "value" "[B" (.ref t2422) := F429.same W431
  refine goto hG d_jdk_42_method_150_code_38 (by decide) (pc' := 97) rfl ?_
  have E433 : Exa Z h430 a "java/lang/String" := (E428.wr W431)
  have F434 : Fld Z h430 a "java/lang/String" "coder" "B" (.int (0 : Int32)) := ((F413.keep K424 nin0).other W431 (Or.inr (RoadKit.slot_ne (Or.inr (w25 hw)) (Or.inr (w24 hw)) (by decide) pf_B pf__B)))
  have ne435 : t2422 ≠ a := (Nat.ne_of_gt (Nat.lt_of_lt_of_le p0_exa.lt (Nat.le_trans (Nat.le_of_eq (Wr.size W412).symm) g425)))
  have V436 : Arv Z h430 t2422 k2423 .byte (Int32.ofNat n) (ints (ws.take n)) (.int 0) := (f426.other W431 ne435)
  have E437 : Exa Z h430 t2422 "[B" := (f427.wr W431)
  have K438 : Keep h h430 [a] := ((((Keep.refl _ _).wr W412 (Or.inl (List.mem_of_getElem? (i := 0) rfl))).trans K424 all0).wr W431 (Or.inl (List.mem_of_getElem? (i := 0) rfl)))
  exact return0 hG d_jdk_42_method_150_code_97 (M' := [t2422]) ⟨t2422, k2423, rfl, rfl, K438, (Nat.le_trans (Nat.le_of_eq (Wr.size W412).symm) g425), E433, F434, F432, V436, E437⟩ (allS (List.mem_of_getElem? (i := 0) rfl) all0) (Nat.le_of_ble_eq_true rfl) (Nat.le_of_ble_eq_true rfl)
def Q_strS (Z : State) (g0 : Int32) (gf : Value) (a : Addr) (sb : Addr) (t : Addr) (kt : ClassId) (ws : List Int32) (n : Nat) (h : Heap) : QT := fun v' M9 h9 => ∃ (t2 : Addr), ∃ (k2 : ClassId), v' = none ∧ M9 = [t2] ∧ Keep h h9 [a] ∧ h.size ≤ t2 ∧ Exa Z h9 a "java/lang/String" ∧ Fld Z h9 a "java/lang/String" "coder" "B" (.int (0 : Int32)) ∧ Fld Z h9 a "java/lang/String" "value" "[B" (.ref t2) ∧ Arv Z h9 t2 k2 .byte (Int32.ofNat n) (ints (ws.take n)) (.int 0) ∧ Exa Z h9 t2 "[B"
theorem ef_strS (m9 : MethodId) (a : Addr) (sb : Addr) (t : Addr) (kt : ClassId) (ws : List Int32) (n : Nat) : entryFrame m9 [(.ref a), (.ref sb)].toArray 2 = mkF m9 0 #[.val (.ref a), .val (.ref sb)] [] := by first | rfl | (simp [entryFrame, mkF, argsToLocals, Value.category]; done)
set_option maxRecDepth 65536 in
set_option maxHeartbeats 4000000 in
theorem m_strS {l : Launch} {Z : State} {a0 : Array Value} {n0 : Nat} {g0 : Int32} {gf : Value} (hC : Ctx l Z a0 n0 g0 gf) (a : Addr) (sb : Addr) (t : Addr) (kt : ClassId) (ws : List Int32) (n : Nat) (h : Heap) (p0_exa : Exa Z h a "java/lang/String") (p1_fld : Fld Z h a "java/lang/String" "value" "[B" .null) (p2_fld : Fld Z h a "java/lang/String" "coder" "B" (.int (0 : Int32))) (p3_exa : Exa Z h sb "java/lang/StringBuilder") (p4_fld : Fld Z h sb "java/lang/AbstractStringBuilder" "value" "[B" (.ref t)) (p5_fld : Fld Z h sb "java/lang/AbstractStringBuilder" "coder" "B" (.int (0 : Int32))) (p6_fld : Fld Z h sb "java/lang/AbstractStringBuilder" "count" "I" (.int (Int32.ofNat n))) (p7_arv : Arv Z h t kt .byte (Int32.ofNat ws.length) (ints ws) (.int 0)) (p8_exa : Exa Z h t "[B") (hn : n ≤ ws.length) (hcp : n ≤ 100) (hw31 : ws.length < 2 ^ 31) :
    Met l Z EL0 n0 (⟨"java/lang/String", "<init>", "(Ljava/lang/StringBuilder;)V"⟩ : MethodName) jdk_42_method_53_code 2 none [] ({ frames := 4, cells := 1, slots := 100, locals := 65 } : Room) [(.ref a), (.ref sb)] [a] h (Q_strS Z g0 gf a sb t kt ws n h) := by
  obtain ⟨hw, hS, hE, hK, hX⟩ := id hC
  refine Met.intro pl_31 (fun m9 => ef_strS m9 a sb t kt ws n) hE ?_
  intro G hG
  refine aloadN hG d_jdk_42_method_53_code_0 rfl rfl ?_
  refine aloadN hG d_jdk_42_method_53_code_1 rfl rfl ?_
  refine aconst_null hG d_jdk_42_method_53_code_2 ?_
  refine callInit hG d_jdk_42_method_53_code_3 rfl (w110 hw) (w111 hw) (w10 hw) (w112 hw) (by decide) (m_strV hC (a) (sb) (t) (kt) (ws) (n) h p0_exa p1_fld p2_fld p3_exa p4_fld p5_fld p6_fld p7_arv p8_exa hn hcp hw31) pd_20 rfl (rest := []) rfl rfl (allS (List.mem_of_getElem? (i := 0) rfl) all0) (Nat.le_of_ble_eq_true rfl) (W := 0) (Nat.le_of_ble_eq_true rfl) (Nat.le_of_ble_eq_true rfl) (Nat.le_of_ble_eq_true rfl) (Nat.le_of_ble_eq_true rfl) (fun v439 M440 h441 le442 hq443 => ?_)
  obtain ⟨t2444, k2445, rfl, rfl, K446, g447, f448, f449, f450, f451, f452⟩ := hq443
  show G [t2444, a] h441 (1) (100) 6 #[.val (.ref a), .val (.ref sb)] []
  have K453 : Keep h h441 [a] := ((Keep.refl _ _).trans K446 (allS (Or.inl (List.mem_of_getElem? (i := 0) rfl)) all0))
  exact return0 hG d_jdk_42_method_53_code_6 (M' := [t2444]) ⟨t2444, k2445, rfl, rfl, K453, g447, f448, f449, f450, f451, f452⟩ (allS (List.mem_of_getElem? (i := 0) rfl) all0) (Nat.le_of_ble_eq_true rfl) (Nat.le_of_ble_eq_true rfl)
def Q_sbTS (Z : State) (g0 : Int32) (gf : Value) (sb : Addr) (t : Addr) (kt : ClassId) (ws : List Int32) (n : Nat) (h : Heap) : QT := fun v' M9 h9 => ∃ (s2 : Addr), ∃ (t2 : Addr), ∃ (k2 : ClassId), v' = some (.ref s2) ∧ M9 = [s2, t2] ∧ Keep h h9 [] ∧ h.size ≤ s2 ∧ h.size ≤ t2 ∧ Exa Z h9 s2 "java/lang/String" ∧ Fld Z h9 s2 "java/lang/String" "coder" "B" (.int (0 : Int32)) ∧ Fld Z h9 s2 "java/lang/String" "value" "[B" (.ref t2) ∧ Arv Z h9 t2 k2 .byte (Int32.ofNat n) (ints (ws.take n)) (.int 0) ∧ Exa Z h9 t2 "[B"
theorem ef_sbTS (m9 : MethodId) (sb : Addr) (t : Addr) (kt : ClassId) (ws : List Int32) (n : Nat) : entryFrame m9 [(.ref sb)].toArray 1 = mkF m9 0 #[.val (.ref sb)] [] := by first | rfl | (simp [entryFrame, mkF, argsToLocals, Value.category]; done)
set_option maxRecDepth 65536 in
set_option maxHeartbeats 4000000 in
theorem m_sbTS {l : Launch} {Z : State} {a0 : Array Value} {n0 : Nat} {g0 : Int32} {gf : Value} (hC : Ctx l Z a0 n0 g0 gf) (sb : Addr) (t : Addr) (kt : ClassId) (ws : List Int32) (n : Nat) (h : Heap) (p0_exa : Exa Z h sb "java/lang/StringBuilder") (p1_fld : Fld Z h sb "java/lang/AbstractStringBuilder" "value" "[B" (.ref t)) (p2_fld : Fld Z h sb "java/lang/AbstractStringBuilder" "coder" "B" (.int (0 : Int32))) (p3_fld : Fld Z h sb "java/lang/AbstractStringBuilder" "count" "I" (.int (Int32.ofNat n))) (p4_arv : Arv Z h t kt .byte (Int32.ofNat ws.length) (ints ws) (.int 0)) (p5_exa : Exa Z h t "[B") (hn : n ≤ ws.length) (hcp : n ≤ 100) (hw31 : ws.length < 2 ^ 31) :
    Met l Z EL0 n0 (⟨"java/lang/StringBuilder", "toString", "()Ljava/lang/String;"⟩ : MethodName) jdk_67_method_42_code 1 (some (.object "java/lang/String")) [] ({ frames := 5, cells := 2, slots := 104, locals := 79 } : Room) [(.ref sb)] [] h (Q_sbTS Z g0 gf sb t kt ws n h) := by
  obtain ⟨hw, hS, hE, hK, hX⟩ := id hC
  refine Met.intro pl_32 (fun m9 => ef_sbTS m9 sb t kt ws n) hE ?_
  intro G hG
  refine new hG d_jdk_67_method_42_code_0 (w106 hw) (w9 hw) (w10 hw) (Nat.le_of_ble_eq_true rfl) (Nat.le_of_ble_eq_true rfl) (fun h454 a455 g456 E457 X458 D459 => ?_)
  show G [a455] h454 (1) (4) 3 #[.val (.ref sb)] [(.ref a455)]
  refine dup hG d_jdk_67_method_42_code_3 rfl ?_
  refine aloadN hG d_jdk_67_method_42_code_4 rfl rfl ?_
  have F460 : Fld Z h454 a455 "java/lang/String" "value" "[B" .null := D459 (Or.inr (w24 hw)) pf__B
  have F461 : Fld Z h454 a455 "java/lang/String" "coder" "B" (.int (0 : Int32)) := D459 (Or.inr (w25 hw)) pf_B
  have E462 : Exa Z h454 sb "java/lang/StringBuilder" := (p0_exa.ext E457)
  have F463 : Fld Z h454 sb "java/lang/AbstractStringBuilder" "value" "[B" (.ref t) := (p1_fld.ext E457)
  have F464 : Fld Z h454 sb "java/lang/AbstractStringBuilder" "coder" "B" (.int (0 : Int32)) := (p2_fld.ext E457)
  have F465 : Fld Z h454 sb "java/lang/AbstractStringBuilder" "count" "I" (.int (Int32.ofNat n)) := (p3_fld.ext E457)
  have V466 : Arv Z h454 t kt .byte (Int32.ofNat ws.length) (ints ws) (.int 0) := (p4_arv.ext E457)
  have E467 : Exa Z h454 t "[B" := (p5_exa.ext E457)
  refine callInit hG d_jdk_67_method_42_code_5 rfl (w107 hw) (w108 hw) (w10 hw) (w109 hw) (by decide) (m_strS hC (a455) (sb) (t) (kt) (ws) (n) h454 X458 F460 F461 E462 F463 F464 F465 V466 E467 hn hcp hw31) pd_21 rfl (rest := [(.ref a455)]) rfl rfl (allS (List.mem_of_getElem? (i := 0) rfl) all0) (Nat.le_of_ble_eq_true rfl) (W := 1) (Nat.le_of_ble_eq_true rfl) (Nat.le_of_ble_eq_true rfl) (Nat.le_of_ble_eq_true rfl) (Nat.le_of_ble_eq_true rfl) (fun v468 M469 h470 le471 hq472 => ?_)
  obtain ⟨t2473, k2474, rfl, rfl, K475, g476, f477, f478, f479, f480, f481⟩ := hq472
  show G [t2473, a455] h470 (2) (104) 8 #[.val (.ref sb)] [(.ref a455)]
  have K482 : Keep h h470 [] := (((Keep.refl _ _).ext E457).trans K475 (allS (Or.inr g456) all0))
  exact areturn hG rfl rfl rfl d_jdk_67_method_42_code_8 (M' := [a455, t2473]) ⟨a455, t2473, k2474, rfl, rfl, K482, g456, (Nat.le_trans E457.1 g476), f477, f478, f479, f480, f481⟩ (allS (List.mem_of_getElem? (i := 1) rfl) (allS (List.mem_of_getElem? (i := 0) rfl) all0)) (Nat.le_of_ble_eq_true rfl) (Nat.le_of_ble_eq_true rfl)
def Q_ch (Z : State) (g0 : Int32) (gf : Value) (x : Int32) (y : Int32) (h : Heap) : QT := fun v' M9 h9 => ∃ (c : Int32), v' = some (.int c) ∧ M9 = [] ∧ h = h9 ∧ (¬ c < 0 ∧ ¬ (255 : Int32) < c)
theorem ef_ch (m9 : MethodId) (x : Int32) (y : Int32) : entryFrame m9 [(.int x), (.int y)].toArray 2 = mkF m9 0 #[.val (.int x), .val (.int y)] [] := by first | rfl | (simp [entryFrame, mkF, argsToLocals, Value.category]; done)
set_option maxRecDepth 65536 in
set_option maxHeartbeats 4000000 in
theorem m_ch {l : Launch} {Z : State} {a0 : Array Value} {n0 : Nat} {g0 : Int32} {gf : Value} (hC : Ctx l Z a0 n0 g0 gf) (x : Int32) (y : Int32) (h : Heap) :
    Met l Z EL0 n0 (⟨"com/example/room_divider/roomdivider/isolation/GeneratedNamesOwnerPinLaw", "ch", "(II)C"⟩ : MethodName) method_2_code 2 (some .char) [] ({ frames := 0, cells := 0, slots := 0, locals := 0 } : Room) [(.int x), (.int y)] [] h (Q_ch Z g0 gf x y h) := by
  obtain ⟨hw, hS, hE, hK, hX⟩ := id hC
  refine Met.intro pl_33 (fun m9 => ef_ch m9 x y) hE ?_
  intro G hG
  refine iloadN hG d_method_2_code_0 rfl ?_
  refine iloadN hG d_method_2_code_1 rfl ?_
  refine iushr hG d_method_2_code_2 ?_
  refine sipush hG d_method_2_code_3 (255) rfl ?_
  refine iand hG d_method_2_code_6 ?_
  refine i2c hG d_method_2_code_7 ?_
  exact ireturnN hG (by simp) d_method_2_code_8 (M' := []) ⟨(nar .char ((x.toUInt32 >>> (y &&& 31).toUInt32).toInt32 &&& (255 : Int32)).toUInt32.toUInt16.toUInt32.toInt32), rfl, rfl, rfl, (chr8_lat _)⟩ all0 (Nat.le_of_ble_eq_true rfl) (Nat.le_of_ble_eq_true rfl)
def Q_mk (Z : State) (g0 : Int32) (gf : Value) (x : Int32) (y : Int32) (z : Int32) (h : Heap) : QT := fun v' M9 h9 => ∃ (sa : Addr), ∃ (tb : Addr), ∃ (kb : ClassId), ∃ (ys : List Int32), v' = some (.ref sa) ∧ M9 = [sa] ∧ Keep h h9 [] ∧ h.size ≤ sa ∧ Exa Z h9 sa "java/lang/String" ∧ Fld Z h9 sa "java/lang/String" "coder" "B" (.int (0 : Int32)) ∧ Fld Z h9 sa "java/lang/String" "value" "[B" (.ref tb) ∧ Arv Z h9 tb kb .byte (Int32.ofNat ys.length) (ints ys) (.int 0) ∧ (ys.length ≤ 5)
theorem ef_mk (m9 : MethodId) (x : Int32) (y : Int32) (z : Int32) : entryFrame m9 [(.int x), (.int y), (.int z)].toArray 8 = mkF m9 0 #[.val (.int x), .val (.int y), .val (.int z), .unset, .unset, .unset, .unset, .unset] [] := by first | rfl | (simp [entryFrame, mkF, argsToLocals, Value.category]; done)
set_option maxRecDepth 65536 in
set_option maxHeartbeats 4000000 in
theorem m_mk {l : Launch} {Z : State} {a0 : Array Value} {n0 : Nat} {g0 : Int32} {gf : Value} (hC : Ctx l Z a0 n0 g0 gf) (x : Int32) (y : Int32) (z : Int32) (h : Heap) :
    Met l Z EL0 n0 (⟨"com/example/room_divider/roomdivider/isolation/GeneratedNamesOwnerPinLaw", "mk", "(III)Ljava/lang/String;"⟩ : MethodName) method_3_code 8 (some (.object "java/lang/String")) [] ({ frames := 4, cells := 6, slots := 41, locals := 66 } : Room) [(.int x), (.int y), (.int z)] [] h (Q_mk Z g0 gf x y z h) := by
  obtain ⟨hw, hS, hE, hK, hX⟩ := id hC
  refine Met.intro pl_34 (fun m9 => ef_mk m9 x y z) hE ?_
  intro G hG
  refine iloadN hG d_method_3_code_0 rfl ?_
  refine iconst hG d_method_3_code_1 (0) rfl ?_
  refine callStatic hG d_method_3_code_2 (w5 hw) (w6 hw) (w3 hw) (w7 hw) (by decide) (m_ch hC (y) ((0 : Int32)) h) pd_22 rfl (rest := []) rfl rfl all0 (Nat.le_of_ble_eq_true rfl) (W := 0) (Nat.le_of_ble_eq_true rfl) (Nat.le_of_ble_eq_true rfl) (Nat.le_of_ble_eq_true rfl) (Nat.le_of_ble_eq_true rfl) (fun v483 M484 h485 le486 hq487 => ?_)
  obtain ⟨c488, rfl, rfl, rfl, hc489⟩ := hq487
  show G [] h (0) (0) 5 #[.val (.int x), .val (.int y), .val (.int z), .unset, .unset, .unset, .unset, .unset] [(.int c488)]
  have nc490 : nar .char c488 = c488 := lat_nar hc489
  refine istoreN hG d_method_3_code_5 rfl ?_
  refine iloadN hG d_method_3_code_6 rfl ?_
  refine bipush hG d_method_3_code_7 (8) rfl ?_
  refine callStatic hG d_method_3_code_9 (w5 hw) (w6 hw) (w3 hw) (w7 hw) (by decide) (m_ch hC (y) ((8 : Int32)) h) pd_22 rfl (rest := []) rfl rfl all0 (Nat.le_of_ble_eq_true rfl) (W := 0) (Nat.le_of_ble_eq_true rfl) (Nat.le_of_ble_eq_true rfl) (Nat.le_of_ble_eq_true rfl) (Nat.le_of_ble_eq_true rfl) (fun v491 M492 h493 le494 hq495 => ?_)
  obtain ⟨c496, rfl, rfl, rfl, hc497⟩ := hq495
  show G [] h (0) (0) 12 #[.val (.int x), .val (.int y), .val (.int z), .val (.int c488), .unset, .unset, .unset, .unset] [(.int c496)]
  have nc498 : nar .char c496 = c496 := lat_nar hc497
  refine istore hG d_method_3_code_12 rfl ?_
  refine iloadN hG d_method_3_code_14 rfl ?_
  refine bipush hG d_method_3_code_15 (16) rfl ?_
  refine callStatic hG d_method_3_code_17 (w5 hw) (w6 hw) (w3 hw) (w7 hw) (by decide) (m_ch hC (y) ((16 : Int32)) h) pd_22 rfl (rest := []) rfl rfl all0 (Nat.le_of_ble_eq_true rfl) (W := 0) (Nat.le_of_ble_eq_true rfl) (Nat.le_of_ble_eq_true rfl) (Nat.le_of_ble_eq_true rfl) (Nat.le_of_ble_eq_true rfl) (fun v499 M500 h501 le502 hq503 => ?_)
  obtain ⟨c504, rfl, rfl, rfl, hc505⟩ := hq503
  show G [] h (0) (0) 20 #[.val (.int x), .val (.int y), .val (.int z), .val (.int c488), .val (.int c496), .unset, .unset, .unset] [(.int c504)]
  have nc506 : nar .char c504 = c504 := lat_nar hc505
  refine istore hG d_method_3_code_20 rfl ?_
  refine iloadN hG d_method_3_code_22 rfl ?_
  refine bipush hG d_method_3_code_23 (24) rfl ?_
  refine callStatic hG d_method_3_code_25 (w5 hw) (w6 hw) (w3 hw) (w7 hw) (by decide) (m_ch hC (y) ((24 : Int32)) h) pd_22 rfl (rest := []) rfl rfl all0 (Nat.le_of_ble_eq_true rfl) (W := 0) (Nat.le_of_ble_eq_true rfl) (Nat.le_of_ble_eq_true rfl) (Nat.le_of_ble_eq_true rfl) (Nat.le_of_ble_eq_true rfl) (fun v507 M508 h509 le510 hq511 => ?_)
  obtain ⟨c512, rfl, rfl, rfl, hc513⟩ := hq511
  show G [] h (0) (0) 28 #[.val (.int x), .val (.int y), .val (.int z), .val (.int c488), .val (.int c496), .val (.int c504), .unset, .unset] [(.int c512)]
  have nc514 : nar .char c512 = c512 := lat_nar hc513
  refine istore hG d_method_3_code_28 rfl ?_
  refine iloadN hG d_method_3_code_30 rfl ?_
  refine iconst hG d_method_3_code_31 (0) rfl ?_
  refine callStatic hG d_method_3_code_32 (w5 hw) (w6 hw) (w3 hw) (w7 hw) (by decide) (m_ch hC (z) ((0 : Int32)) h) pd_22 rfl (rest := []) rfl rfl all0 (Nat.le_of_ble_eq_true rfl) (W := 0) (Nat.le_of_ble_eq_true rfl) (Nat.le_of_ble_eq_true rfl) (Nat.le_of_ble_eq_true rfl) (Nat.le_of_ble_eq_true rfl) (fun v515 M516 h517 le518 hq519 => ?_)
  obtain ⟨c520, rfl, rfl, rfl, hc521⟩ := hq519
  show G [] h (0) (0) 35 #[.val (.int x), .val (.int y), .val (.int z), .val (.int c488), .val (.int c496), .val (.int c504), .val (.int c512), .unset] [(.int c520)]
  have nc522 : nar .char c520 = c520 := lat_nar hc521
  refine istore hG d_method_3_code_35 rfl ?_
  refine iloadN hG d_method_3_code_37 rfl ?_
  refine if_ne hG d_method_3_code_38 (by decide) (pc' := 52) rfl (fun q523 => ?_) (fun q523 => ?_)
  · skip
    refine iloadN hG d_method_3_code_52 rfl ?_
    refine iconst hG d_method_3_code_53 (1) rfl ?_
    refine icmp_ne hG d_method_3_code_54 (by decide) (pc' := 72) rfl (fun q524 => ?_) (fun q524 => ?_)
    · skip
      refine iloadN hG d_method_3_code_72 rfl ?_
      refine iconst hG d_method_3_code_73 (2) rfl ?_
      refine icmp_ne hG d_method_3_code_74 (by decide) (pc' := 97) rfl (fun q525 => ?_) (fun q525 => ?_)
      · skip
        refine iloadN hG d_method_3_code_97 rfl ?_
        refine iconst hG d_method_3_code_98 (3) rfl ?_
        refine icmp_ne hG d_method_3_code_99 (by decide) (pc' := 127) rfl (fun q526 => ?_) (fun q526 => ?_)
        · skip
          refine iloadN hG d_method_3_code_127 rfl ?_
          refine iconst hG d_method_3_code_128 (4) rfl ?_
          refine icmp_ne hG d_method_3_code_129 (by decide) (pc' := 162) rfl (fun q527 => ?_) (fun q527 => ?_)
          · skip
            refine new hG d_method_3_code_162 (w8 hw) (w9 hw) (w10 hw) (Nat.le_of_ble_eq_true rfl) (Nat.le_of_ble_eq_true rfl) (fun h528 a529 g530 E531 X532 D533 => ?_)
            show G [a529] h528 (1) (4) 165 #[.val (.int x), .val (.int y), .val (.int z), .val (.int c488), .val (.int c496), .val (.int c504), .val (.int c512), .val (.int c520)] [(.ref a529)]
            refine dup hG d_method_3_code_165 rfl ?_
            refine iconst hG d_method_3_code_166 (5) rfl ?_
            refine newarray hG d_method_3_code_167 rfl (w11 hw) (by decide) (cap := 5) (by decide) (by decide) (Nat.le_of_ble_eq_true rfl) (Nat.le_of_ble_eq_true rfl) (cnt := 5) (vs := [(.int (0 : Int32)), (.int (0 : Int32)), (.int (0 : Int32)), (.int (0 : Int32)), (.int (0 : Int32))]) rfl (ad := "[C") (by decide +kernel) (fun h534 a535 kk536 g537 E538 V539 X540 => ?_)
            show G [a535, a529] h534 (2) (9) 169 #[.val (.int x), .val (.int y), .val (.int z), .val (.int c488), .val (.int c496), .val (.int c504), .val (.int c512), .val (.int c520)] [(.ref a535), (.ref a529), (.ref a529)]
            refine dup hG d_method_3_code_169 rfl ?_
            refine iconst hG d_method_3_code_170 (0) rfl ?_
            refine iloadN hG d_method_3_code_171 rfl ?_
            refine castore hG d_method_3_code_172 V539 ⟨by decide, by decide⟩ (i := 0) rfl (Nat.le_of_ble_eq_true rfl) (List.mem_of_getElem? (i := 0) rfl) (fun h541 W542 V543 => ?_)
            rw [nc490] at V543
            have V545 : Arv Z h541 a535 kk536 .char (5 : Int32) [(.int c488), (.int (0 : Int32)), (.int (0 : Int32)), (.int (0 : Int32)), (.int (0 : Int32))] (.int 0) := V543
            refine dup hG d_method_3_code_173 rfl ?_
            refine iconst hG d_method_3_code_174 (1) rfl ?_
            refine iload hG d_method_3_code_175 rfl ?_
            refine castore hG d_method_3_code_177 V545 ⟨by decide, by decide⟩ (i := 1) rfl (Nat.le_of_ble_eq_true rfl) (List.mem_of_getElem? (i := 0) rfl) (fun h546 W547 V548 => ?_)
            rw [nc498] at V548
            have V550 : Arv Z h546 a535 kk536 .char (5 : Int32) [(.int c488), (.int c496), (.int (0 : Int32)), (.int (0 : Int32)), (.int (0 : Int32))] (.int 0) := V548
            refine dup hG d_method_3_code_178 rfl ?_
            refine iconst hG d_method_3_code_179 (2) rfl ?_
            refine iload hG d_method_3_code_180 rfl ?_
            refine castore hG d_method_3_code_182 V550 ⟨by decide, by decide⟩ (i := 2) rfl (Nat.le_of_ble_eq_true rfl) (List.mem_of_getElem? (i := 0) rfl) (fun h551 W552 V553 => ?_)
            rw [nc506] at V553
            have V555 : Arv Z h551 a535 kk536 .char (5 : Int32) [(.int c488), (.int c496), (.int c504), (.int (0 : Int32)), (.int (0 : Int32))] (.int 0) := V553
            refine dup hG d_method_3_code_183 rfl ?_
            refine iconst hG d_method_3_code_184 (3) rfl ?_
            refine iload hG d_method_3_code_185 rfl ?_
            refine castore hG d_method_3_code_187 V555 ⟨by decide, by decide⟩ (i := 3) rfl (Nat.le_of_ble_eq_true rfl) (List.mem_of_getElem? (i := 0) rfl) (fun h556 W557 V558 => ?_)
            rw [nc514] at V558
            have V560 : Arv Z h556 a535 kk536 .char (5 : Int32) [(.int c488), (.int c496), (.int c504), (.int c512), (.int (0 : Int32))] (.int 0) := V558
            refine dup hG d_method_3_code_188 rfl ?_
            refine iconst hG d_method_3_code_189 (4) rfl ?_
            refine iload hG d_method_3_code_190 rfl ?_
            refine castore hG d_method_3_code_192 V560 ⟨by decide, by decide⟩ (i := 4) rfl (Nat.le_of_ble_eq_true rfl) (List.mem_of_getElem? (i := 0) rfl) (fun h561 W562 V563 => ?_)
            rw [nc522] at V563
            have V565 : Arv Z h561 a535 kk536 .char (5 : Int32) [(.int c488), (.int c496), (.int c504), (.int c512), (.int c520)] (.int 0) := V563
            have E566 : Exa Z h561 a529 "java/lang/String" := ((((((X532.ext E538).wr W542).wr W547).wr W552).wr W557).wr W562)
            have F567 : Fld Z h528 a529 "java/lang/String" "value" "[B" .null := D533 (Or.inr (w24 hw)) pf__B
            have ne568 : a529 ≠ a535 := (Nat.ne_of_lt (Nat.lt_of_lt_of_le X532.lt g537))
            have F569 : Fld Z h561 a529 "java/lang/String" "value" "[B" .null := ((((((F567.ext E538).other W542 (Or.inl ne568)).other W547 (Or.inl ne568)).other W552 (Or.inl ne568)).other W557 (Or.inl ne568)).other W562 (Or.inl ne568))
            have F570 : Fld Z h528 a529 "java/lang/String" "coder" "B" (.int (0 : Int32)) := D533 (Or.inr (w25 hw)) pf_B
            have F571 : Fld Z h561 a529 "java/lang/String" "coder" "B" (.int (0 : Int32)) := ((((((F570.ext E538).other W542 (Or.inl ne568)).other W547 (Or.inl ne568)).other W552 (Or.inl ne568)).other W557 (Or.inl ne568)).other W562 (Or.inl ne568))
            refine callInit hG d_method_3_code_193 rfl (w12 hw) (w13 hw) (w10 hw) (w14 hw) (by decide) (m_initC1 hC (a529) (a535) (kk536) ((5 : Int32)) ([c488, c496, c504, c512, c520]) h561 E566 F569 F571 V565 rfl (by first | exact Nat.le_of_ble_eq_true rfl | omega | (simp; done) | (simp; omega)) (forallS hc489 (forallS hc497 (forallS hc505 (forallS hc513 (forallS hc521 (fun _ q => nomatch q)))))) (by decide)) pd_23 rfl (rest := [(.ref a529)]) rfl rfl (allS (List.mem_of_getElem? (i := 1) rfl) all0) (Nat.le_of_ble_eq_true rfl) (W := 1) (Nat.le_of_ble_eq_true rfl) (Nat.le_of_ble_eq_true rfl) (Nat.le_of_ble_eq_true rfl) (Nat.le_of_ble_eq_true rfl) (fun v572 M573 h574 le575 hq576 => ?_)
            obtain ⟨t577, kt578, rfl, rfl, K579, g580, f581, f582, f583, f584⟩ := hq576
            show G [t577, a535, a529] h574 (3) (41) 196 #[.val (.int x), .val (.int y), .val (.int z), .val (.int c488), .val (.int c496), .val (.int c504), .val (.int c512), .val (.int c520)] [(.ref a529)]
            have K585 : Keep h h574 [] := (((((((((Keep.refl _ _).ext E531).ext E538).wr W542 (Or.inr (Nat.le_trans E531.1 g537))).wr W547 (Or.inr (Nat.le_trans E531.1 g537))).wr W552 (Or.inr (Nat.le_trans E531.1 g537))).wr W557 (Or.inr (Nat.le_trans E531.1 g537))).wr W562 (Or.inr (Nat.le_trans E531.1 g537))).trans K579 (allS (Or.inr g530) all0))
            exact areturn hG rfl rfl rfl d_method_3_code_196 (M' := [a529]) ⟨a529, t577, kt578, ([c488, c496, c504, c512, c520].map (nar .byte)), rfl, rfl, K585, g530, f581, f582, f583, f584, (by simp)⟩ (allS (List.mem_of_getElem? (i := 2) rfl) all0) (Nat.le_of_ble_eq_true rfl) (Nat.le_of_ble_eq_true rfl)
          · skip
            refine new hG d_method_3_code_132 (w8 hw) (w9 hw) (w10 hw) (Nat.le_of_ble_eq_true rfl) (Nat.le_of_ble_eq_true rfl) (fun h586 a587 g588 E589 X590 D591 => ?_)
            show G [a587] h586 (1) (4) 135 #[.val (.int x), .val (.int y), .val (.int z), .val (.int c488), .val (.int c496), .val (.int c504), .val (.int c512), .val (.int c520)] [(.ref a587)]
            refine dup hG d_method_3_code_135 rfl ?_
            refine iconst hG d_method_3_code_136 (4) rfl ?_
            refine newarray hG d_method_3_code_137 rfl (w11 hw) (by decide) (cap := 4) (by decide) (by decide) (Nat.le_of_ble_eq_true rfl) (Nat.le_of_ble_eq_true rfl) (cnt := 4) (vs := [(.int (0 : Int32)), (.int (0 : Int32)), (.int (0 : Int32)), (.int (0 : Int32))]) rfl (ad := "[C") (by decide +kernel) (fun h592 a593 kk594 g595 E596 V597 X598 => ?_)
            show G [a593, a587] h592 (2) (8) 139 #[.val (.int x), .val (.int y), .val (.int z), .val (.int c488), .val (.int c496), .val (.int c504), .val (.int c512), .val (.int c520)] [(.ref a593), (.ref a587), (.ref a587)]
            refine dup hG d_method_3_code_139 rfl ?_
            refine iconst hG d_method_3_code_140 (0) rfl ?_
            refine iloadN hG d_method_3_code_141 rfl ?_
            refine castore hG d_method_3_code_142 V597 ⟨by decide, by decide⟩ (i := 0) rfl (Nat.le_of_ble_eq_true rfl) (List.mem_of_getElem? (i := 0) rfl) (fun h599 W600 V601 => ?_)
            rw [nc490] at V601
            have V603 : Arv Z h599 a593 kk594 .char (4 : Int32) [(.int c488), (.int (0 : Int32)), (.int (0 : Int32)), (.int (0 : Int32))] (.int 0) := V601
            refine dup hG d_method_3_code_143 rfl ?_
            refine iconst hG d_method_3_code_144 (1) rfl ?_
            refine iload hG d_method_3_code_145 rfl ?_
            refine castore hG d_method_3_code_147 V603 ⟨by decide, by decide⟩ (i := 1) rfl (Nat.le_of_ble_eq_true rfl) (List.mem_of_getElem? (i := 0) rfl) (fun h604 W605 V606 => ?_)
            rw [nc498] at V606
            have V608 : Arv Z h604 a593 kk594 .char (4 : Int32) [(.int c488), (.int c496), (.int (0 : Int32)), (.int (0 : Int32))] (.int 0) := V606
            refine dup hG d_method_3_code_148 rfl ?_
            refine iconst hG d_method_3_code_149 (2) rfl ?_
            refine iload hG d_method_3_code_150 rfl ?_
            refine castore hG d_method_3_code_152 V608 ⟨by decide, by decide⟩ (i := 2) rfl (Nat.le_of_ble_eq_true rfl) (List.mem_of_getElem? (i := 0) rfl) (fun h609 W610 V611 => ?_)
            rw [nc506] at V611
            have V613 : Arv Z h609 a593 kk594 .char (4 : Int32) [(.int c488), (.int c496), (.int c504), (.int (0 : Int32))] (.int 0) := V611
            refine dup hG d_method_3_code_153 rfl ?_
            refine iconst hG d_method_3_code_154 (3) rfl ?_
            refine iload hG d_method_3_code_155 rfl ?_
            refine castore hG d_method_3_code_157 V613 ⟨by decide, by decide⟩ (i := 3) rfl (Nat.le_of_ble_eq_true rfl) (List.mem_of_getElem? (i := 0) rfl) (fun h614 W615 V616 => ?_)
            rw [nc514] at V616
            have V618 : Arv Z h614 a593 kk594 .char (4 : Int32) [(.int c488), (.int c496), (.int c504), (.int c512)] (.int 0) := V616
            have E619 : Exa Z h614 a587 "java/lang/String" := (((((X590.ext E596).wr W600).wr W605).wr W610).wr W615)
            have F620 : Fld Z h586 a587 "java/lang/String" "value" "[B" .null := D591 (Or.inr (w24 hw)) pf__B
            have ne621 : a587 ≠ a593 := (Nat.ne_of_lt (Nat.lt_of_lt_of_le X590.lt g595))
            have F622 : Fld Z h614 a587 "java/lang/String" "value" "[B" .null := (((((F620.ext E596).other W600 (Or.inl ne621)).other W605 (Or.inl ne621)).other W610 (Or.inl ne621)).other W615 (Or.inl ne621))
            have F623 : Fld Z h586 a587 "java/lang/String" "coder" "B" (.int (0 : Int32)) := D591 (Or.inr (w25 hw)) pf_B
            have F624 : Fld Z h614 a587 "java/lang/String" "coder" "B" (.int (0 : Int32)) := (((((F623.ext E596).other W600 (Or.inl ne621)).other W605 (Or.inl ne621)).other W610 (Or.inl ne621)).other W615 (Or.inl ne621))
            refine callInit hG d_method_3_code_158 rfl (w12 hw) (w13 hw) (w10 hw) (w14 hw) (by decide) (m_initC1 hC (a587) (a593) (kk594) ((4 : Int32)) ([c488, c496, c504, c512]) h614 E619 F622 F624 V618 rfl (by first | exact Nat.le_of_ble_eq_true rfl | omega | (simp; done) | (simp; omega)) (forallS hc489 (forallS hc497 (forallS hc505 (forallS hc513 (fun _ q => nomatch q))))) (by decide)) pd_23 rfl (rest := [(.ref a587)]) rfl rfl (allS (List.mem_of_getElem? (i := 1) rfl) all0) (Nat.le_of_ble_eq_true rfl) (W := 1) (Nat.le_of_ble_eq_true rfl) (Nat.le_of_ble_eq_true rfl) (Nat.le_of_ble_eq_true rfl) (Nat.le_of_ble_eq_true rfl) (fun v625 M626 h627 le628 hq629 => ?_)
            obtain ⟨t630, kt631, rfl, rfl, K632, g633, f634, f635, f636, f637⟩ := hq629
            show G [t630, a593, a587] h627 (3) (40) 161 #[.val (.int x), .val (.int y), .val (.int z), .val (.int c488), .val (.int c496), .val (.int c504), .val (.int c512), .val (.int c520)] [(.ref a587)]
            have K638 : Keep h h627 [] := ((((((((Keep.refl _ _).ext E589).ext E596).wr W600 (Or.inr (Nat.le_trans E589.1 g595))).wr W605 (Or.inr (Nat.le_trans E589.1 g595))).wr W610 (Or.inr (Nat.le_trans E589.1 g595))).wr W615 (Or.inr (Nat.le_trans E589.1 g595))).trans K632 (allS (Or.inr g588) all0))
            exact areturn hG rfl rfl rfl d_method_3_code_161 (M' := [a587]) ⟨a587, t630, kt631, ([c488, c496, c504, c512].map (nar .byte)), rfl, rfl, K638, g588, f634, f635, f636, f637, (by simp)⟩ (allS (List.mem_of_getElem? (i := 2) rfl) all0) (Nat.le_of_ble_eq_true rfl) (Nat.le_of_ble_eq_true rfl)
        · skip
          refine new hG d_method_3_code_102 (w8 hw) (w9 hw) (w10 hw) (Nat.le_of_ble_eq_true rfl) (Nat.le_of_ble_eq_true rfl) (fun h639 a640 g641 E642 X643 D644 => ?_)
          show G [a640] h639 (1) (4) 105 #[.val (.int x), .val (.int y), .val (.int z), .val (.int c488), .val (.int c496), .val (.int c504), .val (.int c512), .val (.int c520)] [(.ref a640)]
          refine dup hG d_method_3_code_105 rfl ?_
          refine iconst hG d_method_3_code_106 (3) rfl ?_
          refine newarray hG d_method_3_code_107 rfl (w11 hw) (by decide) (cap := 3) (by decide) (by decide) (Nat.le_of_ble_eq_true rfl) (Nat.le_of_ble_eq_true rfl) (cnt := 3) (vs := [(.int (0 : Int32)), (.int (0 : Int32)), (.int (0 : Int32))]) rfl (ad := "[C") (by decide +kernel) (fun h645 a646 kk647 g648 E649 V650 X651 => ?_)
          show G [a646, a640] h645 (2) (7) 109 #[.val (.int x), .val (.int y), .val (.int z), .val (.int c488), .val (.int c496), .val (.int c504), .val (.int c512), .val (.int c520)] [(.ref a646), (.ref a640), (.ref a640)]
          refine dup hG d_method_3_code_109 rfl ?_
          refine iconst hG d_method_3_code_110 (0) rfl ?_
          refine iloadN hG d_method_3_code_111 rfl ?_
          refine castore hG d_method_3_code_112 V650 ⟨by decide, by decide⟩ (i := 0) rfl (Nat.le_of_ble_eq_true rfl) (List.mem_of_getElem? (i := 0) rfl) (fun h652 W653 V654 => ?_)
          rw [nc490] at V654
          have V656 : Arv Z h652 a646 kk647 .char (3 : Int32) [(.int c488), (.int (0 : Int32)), (.int (0 : Int32))] (.int 0) := V654
          refine dup hG d_method_3_code_113 rfl ?_
          refine iconst hG d_method_3_code_114 (1) rfl ?_
          refine iload hG d_method_3_code_115 rfl ?_
          refine castore hG d_method_3_code_117 V656 ⟨by decide, by decide⟩ (i := 1) rfl (Nat.le_of_ble_eq_true rfl) (List.mem_of_getElem? (i := 0) rfl) (fun h657 W658 V659 => ?_)
          rw [nc498] at V659
          have V661 : Arv Z h657 a646 kk647 .char (3 : Int32) [(.int c488), (.int c496), (.int (0 : Int32))] (.int 0) := V659
          refine dup hG d_method_3_code_118 rfl ?_
          refine iconst hG d_method_3_code_119 (2) rfl ?_
          refine iload hG d_method_3_code_120 rfl ?_
          refine castore hG d_method_3_code_122 V661 ⟨by decide, by decide⟩ (i := 2) rfl (Nat.le_of_ble_eq_true rfl) (List.mem_of_getElem? (i := 0) rfl) (fun h662 W663 V664 => ?_)
          rw [nc506] at V664
          have V666 : Arv Z h662 a646 kk647 .char (3 : Int32) [(.int c488), (.int c496), (.int c504)] (.int 0) := V664
          have E667 : Exa Z h662 a640 "java/lang/String" := ((((X643.ext E649).wr W653).wr W658).wr W663)
          have F668 : Fld Z h639 a640 "java/lang/String" "value" "[B" .null := D644 (Or.inr (w24 hw)) pf__B
          have ne669 : a640 ≠ a646 := (Nat.ne_of_lt (Nat.lt_of_lt_of_le X643.lt g648))
          have F670 : Fld Z h662 a640 "java/lang/String" "value" "[B" .null := ((((F668.ext E649).other W653 (Or.inl ne669)).other W658 (Or.inl ne669)).other W663 (Or.inl ne669))
          have F671 : Fld Z h639 a640 "java/lang/String" "coder" "B" (.int (0 : Int32)) := D644 (Or.inr (w25 hw)) pf_B
          have F672 : Fld Z h662 a640 "java/lang/String" "coder" "B" (.int (0 : Int32)) := ((((F671.ext E649).other W653 (Or.inl ne669)).other W658 (Or.inl ne669)).other W663 (Or.inl ne669))
          refine callInit hG d_method_3_code_123 rfl (w12 hw) (w13 hw) (w10 hw) (w14 hw) (by decide) (m_initC1 hC (a640) (a646) (kk647) ((3 : Int32)) ([c488, c496, c504]) h662 E667 F670 F672 V666 rfl (by first | exact Nat.le_of_ble_eq_true rfl | omega | (simp; done) | (simp; omega)) (forallS hc489 (forallS hc497 (forallS hc505 (fun _ q => nomatch q)))) (by decide)) pd_23 rfl (rest := [(.ref a640)]) rfl rfl (allS (List.mem_of_getElem? (i := 1) rfl) all0) (Nat.le_of_ble_eq_true rfl) (W := 1) (Nat.le_of_ble_eq_true rfl) (Nat.le_of_ble_eq_true rfl) (Nat.le_of_ble_eq_true rfl) (Nat.le_of_ble_eq_true rfl) (fun v673 M674 h675 le676 hq677 => ?_)
          obtain ⟨t678, kt679, rfl, rfl, K680, g681, f682, f683, f684, f685⟩ := hq677
          show G [t678, a646, a640] h675 (3) (39) 126 #[.val (.int x), .val (.int y), .val (.int z), .val (.int c488), .val (.int c496), .val (.int c504), .val (.int c512), .val (.int c520)] [(.ref a640)]
          have K686 : Keep h h675 [] := (((((((Keep.refl _ _).ext E642).ext E649).wr W653 (Or.inr (Nat.le_trans E642.1 g648))).wr W658 (Or.inr (Nat.le_trans E642.1 g648))).wr W663 (Or.inr (Nat.le_trans E642.1 g648))).trans K680 (allS (Or.inr g641) all0))
          exact areturn hG rfl rfl rfl d_method_3_code_126 (M' := [a640]) ⟨a640, t678, kt679, ([c488, c496, c504].map (nar .byte)), rfl, rfl, K686, g641, f682, f683, f684, f685, (by simp)⟩ (allS (List.mem_of_getElem? (i := 2) rfl) all0) (Nat.le_of_ble_eq_true rfl) (Nat.le_of_ble_eq_true rfl)
      · skip
        refine new hG d_method_3_code_77 (w8 hw) (w9 hw) (w10 hw) (Nat.le_of_ble_eq_true rfl) (Nat.le_of_ble_eq_true rfl) (fun h687 a688 g689 E690 X691 D692 => ?_)
        show G [a688] h687 (1) (4) 80 #[.val (.int x), .val (.int y), .val (.int z), .val (.int c488), .val (.int c496), .val (.int c504), .val (.int c512), .val (.int c520)] [(.ref a688)]
        refine dup hG d_method_3_code_80 rfl ?_
        refine iconst hG d_method_3_code_81 (2) rfl ?_
        refine newarray hG d_method_3_code_82 rfl (w11 hw) (by decide) (cap := 2) (by decide) (by decide) (Nat.le_of_ble_eq_true rfl) (Nat.le_of_ble_eq_true rfl) (cnt := 2) (vs := [(.int (0 : Int32)), (.int (0 : Int32))]) rfl (ad := "[C") (by decide +kernel) (fun h693 a694 kk695 g696 E697 V698 X699 => ?_)
        show G [a694, a688] h693 (2) (6) 84 #[.val (.int x), .val (.int y), .val (.int z), .val (.int c488), .val (.int c496), .val (.int c504), .val (.int c512), .val (.int c520)] [(.ref a694), (.ref a688), (.ref a688)]
        refine dup hG d_method_3_code_84 rfl ?_
        refine iconst hG d_method_3_code_85 (0) rfl ?_
        refine iloadN hG d_method_3_code_86 rfl ?_
        refine castore hG d_method_3_code_87 V698 ⟨by decide, by decide⟩ (i := 0) rfl (Nat.le_of_ble_eq_true rfl) (List.mem_of_getElem? (i := 0) rfl) (fun h700 W701 V702 => ?_)
        rw [nc490] at V702
        have V704 : Arv Z h700 a694 kk695 .char (2 : Int32) [(.int c488), (.int (0 : Int32))] (.int 0) := V702
        refine dup hG d_method_3_code_88 rfl ?_
        refine iconst hG d_method_3_code_89 (1) rfl ?_
        refine iload hG d_method_3_code_90 rfl ?_
        refine castore hG d_method_3_code_92 V704 ⟨by decide, by decide⟩ (i := 1) rfl (Nat.le_of_ble_eq_true rfl) (List.mem_of_getElem? (i := 0) rfl) (fun h705 W706 V707 => ?_)
        rw [nc498] at V707
        have V709 : Arv Z h705 a694 kk695 .char (2 : Int32) [(.int c488), (.int c496)] (.int 0) := V707
        have E710 : Exa Z h705 a688 "java/lang/String" := (((X691.ext E697).wr W701).wr W706)
        have F711 : Fld Z h687 a688 "java/lang/String" "value" "[B" .null := D692 (Or.inr (w24 hw)) pf__B
        have ne712 : a688 ≠ a694 := (Nat.ne_of_lt (Nat.lt_of_lt_of_le X691.lt g696))
        have F713 : Fld Z h705 a688 "java/lang/String" "value" "[B" .null := (((F711.ext E697).other W701 (Or.inl ne712)).other W706 (Or.inl ne712))
        have F714 : Fld Z h687 a688 "java/lang/String" "coder" "B" (.int (0 : Int32)) := D692 (Or.inr (w25 hw)) pf_B
        have F715 : Fld Z h705 a688 "java/lang/String" "coder" "B" (.int (0 : Int32)) := (((F714.ext E697).other W701 (Or.inl ne712)).other W706 (Or.inl ne712))
        refine callInit hG d_method_3_code_93 rfl (w12 hw) (w13 hw) (w10 hw) (w14 hw) (by decide) (m_initC1 hC (a688) (a694) (kk695) ((2 : Int32)) ([c488, c496]) h705 E710 F713 F715 V709 rfl (by first | exact Nat.le_of_ble_eq_true rfl | omega | (simp; done) | (simp; omega)) (forallS hc489 (forallS hc497 (fun _ q => nomatch q))) (by decide)) pd_23 rfl (rest := [(.ref a688)]) rfl rfl (allS (List.mem_of_getElem? (i := 1) rfl) all0) (Nat.le_of_ble_eq_true rfl) (W := 1) (Nat.le_of_ble_eq_true rfl) (Nat.le_of_ble_eq_true rfl) (Nat.le_of_ble_eq_true rfl) (Nat.le_of_ble_eq_true rfl) (fun v716 M717 h718 le719 hq720 => ?_)
        obtain ⟨t721, kt722, rfl, rfl, K723, g724, f725, f726, f727, f728⟩ := hq720
        show G [t721, a694, a688] h718 (3) (38) 96 #[.val (.int x), .val (.int y), .val (.int z), .val (.int c488), .val (.int c496), .val (.int c504), .val (.int c512), .val (.int c520)] [(.ref a688)]
        have K729 : Keep h h718 [] := ((((((Keep.refl _ _).ext E690).ext E697).wr W701 (Or.inr (Nat.le_trans E690.1 g696))).wr W706 (Or.inr (Nat.le_trans E690.1 g696))).trans K723 (allS (Or.inr g689) all0))
        exact areturn hG rfl rfl rfl d_method_3_code_96 (M' := [a688]) ⟨a688, t721, kt722, ([c488, c496].map (nar .byte)), rfl, rfl, K729, g689, f725, f726, f727, f728, (by simp)⟩ (allS (List.mem_of_getElem? (i := 2) rfl) all0) (Nat.le_of_ble_eq_true rfl) (Nat.le_of_ble_eq_true rfl)
    · skip
      refine new hG d_method_3_code_57 (w8 hw) (w9 hw) (w10 hw) (Nat.le_of_ble_eq_true rfl) (Nat.le_of_ble_eq_true rfl) (fun h730 a731 g732 E733 X734 D735 => ?_)
      show G [a731] h730 (1) (4) 60 #[.val (.int x), .val (.int y), .val (.int z), .val (.int c488), .val (.int c496), .val (.int c504), .val (.int c512), .val (.int c520)] [(.ref a731)]
      refine dup hG d_method_3_code_60 rfl ?_
      refine iconst hG d_method_3_code_61 (1) rfl ?_
      refine newarray hG d_method_3_code_62 rfl (w11 hw) (by decide) (cap := 1) (by decide) (by decide) (Nat.le_of_ble_eq_true rfl) (Nat.le_of_ble_eq_true rfl) (cnt := 1) (vs := [(.int (0 : Int32))]) rfl (ad := "[C") (by decide +kernel) (fun h736 a737 kk738 g739 E740 V741 X742 => ?_)
      show G [a737, a731] h736 (2) (5) 64 #[.val (.int x), .val (.int y), .val (.int z), .val (.int c488), .val (.int c496), .val (.int c504), .val (.int c512), .val (.int c520)] [(.ref a737), (.ref a731), (.ref a731)]
      refine dup hG d_method_3_code_64 rfl ?_
      refine iconst hG d_method_3_code_65 (0) rfl ?_
      refine iloadN hG d_method_3_code_66 rfl ?_
      refine castore hG d_method_3_code_67 V741 ⟨by decide, by decide⟩ (i := 0) rfl (Nat.le_of_ble_eq_true rfl) (List.mem_of_getElem? (i := 0) rfl) (fun h743 W744 V745 => ?_)
      rw [nc490] at V745
      have V747 : Arv Z h743 a737 kk738 .char (1 : Int32) [(.int c488)] (.int 0) := V745
      have E748 : Exa Z h743 a731 "java/lang/String" := ((X734.ext E740).wr W744)
      have F749 : Fld Z h730 a731 "java/lang/String" "value" "[B" .null := D735 (Or.inr (w24 hw)) pf__B
      have ne750 : a731 ≠ a737 := (Nat.ne_of_lt (Nat.lt_of_lt_of_le X734.lt g739))
      have F751 : Fld Z h743 a731 "java/lang/String" "value" "[B" .null := ((F749.ext E740).other W744 (Or.inl ne750))
      have F752 : Fld Z h730 a731 "java/lang/String" "coder" "B" (.int (0 : Int32)) := D735 (Or.inr (w25 hw)) pf_B
      have F753 : Fld Z h743 a731 "java/lang/String" "coder" "B" (.int (0 : Int32)) := ((F752.ext E740).other W744 (Or.inl ne750))
      refine callInit hG d_method_3_code_68 rfl (w12 hw) (w13 hw) (w10 hw) (w14 hw) (by decide) (m_initC1 hC (a731) (a737) (kk738) ((1 : Int32)) ([c488]) h743 E748 F751 F753 V747 rfl (by first | exact Nat.le_of_ble_eq_true rfl | omega | (simp; done) | (simp; omega)) (forallS hc489 (fun _ q => nomatch q)) (by decide)) pd_23 rfl (rest := [(.ref a731)]) rfl rfl (allS (List.mem_of_getElem? (i := 1) rfl) all0) (Nat.le_of_ble_eq_true rfl) (W := 1) (Nat.le_of_ble_eq_true rfl) (Nat.le_of_ble_eq_true rfl) (Nat.le_of_ble_eq_true rfl) (Nat.le_of_ble_eq_true rfl) (fun v754 M755 h756 le757 hq758 => ?_)
      obtain ⟨t759, kt760, rfl, rfl, K761, g762, f763, f764, f765, f766⟩ := hq758
      show G [t759, a737, a731] h756 (3) (37) 71 #[.val (.int x), .val (.int y), .val (.int z), .val (.int c488), .val (.int c496), .val (.int c504), .val (.int c512), .val (.int c520)] [(.ref a731)]
      have K767 : Keep h h756 [] := (((((Keep.refl _ _).ext E733).ext E740).wr W744 (Or.inr (Nat.le_trans E733.1 g739))).trans K761 (allS (Or.inr g732) all0))
      exact areturn hG rfl rfl rfl d_method_3_code_71 (M' := [a731]) ⟨a731, t759, kt760, ([c488].map (nar .byte)), rfl, rfl, K767, g732, f763, f764, f765, f766, (by simp)⟩ (allS (List.mem_of_getElem? (i := 2) rfl) all0) (Nat.le_of_ble_eq_true rfl) (Nat.le_of_ble_eq_true rfl)
  · skip
    refine new hG d_method_3_code_41 (w8 hw) (w9 hw) (w10 hw) (Nat.le_of_ble_eq_true rfl) (Nat.le_of_ble_eq_true rfl) (fun h768 a769 g770 E771 X772 D773 => ?_)
    show G [a769] h768 (1) (4) 44 #[.val (.int x), .val (.int y), .val (.int z), .val (.int c488), .val (.int c496), .val (.int c504), .val (.int c512), .val (.int c520)] [(.ref a769)]
    refine dup hG d_method_3_code_44 rfl ?_
    refine iconst hG d_method_3_code_45 (0) rfl ?_
    refine newarray hG d_method_3_code_46 rfl (w11 hw) (by decide) (cap := 0) (by decide) (by decide) (Nat.le_of_ble_eq_true rfl) (Nat.le_of_ble_eq_true rfl) (cnt := 0) (vs := []) rfl (ad := "[C") (by decide +kernel) (fun h774 a775 kk776 g777 E778 V779 X780 => ?_)
    show G [a775, a769] h774 (2) (4) 48 #[.val (.int x), .val (.int y), .val (.int z), .val (.int c488), .val (.int c496), .val (.int c504), .val (.int c512), .val (.int c520)] [(.ref a775), (.ref a769), (.ref a769)]
    have E781 : Exa Z h774 a769 "java/lang/String" := (X772.ext E778)
    have F782 : Fld Z h768 a769 "java/lang/String" "value" "[B" .null := D773 (Or.inr (w24 hw)) pf__B
    have F783 : Fld Z h774 a769 "java/lang/String" "value" "[B" .null := (F782.ext E778)
    have F784 : Fld Z h768 a769 "java/lang/String" "coder" "B" (.int (0 : Int32)) := D773 (Or.inr (w25 hw)) pf_B
    have F785 : Fld Z h774 a769 "java/lang/String" "coder" "B" (.int (0 : Int32)) := (F784.ext E778)
    refine callInit hG d_method_3_code_48 rfl (w12 hw) (w13 hw) (w10 hw) (w14 hw) (by decide) (m_initC0 hC (a769) (a775) (kk776) h774 E781 F783 F785 V779) pd_23 rfl (rest := [(.ref a769)]) rfl rfl (allS (List.mem_of_getElem? (i := 1) rfl) all0) (Nat.le_of_ble_eq_true rfl) (W := 1) (Nat.le_of_ble_eq_true rfl) (Nat.le_of_ble_eq_true rfl) (Nat.le_of_ble_eq_true rfl) (Nat.le_of_ble_eq_true rfl) (fun v786 M787 h788 le789 hq790 => ?_)
    obtain ⟨t791, kt792, rfl, rfl, K793, f794, f795, f796, f797, hat798⟩ := hq790
    show G [a775, a769] h788 (6) (12) 51 #[.val (.int x), .val (.int y), .val (.int z), .val (.int c488), .val (.int c496), .val (.int c504), .val (.int c512), .val (.int c520)] [(.ref a769)]
    have K799 : Keep h h788 [] := ((((Keep.refl _ _).ext E771).ext E778).trans K793 (allS (Or.inr g770) all0))
    exact areturn hG rfl rfl rfl d_method_3_code_51 (M' := [a769]) ⟨a769, t791, kt792, [], rfl, rfl, K799, g770, f794, f795, f796, f797, (by simp)⟩ (allS (List.mem_of_getElem? (i := 1) rfl) all0) (Nat.le_of_ble_eq_true rfl) (Nat.le_of_ble_eq_true rfl)
def Q_comp (Z : State) (g0 : Int32) (gf : Value) (sa : Addr) (tb : Addr) (kb : ClassId) (ys : List Int32) (h : Heap) : QT := fun v' M9 h9 => ∃ (s2 : Addr), ∃ (t2 : Addr), ∃ (k2 : ClassId), v' = some (.ref s2) ∧ M9 = [] ∧ Keep h h9 [] ∧ h.size ≤ s2 ∧ Exa Z h9 s2 "java/lang/String" ∧ Fld Z h9 s2 "java/lang/String" "coder" "B" (.int (0 : Int32)) ∧ Fld Z h9 s2 "java/lang/String" "value" "[B" (.ref t2) ∧ Arv Z h9 t2 k2 .byte (Int32.ofNat (ys ++ [(36 : Int32), (36 : Int32), (82 : Int32), (111 : Int32), (111 : Int32), (109 : Int32), (83 : Int32), (116 : Int32), (97 : Int32), (116 : Int32), (105 : Int32), (99 : Int32), (115 : Int32)]).length) (ints (ys ++ [(36 : Int32), (36 : Int32), (82 : Int32), (111 : Int32), (111 : Int32), (109 : Int32), (83 : Int32), (116 : Int32), (97 : Int32), (116 : Int32), (105 : Int32), (99 : Int32), (115 : Int32)])) (.int 0) ∧ Exa Z h9 t2 "[B"
theorem ef_comp (m9 : MethodId) (sa : Addr) (tb : Addr) (kb : ClassId) (ys : List Int32) : entryFrame m9 [(.ref sa)].toArray 1 = mkF m9 0 #[.val (.ref sa)] [] := by first | rfl | (simp [entryFrame, mkF, argsToLocals, Value.category]; done)
set_option maxRecDepth 65536 in
set_option maxHeartbeats 4000000 in
theorem m_comp {l : Launch} {Z : State} {a0 : Array Value} {n0 : Nat} {g0 : Int32} {gf : Value} (hC : Ctx l Z a0 n0 g0 gf) (sa : Addr) (tb : Addr) (kb : ClassId) (ys : List Int32) (h : Heap) (p0_exa : Exa Z h sa "java/lang/String") (p1_fld : Fld Z h sa "java/lang/String" "coder" "B" (.int (0 : Int32))) (p2_fld : Fld Z h sa "java/lang/String" "value" "[B" (.ref tb)) (p3_arv : Arv Z h tb kb .byte (Int32.ofNat ys.length) (ints ys) (.int 0)) (hy5 : ys.length ≤ 5) :
    Met l Z EL0 n0 (⟨"com/example/room_divider/roomdivider/isolation/GeneratedNames", "companion", "(Ljava/lang/String;)Ljava/lang/String;"⟩ : MethodName) prog_2_method_2_code 1 (some (.object "java/lang/String")) [] ({ frames := 6, cells := 8, slots := 380, locals := 91 } : Room) [(.ref sa)] [] h (Q_comp Z g0 gf sa tb kb ys h) := by
  obtain ⟨hw, hS, hE, hK, hX⟩ := id hC
  refine Met.intro pl_35 (fun m9 => ef_comp m9 sa tb kb ys) hE ?_
  intro G hG
  refine new hG d_prog_2_method_2_code_0 (w34 hw) (w35 hw) (w36 hw) (Nat.le_of_ble_eq_true rfl) (Nat.le_of_ble_eq_true rfl) (fun h800 a801 g802 E803 X804 D805 => ?_)
  show G [a801] h800 (1) (4) 3 #[.val (.ref sa)] [(.ref a801)]
  refine dup hG d_prog_2_method_2_code_3 rfl ?_
  have F806 : Fld Z h800 a801 "java/lang/AbstractStringBuilder" "value" "[B" .null := D805 (Or.inl (w49 hw)) pf__B
  have F807 : Fld Z h800 a801 "java/lang/AbstractStringBuilder" "coder" "B" (.int (0 : Int32)) := D805 (Or.inl (w51 hw)) pf_B
  have F808 : Fld Z h800 a801 "java/lang/AbstractStringBuilder" "count" "I" (.int (0 : Int32)) := D805 (Or.inl (w74 hw)) pf_I
  refine callInit hG d_prog_2_method_2_code_4 rfl (w37 hw) (w38 hw) (w36 hw) (w39 hw) (by decide) (m_sbI hC (a801) h800 X804 F806 F807 F808) pd_24 rfl (rest := [(.ref a801)]) rfl rfl (allS (List.mem_of_getElem? (i := 0) rfl) all0) (Nat.le_of_ble_eq_true rfl) (W := 1) (Nat.le_of_ble_eq_true rfl) (Nat.le_of_ble_eq_true rfl) (Nat.le_of_ble_eq_true rfl) (Nat.le_of_ble_eq_true rfl) (fun v809 M810 h811 le812 hq813 => ?_)
  obtain ⟨t814, kt815, rfl, rfl, K816, g817, f818, f819, f820, f821, f822, f823⟩ := hq813
  show G [t814, a801] h811 (2) (20) 7 #[.val (.ref sa)] [(.ref a801)]
  refine aloadN hG d_prog_2_method_2_code_7 rfl rfl ?_
  have E824 : Exa Z h811 sa "java/lang/String" := ((p0_exa.ext E803).keep K816)
  have ne825 : sa ≠ a801 := (Nat.ne_of_lt (Nat.lt_of_lt_of_le p0_exa.lt g802))
  have F826 : Fld Z h811 sa "java/lang/String" "coder" "B" (.int (0 : Int32)) := ((p1_fld.ext E803).keep K816 (ninS ne825 nin0))
  have F827 : Fld Z h811 sa "java/lang/String" "value" "[B" (.ref tb) := ((p2_fld.ext E803).keep K816 (ninS ne825 nin0))
  have ne828 : tb ≠ a801 := (Nat.ne_of_lt (Nat.lt_of_lt_of_le p3_arv.lt g802))
  have V829 : Arv Z h811 tb kb .byte (Int32.ofNat ys.length) (ints ys) (.int 0) := ((p3_arv.ext E803).keep K816 (ninS ne828 nin0))
  have ne830 : tb ≠ t814 := (Nat.ne_of_lt (Nat.lt_of_lt_of_le p3_arv.lt (Nat.le_trans E803.1 g817)))
  refine callVirtual hG d_prog_2_method_2_code_8 f818 (w52 hw) (w53 hw) (fun _ hz => notFace_of_selects (args := #[]) (mvT hz (w55 hw))) (w55 hw) (w54 hw) (w36 hw) (w56 hw) (by decide) (m_sbA hC (a801) (t814) (kt815) ((List.replicate 16 0)) (0) (sa) (tb) (kb) (ys) h811 f818 f819 f820 f821 f822 f823 E824 F826 F827 V829 (by first | omega | (simp; omega) | (simp; done) | decide) (by first | omega | (simp; omega) | (simp; done) | decide) (by first | omega | (simp; omega) | (simp; done) | decide) ne830) pd_25 rfl (rest := []) rfl rfl (allS (List.mem_of_getElem? (i := 1) rfl) (allS (List.mem_of_getElem? (i := 0) rfl) all0)) (Nat.le_of_ble_eq_true rfl) (W := 0) (Nat.le_of_ble_eq_true rfl) (Nat.le_of_ble_eq_true rfl) (Nat.le_of_ble_eq_true rfl) (Nat.le_of_ble_eq_true rfl) (fun v831 M832 h833 le834 hq835 => ?_)
  obtain ⟨t2836, k2837, ws2838, rfl, rfl, K839, f840, f841, f842, f843, f844, f845, hor846, hfit847, htk848, hgr849⟩ := hq835
  show G [t2836, t814, a801] h833 (3) (120) 11 #[.val (.ref sa)] [(.ref a801)]
  have hL850 : ws2838.length = 16 := by rcases hgr849 with q9 | q9 <;> first | omega | (simp at q9; omega)
  refine ldc hG d_prog_2_method_2_code_11 (w100 hw) hS (by decide) (vs := [(.int (36 : Int32)), (.int (36 : Int32)), (.int (82 : Int32)), (.int (111 : Int32)), (.int (111 : Int32)), (.int (109 : Int32)), (.int (83 : Int32)), (.int (116 : Int32)), (.int (97 : Int32)), (.int (116 : Int32)), (.int (105 : Int32)), (.int (99 : Int32)), (.int (115 : Int32))]) (N := 13) ⟨by decide +kernel, by decide +kernel⟩ (by decide) (by decide) (nn := 52) (by decide) (by decide) (Nat.le_of_ble_eq_true rfl) (Nat.le_of_ble_eq_true rfl) (fun h851 a852 b853 kk854 E855 X856 F857 F858 V859 ne860 => ?_)
  show G [t2836, t814, a801] h851 (5) (176) 13 #[.val (.ref sa)] [(.ref a852), (.ref a801)]
  have E861 : Exa Z h851 a801 "java/lang/StringBuilder" := (f840.ext E855)
  have F862 : Fld Z h851 a801 "java/lang/AbstractStringBuilder" "value" "[B" (.ref t2836) := (f841.ext E855)
  have F863 : Fld Z h851 a801 "java/lang/AbstractStringBuilder" "coder" "B" (.int (0 : Int32)) := (f842.ext E855)
  have F864 : Fld Z h851 a801 "java/lang/AbstractStringBuilder" "count" "I" (.int (Int32.ofNat (0 + ys.length))) := (f843.ext E855)
  have V865 : Arv Z h851 t2836 k2837 .byte (Int32.ofNat ws2838.length) (ints ws2838) (.int 0) := (f844.ext E855)
  have E866 : Exa Z h851 t2836 "[B" := (f845.ext E855)
  refine callVirtual hG d_prog_2_method_2_code_13 E861 (w52 hw) (w53 hw) (fun _ hz => notFace_of_selects (args := #[]) (mvT hz (w55 hw))) (w55 hw) (w54 hw) (w36 hw) (w56 hw) (by decide) (m_sbA hC (a801) (t2836) (k2837) (ws2838) ((0 + ys.length)) (a852) (b853) (kk854) ([(36 : Int32), (36 : Int32), (82 : Int32), (111 : Int32), (111 : Int32), (109 : Int32), (83 : Int32), (116 : Int32), (97 : Int32), (116 : Int32), (105 : Int32), (99 : Int32), (115 : Int32)]) h851 E861 F862 F863 F864 V865 E866 X856 F857 F858 V859 (by first | omega | (simp; omega) | (simp; done) | decide) (by first | omega | (simp; omega) | (simp; done) | decide) (by first | omega | (simp; omega) | (simp; done) | decide) (Ne.symm (ne860 _ (List.mem_of_getElem? (i := 0) rfl)).2)) pd_25 rfl (rest := []) rfl rfl (allS (List.mem_of_getElem? (i := 2) rfl) (allS (List.mem_of_getElem? (i := 0) rfl) all0)) (Nat.le_of_ble_eq_true rfl) (W := 0) (Nat.le_of_ble_eq_true rfl) (Nat.le_of_ble_eq_true rfl) (Nat.le_of_ble_eq_true rfl) (Nat.le_of_ble_eq_true rfl) (fun v867 M868 h869 le870 hq871 => ?_)
  obtain ⟨t2872, k2873, ws2874, rfl, rfl, K875, f876, f877, f878, f879, f880, f881, hor882, hfit883, htk884, hgr885⟩ := hq871
  show G [t2872, t2836, t814, a801] h869 (6) (276) 16 #[.val (.ref sa)] [(.ref a801)]
  have hL886 : ws2874.length < 2 ^ 30 := by rcases hgr885 with q9 | q9 <;> first | omega | (simp at q9; omega)
  refine callVirtual hG d_prog_2_method_2_code_16 f876 (w101 hw) (w102 hw) (fun _ hz => notFace_of_selects (args := #[]) (mvT hz (w104 hw))) (w104 hw) (w103 hw) (w36 hw) (w105 hw) (by decide) (m_sbTS hC (a801) (t2872) (k2873) (ws2874) (((0 + ys.length) + [(36 : Int32), (36 : Int32), (82 : Int32), (111 : Int32), (111 : Int32), (109 : Int32), (83 : Int32), (116 : Int32), (97 : Int32), (116 : Int32), (105 : Int32), (99 : Int32), (115 : Int32)].length)) h869 f876 f877 f878 f879 f880 f881 (by first | omega | (simp; omega) | (simp; done) | decide) (by first | omega | (simp; omega) | (simp; done) | decide) (by first | omega | (simp; omega) | (simp; done) | decide)) pd_26 rfl (rest := []) rfl rfl all0 (Nat.le_of_ble_eq_true rfl) (W := 0) (Nat.le_of_ble_eq_true rfl) (Nat.le_of_ble_eq_true rfl) (Nat.le_of_ble_eq_true rfl) (Nat.le_of_ble_eq_true rfl) (fun v887 M888 h889 le890 hq891 => ?_)
  obtain ⟨s2892, t2893, k2894, rfl, rfl, K895, g896, g897, f898, f899, f900, f901, f902⟩ := hq891
  show G [s2892, t2893, t2872, t2836, t814, a801] h889 (8) (380) 19 #[.val (.ref sa)] [(.ref s2892)]
  have e904 : (ws2874.take ((0 + ys.length) + [(36 : Int32), (36 : Int32), (82 : Int32), (111 : Int32), (111 : Int32), (109 : Int32), (83 : Int32), (116 : Int32), (97 : Int32), (116 : Int32), (105 : Int32), (99 : Int32), (115 : Int32)].length)) = ys ++ [(36 : Int32), (36 : Int32), (82 : Int32), (111 : Int32), (111 : Int32), (109 : Int32), (83 : Int32), (116 : Int32), (97 : Int32), (116 : Int32), (105 : Int32), (99 : Int32), (115 : Int32)] := by rw [htk884, htk848]; rfl
  have V903 : Arv Z h889 t2893 k2894 .byte (Int32.ofNat (ys ++ [(36 : Int32), (36 : Int32), (82 : Int32), (111 : Int32), (111 : Int32), (109 : Int32), (83 : Int32), (116 : Int32), (97 : Int32), (116 : Int32), (105 : Int32), (99 : Int32), (115 : Int32)]).length) (ints (ys ++ [(36 : Int32), (36 : Int32), (82 : Int32), (111 : Int32), (111 : Int32), (109 : Int32), (83 : Int32), (116 : Int32), (97 : Int32), (116 : Int32), (105 : Int32), (99 : Int32), (115 : Int32)])) (.int 0) := by have q9 := f901; rw [e904] at q9; have e9 : (ys ++ [(36 : Int32), (36 : Int32), (82 : Int32), (111 : Int32), (111 : Int32), (109 : Int32), (83 : Int32), (116 : Int32), (97 : Int32), (116 : Int32), (105 : Int32), (99 : Int32), (115 : Int32)]).length = 0 + ys.length + 13 := (by simp); rw [e9]; exact q9
  have K905 : Keep h h889 [] := (((((((Keep.refl _ _).ext E803).trans K816 (allS (Or.inr g802) all0)).trans K839 (allS (Or.inr g802) (allS (Or.inr (Nat.le_trans E803.1 g817)) all0))).ext E855).trans K875 (allS (Or.inr g802) (allS (Or.inr (Nat.le_trans E803.1 (ge_alias hor846 g817 le812))) all0))).trans K895 all0)
  exact areturn hG rfl rfl rfl d_prog_2_method_2_code_19 (M' := []) ⟨s2892, t2893, k2894, rfl, rfl, K905, (Nat.le_trans (Nat.le_trans (Nat.le_trans (Nat.le_trans (Nat.le_trans E803.1 le812) le834) E855.1) le870) g896), f898, f899, f900, V903, f902⟩ all0 (Nat.le_of_ble_eq_true rfl) (Nat.le_of_ble_eq_true rfl)
def Q_cft (Z : State) (g0 : Int32) (gf : Value) (j : Nat) (n : Nat) (gf : Value) (h : Heap) : QT := fun v' M9 h9 => v' = some (.int (0 : Int32)) ∧ M9 = [] ∧ h = h9
theorem ef_cft (m9 : MethodId) (j : Nat) (n : Nat) (gf : Value) (hgf : gf.isRef = true) : entryFrame m9 [(.int (0 : Int32)), (.int (Int32.ofNat j)), (.int (Int32.ofNat n)), gf].toArray 4 = mkF m9 0 #[.val (.int (0 : Int32)), .val (.int (Int32.ofNat j)), .val (.int (Int32.ofNat n)), .val gf] [] := by rcases ref_cases hgf with rfl | ⟨_, rfl⟩ <;> first | rfl | (simp [entryFrame, mkF, argsToLocals, Value.category]; done)
set_option maxRecDepth 65536 in
set_option maxHeartbeats 4000000 in
theorem m_cft {l : Launch} {Z : State} {a0 : Array Value} {n0 : Nat} {g0 : Int32} {gf : Value} (hC : Ctx l Z a0 n0 g0 gf) (j : Nat) (n : Nat) (gf : Value) (h : Heap) (hjn : j ≤ n) (hw31 : n < 2 ^ 31) (hgf : gf.isRef = true) :
    Met l Z EL0 n0 (⟨"jdk/internal/util/Preconditions", "checkFromToIndex", "(IIILjava/util/function/BiFunction;)I"⟩ : MethodName) jdk_41_method_12_code 4 (some .int) [] ({ frames := 0, cells := 0, slots := 0, locals := 0 } : Room) [(.int (0 : Int32)), (.int (Int32.ofNat j)), (.int (Int32.ofNat n)), gf] [] h (Q_cft Z g0 gf j n gf h) := by
  obtain ⟨hw, hS, hE, hK, hX⟩ := id hC
  refine Met.intro pl_36 (fun m9 => ef_cft m9 j n gf hgf) hE ?_
  intro G hG
  refine iloadN hG d_jdk_41_method_12_code_0 rfl ?_
  refine ifNo hG d_jdk_41_method_12_code_1 (by decide) ?_
  refine iloadN hG d_jdk_41_method_12_code_4 rfl ?_
  refine iloadN hG d_jdk_41_method_12_code_5 rfl ?_
  refine icmpNo hG d_jdk_41_method_12_code_6 (flt (ofN_nn (by omega))).2.2.1 ?_
  refine iloadN hG d_jdk_41_method_12_code_9 rfl ?_
  refine iloadN hG d_jdk_41_method_12_code_10 rfl ?_
  refine icmpYes hG d_jdk_41_method_12_code_11 (flt (ofN_nlt hjn (by omega))).2.2.2 (by decide) (pc' := 22) rfl ?_
  refine iloadN hG d_jdk_41_method_12_code_22 rfl ?_
  exact ireturn hG d_jdk_41_method_12_code_23 (M' := []) ⟨rfl, rfl, rfl⟩ all0 (Nat.le_of_ble_eq_true rfl) (Nat.le_of_ble_eq_true rfl)
def Q_cbb (Z : State) (g0 : Int32) (gf : Value) (j : Nat) (n : Nat) (h : Heap) : QT := fun v' M9 h9 => v' = none ∧ M9 = [] ∧ h = h9
theorem ef_cbb (m9 : MethodId) (j : Nat) (n : Nat) : entryFrame m9 [(.int (0 : Int32)), (.int (Int32.ofNat j)), (.int (Int32.ofNat n))].toArray 3 = mkF m9 0 #[.val (.int (0 : Int32)), .val (.int (Int32.ofNat j)), .val (.int (Int32.ofNat n))] [] := by first | rfl | (simp [entryFrame, mkF, argsToLocals, Value.category]; done)
set_option maxRecDepth 65536 in
set_option maxHeartbeats 4000000 in
theorem m_cbb {l : Launch} {Z : State} {a0 : Array Value} {n0 : Nat} {g0 : Int32} {gf : Value} (hC : Ctx l Z a0 n0 g0 gf) (j : Nat) (n : Nat) (h : Heap) (hjn : j ≤ n) (hw31 : n < 2 ^ 31) :
    Met l Z EL0 n0 (⟨"java/lang/String", "checkBoundsBeginEnd", "(III)V"⟩ : MethodName) jdk_42_method_158_code 3 none [] ({ frames := 1, cells := 0, slots := 0, locals := 15 } : Room) [(.int (0 : Int32)), (.int (Int32.ofNat j)), (.int (Int32.ofNat n))] [] h (Q_cbb Z g0 gf j n h) := by
  obtain ⟨hw, hS, hE, hK, hX⟩ := id hC
  refine Met.intro pl_37 (fun m9 => ef_cbb m9 j n) hE ?_
  intro G hG
  refine iloadN hG d_jdk_42_method_158_code_0 rfl ?_
  refine iloadN hG d_jdk_42_method_158_code_1 rfl ?_
  refine iloadN hG d_jdk_42_method_158_code_2 rfl ?_
  refine getstatic hG d_jdk_42_method_158_code_3 (w159 hw) Via.refl hX.1 ?_
  refine callStatic hG d_jdk_42_method_158_code_6 (w161 hw) (w162 hw) (w160 hw) (w163 hw) (by decide) (m_cft hC (j) (n) (gf) h hjn hw31 hX.2) pd_27 rfl (rest := []) rfl rfl all0 (Nat.le_of_ble_eq_true rfl) (W := 0) (Nat.le_of_ble_eq_true rfl) (Nat.le_of_ble_eq_true rfl) (Nat.le_of_ble_eq_true rfl) (Nat.le_of_ble_eq_true rfl) (fun v906 M907 h908 le909 hq910 => ?_)
  obtain ⟨rfl, rfl, rfl⟩ := hq910
  show G [] h (0) (0) 9 #[.val (.int (0 : Int32)), .val (.int (Int32.ofNat j)), .val (.int (Int32.ofNat n))] [(.int (0 : Int32))]
  refine OwnWp.pop hG d_jdk_42_method_158_code_9 rfl ?_
  exact return0 hG d_jdk_42_method_158_code_10 (M' := []) ⟨rfl, rfl, rfl⟩ all0 (Nat.le_of_ble_eq_true rfl) (Nat.le_of_ble_eq_true rfl)
def Q_iBB (Z : State) (g0 : Int32) (gf : Value) (a : Addr) (t : Addr) (h : Heap) : QT := fun v' M9 h9 => v' = none ∧ M9 = [] ∧ Keep h h9 [a] ∧ Exa Z h9 a "java/lang/String" ∧ Fld Z h9 a "java/lang/String" "coder" "B" (.int (0 : Int32)) ∧ Fld Z h9 a "java/lang/String" "value" "[B" (.ref t)
theorem ef_iBB (m9 : MethodId) (a : Addr) (t : Addr) : entryFrame m9 [(.ref a), (.ref t), (.int (0 : Int32))].toArray 3 = mkF m9 0 #[.val (.ref a), .val (.ref t), .val (.int (0 : Int32))] [] := by first | rfl | (simp [entryFrame, mkF, argsToLocals, Value.category]; done)
set_option maxRecDepth 65536 in
set_option maxHeartbeats 4000000 in
theorem m_iBB {l : Launch} {Z : State} {a0 : Array Value} {n0 : Nat} {g0 : Int32} {gf : Value} (hC : Ctx l Z a0 n0 g0 gf) (a : Addr) (t : Addr) (h : Heap) (p0_exa : Exa Z h a "java/lang/String") (p1_fld : Fld Z h a "java/lang/String" "value" "[B" .null) (p2_fld : Fld Z h a "java/lang/String" "coder" "B" (.int (0 : Int32))) :
    Met l Z EL0 n0 (⟨"java/lang/String", "<init>", "([BB)V"⟩ : MethodName) jdk_42_method_151_code 3 none [] ({ frames := 1, cells := 0, slots := 0, locals := 12 } : Room) [(.ref a), (.ref t), (.int (0 : Int32))] [a] h (Q_iBB Z g0 gf a t h) := by
  obtain ⟨hw, hS, hE, hK, hX⟩ := id hC
  refine Met.intro pl_38 (fun m9 => ef_iBB m9 a t) hE ?_
  intro G hG
  refine aloadN hG d_jdk_42_method_151_code_0 rfl rfl ?_
  refine objInit hG d_jdk_42_method_151_code_1 (w19 hw) (w20 hw) (w21 hw) rfl (Nat.le_of_ble_eq_true rfl) (W := 0) (Nat.le_of_ble_eq_true rfl) (Nat.le_of_ble_eq_true rfl) ?_
  refine aloadN hG d_jdk_42_method_151_code_4 rfl rfl ?_
  refine aloadN hG d_jdk_42_method_151_code_5 rfl rfl ?_
  refine putfield hG d_jdk_42_method_151_code_6 (w28 hw) Via.refl p1_fld p0_exa (Or.inr ⟨(w24 hw), rfl, rfl⟩) (w9 hw) pf__B rfl rfl (List.mem_of_getElem? (i := 0) rfl) (fun h911 W912 => ?_)
  have F913 : Fld Z h911 a "java/lang/String" "value" "[B" (.ref t) := p1_fld.same W912
  refine aloadN hG d_jdk_42_method_151_code_9 rfl rfl ?_
  refine iloadN hG d_jdk_42_method_151_code_10 rfl ?_
  have E914 : Exa Z h911 a "java/lang/String" := (p0_exa.wr W912)
  have F915 : Fld Z h911 a "java/lang/String" "coder" "B" (.int (0 : Int32)) := (p2_fld.other W912 (Or.inr (RoadKit.slot_ne (Or.inr (w25 hw)) (Or.inr (w24 hw)) (by decide) pf_B pf__B)))
  refine putfield hG d_jdk_42_method_151_code_11 (w29 hw) Via.refl F915 E914 (Or.inr ⟨(w25 hw), rfl, rfl⟩) (w9 hw) pf_B rfl rfl (List.mem_of_getElem? (i := 0) rfl) (fun h916 W917 => ?_)
  have F918 : Fld Z h916 a "java/lang/String" "coder" "B" (.int (0 : Int32)) := F915.same W917
  have E919 : Exa Z h916 a "java/lang/String" := (E914.wr W917)
  have F920 : Fld Z h916 a "java/lang/String" "value" "[B" (.ref t) := (F913.other W917 (Or.inr (RoadKit.slot_ne (Or.inr (w24 hw)) (Or.inr (w25 hw)) (by decide) pf__B pf_B)))
  have K921 : Keep h h916 [a] := (((Keep.refl _ _).wr W912 (Or.inl (List.mem_of_getElem? (i := 0) rfl))).wr W917 (Or.inl (List.mem_of_getElem? (i := 0) rfl)))
  exact return0 hG d_jdk_42_method_151_code_14 (M' := []) ⟨rfl, rfl, K921, E919, F918, F920⟩ all0 (Nat.le_of_ble_eq_true rfl) (Nat.le_of_ble_eq_true rfl)
def Q_nstr (Z : State) (g0 : Int32) (gf : Value) (tb : Addr) (kb : ClassId) (ys : List Int32) (j : Nat) (z : Addr) (h : Heap) : QT := fun v' M9 h9 => ∃ (s2 : Addr), ∃ (t2 : Addr), ∃ (k2 : ClassId), v' = some (.ref s2) ∧ M9 = [] ∧ Keep h h9 [] ∧ Exa Z h9 s2 "java/lang/String" ∧ Fld Z h9 s2 "java/lang/String" "coder" "B" (.int (0 : Int32)) ∧ Fld Z h9 s2 "java/lang/String" "value" "[B" (.ref t2) ∧ Arv Z h9 t2 k2 .byte (Int32.ofNat j) (ints (ys.take j)) (.int 0) ∧ (s2 ≠ z)
theorem ef_nstr (m9 : MethodId) (tb : Addr) (kb : ClassId) (ys : List Int32) (j : Nat) (z : Addr) : entryFrame m9 [(.ref tb), (.int (0 : Int32)), (.int (Int32.ofNat j))].toArray 3 = mkF m9 0 #[.val (.ref tb), .val (.int (0 : Int32)), .val (.int (Int32.ofNat j))] [] := by first | rfl | (simp [entryFrame, mkF, argsToLocals, Value.category]; done)
set_option maxRecDepth 65536 in
set_option maxHeartbeats 4000000 in
theorem m_nstr {l : Launch} {Z : State} {a0 : Array Value} {n0 : Nat} {g0 : Int32} {gf : Value} (hC : Ctx l Z a0 n0 g0 gf) (tb : Addr) (kb : ClassId) (ys : List Int32) (j : Nat) (z : Addr) (h : Heap) (p0_arv : Arv Z h tb kb .byte (Int32.ofNat ys.length) (ints ys) (.int 0)) (p1_exa : Exa Z h tb "[B") (hn : j < ys.length) (hcp : ys.length ≤ 100) :
    Met l Z EL0 n0 (⟨"java/lang/StringLatin1", "newString", "([BII)Ljava/lang/String;"⟩ : MethodName) jdk_43_method_47_code 3 (some (.object "java/lang/String")) [] ({ frames := 3, cells := 2, slots := 104, locals := 50 } : Room) [(.ref tb), (.int (0 : Int32)), (.int (Int32.ofNat j))] [z] h (Q_nstr Z g0 gf tb kb ys j z h) := by
  obtain ⟨hw, hS, hE, hK, hX⟩ := id hC
  refine Met.intro pl_39 (fun m9 => ef_nstr m9 tb kb ys j z) hE ?_
  intro G hG
  refine facts hG (fun _ hM922 => ?_)
  refine iloadN hG d_jdk_43_method_47_code_0 rfl ?_
  refine if_ne hG d_jdk_43_method_47_code_1 (by decide) (pc' := 7) rfl (fun q923 => ?_) (fun q923 => ?_)
  · skip
    refine new hG d_jdk_43_method_47_code_7 (w193 hw) (w9 hw) (w10 hw) (Nat.le_of_ble_eq_true rfl) (Nat.le_of_ble_eq_true rfl) (fun h924 a925 g926 E927 X928 D929 => ?_)
    show G [a925, z] h924 (1) (4) 10 #[.val (.ref tb), .val (.int (0 : Int32)), .val (.int (Int32.ofNat j))] [(.ref a925)]
    refine dup hG d_jdk_43_method_47_code_10 rfl ?_
    refine aloadN hG d_jdk_43_method_47_code_11 rfl rfl ?_
    refine iloadN hG d_jdk_43_method_47_code_12 rfl ?_
    refine iloadN hG d_jdk_43_method_47_code_13 rfl ?_
    refine iloadN hG d_jdk_43_method_47_code_14 rfl ?_
    refine iadd hG d_jdk_43_method_47_code_15 ?_
    have e930 : ((0 : Int32) + (Int32.ofNat j)) = (Int32.ofNat j) := add0 _
    rw [e930]
    show G [a925, z] h924 (1) (4) 16 #[.val (.ref tb), .val (.int (0 : Int32)), .val (.int (Int32.ofNat j))] [(.int (Int32.ofNat j)), (.int (0 : Int32)), (.ref tb), (.ref a925), (.ref a925)]
    have V931 : Arv Z h924 tb kb .byte (Int32.ofNat ys.length) (ints ys) (.int 0) := (p0_arv.ext E927)
    have E932 : Exa Z h924 tb "[B" := (p1_exa.ext E927)
    refine callStatic hG d_jdk_43_method_47_code_16 (w194 hw) (w132 hw) (w133 hw) (w134 hw) (by decide) (m_cor hC (tb) (kb) (ys) (j) h924 V931 E932 (by first | omega | (simp; omega) | (simp; done) | decide) (by first | omega | (simp; omega) | (simp; done) | decide) (by first | omega | (simp; omega) | (simp; done) | decide)) pd_17 rfl (rest := [(.ref a925), (.ref a925)]) rfl rfl all0 (Nat.le_of_ble_eq_true rfl) (W := 2) (Nat.le_of_ble_eq_true rfl) (Nat.le_of_ble_eq_true rfl) (Nat.le_of_ble_eq_true rfl) (Nat.le_of_ble_eq_true rfl) (fun v933 M934 h935 le936 hq937 => ?_)
    obtain ⟨t2938, k2939, rfl, rfl, K940, g941, f942, f943⟩ := hq937
    show G [t2938, a925, z] h935 (2) (104) 19 #[.val (.ref tb), .val (.int (0 : Int32)), .val (.int (Int32.ofNat j))] [(.ref t2938), (.ref a925), (.ref a925)]
    refine iconst hG d_jdk_43_method_47_code_19 (0) rfl ?_
    have E944 : Exa Z h935 a925 "java/lang/String" := (X928.keep K940)
    have F945 : Fld Z h924 a925 "java/lang/String" "value" "[B" .null := D929 (Or.inr (w24 hw)) pf__B
    have F946 : Fld Z h935 a925 "java/lang/String" "value" "[B" .null := (F945.keep K940 nin0)
    have F947 : Fld Z h924 a925 "java/lang/String" "coder" "B" (.int (0 : Int32)) := D929 (Or.inr (w25 hw)) pf_B
    have F948 : Fld Z h935 a925 "java/lang/String" "coder" "B" (.int (0 : Int32)) := (F947.keep K940 nin0)
    refine callInit hG d_jdk_43_method_47_code_20 rfl (w195 hw) (w196 hw) (w10 hw) (w197 hw) (by decide) (m_iBB hC (a925) (t2938) h935 E944 F946 F948) pd_28 rfl (rest := [(.ref a925)]) rfl rfl (allS (List.mem_of_getElem? (i := 1) rfl) all0) (Nat.le_of_ble_eq_true rfl) (W := 1) (Nat.le_of_ble_eq_true rfl) (Nat.le_of_ble_eq_true rfl) (Nat.le_of_ble_eq_true rfl) (Nat.le_of_ble_eq_true rfl) (fun v949 M950 h951 le952 hq953 => ?_)
    obtain ⟨rfl, rfl, K954, f955, f956, f957⟩ := hq953
    show G [t2938, a925, z] h951 (2) (104) 23 #[.val (.ref tb), .val (.int (0 : Int32)), .val (.int (Int32.ofNat j))] [(.ref a925)]
    have ne958 : a925 ≠ z := (Nat.ne_of_gt (Nat.lt_of_lt_of_le (hM922 _ (List.mem_of_getElem? (i := 0) rfl)).2 g926))
    have ne959 : t2938 ≠ a925 := (Nat.ne_of_gt (Nat.lt_of_lt_of_le X928.lt g941))
    have V960 : Arv Z h951 t2938 k2939 .byte (Int32.ofNat j) (ints (ys.take j)) (.int 0) := (f942.keep K954 (ninS ne959 nin0))
    have K961 : Keep h h951 [] := ((((Keep.refl _ _).ext E927).trans K940 all0).trans K954 (allS (Or.inr g926) all0))
    exact areturn hG rfl rfl rfl d_jdk_43_method_47_code_23 (M' := []) ⟨a925, t2938, k2939, rfl, rfl, K961, f955, f956, f957, V960, ne958⟩ all0 (Nat.le_of_ble_eq_true rfl) (Nat.le_of_ble_eq_true rfl)
  · skip
    refine ldc hG d_jdk_43_method_47_code_4 (w173 hw) hS (by decide) (vs := []) (N := 0) ⟨by decide +kernel, by decide +kernel⟩ (by decide) (by decide) (nn := 0) (by decide) (by decide) (Nat.le_of_ble_eq_true rfl) (Nat.le_of_ble_eq_true rfl) (fun h962 a963 b964 kk965 E966 X967 F968 F969 V970 ne971 => ?_)
    show G [z] h962 (2) (4) 6 #[.val (.ref tb), .val (.int (0 : Int32)), .val (.int (Int32.ofNat j))] [(.ref a963)]
    have e972 : j = 0 := ofN_inj (n := 0) (by omega) (by omega) q923
    have V973 : Arv Z h962 b964 kk965 .byte (Int32.ofNat j) (ints (ys.take j)) (.int 0) := by rw [e972]; exact V970
    have K974 : Keep h h962 [] := ((Keep.refl _ _).ext E966)
    exact areturn hG rfl rfl rfl d_jdk_43_method_47_code_6 (M' := []) ⟨a963, b964, kk965, rfl, rfl, K974, X967, F968, F969, V973, (Ne.symm (ne971 _ (List.mem_of_getElem? (i := 0) rfl)).1)⟩ all0 (Nat.le_of_ble_eq_true rfl) (Nat.le_of_ble_eq_true rfl)
def Q_subs (Z : State) (g0 : Int32) (gf : Value) (sa : Addr) (tb : Addr) (kb : ClassId) (ys : List Int32) (j : Nat) (z : Addr) (h : Heap) : QT := fun v' M9 h9 => ∃ (s2 : Addr), ∃ (t2 : Addr), ∃ (k2 : ClassId), v' = some (.ref s2) ∧ M9 = [] ∧ Keep h h9 [] ∧ Exa Z h9 s2 "java/lang/String" ∧ Fld Z h9 s2 "java/lang/String" "coder" "B" (.int (0 : Int32)) ∧ Fld Z h9 s2 "java/lang/String" "value" "[B" (.ref t2) ∧ Arv Z h9 t2 k2 .byte (Int32.ofNat j) (ints (ys.take j)) (.int 0) ∧ (s2 ≠ z)
theorem ef_subs (m9 : MethodId) (sa : Addr) (tb : Addr) (kb : ClassId) (ys : List Int32) (j : Nat) (z : Addr) : entryFrame m9 [(.ref sa), (.int (0 : Int32)), (.int (Int32.ofNat j))].toArray 5 = mkF m9 0 #[.val (.ref sa), .val (.int (0 : Int32)), .val (.int (Int32.ofNat j)), .unset, .unset] [] := by first | rfl | (simp [entryFrame, mkF, argsToLocals, Value.category]; done)
set_option maxRecDepth 65536 in
set_option maxHeartbeats 4000000 in
theorem m_subs {l : Launch} {Z : State} {a0 : Array Value} {n0 : Nat} {g0 : Int32} {gf : Value} (hC : Ctx l Z a0 n0 g0 gf) (sa : Addr) (tb : Addr) (kb : ClassId) (ys : List Int32) (j : Nat) (z : Addr) (h : Heap) (p0_exa : Exa Z h sa "java/lang/String") (p1_fld : Fld Z h sa "java/lang/String" "coder" "B" (.int (0 : Int32))) (p2_fld : Fld Z h sa "java/lang/String" "value" "[B" (.ref tb)) (p3_arv : Arv Z h tb kb .byte (Int32.ofNat ys.length) (ints ys) (.int 0)) (p4_exa : Exa Z h tb "[B") (hn : j < ys.length) (hcp : ys.length ≤ 100) :
    Met l Z EL0 n0 (⟨"java/lang/String", "substring", "(II)Ljava/lang/String;"⟩ : MethodName) jdk_42_method_92_code 5 (some (.object "java/lang/String")) [] ({ frames := 4, cells := 2, slots := 104, locals := 64 } : Room) [(.ref sa), (.int (0 : Int32)), (.int (Int32.ofNat j))] [z] h (Q_subs Z g0 gf sa tb kb ys j z h) := by
  obtain ⟨hw, hS, hE, hK, hX⟩ := id hC
  refine Met.intro pl_40 (fun m9 => ef_subs m9 sa tb kb ys j z) hE ?_
  intro G hG
  refine facts hG (fun _ hM975 => ?_)
  refine aloadN hG d_jdk_42_method_92_code_0 rfl rfl ?_
  refine callVirtual hG d_jdk_42_method_92_code_1 p0_exa (w155 hw) (w63 hw) (fun _ hz => notFace_of_selects (args := #[]) (mvT hz (w65 hw))) (w65 hw) (w64 hw) (w10 hw) (w66 hw) (by decide) (m_len hC (sa) (tb) (kb) ((Int32.ofNat ys.length)) (ys) h p0_exa p1_fld p2_fld p3_arv) pd_13 rfl (rest := []) rfl rfl all0 (Nat.le_of_ble_eq_true rfl) (W := 0) (Nat.le_of_ble_eq_true rfl) (Nat.le_of_ble_eq_true rfl) (Nat.le_of_ble_eq_true rfl) (Nat.le_of_ble_eq_true rfl) (fun v976 M977 h978 le979 hq980 => ?_)
  obtain ⟨rfl, rfl, rfl⟩ := hq980
  show G [z] h (0) (0) 4 #[.val (.ref sa), .val (.int (0 : Int32)), .val (.int (Int32.ofNat j)), .unset, .unset] [(.int (Int32.ofNat ys.length))]
  refine istoreN hG d_jdk_42_method_92_code_4 rfl ?_
  refine iloadN hG d_jdk_42_method_92_code_5 rfl ?_
  refine iloadN hG d_jdk_42_method_92_code_6 rfl ?_
  refine iloadN hG d_jdk_42_method_92_code_7 rfl ?_
  refine callStatic hG d_jdk_42_method_92_code_8 (w156 hw) (w157 hw) (w10 hw) (w158 hw) (by decide) (m_cbb hC (j) (ys.length) h (by first | omega | (simp; omega) | (simp; done) | decide) (by first | omega | (simp; omega) | (simp; done) | decide)) pd_29 rfl (rest := []) rfl rfl all0 (Nat.le_of_ble_eq_true rfl) (W := 0) (Nat.le_of_ble_eq_true rfl) (Nat.le_of_ble_eq_true rfl) (Nat.le_of_ble_eq_true rfl) (Nat.le_of_ble_eq_true rfl) (fun v981 M982 h983 le984 hq985 => ?_)
  obtain ⟨rfl, rfl, rfl⟩ := hq985
  show G [z] h (0) (0) 11 #[.val (.ref sa), .val (.int (0 : Int32)), .val (.int (Int32.ofNat j)), .val (.int (Int32.ofNat ys.length)), .unset] []
  refine iloadN hG d_jdk_42_method_92_code_11 rfl ?_
  refine ifNo hG d_jdk_42_method_92_code_12 (by decide) ?_
  refine iloadN hG d_jdk_42_method_92_code_15 rfl ?_
  refine iloadN hG d_jdk_42_method_92_code_16 rfl ?_
  refine icmpYes hG d_jdk_42_method_92_code_17 (feq (ofN_ne (by omega) (by omega) (by omega))).2 (by decide) (pc' := 22) rfl ?_
  refine iloadN hG d_jdk_42_method_92_code_22 rfl ?_
  refine iloadN hG d_jdk_42_method_92_code_23 rfl ?_
  refine isub hG d_jdk_42_method_92_code_24 ?_
  have e986 : ((Int32.ofNat j) - (0 : Int32)) = (Int32.ofNat j) := sub0 _
  rw [e986]
  show G [z] h (0) (0) 25 #[.val (.ref sa), .val (.int (0 : Int32)), .val (.int (Int32.ofNat j)), .val (.int (Int32.ofNat ys.length)), .unset] [(.int (Int32.ofNat j))]
  refine istore hG d_jdk_42_method_92_code_25 rfl ?_
  refine aloadN hG d_jdk_42_method_92_code_27 rfl rfl ?_
  refine callVirtual hG d_jdk_42_method_92_code_28 p0_exa (w164 hw) (w165 hw) (fun _ hz => notFace_of_selects (args := #[]) (mvT hz (w167 hw))) (w167 hw) (w166 hw) (w10 hw) (w168 hw) (by decide) (m_isl hC (sa) h p1_fld) pd_19 rfl (rest := []) rfl rfl all0 (Nat.le_of_ble_eq_true rfl) (W := 0) (Nat.le_of_ble_eq_true rfl) (Nat.le_of_ble_eq_true rfl) (Nat.le_of_ble_eq_true rfl) (Nat.le_of_ble_eq_true rfl) (fun v987 M988 h989 le990 hq991 => ?_)
  obtain ⟨rfl, rfl, rfl⟩ := hq991
  show G [z] h (0) (0) 31 #[.val (.ref sa), .val (.int (0 : Int32)), .val (.int (Int32.ofNat j)), .val (.int (Int32.ofNat ys.length)), .val (.int (Int32.ofNat j))] [(.int (1 : Int32))]
  refine ifNo hG d_jdk_42_method_92_code_31 (by decide) ?_
  refine aloadN hG d_jdk_42_method_92_code_34 rfl rfl ?_
  refine getfield hG d_jdk_42_method_92_code_35 (w28 hw) Via.refl p2_fld ?_
  refine iloadN hG d_jdk_42_method_92_code_38 rfl ?_
  refine iload hG d_jdk_42_method_92_code_39 rfl ?_
  refine callStatic hG d_jdk_42_method_92_code_41 (w169 hw) (w170 hw) (w171 hw) (w172 hw) (by decide) (m_nstr hC (tb) (kb) (ys) (j) (z) h p3_arv p4_exa hn hcp) pd_30 rfl (rest := []) rfl rfl (allS (List.mem_of_getElem? (i := 0) rfl) all0) (Nat.le_of_ble_eq_true rfl) (W := 0) (Nat.le_of_ble_eq_true rfl) (Nat.le_of_ble_eq_true rfl) (Nat.le_of_ble_eq_true rfl) (Nat.le_of_ble_eq_true rfl) (fun v992 M993 h994 le995 hq996 => ?_)
  obtain ⟨s2997, t2998, k2999, rfl, rfl, K1000, f1001, f1002, f1003, f1004, hz1005⟩ := hq996
  show G [z] h994 (2) (104) 44 #[.val (.ref sa), .val (.int (0 : Int32)), .val (.int (Int32.ofNat j)), .val (.int (Int32.ofNat ys.length)), .val (.int (Int32.ofNat j))] [(.ref s2997)]
  refine goto hG d_jdk_42_method_92_code_44 (by decide) (pc' := 57) rfl ?_
  have K1006 : Keep h h994 [] := ((Keep.refl _ _).trans K1000 all0)
  exact areturn hG rfl rfl rfl d_jdk_42_method_92_code_57 (M' := []) ⟨s2997, t2998, k2999, rfl, rfl, K1006, f1001, f1002, f1003, f1004, hz1005⟩ all0 (Nat.le_of_ble_eq_true rfl) (Nat.le_of_ble_eq_true rfl)
def Q_own (Z : State) (g0 : Int32) (gf : Value) (sa : Addr) (tb : Addr) (kb : ClassId) (ys : List Int32) (z : Addr) (h : Heap) : QT := fun v' M9 h9 => ∃ (s2 : Addr), ∃ (t2 : Addr), ∃ (k2 : ClassId), v' = some (.ref s2) ∧ M9 = [] ∧ Keep h h9 [] ∧ Exa Z h9 s2 "java/lang/String" ∧ Fld Z h9 s2 "java/lang/String" "coder" "B" (.int (0 : Int32)) ∧ Fld Z h9 s2 "java/lang/String" "value" "[B" (.ref t2) ∧ Arv Z h9 t2 k2 .byte (Int32.ofNat (ys.length - 13)) (ints (ys.take (ys.length - 13))) (.int 0) ∧ (s2 ≠ z)
theorem ef_own (m9 : MethodId) (sa : Addr) (tb : Addr) (kb : ClassId) (ys : List Int32) (z : Addr) : entryFrame m9 [(.ref sa)].toArray 1 = mkF m9 0 #[.val (.ref sa)] [] := by first | rfl | (simp [entryFrame, mkF, argsToLocals, Value.category]; done)
set_option maxRecDepth 65536 in
set_option maxHeartbeats 4000000 in
theorem m_own {l : Launch} {Z : State} {a0 : Array Value} {n0 : Nat} {g0 : Int32} {gf : Value} (hC : Ctx l Z a0 n0 g0 gf) (sa : Addr) (tb : Addr) (kb : ClassId) (ys : List Int32) (z : Addr) (h : Heap) (p0_exa : Exa Z h sa "java/lang/String") (p1_fld : Fld Z h sa "java/lang/String" "coder" "B" (.int (0 : Int32))) (p2_fld : Fld Z h sa "java/lang/String" "value" "[B" (.ref tb)) (p3_arv : Arv Z h tb kb .byte (Int32.ofNat ys.length) (ints ys) (.int 0)) (p4_exa : Exa Z h tb "[B") (hn : 13 ≤ ys.length) (hcp : ys.length ≤ 100) :
    Met l Z EL0 n0 (⟨"com/example/room_divider/roomdivider/isolation/GeneratedNames", "owner", "(Ljava/lang/String;)Ljava/lang/String;"⟩ : MethodName) prog_2_method_4_code 1 (some (.object "java/lang/String")) [] ({ frames := 5, cells := 4, slots := 160, locals := 80 } : Room) [(.ref sa)] [z] h (Q_own Z g0 gf sa tb kb ys z h) := by
  obtain ⟨hw, hS, hE, hK, hX⟩ := id hC
  refine Met.intro pl_41 (fun m9 => ef_own m9 sa tb kb ys z) hE ?_
  intro G hG
  refine facts hG (fun _ hM1007 => ?_)
  refine aloadN hG d_prog_2_method_4_code_0 rfl rfl ?_
  refine iconst hG d_prog_2_method_4_code_1 (0) rfl ?_
  refine aloadN hG d_prog_2_method_4_code_2 rfl rfl ?_
  refine callVirtual hG d_prog_2_method_4_code_3 p0_exa (w149 hw) (w63 hw) (fun _ hz => notFace_of_selects (args := #[]) (mvT hz (w65 hw))) (w65 hw) (w64 hw) (w10 hw) (w66 hw) (by decide) (m_len hC (sa) (tb) (kb) ((Int32.ofNat ys.length)) (ys) h p0_exa p1_fld p2_fld p3_arv) pd_13 rfl (rest := [(.int (0 : Int32)), (.ref sa)]) rfl rfl all0 (Nat.le_of_ble_eq_true rfl) (W := 2) (Nat.le_of_ble_eq_true rfl) (Nat.le_of_ble_eq_true rfl) (Nat.le_of_ble_eq_true rfl) (Nat.le_of_ble_eq_true rfl) (fun v1008 M1009 h1010 le1011 hq1012 => ?_)
  obtain ⟨rfl, rfl, rfl⟩ := hq1012
  show G [z] h (0) (0) 6 #[.val (.ref sa)] [(.int (Int32.ofNat ys.length)), (.int (0 : Int32)), (.ref sa)]
  refine ldc hG d_prog_2_method_4_code_6 (w100 hw) hS (by decide) (vs := [(.int (36 : Int32)), (.int (36 : Int32)), (.int (82 : Int32)), (.int (111 : Int32)), (.int (111 : Int32)), (.int (109 : Int32)), (.int (83 : Int32)), (.int (116 : Int32)), (.int (97 : Int32)), (.int (116 : Int32)), (.int (105 : Int32)), (.int (99 : Int32)), (.int (115 : Int32))]) (N := 13) ⟨by decide +kernel, by decide +kernel⟩ (by decide) (by decide) (nn := 52) (by decide) (by decide) (Nat.le_of_ble_eq_true rfl) (Nat.le_of_ble_eq_true rfl) (fun h1013 a1014 b1015 kk1016 E1017 X1018 F1019 F1020 V1021 ne1022 => ?_)
  show G [z] h1013 (2) (56) 8 #[.val (.ref sa)] [(.ref a1014), (.int (Int32.ofNat ys.length)), (.int (0 : Int32)), (.ref sa)]
  refine callVirtual hG d_prog_2_method_4_code_8 X1018 (w149 hw) (w63 hw) (fun _ hz => notFace_of_selects (args := #[]) (mvT hz (w65 hw))) (w65 hw) (w64 hw) (w10 hw) (w66 hw) (by decide) (m_len hC (a1014) (b1015) (kk1016) ((13 : Int32)) ([(36 : Int32), (36 : Int32), (82 : Int32), (111 : Int32), (111 : Int32), (109 : Int32), (83 : Int32), (116 : Int32), (97 : Int32), (116 : Int32), (105 : Int32), (99 : Int32), (115 : Int32)]) h1013 X1018 F1019 F1020 V1021) pd_13 rfl (rest := [(.int (Int32.ofNat ys.length)), (.int (0 : Int32)), (.ref sa)]) rfl rfl all0 (Nat.le_of_ble_eq_true rfl) (W := 3) (Nat.le_of_ble_eq_true rfl) (Nat.le_of_ble_eq_true rfl) (Nat.le_of_ble_eq_true rfl) (Nat.le_of_ble_eq_true rfl) (fun v1023 M1024 h1025 le1026 hq1027 => ?_)
  obtain ⟨rfl, rfl, rfl⟩ := hq1027
  show G [z] h1013 (2) (56) 11 #[.val (.ref sa)] [(.int (13 : Int32)), (.int (Int32.ofNat ys.length)), (.int (0 : Int32)), (.ref sa)]
  refine isub hG d_prog_2_method_4_code_11 ?_
  have e1028 : ((Int32.ofNat ys.length) - (13 : Int32)) = (Int32.ofNat (ys.length - 13)) := ofN_sub (by omega) (by omega)
  rw [e1028]
  show G [z] h1013 (2) (56) 12 #[.val (.ref sa)] [(.int (Int32.ofNat (ys.length - 13))), (.int (0 : Int32)), (.ref sa)]
  have E1029 : Exa Z h1013 sa "java/lang/String" := (p0_exa.ext E1017)
  have F1030 : Fld Z h1013 sa "java/lang/String" "coder" "B" (.int (0 : Int32)) := (p1_fld.ext E1017)
  have F1031 : Fld Z h1013 sa "java/lang/String" "value" "[B" (.ref tb) := (p2_fld.ext E1017)
  have V1032 : Arv Z h1013 tb kb .byte (Int32.ofNat ys.length) (ints ys) (.int 0) := (p3_arv.ext E1017)
  have E1033 : Exa Z h1013 tb "[B" := (p4_exa.ext E1017)
  refine callVirtual hG d_prog_2_method_4_code_12 E1029 (w150 hw) (w151 hw) (fun _ hz => notFace_of_selects (args := #[]) (mvT hz (w153 hw))) (w153 hw) (w152 hw) (w10 hw) (w154 hw) (by decide) (m_subs hC (sa) (tb) (kb) (ys) ((ys.length - 13)) (z) h1013 E1029 F1030 F1031 V1032 E1033 (by first | omega | (simp; omega) | (simp; done) | decide) hcp) pd_31 rfl (rest := []) rfl rfl (allS (List.mem_of_getElem? (i := 0) rfl) all0) (Nat.le_of_ble_eq_true rfl) (W := 0) (Nat.le_of_ble_eq_true rfl) (Nat.le_of_ble_eq_true rfl) (Nat.le_of_ble_eq_true rfl) (Nat.le_of_ble_eq_true rfl) (fun v1034 M1035 h1036 le1037 hq1038 => ?_)
  obtain ⟨s21039, t21040, k21041, rfl, rfl, K1042, f1043, f1044, f1045, f1046, hz1047⟩ := hq1038
  show G [z] h1036 (4) (160) 15 #[.val (.ref sa)] [(.ref s21039)]
  have K1048 : Keep h h1036 [] := (((Keep.refl _ _).ext E1017).trans K1042 all0)
  exact areturn hG rfl rfl rfl d_prog_2_method_4_code_15 (M' := []) ⟨s21039, t21040, k21041, rfl, rfl, K1048, f1043, f1044, f1045, f1046, hz1047⟩ all0 (Nat.le_of_ble_eq_true rfl) (Nat.le_of_ble_eq_true rfl)
def Q_law (Z : State) (g0 : Int32) (gf : Value) (i0 : Int32) (i1 : Int32) (i2 : Int32) (h : Heap) : QT := fun v' M9 h9 => v' = some (.int (1 : Int32)) ∧ M9 = [] ∧ True
theorem ef_law (m9 : MethodId) (i0 : Int32) (i1 : Int32) (i2 : Int32) : entryFrame m9 [(.int i0), (.int i1), (.int i2)].toArray maxLocals = mkF m9 0 #[.val (.int i0), .val (.int i1), .val (.int i2), .unset, .unset, .unset, .unset] [] := by first | rfl | (simp [entryFrame, mkF, argsToLocals, Value.category, maxLocals]; done)
set_option maxRecDepth 65536 in
set_option maxHeartbeats 4000000 in
theorem m_law {l : Launch} {Z : State} {a0 : Array Value} {n0 : Nat} {g0 : Int32} {gf : Value} (hC : Ctx l Z a0 n0 g0 gf) (i0 : Int32) (i1 : Int32) (i2 : Int32) (h : Heap) :
    Met l Z EL0 n0 x code maxLocals ret tables_1 room_1 [(.int i0), (.int i1), (.int i2)] [] h (Q_law Z g0 gf i0 i1 i2 h) := by
  obtain ⟨hw, hS, hE, hK, hX⟩ := id hC
  refine Met.intro pl_42 (fun m9 => ef_law m9 i0 i1 i2) hE ?_
  intro G hG
  refine iloadN hG at_0 rfl ?_
  refine ldcInt hG at_1 (w0 hw) ?_
  refine iand hG at_3 ?_
  refine bipush hG at_4 (6) rfl ?_
  refine irem hG at_6 (by decide) ?_
  refine istoreN hG at_7 rfl ?_
  refine iloadN hG at_8 rfl ?_
  refine iloadN hG at_9 rfl ?_
  refine iloadN hG at_10 rfl ?_
  refine callStatic hG at_11 (w1 hw) (w2 hw) (w3 hw) (w4 hw) (by decide) (m_mk hC (((i0 &&& (2147483647 : Int32)) % (6 : Int32))) (i1) (i2) h) pd_32 rfl (rest := []) rfl rfl all0 (Nat.le_of_ble_eq_true rfl) (W := 0) (Nat.le_of_ble_eq_true rfl) (Nat.le_of_ble_eq_true rfl) (Nat.le_of_ble_eq_true rfl) (Nat.le_of_ble_eq_true rfl) (fun v1049 M1050 h1051 le1052 hq1053 => ?_)
  obtain ⟨sa1054, tb1055, kb1056, ys1057, rfl, rfl, K1058, g1059, f1060, f1061, f1062, f1063, hy51064⟩ := hq1053
  show G [sa1054] h1051 (6) (41) 14 #[.val (.int i0), .val (.int i1), .val (.int i2), .val (.int ((i0 &&& (2147483647 : Int32)) % (6 : Int32))), .unset, .unset, .unset] [(.ref sa1054)]
  refine astore hG at_14 rfl rfl ?_
  refine aload hG at_16 rfl rfl ?_
  refine callStatic hG at_18 (w30 hw) (w31 hw) (w32 hw) (w33 hw) (by decide) (m_comp hC (sa1054) (tb1055) (kb1056) (ys1057) h1051 f1060 f1061 f1062 f1063 hy51064) pd_33 rfl (rest := []) rfl rfl all0 (Nat.le_of_ble_eq_true rfl) (W := 0) (Nat.le_of_ble_eq_true rfl) (Nat.le_of_ble_eq_true rfl) (Nat.le_of_ble_eq_true rfl) (Nat.le_of_ble_eq_true rfl) (fun v1065 M1066 h1067 le1068 hq1069 => ?_)
  obtain ⟨s21070, t21071, k21072, rfl, rfl, K1073, g1074, f1075, f1076, f1077, f1078, f1079⟩ := hq1069
  show G [sa1054] h1067 (14) (421) 21 #[.val (.int i0), .val (.int i1), .val (.int i2), .val (.int ((i0 &&& (2147483647 : Int32)) % (6 : Int32))), .val (.ref sa1054), .unset, .unset] [(.ref s21070)]
  refine astore hG at_21 rfl rfl ?_
  refine aload hG at_23 rfl rfl ?_
  refine callStatic hG at_25 (w146 hw) (w147 hw) (w32 hw) (w148 hw) (by decide) (m_own hC (s21070) (t21071) (k21072) ((ys1057 ++ [(36 : Int32), (36 : Int32), (82 : Int32), (111 : Int32), (111 : Int32), (109 : Int32), (83 : Int32), (116 : Int32), (97 : Int32), (116 : Int32), (105 : Int32), (99 : Int32), (115 : Int32)])) (sa1054) h1067 f1075 f1076 f1077 f1078 f1079 (by first | omega | (simp; omega) | (simp; done) | decide) (by first | omega | (simp; omega) | (simp; done) | decide)) pd_33 rfl (rest := []) rfl rfl (allS (List.mem_of_getElem? (i := 0) rfl) all0) (Nat.le_of_ble_eq_true rfl) (W := 0) (Nat.le_of_ble_eq_true rfl) (Nat.le_of_ble_eq_true rfl) (Nat.le_of_ble_eq_true rfl) (Nat.le_of_ble_eq_true rfl) (fun v1080 M1081 h1082 le1083 hq1084 => ?_)
  obtain ⟨s21085, t21086, k21087, rfl, rfl, K1088, f1089, f1090, f1091, f1092, hz1093⟩ := hq1084
  show G [sa1054] h1082 (18) (581) 28 #[.val (.int i0), .val (.int i1), .val (.int i2), .val (.int ((i0 &&& (2147483647 : Int32)) % (6 : Int32))), .val (.ref sa1054), .val (.ref s21070), .unset] [(.ref s21085)]
  have V1094 : Arv Z h1082 t21086 k21087 .byte (Int32.ofNat ys1057.length) (ints ys1057) (.int 0) := by have q9 := f1092; rw [drop13] at q9; simpa using q9
  refine astore hG at_28 rfl rfl ?_
  refine aload hG at_30 rfl rfl ?_
  refine aload hG at_32 rfl rfl ?_
  have E1095 : Exa Z h1082 sa1054 "java/lang/String" := ((f1060.keep K1073).keep K1088)
  have F1096 : Fld Z h1082 sa1054 "java/lang/String" "coder" "B" (.int (0 : Int32)) := ((f1061.keep K1073 nin0).keep K1088 nin0)
  have F1097 : Fld Z h1082 sa1054 "java/lang/String" "value" "[B" (.ref tb1055) := ((f1062.keep K1073 nin0).keep K1088 nin0)
  have V1098 : Arv Z h1082 tb1055 kb1056 .byte (Int32.ofNat ys1057.length) (ints ys1057) (.int 0) := ((f1063.keep K1073 nin0).keep K1088 nin0)
  refine callVirtual hG at_34 f1089 (w174 hw) (w175 hw) (fun _ hz => notFace_of_selects (args := #[]) (mvT hz (w177 hw))) (w177 hw) (w176 hw) (w10 hw) (w178 hw) (by decide) (m_eqS hC (s21085) (sa1054) (t21086) (tb1055) (k21087) (kb1056) ((Int32.ofNat ys1057.length)) ((Int32.ofNat ys1057.length)) (ys1057) (ys1057) h1082 f1089 E1095 f1090 F1096 f1091 F1097 V1094 V1098 rfl rfl (by first | exact Nat.le_of_ble_eq_true rfl | omega | (simp; done) | (simp; omega)) (by first | exact Nat.le_of_ble_eq_true rfl | omega | (simp; done) | (simp; omega)) hz1093) pd_34 rfl (rest := []) rfl rfl all0 (Nat.le_of_ble_eq_true rfl) (W := 0) (Nat.le_of_ble_eq_true rfl) (Nat.le_of_ble_eq_true rfl) (Nat.le_of_ble_eq_true rfl) (Nat.le_of_ble_eq_true rfl) (fun v1099 M1100 h1101 le1102 hq1103 => ?_)
  obtain ⟨rfl, rfl, rfl⟩ := hq1103
  show G [sa1054] h1082 (18) (581) 37 #[.val (.int i0), .val (.int i1), .val (.int i2), .val (.int ((i0 &&& (2147483647 : Int32)) % (6 : Int32))), .val (.ref sa1054), .val (.ref s21070), .val (.ref s21085)] [(.int (eqv ys1057 ys1057))]
  exact ireturnN hG (by simp) at_37 (M' := []) ⟨(by rw [eqv_yes rfl]; rfl), rfl, trivial⟩ all0 (Nat.le_of_ble_eq_true rfl) (Nat.le_of_ble_eq_true rfl)
set_option maxRecDepth 65536 in
set_option maxHeartbeats 4000000 in
theorem comes_1 {Post : Tables → Env → Array Value → State → Outcome → State → Prop} (hpost : ∀ tb e args s v u, (limb_1_1.after args s (.returned v) u = true ∧ limb_1_2.after args s (.returned v) u = true ∧ True) → ReturnedEndW s (.returned v) u (Jvm.fieldLocs frame_1_writes args s ++ Jvm.arrayLocs frame_1_arrays args s ++ Jvm.staticLocs frame_1_statics s) 40 3392 → Post tb e args s (.returned v) u) :
    ArmFor flags0 classFile x code maxLocals ret World_1 tables_1 room_1 Calls_1 rest_1 Pre_1 Post := by
  intro l hfl _ _ p e ha hc hk s m args below hf hA hF happ hP
  obtain ⟨hcalls, hrest, hpre⟩ := hP
  obtain ⟨-, -, -, hnamed, -, -, -, hat⟩ := (Spec.applies_iff hf).mp happ
  obtain ⟨hg, hnar⟩ := and_e (Cond.before_iff.mp (show (Jvm.Cond.and given_1 narrow_1).before args s = true from hpre))
  obtain ⟨hcount, hi0⟩ := and_e hg
  obtain ⟨hx0, hi1⟩ := and_e hi0
  obtain ⟨hx1, hi2⟩ := and_e hi1
  have hx2 := hi2
  obtain ⟨w0, w1, w2, rfl⟩ : ∃ w0 w1 w2 : Value, args = #[w0, w1, w2] := by
    have hs : args.size = 3 := by simpa [Cond.value, given_1] using hcount
    obtain ⟨L⟩ := args
    match L, hs with
    | [w0, w1, w2], _ => exact ⟨w0, w1, w2, rfl⟩
  have hw := fun d (hd : d ∈ tables_1) => atoms_spec (ws := Jvm.Cond.code x code maxLocals ret :: tables_1) hat d (List.mem_cons_of_mem _ hd)
  obtain ⟨hsets, hown0⟩ := atoms_of _ (rest_1_c_eq ▸ (show rest_1_c.before _ s = true from hrest))
  have hfit : Fit s := fun {y c} hc i hi => by
    obtain ⟨ha, rfl⟩ := Array.getElem?_eq_some_iff.mp hc
    have q := List.all_eq_true.mp ((Array.all_eq_true_iff_forall_mem.mp hF) _ (Array.getElem_mem ha)) i (List.mem_range.mpr hi)
    simpa [Array.getElem?_eq_getElem hi] using q
  obtain ⟨i0, e0⟩ := is_v hx0
  obtain rfl : w0 = (.int i0) := Option.some.inj e0
  obtain ⟨i1, e1⟩ := is_v hx1
  obtain rfl : w1 = (.int i1) := Option.some.inj e1
  obtain ⟨i2, e2⟩ := is_v hx2
  obtain rfl : w2 = (.int i2) := Option.some.inj e2
  have hcw := hsets _ (List.mem_of_getElem? (i := 2) rfl)
  obtain ⟨g0, eg⟩ := is_v (Cond.before_iff.mp (hsets _ (List.mem_of_getElem? (i := 1) rfl)))
  have hK1 : Sta s s.heap "java/lang/String" "COMPACT_STRINGS" "Z" (.int g0) := Sta.start eg (Or.inl (hsets _ (List.mem_of_getElem? (i := 0) rfl)))
  have hK2 : ¬ g0 = 0 := gotF (Cond.eq_ints eg (Term.int_eval (0))) (not_v (Cond.before_iff.mp hcw))
  have hS : ∀ a ∈ Bundle.stringAtoms, a.before _ s = true := fun d hd => hw d ((by decide +kernel : ∀ d ∈ Bundle.stringAtoms, d ∈ tables_1) d hd)
  have hE : EW s _ EL0 := (EW.cons (w100 hw) (by decide +kernel) (EW.cons (w22 hw) (by decide +kernel) (EW.cons (w173 hw) (by decide +kernel) EW.nil)))
  obtain ⟨gf, egf, rgf⟩ := isR_v (Cond.before_iff.mp (hsets _ (List.mem_of_getElem? (i := 8) rfl)))
  have sgf : Sta s s.heap "jdk/internal/util/Preconditions" "SIOOBE_FORMATTER" "Ljava/util/function/BiFunction;" gf := Sta.start egf (Or.inl (hsets _ (List.mem_of_getElem? (i := 7) rfl)))
  have hC : Ctx l s _ s.heap.size g0 gf := ⟨hw, hS, hE, ⟨hK1, hK2⟩, sgf, rgf⟩
  have hH : CHv s EL0 s.vm s.heap := CHv.start hE (fun p hp => hcalls.1 p hp) hcw (hS _ (by simp [Bundle.stringAtoms])) (hS _ (by simp [Bundle.stringAtoms, Bundle.sN]))
  obtain ⟨n, o, h1, h2, h3, ⟨v, L, M', rfl, hQ, N, -, -, -, hq⟩⟩ := m_law hC i0 i1 i2 s.heap p e ha hc hk s m _ below hf ((Spec.applies_iff_loose hf).mp happ).1 ⟨rfl, State.Warmed39.refl s, rfl, hH, fun _ q => (nomatch q), Old.start s⟩ trivial
  obtain ⟨rfl, -⟩ := hQ
  refine ⟨n, _, h1, h2, h3, hpost _ _ _ _ _ _ ⟨Cond.after_iff.mpr rfl, Cond.after_iff.mpr (eq_i res_at (Term.int_eval (1)) rfl), trivial⟩ ⟨hq.1, hq.2.1, hq.2.2.1, (hq.2.2.2.sift fun y hy => Or.inr (N y hy)).mono (by decide) (by decide)⟩⟩
theorem main_1_1 : Claimed_1_1 := comes_1 fun _ _ _ _ _ _ h hF => ⟨h.1, hF⟩
theorem main_1_2 : Claimed_1_2 := comes_1 fun _ _ _ _ _ _ h hF => ⟨h.2.1, hF⟩
end Jvm.Pilot.@@N@@
namespace Jvm.Pilot.@@N@@
open Jvm Jvm.ClassFile Sem Op Lib Jvm.Free Jvm.Stand Jvm.Pilot.@@N@@.Jvm.D
/-! MADE BY PROGRAM (witnessworld.py) out of the Statement's table words and the real class files: 26 classes; the members and pool entries that the words name. The judged class is class 1, her method 3. -/
namespace start1
open Jvm.ClassFile
def u (s : String) : CpInfo := .utf8 (stringToUtf16 s)
/-- a pool by its gaps: so many unusable entries, then the entry; so many at the end -/
def gap : Nat → List CpInfo → List CpInfo
  | 0, r => r
  | n + 1, r => .unusable :: gap n r
def poolList (es : List (Nat × CpInfo)) (last : Nat) : List CpInfo := es.foldr (fun e r => gap e.1 (e.2 :: r)) (gap last [])
def pool (es : List (Nat × CpInfo)) (last : Nat) : Array CpInfo := ⟨poolList es last⟩
def fileOf (pool : Array CpInfo) (this : Nat) (attrs : Array Attribute := #[]) (ms : Array MethodInfo := #[]) (fl : Nat := 33) (sup : Nat := 0) (ifs : Array Nat := #[]) (fds : Array FieldInfo := #[]) : ClassFile where
  minorVersion := 0
  majorVersion := 65
  constantPool := pool
  accessFlags := fl
  thisClass := this
  superClass := sup
  interfaces := ifs
  fields := fds
  methods := ms
  attributes := attrs
def plain (name : String) (sup : Option ClassId) : Class where
  name := name
  kind := .ordinary
  loader := none
  accessFlags := 33
  super := sup
  interfaces := #[]
  cf := none
  fields := #[]
  methods := #[]
  instanceTypes := #[]
  staticTypes := #[]
  resolved := #[]
  callSites := []
  init := .initialized
  statics := none
  mirror := none

def pool0 : Array CpInfo := pool [(5, u "<init>"), (0, u "()V"), (1, .class_ 10), (1, u "java/lang/Object"), (85, u "clone"), (0, u "()Ljava/lang/Object;")] 26

def k0c0 : Code := { maxStack := 0, maxLocals := 1, code := object_method_1_code, exceptionTable := #[], attributes := #[] }
def k0m0 : Method := { name := "<init>", desc := "()V", sig := { parameters := [], returnType := none }, accessFlags := 1, code := some k0c0 }
def k0m1 : Method := { name := "clone", desc := "()Ljava/lang/Object;", sig := { parameters := [], returnType := some (.object "java/lang/Object") }, accessFlags := 260, code := none }
/-- java/lang/Object -/
def k0 : Class := { plain "java/lang/Object" none with
  accessFlags := 33
  interfaces := #[]
  cf := some (fileOf pool0 8 #[] #[{ accessFlags := 1, nameIndex := 5, descriptorIndex := 6, attributes := #[] }, { accessFlags := 260, nameIndex := 96, descriptorIndex := 97, attributes := #[] }] 33 0 #[] #[])
  fields := #[]
  methods := #[k0m0, k0m1]
  instanceTypes := #[]
  staticTypes := #[]
  resolved := Array.replicate 124 none
  statics := none }

def pool1 : Array CpInfo := pool [(2, .class_ 4), (1, u "java/lang/Object"), (0, u "<init>"), (0, u "()V"), (0, .methodref 8 9), (0, .class_ 10), (0, .nameAndType 11 12), (0, u "com/example/room_divider/roomdivider/isolation/GeneratedNamesOwnerPinLaw"), (0, u "ch"), (0, u "(II)C"), (0, .class_ 14), (0, u "java/lang/String"), (0, .methodref 13 16), (0, .nameAndType 5 17), (0, u "([C)V"), (0, .integer 2147483647), (0, .methodref 8 20), (0, .nameAndType 21 22), (0, u "mk"), (0, u "(III)Ljava/lang/String;"), (0, .methodref 24 25), (0, .class_ 26), (0, .nameAndType 27 28), (0, u "com/example/room_divider/roomdivider/isolation/GeneratedNames"), (0, u "companion"), (0, u "(Ljava/lang/String;)Ljava/lang/String;"), (0, .methodref 24 30), (0, .nameAndType 31 28), (0, u "owner"), (0, .methodref 13 33), (0, .nameAndType 34 35), (0, u "equals"), (0, u "(Ljava/lang/Object;)Z"), (3, u "law"), (0, u "(III)Z")] 2

def k1m0 : Method := { name := "<init>", desc := "()V", sig := { parameters := [], returnType := none }, accessFlags := 2, code := none }
def k1c1 : Code := { maxStack := 2, maxLocals := 2, code := method_2_code, exceptionTable := #[], attributes := #[] }
def k1m1 : Method := { name := "ch", desc := "(II)C", sig := { parameters := [.int, .int], returnType := some .char }, accessFlags := 10, code := some k1c1 }
def k1c2 : Code := { maxStack := 6, maxLocals := 8, code := method_3_code, exceptionTable := #[], attributes := #[] }
def k1m2 : Method := { name := "mk", desc := "(III)Ljava/lang/String;", sig := { parameters := [.int, .int, .int], returnType := some (.object "java/lang/String") }, accessFlags := 10, code := some k1c2 }
def k1c3 : Code := { maxStack := 3, maxLocals := 7, code := code, exceptionTable := #[], attributes := #[] }
def k1m3 : Method := { name := "law", desc := "(III)Z", sig := { parameters := [.int, .int, .int], returnType := some .boolean }, accessFlags := 9, code := some k1c3 }
/-- com/example/room_divider/roomdivider/isolation/GeneratedNamesOwnerPinLaw -/
def k1 : Class := { plain "com/example/room_divider/roomdivider/isolation/GeneratedNamesOwnerPinLaw" (some 0) with
  accessFlags := 49
  interfaces := #[]
  cf := some (fileOf pool1 8 #[] #[{ accessFlags := 2, nameIndex := 5, descriptorIndex := 6, attributes := #[] }, { accessFlags := 10, nameIndex := 11, descriptorIndex := 12, attributes := #[] }, { accessFlags := 10, nameIndex := 21, descriptorIndex := 22, attributes := #[] }, { accessFlags := 9, nameIndex := 39, descriptorIndex := 40, attributes := #[] }] 49 2 #[] #[])
  fields := #[]
  methods := #[k1m0, k1m1, k1m2, k1m3]
  instanceTypes := #[]
  staticTypes := #[]
  resolved := Array.replicate 43 none
  statics := none }

def pool2 : Array CpInfo := pool [(1, .class_ 2), (0, u "java/io/Serializable"), (0, .class_ 4), (0, u "java/lang/Object")] 2

/-- java/io/Serializable -/
def k2 : Class := { plain "java/io/Serializable" (some 0) with
  accessFlags := 1537
  interfaces := #[]
  cf := some (fileOf pool2 1 #[] #[] 1537 3 #[] #[])
  fields := #[]
  methods := #[]
  instanceTypes := #[]
  staticTypes := #[]
  resolved := Array.replicate 7 none
  statics := none }

def pool3 : Array CpInfo := pool [(1, .class_ 2), (0, u "java/lang/Comparable"), (0, .class_ 4), (0, u "java/lang/Object")] 7

/-- java/lang/Comparable -/
def k3 : Class := { plain "java/lang/Comparable" (some 0) with
  accessFlags := 1537
  interfaces := #[]
  cf := some (fileOf pool3 1 #[] #[] 1537 3 #[] #[])
  fields := #[]
  methods := #[]
  instanceTypes := #[]
  staticTypes := #[]
  resolved := Array.replicate 12 none
  statics := none }

def pool4 : Array CpInfo := pool [(2, .class_ 4), (1, u "java/lang/CharSequence"), (42, .class_ 48), (0, u "java/lang/CharSequence$1CodePointIterator"), (10, .class_ 60), (0, u "java/lang/CharSequence$1CharIterator"), (5, .class_ 67), (0, u "java/lang/Object")] 63

/-- java/lang/CharSequence -/
def k4 : Class := { plain "java/lang/CharSequence" (some 0) with
  accessFlags := 1537
  interfaces := #[]
  cf := some (fileOf pool4 2 #[.nestMembers #[47, 59]] #[] 1537 66 #[] #[])
  fields := #[]
  methods := #[]
  instanceTypes := #[]
  staticTypes := #[]
  resolved := Array.replicate 131 none
  statics := none }

def pool5 : Array CpInfo := pool [(1, .class_ 2), (0, u "java/lang/constant/Constable"), (0, .class_ 4), (0, u "java/lang/Object")] 6

/-- java/lang/constant/Constable -/
def k5 : Class := { plain "java/lang/constant/Constable" (some 0) with
  accessFlags := 1537
  interfaces := #[]
  cf := some (fileOf pool5 1 #[] #[] 1537 3 #[] #[])
  fields := #[]
  methods := #[]
  instanceTypes := #[]
  staticTypes := #[]
  resolved := Array.replicate 11 none
  statics := none }

def pool6 : Array CpInfo := pool [(1, .class_ 2), (0, u "java/lang/constant/ConstantDesc"), (0, .class_ 4), (0, u "java/lang/Object")] 32

/-- java/lang/constant/ConstantDesc -/
def k6 : Class := { plain "java/lang/constant/ConstantDesc" (some 0) with
  accessFlags := 1537
  interfaces := #[]
  cf := some (fileOf pool6 1 #[] #[] 1537 3 #[] #[])
  fields := #[]
  methods := #[]
  instanceTypes := #[]
  staticTypes := #[]
  resolved := Array.replicate 37 none
  statics := none }

def pool7 : Array CpInfo := pool [(1, .methodref 2 3), (0, .class_ 4), (0, .nameAndType 5 6), (0, u "java/lang/Object"), (0, u "<init>"), (0, u "()V"), (0, .string 8), (0, u ""), (0, .fieldref 10 11), (0, .class_ 12), (0, .nameAndType 13 14), (0, u "java/lang/String"), (0, u "value"), (0, u "[B"), (0, .fieldref 10 16), (0, .nameAndType 17 18), (0, u "coder"), (0, u "B"), (2, u "hash"), (0, u "I"), (2, u "hashIsZero"), (0, u "Z"), (0, .methodref 10 28), (0, .nameAndType 5 29), (0, u "([CIILjava/lang/Void;)V"), (8, .fieldref 10 39), (0, .nameAndType 40 26), (0, u "COMPACT_STRINGS"), (1, .class_ 44), (1, u "java/lang/StringUTF16"), (0, u "compress"), (1, .methodref 42 48), (0, .nameAndType 49 50), (0, u "coderFromArrayLen"), (0, u "([BI)B"), (3, .methodref 55 56), (0, .class_ 57), (0, .nameAndType 58 59), (0, u "java/util/Arrays"), (0, u "copyOfRange"), (0, u "([BII)[B"), (47, .class_ 109), (1, u "java/lang/StringLatin1"), (32, u "()Z"), (34, .methodref 42 178), (0, .nameAndType 45 179), (0, u "([CII)[B"), (13, .class_ 195), (1, u "java/lang/System"), (15, u "([BB)V"), (0, .methodref 193 213), (0, .nameAndType 214 215), (0, u "arraycopy"), (0, u "(Ljava/lang/Object;ILjava/lang/Object;II)V"), (118, u "()I"), (0, .methodref 10 336), (0, .nameAndType 17 337), (0, u "()B"), (2, u "()[B"), (148, .methodref 10 490), (0, .nameAndType 5 491), (0, u "(Ljava/lang/AbstractStringBuilder;Ljava/lang/Void;)V"), (0, .methodref 10 493), (0, .nameAndType 494 142), (0, u "isLatin1"), (10, .methodref 10 506), (0, .nameAndType 507 334), (0, u "length"), (5, u "checkFromToIndex"), (7, .methodref 10 522), (0, .nameAndType 523 524), (0, u "checkBoundsBeginEnd"), (0, u "(III)V"), (7, u "getBytes"), (8, .methodref 107 542), (0, .nameAndType 543 544), (0, u "equals"), (0, u "([B[B)Z"), (4, .methodref 550 506), (0, .class_ 551), (0, u "java/lang/AbstractStringBuilder"), (0, .methodref 550 553), (0, .nameAndType 554 340), (0, u "getValue"), (18, u "(Ljava/lang/Object;)Z"), (1, .class_ 576), (0, u "java/lang/CharSequence"), (22, u "CASE_INSENSITIVE_ORDER"), (0, u "Ljava/util/Comparator;"), (82, u "substring"), (0, u "(II)Ljava/lang/String;"), (0, .methodref 107 686), (0, .nameAndType 687 688), (0, u "newString"), (0, u "([BII)Ljava/lang/String;"), (132, u "([BIB)V"), (188, u "([C)V"), (36, .methodref 550 493), (5, .fieldref 1054 1055), (0, .class_ 1056), (0, .nameAndType 1057 1058), (0, u "jdk/internal/util/Preconditions"), (0, u "SIOOBE_FORMATTER"), (0, u "Ljava/util/function/BiFunction;"), (3, .methodref 1054 1063), (0, .nameAndType 513 1064), (0, u "(IIILjava/util/function/BiFunction;)I"), (36, u "serialPersistentFields"), (0, u "[Ljava/io/ObjectStreamField;"), (0, .class_ 1104), (0, u "java/lang/String$CaseInsensitiveComparator"), (1, .class_ 1107), (0, u "java/io/Serializable"), (0, .class_ 1109), (0, u "java/lang/Comparable"), (0, .class_ 1111), (0, u "java/lang/constant/Constable"), (0, .class_ 1113), (0, u "java/lang/constant/ConstantDesc"), (2, u "serialVersionUID"), (0, u "J"), (3, u "REPL"), (0, u "C"), (2, u "LATIN1"), (1, u "UTF16"), (105, u "(Ljava/lang/StringBuilder;)V")] 217

def k7m0 : Method := { name := "<init>", desc := "()V", sig := { parameters := [], returnType := none }, accessFlags := 1, code := none }
def k7c1 : Code := { maxStack := 5, maxLocals := 2, code := jdk_42_method_3_code, exceptionTable := #[], attributes := #[] }
def k7m1 : Method := { name := "<init>", desc := "([C)V", sig := { parameters := [(.array .char)], returnType := none }, accessFlags := 1, code := some k7c1 }
def k7c2 : Code := { maxStack := 3, maxLocals := 2, code := jdk_42_method_53_code, exceptionTable := #[], attributes := #[] }
def k7m2 : Method := { name := "<init>", desc := "(Ljava/lang/StringBuilder;)V", sig := { parameters := [(.object "java/lang/StringBuilder")], returnType := none }, accessFlags := 1, code := some k7c2 }
def k7c3 : Code := { maxStack := 2, maxLocals := 1, code := jdk_42_method_54_code, exceptionTable := #[], attributes := #[] }
def k7m3 : Method := { name := "length", desc := "()I", sig := { parameters := [], returnType := some .int }, accessFlags := 1, code := some k7c3 }
def k7c4 : Code := { maxStack := 2, maxLocals := 3, code := jdk_42_method_66_code, exceptionTable := #[], attributes := #[] }
def k7m4 : Method := { name := "equals", desc := "(Ljava/lang/Object;)Z", sig := { parameters := [(.object "java/lang/Object")], returnType := some .boolean }, accessFlags := 1, code := some k7c4 }
def k7c5 : Code := { maxStack := 3, maxLocals := 5, code := jdk_42_method_92_code, exceptionTable := #[], attributes := #[] }
def k7m5 : Method := { name := "substring", desc := "(II)Ljava/lang/String;", sig := { parameters := [.int, .int], returnType := some (.object "java/lang/String") }, accessFlags := 1, code := some k7c5 }
def k7c6 : Code := { maxStack := 5, maxLocals := 4, code := jdk_42_method_147_code, exceptionTable := #[], attributes := #[] }
def k7m6 : Method := { name := "getBytes", desc := "([BIB)V", sig := { parameters := [(.array .byte), .int, .byte], returnType := none }, accessFlags := 0, code := some k7c6 }
def k7c7 : Code := { maxStack := 4, maxLocals := 6, code := jdk_42_method_149_code, exceptionTable := #[], attributes := #[] }
def k7m7 : Method := { name := "<init>", desc := "([CIILjava/lang/Void;)V", sig := { parameters := [(.array .char), .int, .int, (.object "java/lang/Void")], returnType := none }, accessFlags := 2, code := some k7c7 }
def k7c8 : Code := { maxStack := 5, maxLocals := 5, code := jdk_42_method_150_code, exceptionTable := #[], attributes := #[] }
def k7m8 : Method := { name := "<init>", desc := "(Ljava/lang/AbstractStringBuilder;Ljava/lang/Void;)V", sig := { parameters := [(.object "java/lang/AbstractStringBuilder"), (.object "java/lang/Void")], returnType := none }, accessFlags := 0, code := some k7c8 }
def k7c9 : Code := { maxStack := 2, maxLocals := 3, code := jdk_42_method_151_code, exceptionTable := #[], attributes := #[] }
def k7m9 : Method := { name := "<init>", desc := "([BB)V", sig := { parameters := [(.array .byte), .byte], returnType := none }, accessFlags := 0, code := some k7c9 }
def k7c10 : Code := { maxStack := 1, maxLocals := 1, code := jdk_42_method_152_code, exceptionTable := #[], attributes := #[] }
def k7m10 : Method := { name := "coder", desc := "()B", sig := { parameters := [], returnType := some .byte }, accessFlags := 0, code := some k7c10 }
def k7c11 : Code := { maxStack := 1, maxLocals := 1, code := jdk_42_method_154_code, exceptionTable := #[], attributes := #[] }
def k7m11 : Method := { name := "isLatin1", desc := "()Z", sig := { parameters := [], returnType := some .boolean }, accessFlags := 0, code := some k7c11 }
def k7c12 : Code := { maxStack := 4, maxLocals := 3, code := jdk_42_method_158_code, exceptionTable := #[], attributes := #[] }
def k7m12 : Method := { name := "checkBoundsBeginEnd", desc := "(III)V", sig := { parameters := [.int, .int, .int], returnType := none }, accessFlags := 8, code := some k7c12 }
/-- java/lang/String -/
def k7 : Class := { plain "java/lang/String" (some 0) with
  accessFlags := 49
  interfaces := #[2, 3, 4, 5, 6]
  cf := some (fileOf pool7 10 #[.nestMembers #[1103]] #[{ accessFlags := 1, nameIndex := 5, descriptorIndex := 6, attributes := #[] }, { accessFlags := 1, nameIndex := 5, descriptorIndex := 1010, attributes := #[] }, { accessFlags := 1, nameIndex := 5, descriptorIndex := 1233, attributes := #[] }, { accessFlags := 1, nameIndex := 507, descriptorIndex := 334, attributes := #[] }, { accessFlags := 1, nameIndex := 543, descriptorIndex := 573, attributes := #[] }, { accessFlags := 1, nameIndex := 683, descriptorIndex := 684, attributes := #[] }, { accessFlags := 0, nameIndex := 532, descriptorIndex := 821, attributes := #[] }, { accessFlags := 2, nameIndex := 5, descriptorIndex := 29, attributes := #[] }, { accessFlags := 0, nameIndex := 5, descriptorIndex := 491, attributes := #[] }, { accessFlags := 0, nameIndex := 5, descriptorIndex := 211, attributes := #[] }, { accessFlags := 0, nameIndex := 17, descriptorIndex := 337, attributes := #[] }, { accessFlags := 0, nameIndex := 494, descriptorIndex := 142, attributes := #[] }, { accessFlags := 8, nameIndex := 523, descriptorIndex := 524, attributes := #[] }] 49 2 #[1106, 1108, 575, 1110, 1112] #[{ accessFlags := 18, nameIndex := 13, descriptorIndex := 14, attributes := #[] }, { accessFlags := 18, nameIndex := 17, descriptorIndex := 18, attributes := #[] }, { accessFlags := 2, nameIndex := 21, descriptorIndex := 22, attributes := #[] }, { accessFlags := 2, nameIndex := 25, descriptorIndex := 26, attributes := #[] }, { accessFlags := 26, nameIndex := 1116, descriptorIndex := 1117, attributes := #[] }, { accessFlags := 24, nameIndex := 40, descriptorIndex := 26, attributes := #[] }, { accessFlags := 26, nameIndex := 1101, descriptorIndex := 1102, attributes := #[] }, { accessFlags := 26, nameIndex := 1121, descriptorIndex := 1122, attributes := #[] }, { accessFlags := 25, nameIndex := 599, descriptorIndex := 600, attributes := #[] }, { accessFlags := 24, nameIndex := 1125, descriptorIndex := 18, attributes := #[] }, { accessFlags := 24, nameIndex := 1127, descriptorIndex := 18, attributes := #[] }])
  fields := #[{ name := "value", type := (.array .byte), accessFlags := 18, slot := 0, constantValue := 0 }, { name := "coder", type := .byte, accessFlags := 18, slot := 1, constantValue := 0 }, { name := "hash", type := .int, accessFlags := 2, slot := 2, constantValue := 0 }, { name := "hashIsZero", type := .boolean, accessFlags := 2, slot := 3, constantValue := 0 }, { name := "serialVersionUID", type := .long, accessFlags := 26, slot := 0, constantValue := 0 }, { name := "COMPACT_STRINGS", type := .boolean, accessFlags := 24, slot := 1, constantValue := 0 }, { name := "serialPersistentFields", type := (.array (.object "java/io/ObjectStreamField")), accessFlags := 26, slot := 2, constantValue := 0 }, { name := "REPL", type := .char, accessFlags := 26, slot := 3, constantValue := 0 }, { name := "CASE_INSENSITIVE_ORDER", type := (.object "java/util/Comparator"), accessFlags := 25, slot := 4, constantValue := 0 }, { name := "LATIN1", type := .byte, accessFlags := 24, slot := 5, constantValue := 0 }, { name := "UTF16", type := .byte, accessFlags := 24, slot := 6, constantValue := 0 }]
  methods := #[k7m0, k7m1, k7m2, k7m3, k7m4, k7m5, k7m6, k7m7, k7m8, k7m9, k7m10, k7m11, k7m12]
  instanceTypes := #[(.array .byte), .byte, .int, .boolean]
  staticTypes := #[.long, .boolean, (.array (.object "java/io/ObjectStreamField")), .char, (.object "java/util/Comparator"), .byte, .byte]
  resolved := Array.replicate 1451 none
  statics := some 0 }

def pool8 : Array CpInfo := pool [(2, .class_ 4), (0, .nameAndType 5 6), (0, u "java/lang/Object"), (0, u "<init>"), (0, u "()V"), (0, .class_ 8), (0, u "java/lang/StringBuilder"), (0, .methodref 7 3), (0, .methodref 7 11), (0, .nameAndType 12 13), (0, u "append"), (0, u "(Ljava/lang/String;)Ljava/lang/StringBuilder;"), (0, .class_ 15), (0, u "com/example/room_divider/roomdivider/isolation/GeneratedNames"), (0, .string 17), (0, u "$$RoomStatics"), (0, .methodref 7 19), (0, .nameAndType 20 21), (0, u "toString"), (0, u "()Ljava/lang/String;"), (1, .class_ 25), (1, u "java/lang/String"), (2, .methodref 23 29), (0, .nameAndType 30 31), (0, u "length"), (0, u "()I"), (0, .methodref 23 33), (0, .nameAndType 34 35), (0, u "substring"), (0, u "(II)Ljava/lang/String;"), (0, u "COMPANION_SUFFIX"), (0, u "Ljava/lang/String;"), (1, u "CLASS_STATICS"), (2, u "INITIALIZER"), (2, u "GET"), (2, u "PUT"), (2, u "TOUCH"), (2, u "ENTER"), (2, u "CURRENT"), (2, u "CALL"), (2, u "LAMBDA"), (4, u "companion"), (0, u "(Ljava/lang/String;)Ljava/lang/String;"), (1, u "owner")] 2

def k8m0 : Method := { name := "<init>", desc := "()V", sig := { parameters := [], returnType := none }, accessFlags := 2, code := none }
def k8c1 : Code := { maxStack := 2, maxLocals := 1, code := prog_2_method_2_code, exceptionTable := #[], attributes := #[] }
def k8m1 : Method := { name := "companion", desc := "(Ljava/lang/String;)Ljava/lang/String;", sig := { parameters := [(.object "java/lang/String")], returnType := some (.object "java/lang/String") }, accessFlags := 8, code := some k8c1 }
def k8c2 : Code := { maxStack := 4, maxLocals := 1, code := prog_2_method_4_code, exceptionTable := #[], attributes := #[] }
def k8m2 : Method := { name := "owner", desc := "(Ljava/lang/String;)Ljava/lang/String;", sig := { parameters := [(.object "java/lang/String")], returnType := some (.object "java/lang/String") }, accessFlags := 8, code := some k8c2 }
/-- com/example/room_divider/roomdivider/isolation/GeneratedNames -/
def k8 : Class := { plain "com/example/room_divider/roomdivider/isolation/GeneratedNames" (some 0) with
  accessFlags := 32
  interfaces := #[]
  cf := some (fileOf pool8 14 #[] #[{ accessFlags := 2, nameIndex := 5, descriptorIndex := 6, attributes := #[] }, { accessFlags := 8, nameIndex := 68, descriptorIndex := 69, attributes := #[] }, { accessFlags := 8, nameIndex := 71, descriptorIndex := 69, attributes := #[] }] 32 2 #[] #[{ accessFlags := 24, nameIndex := 36, descriptorIndex := 37, attributes := #[] }, { accessFlags := 24, nameIndex := 39, descriptorIndex := 37, attributes := #[] }, { accessFlags := 24, nameIndex := 42, descriptorIndex := 37, attributes := #[] }, { accessFlags := 24, nameIndex := 45, descriptorIndex := 37, attributes := #[] }, { accessFlags := 24, nameIndex := 48, descriptorIndex := 37, attributes := #[] }, { accessFlags := 24, nameIndex := 51, descriptorIndex := 37, attributes := #[] }, { accessFlags := 24, nameIndex := 54, descriptorIndex := 37, attributes := #[] }, { accessFlags := 24, nameIndex := 57, descriptorIndex := 37, attributes := #[] }, { accessFlags := 24, nameIndex := 60, descriptorIndex := 37, attributes := #[] }, { accessFlags := 24, nameIndex := 63, descriptorIndex := 37, attributes := #[] }])
  fields := #[{ name := "COMPANION_SUFFIX", type := (.object "java/lang/String"), accessFlags := 24, slot := 0, constantValue := 0 }, { name := "CLASS_STATICS", type := (.object "java/lang/String"), accessFlags := 24, slot := 1, constantValue := 0 }, { name := "INITIALIZER", type := (.object "java/lang/String"), accessFlags := 24, slot := 2, constantValue := 0 }, { name := "GET", type := (.object "java/lang/String"), accessFlags := 24, slot := 3, constantValue := 0 }, { name := "PUT", type := (.object "java/lang/String"), accessFlags := 24, slot := 4, constantValue := 0 }, { name := "TOUCH", type := (.object "java/lang/String"), accessFlags := 24, slot := 5, constantValue := 0 }, { name := "ENTER", type := (.object "java/lang/String"), accessFlags := 24, slot := 6, constantValue := 0 }, { name := "CURRENT", type := (.object "java/lang/String"), accessFlags := 24, slot := 7, constantValue := 0 }, { name := "CALL", type := (.object "java/lang/String"), accessFlags := 24, slot := 8, constantValue := 0 }, { name := "LAMBDA", type := (.object "java/lang/String"), accessFlags := 24, slot := 9, constantValue := 0 }]
  methods := #[k8m0, k8m1, k8m2]
  instanceTypes := #[]
  staticTypes := #[(.object "java/lang/String"), (.object "java/lang/String"), (.object "java/lang/String"), (.object "java/lang/String"), (.object "java/lang/String"), (.object "java/lang/String"), (.object "java/lang/String"), (.object "java/lang/String"), (.object "java/lang/String"), (.object "java/lang/String")]
  resolved := Array.replicate 74 none
  statics := none }

def pool9 : Array CpInfo := pool [(1, .class_ 2), (0, u "java/lang/Appendable"), (0, .class_ 4), (0, u "java/lang/Object")] 9

/-- java/lang/Appendable -/
def k9 : Class := { plain "java/lang/Appendable" (some 0) with
  accessFlags := 1537
  interfaces := #[]
  cf := some (fileOf pool9 1 #[] #[] 1537 3 #[] #[])
  fields := #[]
  methods := #[]
  instanceTypes := #[]
  staticTypes := #[]
  resolved := Array.replicate 14 none
  statics := none }

def pool10 : Array CpInfo := pool [(1, .class_ 2), (0, u "java/lang/String"), (0, .methodref 4 5), (0, .class_ 6), (0, .nameAndType 7 8), (0, u "java/lang/Object"), (0, u "<init>"), (0, u "()V"), (1, .class_ 12), (1, u "java/lang/AbstractStringBuilder"), (0, u "EMPTYVALUE"), (0, u "[B"), (0, .fieldref 10 16), (0, .nameAndType 17 14), (0, u "value"), (0, .fieldref 1 19), (0, .nameAndType 20 21), (0, u "COMPACT_STRINGS"), (0, u "Z"), (0, .fieldref 10 23), (0, .nameAndType 24 25), (0, u "coder"), (0, u "B"), (6, .methodref 1 33), (0, .nameAndType 34 35), (0, u "length"), (0, u "()I"), (3, .integer 2147483647), (0, .methodref 1 41), (0, .nameAndType 24 42), (0, u "()B"), (2, u "append"), (0, u "(Ljava/lang/String;)Ljava/lang/AbstractStringBuilder;"), (1, .class_ 49), (0, u "java/lang/CharSequence"), (19, u "(Ljava/lang/String;)V"), (5, u "maybeLatin1"), (3, .fieldref 10 80), (0, .nameAndType 81 82), (0, u "count"), (0, u "I"), (2, u "isLatin1"), (0, u "()Z"), (13, .methodref 10 101), (0, .nameAndType 102 103), (0, u "ensureCapacityInternal"), (0, u "(I)V"), (0, .methodref 10 105), (0, .nameAndType 106 107), (0, u "newCapacity"), (0, u "(I)I"), (0, .methodref 109 110), (0, .class_ 111), (0, .nameAndType 112 113), (0, u "java/util/Arrays"), (0, u "copyOf"), (0, u "([BI)[B"), (0, .methodref 115 116), (0, .class_ 117), (0, .nameAndType 118 119), (0, u "jdk/internal/util/ArraysSupport"), (0, u "newLength"), (0, u "(III)I"), (88, .methodref 10 209), (0, .nameAndType 210 211), (0, u "putStringAt"), (0, u "(ILjava/lang/String;)V"), (5, u "inflateIfNeededFor"), (2, .nameAndType 221 222), (0, u "getBytes"), (0, u "([BIB)V"), (174, .methodref 10 398), (0, .nameAndType 217 69), (0, .methodref 1 220), (3, u "()[B"), (40, .class_ 445), (0, u "java/lang/Appendable"), (106, u "getValue")] 56

def k10m0 : Method := { name := "<init>", desc := "()V", sig := { parameters := [], returnType := none }, accessFlags := 0, code := none }
def k10c1 : Code := { maxStack := 2, maxLocals := 2, code := jdk_68_method_2_code, exceptionTable := #[], attributes := #[] }
def k10m1 : Method := { name := "<init>", desc := "(I)V", sig := { parameters := [.int], returnType := none }, accessFlags := 0, code := some k10c1 }
def k10c2 : Code := { maxStack := 1, maxLocals := 1, code := jdk_68_method_6_code, exceptionTable := #[], attributes := #[] }
def k10m2 : Method := { name := "length", desc := "()I", sig := { parameters := [], returnType := some .int }, accessFlags := 1, code := some k10c2 }
def k10c3 : Code := { maxStack := 4, maxLocals := 3, code := jdk_68_method_9_code, exceptionTable := #[], attributes := #[] }
def k10m3 : Method := { name := "ensureCapacityInternal", desc := "(I)V", sig := { parameters := [.int], returnType := none }, accessFlags := 2, code := some k10c3 }
def k10c4 : Code := { maxStack := 5, maxLocals := 6, code := jdk_68_method_10_code, exceptionTable := #[], attributes := #[] }
def k10m4 : Method := { name := "newCapacity", desc := "(I)I", sig := { parameters := [.int], returnType := some .int }, accessFlags := 2, code := some k10c4 }
def k10c5 : Code := { maxStack := 3, maxLocals := 3, code := jdk_68_method_22_code, exceptionTable := #[], attributes := #[] }
def k10m5 : Method := { name := "append", desc := "(Ljava/lang/String;)Ljava/lang/AbstractStringBuilder;", sig := { parameters := [(.object "java/lang/String")], returnType := some (.object "java/lang/AbstractStringBuilder") }, accessFlags := 1, code := some k10c5 }
def k10c6 : Code := { maxStack := 1, maxLocals := 1, code := jdk_68_method_64_code, exceptionTable := #[], attributes := #[] }
def k10m6 : Method := { name := "getValue", desc := "()[B", sig := { parameters := [], returnType := some (.array .byte) }, accessFlags := 16, code := some k10c6 }
def k10c7 : Code := { maxStack := 1, maxLocals := 1, code := jdk_68_method_68_code, exceptionTable := #[], attributes := #[] }
def k10m7 : Method := { name := "isLatin1", desc := "()Z", sig := { parameters := [], returnType := some .boolean }, accessFlags := 16, code := some k10c7 }
def k10c8 : Code := { maxStack := 2, maxLocals := 2, code := jdk_68_method_71_code, exceptionTable := #[], attributes := #[] }
def k10m8 : Method := { name := "inflateIfNeededFor", desc := "(Ljava/lang/String;)V", sig := { parameters := [(.object "java/lang/String")], returnType := none }, accessFlags := 2, code := some k10c8 }
def k10c9 : Code := { maxStack := 4, maxLocals := 3, code := jdk_68_method_73_code, exceptionTable := #[], attributes := #[] }
def k10m9 : Method := { name := "putStringAt", desc := "(ILjava/lang/String;)V", sig := { parameters := [.int, (.object "java/lang/String")], returnType := none }, accessFlags := 2, code := some k10c9 }
/-- java/lang/AbstractStringBuilder -/
def k10 : Class := { plain "java/lang/AbstractStringBuilder" (some 0) with
  accessFlags := 1056
  interfaces := #[9, 4]
  cf := some (fileOf pool10 10 #[] #[{ accessFlags := 0, nameIndex := 7, descriptorIndex := 8, attributes := #[] }, { accessFlags := 0, nameIndex := 7, descriptorIndex := 103, attributes := #[] }, { accessFlags := 1, nameIndex := 34, descriptorIndex := 35, attributes := #[] }, { accessFlags := 2, nameIndex := 102, descriptorIndex := 103, attributes := #[] }, { accessFlags := 2, nameIndex := 106, descriptorIndex := 107, attributes := #[] }, { accessFlags := 1, nameIndex := 45, descriptorIndex := 46, attributes := #[] }, { accessFlags := 16, nameIndex := 552, descriptorIndex := 403, attributes := #[] }, { accessFlags := 16, nameIndex := 85, descriptorIndex := 86, attributes := #[] }, { accessFlags := 2, nameIndex := 217, descriptorIndex := 69, attributes := #[] }, { accessFlags := 2, nameIndex := 210, descriptorIndex := 211, attributes := #[] }] 1056 4 #[444, 48] #[{ accessFlags := 0, nameIndex := 17, descriptorIndex := 14, attributes := #[] }, { accessFlags := 0, nameIndex := 24, descriptorIndex := 25, attributes := #[] }, { accessFlags := 0, nameIndex := 75, descriptorIndex := 21, attributes := #[] }, { accessFlags := 0, nameIndex := 81, descriptorIndex := 82, attributes := #[] }, { accessFlags := 26, nameIndex := 13, descriptorIndex := 14, attributes := #[] }])
  fields := #[{ name := "value", type := (.array .byte), accessFlags := 0, slot := 0, constantValue := 0 }, { name := "coder", type := .byte, accessFlags := 0, slot := 1, constantValue := 0 }, { name := "maybeLatin1", type := .boolean, accessFlags := 0, slot := 2, constantValue := 0 }, { name := "count", type := .int, accessFlags := 0, slot := 3, constantValue := 0 }, { name := "EMPTYVALUE", type := (.array .byte), accessFlags := 26, slot := 0, constantValue := 0 }]
  methods := #[k10m0, k10m1, k10m2, k10m3, k10m4, k10m5, k10m6, k10m7, k10m8, k10m9]
  instanceTypes := #[(.array .byte), .byte, .boolean, .int]
  staticTypes := #[(.array .byte)]
  resolved := Array.replicate 609 none
  statics := none }

def pool11 : Array CpInfo := pool [(1, .methodref 2 3), (0, .class_ 4), (0, .nameAndType 5 6), (0, u "java/lang/AbstractStringBuilder"), (0, u "<init>"), (0, u "(I)V"), (11, .class_ 20), (1, u "java/lang/String"), (3, .class_ 26), (1, u "java/lang/StringBuilder"), (0, u "append"), (0, u "(Ljava/lang/String;)Ljava/lang/StringBuilder;"), (0, .methodref 2 30), (0, .nameAndType 27 31), (0, u "(Ljava/lang/String;)Ljava/lang/AbstractStringBuilder;"), (105, .methodref 18 138), (0, .nameAndType 5 139), (0, u "(Ljava/lang/StringBuilder;)V"), (5, u "()V"), (10, u "()I"), (186, .methodref 2 344), (0, .nameAndType 345 156), (0, u "length"), (3, .class_ 350), (0, u "java/lang/Appendable"), (0, .class_ 352), (0, u "java/io/Serializable"), (0, .class_ 354), (0, u "java/lang/Comparable"), (0, .class_ 356), (0, u "java/lang/CharSequence"), (0, u "serialVersionUID"), (0, u "J"), (40, u "toString"), (0, u "()Ljava/lang/String;")] 21

def k11c0 : Code := { maxStack := 2, maxLocals := 1, code := jdk_67_method_1_code, exceptionTable := #[], attributes := #[] }
def k11m0 : Method := { name := "<init>", desc := "()V", sig := { parameters := [], returnType := none }, accessFlags := 1, code := some k11c0 }
def k11c1 : Code := { maxStack := 2, maxLocals := 2, code := jdk_67_method_7_code, exceptionTable := #[], attributes := #[] }
def k11m1 : Method := { name := "append", desc := "(Ljava/lang/String;)Ljava/lang/StringBuilder;", sig := { parameters := [(.object "java/lang/String")], returnType := some (.object "java/lang/StringBuilder") }, accessFlags := 1, code := some k11c1 }
def k11c2 : Code := { maxStack := 3, maxLocals := 1, code := jdk_67_method_42_code, exceptionTable := #[], attributes := #[] }
def k11m2 : Method := { name := "toString", desc := "()Ljava/lang/String;", sig := { parameters := [], returnType := some (.object "java/lang/String") }, accessFlags := 1, code := some k11c2 }
def k11c3 : Code := { maxStack := 1, maxLocals := 1, code := jdk_67_method_93_code, exceptionTable := #[], attributes := #[] }
def k11m3 : Method := { name := "length", desc := "()I", sig := { parameters := [], returnType := some .int }, accessFlags := 4161, code := some k11c3 }
/-- java/lang/StringBuilder -/
def k11 : Class := { plain "java/lang/StringBuilder" (some 10) with
  accessFlags := 49
  interfaces := #[9, 2, 3, 4]
  cf := some (fileOf pool11 24 #[] #[{ accessFlags := 1, nameIndex := 5, descriptorIndex := 145, attributes := #[] }, { accessFlags := 1, nameIndex := 27, descriptorIndex := 28, attributes := #[] }, { accessFlags := 1, nameIndex := 399, descriptorIndex := 400, attributes := #[] }, { accessFlags := 4161, nameIndex := 345, descriptorIndex := 156, attributes := #[] }] 49 2 #[349, 351, 353, 355] #[{ accessFlags := 24, nameIndex := 357, descriptorIndex := 358, attributes := #[] }])
  fields := #[{ name := "serialVersionUID", type := .long, accessFlags := 24, slot := 0, constantValue := 0 }]
  methods := #[k11m0, k11m1, k11m2, k11m3]
  instanceTypes := #[(.array .byte), .byte, .boolean, .int]
  staticTypes := #[.long]
  resolved := Array.replicate 422 none
  statics := none }

def pool12 : Array CpInfo := pool [(2, .class_ 4), (1, u "java/lang/Object"), (0, u "<init>"), (0, u "()V"), (1, .class_ 10), (1, u "java/lang/System"), (0, u "allowSecurityManager"), (0, u "I"), (16, u "cons"), (0, u "Ljava/io/Console;"), (77, .class_ 110), (1, u "java/lang/System$CallersHolder"), (43, u "initialErrStream"), (0, u "Ljava/io/PrintStream;"), (19, u "security"), (0, u "Ljava/lang/SecurityManager;"), (31, .class_ 209), (0, u "java/lang/System$1"), (7, u "props"), (0, u "Ljava/util/Properties;"), (2, u "lineSeparator"), (0, u "Ljava/lang/String;"), (96, .class_ 321), (1, u "java/lang/System$LoggerFinder"), (5, .class_ 328), (0, u "java/lang/System$Logger"), (67, u "err"), (2, u "out"), (91, u "notSupportedJnuEncoding"), (15, u "in"), (17, u "initialIn"), (0, u "Ljava/io/InputStream;"), (35, u "bootLayer"), (0, u "Ljava/lang/ModuleLayer;"), (99, .class_ 664), (0, u "java/lang/System$2"), (9, u "NEVER"), (2, u "MAYBE"), (49, u "arraycopy"), (0, u "(Ljava/lang/Object;ILjava/lang/Object;II)V"), (72, .class_ 802), (0, u "java/lang/System$Logger$Level")] 31

def k12m0 : Method := { name := "<init>", desc := "()V", sig := { parameters := [], returnType := none }, accessFlags := 2, code := none }
def k12m1 : Method := { name := "arraycopy", desc := "(Ljava/lang/Object;ILjava/lang/Object;II)V", sig := { parameters := [(.object "java/lang/Object"), .int, (.object "java/lang/Object"), .int, .int], returnType := none }, accessFlags := 265, code := none }
/-- java/lang/System -/
def k12 : Class := { plain "java/lang/System" (some 0) with
  accessFlags := 49
  interfaces := #[]
  cf := some (fileOf pool12 8 #[.nestMembers #[319, 327, 801, 108, 663, 208]] #[{ accessFlags := 2, nameIndex := 5, descriptorIndex := 6, attributes := #[] }, { accessFlags := 265, nameIndex := 727, descriptorIndex := 728, attributes := #[] }] 49 2 #[] #[{ accessFlags := 25, nameIndex := 507, descriptorIndex := 526, attributes := #[] }, { accessFlags := 25, nameIndex := 399, descriptorIndex := 155, attributes := #[] }, { accessFlags := 25, nameIndex := 396, descriptorIndex := 155, attributes := #[] }, { accessFlags := 10, nameIndex := 525, descriptorIndex := 526, attributes := #[] }, { accessFlags := 26, nameIndex := 674, descriptorIndex := 12, attributes := #[] }, { accessFlags := 26, nameIndex := 677, descriptorIndex := 12, attributes := #[] }, { accessFlags := 10, nameIndex := 11, descriptorIndex := 12, attributes := #[] }, { accessFlags := 74, nameIndex := 175, descriptorIndex := 176, attributes := #[] }, { accessFlags := 10, nameIndex := 491, descriptorIndex := 222, attributes := #[] }, { accessFlags := 74, nameIndex := 29, descriptorIndex := 30, attributes := #[] }, { accessFlags := 74, nameIndex := 154, descriptorIndex := 155, attributes := #[] }, { accessFlags := 10, nameIndex := 217, descriptorIndex := 218, attributes := #[] }, { accessFlags := 10, nameIndex := 221, descriptorIndex := 222, attributes := #[] }, { accessFlags := 8, nameIndex := 562, descriptorIndex := 563, attributes := #[] }])
  fields := #[{ name := "in", type := (.object "java/io/InputStream"), accessFlags := 25, slot := 0, constantValue := 0 }, { name := "out", type := (.object "java/io/PrintStream"), accessFlags := 25, slot := 1, constantValue := 0 }, { name := "err", type := (.object "java/io/PrintStream"), accessFlags := 25, slot := 2, constantValue := 0 }, { name := "initialIn", type := (.object "java/io/InputStream"), accessFlags := 10, slot := 3, constantValue := 0 }, { name := "NEVER", type := .int, accessFlags := 26, slot := 4, constantValue := 0 }, { name := "MAYBE", type := .int, accessFlags := 26, slot := 5, constantValue := 0 }, { name := "allowSecurityManager", type := .int, accessFlags := 10, slot := 6, constantValue := 0 }, { name := "security", type := (.object "java/lang/SecurityManager"), accessFlags := 74, slot := 7, constantValue := 0 }, { name := "notSupportedJnuEncoding", type := (.object "java/lang/String"), accessFlags := 10, slot := 8, constantValue := 0 }, { name := "cons", type := (.object "java/io/Console"), accessFlags := 74, slot := 9, constantValue := 0 }, { name := "initialErrStream", type := (.object "java/io/PrintStream"), accessFlags := 74, slot := 10, constantValue := 0 }, { name := "props", type := (.object "java/util/Properties"), accessFlags := 10, slot := 11, constantValue := 0 }, { name := "lineSeparator", type := (.object "java/lang/String"), accessFlags := 10, slot := 12, constantValue := 0 }, { name := "bootLayer", type := (.object "java/lang/ModuleLayer"), accessFlags := 8, slot := 13, constantValue := 0 }]
  methods := #[k12m0, k12m1]
  instanceTypes := #[]
  staticTypes := #[(.object "java/io/InputStream"), (.object "java/io/PrintStream"), (.object "java/io/PrintStream"), (.object "java/io/InputStream"), .int, .int, .int, (.object "java/lang/SecurityManager"), (.object "java/lang/String"), (.object "java/io/Console"), (.object "java/io/PrintStream"), (.object "java/util/Properties"), (.object "java/lang/String"), (.object "java/lang/ModuleLayer")]
  resolved := Array.replicate 834 none
  statics := none }

def pool13 : Array CpInfo := pool [(2, .class_ 4), (1, u "java/lang/Object"), (0, u "<init>"), (0, u "()V"), (7, .class_ 16), (1, u "java/util/Arrays"), (57, .class_ 76), (1, u "java/util/Arrays$NaturalOrder"), (32, u "()Ljava/lang/Object;"), (3, .class_ 115), (1, u "java/util/Arrays$LegacyMergeSort"), (1, u "Z"), (10, .nameAndType 129 109), (0, u "clone"), (9, u "copyOfRange"), (10, .methodref 151 152), (0, .class_ 153), (0, .nameAndType 154 155), (0, u "java/lang/System"), (0, u "arraycopy"), (0, u "(Ljava/lang/Object;ILjava/lang/Object;II)V"), (146, u "copyOf"), (1, .methodref 305 306), (0, .class_ 307), (0, .nameAndType 308 309), (0, u "java/lang/Math"), (0, u "min"), (0, u "(II)I"), (0, .methodref 311 128), (0, .class_ 312), (0, u "[B"), (26, .methodref 14 340), (0, .nameAndType 341 342), (0, u "copyOfRangeByte"), (0, u "([BII)[B"), (0, .methodref 14 344), (0, .nameAndType 345 346), (0, u "checkLength"), (0, u "(II)V"), (28, .class_ 376), (0, u "java/util/Arrays$ArrayList"), (68, u "$assertionsDisabled"), (269, u "MIN_ARRAY_SORT_GRAN"), (0, u "I"), (2, u "INSERTIONSORT_THRESHOLD"), (149, u "([BI)[B"), (105, .class_ 976), (0, u "java/util/Arrays$ArrayItr")] 52

def k13m0 : Method := { name := "<init>", desc := "()V", sig := { parameters := [], returnType := none }, accessFlags := 2, code := none }
def k13c1 : Code := { maxStack := 6, maxLocals := 3, code := jdk_65_method_121_code, exceptionTable := #[], attributes := #[] }
def k13m1 : Method := { name := "copyOf", desc := "([BI)[B", sig := { parameters := [(.array .byte), .int], returnType := some (.array .byte) }, accessFlags := 9, code := some k13c1 }
def k13c2 : Code := { maxStack := 4, maxLocals := 2, code := jdk_65_method_131_code, exceptionTable := #[], attributes := #[] }
def k13m2 : Method := { name := "checkLength", desc := "(II)V", sig := { parameters := [.int, .int], returnType := none }, accessFlags := 10, code := some k13c2 }
def k13c3 : Code := { maxStack := 3, maxLocals := 3, code := jdk_65_method_132_code, exceptionTable := #[], attributes := #[] }
def k13m3 : Method := { name := "copyOfRange", desc := "([BII)[B", sig := { parameters := [(.array .byte), .int, .int], returnType := some (.array .byte) }, accessFlags := 9, code := some k13c3 }
def k13c4 : Code := { maxStack := 6, maxLocals := 5, code := jdk_65_method_133_code, exceptionTable := #[], attributes := #[] }
def k13m4 : Method := { name := "copyOfRangeByte", desc := "([BII)[B", sig := { parameters := [(.array .byte), .int, .int], returnType := some (.array .byte) }, accessFlags := 10, code := some k13c4 }
/-- java/util/Arrays -/
def k13 : Class := { plain "java/util/Arrays" (some 0) with
  accessFlags := 49
  interfaces := #[]
  cf := some (fileOf pool13 14 #[.nestMembers #[975, 375, 113, 74]] #[{ accessFlags := 2, nameIndex := 5, descriptorIndex := 6, attributes := #[] }, { accessFlags := 9, nameIndex := 302, descriptorIndex := 869, attributes := #[] }, { accessFlags := 10, nameIndex := 345, descriptorIndex := 346, attributes := #[] }, { accessFlags := 9, nameIndex := 139, descriptorIndex := 342, attributes := #[] }, { accessFlags := 10, nameIndex := 341, descriptorIndex := 342, attributes := #[] }] 49 2 #[] #[{ accessFlags := 26, nameIndex := 715, descriptorIndex := 716, attributes := #[] }, { accessFlags := 26, nameIndex := 719, descriptorIndex := 716, attributes := #[] }, { accessFlags := 4120, nameIndex := 445, descriptorIndex := 117, attributes := #[] }])
  fields := #[{ name := "MIN_ARRAY_SORT_GRAN", type := .int, accessFlags := 26, slot := 0, constantValue := 0 }, { name := "INSERTIONSORT_THRESHOLD", type := .int, accessFlags := 26, slot := 1, constantValue := 0 }, { name := "$assertionsDisabled", type := .boolean, accessFlags := 4120, slot := 2, constantValue := 0 }]
  methods := #[k13m0, k13m1, k13m2, k13m3, k13m4]
  instanceTypes := #[]
  staticTypes := #[.int, .int, .boolean]
  resolved := Array.replicate 1029 none
  statics := none }

def pool14 : Array CpInfo := pool [(1, .class_ 2), (0, u "java/lang/Math"), (1, .class_ 6), (1, u "java/lang/Object"), (0, u "<init>"), (0, u "()V"), (89, .class_ 100), (1, u "java/lang/Math$RandomNumberGeneratorHolder"), (71, u "negativeZeroFloatBits"), (0, u "J"), (2, u "negativeZeroDoubleBits"), (21, u "max"), (2, u "min"), (43, u "$assertionsDisabled"), (0, u "Z"), (88, u "(II)I"), (2, u "twoToTheDoubleScaleDown"), (0, u "D"), (4, u "twoToTheDoubleScaleUp"), (9, u "E"), (3, u "PI"), (2, u "TAU"), (2, u "DEGREES_TO_RADIANS"), (0, u "RADIANS_TO_DEGREES")] 94

def k14m0 : Method := { name := "<init>", desc := "()V", sig := { parameters := [], returnType := none }, accessFlags := 2, code := none }
def k14c1 : Code := { maxStack := 2, maxLocals := 2, code := jdk_29_method_65_code, exceptionTable := #[], attributes := #[] }
def k14m1 : Method := { name := "max", desc := "(II)I", sig := { parameters := [.int, .int], returnType := some .int }, accessFlags := 9, code := some k14c1 }
def k14c2 : Code := { maxStack := 2, maxLocals := 2, code := jdk_29_method_69_code, exceptionTable := #[], attributes := #[] }
def k14m2 : Method := { name := "min", desc := "(II)I", sig := { parameters := [.int, .int], returnType := some .int }, accessFlags := 9, code := some k14c2 }
/-- java/lang/Math -/
def k14 : Class := { plain "java/lang/Math" (some 0) with
  accessFlags := 49
  interfaces := #[]
  cf := some (fileOf pool14 1 #[.nestMembers #[98]] #[{ accessFlags := 2, nameIndex := 7, descriptorIndex := 8, attributes := #[] }, { accessFlags := 9, nameIndex := 198, descriptorIndex := 335, attributes := #[] }, { accessFlags := 9, nameIndex := 201, descriptorIndex := 335, attributes := #[] }] 49 4 #[] #[{ accessFlags := 25, nameIndex := 354, descriptorIndex := 339, attributes := #[] }, { accessFlags := 25, nameIndex := 358, descriptorIndex := 339, attributes := #[] }, { accessFlags := 25, nameIndex := 361, descriptorIndex := 339, attributes := #[] }, { accessFlags := 26, nameIndex := 364, descriptorIndex := 339, attributes := #[] }, { accessFlags := 26, nameIndex := 365, descriptorIndex := 339, attributes := #[] }, { accessFlags := 26, nameIndex := 172, descriptorIndex := 173, attributes := #[] }, { accessFlags := 26, nameIndex := 176, descriptorIndex := 173, attributes := #[] }, { accessFlags := 8, nameIndex := 344, descriptorIndex := 339, attributes := #[] }, { accessFlags := 8, nameIndex := 338, descriptorIndex := 339, attributes := #[] }, { accessFlags := 4120, nameIndex := 245, descriptorIndex := 246, attributes := #[] }])
  fields := #[{ name := "E", type := .double, accessFlags := 25, slot := 0, constantValue := 0 }, { name := "PI", type := .double, accessFlags := 25, slot := 1, constantValue := 0 }, { name := "TAU", type := .double, accessFlags := 25, slot := 2, constantValue := 0 }, { name := "DEGREES_TO_RADIANS", type := .double, accessFlags := 26, slot := 3, constantValue := 0 }, { name := "RADIANS_TO_DEGREES", type := .double, accessFlags := 26, slot := 4, constantValue := 0 }, { name := "negativeZeroFloatBits", type := .long, accessFlags := 26, slot := 5, constantValue := 0 }, { name := "negativeZeroDoubleBits", type := .long, accessFlags := 26, slot := 6, constantValue := 0 }, { name := "twoToTheDoubleScaleUp", type := .double, accessFlags := 8, slot := 7, constantValue := 0 }, { name := "twoToTheDoubleScaleDown", type := .double, accessFlags := 8, slot := 8, constantValue := 0 }, { name := "$assertionsDisabled", type := .boolean, accessFlags := 4120, slot := 9, constantValue := 0 }]
  methods := #[k14m0, k14m1, k14m2]
  instanceTypes := #[]
  staticTypes := #[.double, .double, .double, .double, .double, .long, .long, .double, .double, .boolean]
  resolved := Array.replicate 460 none
  statics := none }

def pool15 : Array CpInfo := pool [(2, .class_ 4), (1, u "java/lang/Object"), (0, u "<init>"), (0, u "()V"), (17, .class_ 26), (1, u "jdk/internal/util/Preconditions"), (20, u "checkFromToIndex"), (7, .class_ 56), (0, u "jdk/internal/util/Preconditions$4"), (57, .class_ 115), (0, u "jdk/internal/util/Preconditions$1"), (7, u "SIOOBE_FORMATTER"), (0, u "Ljava/util/function/BiFunction;"), (0, .class_ 126), (0, u "jdk/internal/util/Preconditions$2"), (3, u "AIOOBE_FORMATTER"), (0, .class_ 132), (0, u "jdk/internal/util/Preconditions$3"), (3, u "IOOBE_FORMATTER"), (46, u "(IIILjava/util/function/BiFunction;)I")] 10

def k15m0 : Method := { name := "<init>", desc := "()V", sig := { parameters := [], returnType := none }, accessFlags := 1, code := none }
def k15c1 : Code := { maxStack := 4, maxLocals := 4, code := jdk_41_method_12_code, exceptionTable := #[], attributes := #[] }
def k15m1 : Method := { name := "checkFromToIndex", desc := "(IIILjava/util/function/BiFunction;)I", sig := { parameters := [.int, .int, .int, (.object "java/util/function/BiFunction")], returnType := some .int }, accessFlags := 9, code := some k15c1 }
/-- jdk/internal/util/Preconditions -/
def k15 : Class := { plain "jdk/internal/util/Preconditions" (some 0) with
  accessFlags := 33
  interfaces := #[]
  cf := some (fileOf pool15 24 #[.nestMembers #[55, 131, 125, 114]] #[{ accessFlags := 1, nameIndex := 5, descriptorIndex := 6, attributes := #[] }, { accessFlags := 9, nameIndex := 47, descriptorIndex := 183, attributes := #[] }] 33 2 #[] #[{ accessFlags := 25, nameIndex := 123, descriptorIndex := 124, attributes := #[] }, { accessFlags := 25, nameIndex := 130, descriptorIndex := 124, attributes := #[] }, { accessFlags := 25, nameIndex := 136, descriptorIndex := 124, attributes := #[] }])
  fields := #[{ name := "SIOOBE_FORMATTER", type := (.object "java/util/function/BiFunction"), accessFlags := 25, slot := 0, constantValue := 0 }, { name := "AIOOBE_FORMATTER", type := (.object "java/util/function/BiFunction"), accessFlags := 25, slot := 1, constantValue := 0 }, { name := "IOOBE_FORMATTER", type := (.object "java/util/function/BiFunction"), accessFlags := 25, slot := 2, constantValue := 0 }]
  methods := #[k15m0, k15m1]
  instanceTypes := #[]
  staticTypes := #[(.object "java/util/function/BiFunction"), (.object "java/util/function/BiFunction"), (.object "java/util/function/BiFunction")]
  resolved := Array.replicate 194 none
  statics := some 1 }

def pool16 : Array CpInfo := pool [(1, .class_ 2), (0, u "java/lang/String"), (1, .class_ 6), (1, u "java/lang/Object"), (0, u "<init>"), (0, u "()V"), (5, .class_ 16), (1, u "java/lang/StringLatin1"), (95, .methodref 1 113), (0, .nameAndType 7 114), (0, u "([BB)V"), (6, u "$assertionsDisabled"), (0, u "Z"), (8, .class_ 133), (1, u "java/util/Arrays"), (17, .string 152), (0, u ""), (43, u "newString"), (0, u "([BII)Ljava/lang/String;"), (23, .class_ 223), (1, u "java/lang/StringLatin1$LinesSpliterator"), (8, .methodref 131 233), (0, .nameAndType 234 235), (0, u "copyOfRange"), (0, u "([BII)[B"), (45, u "equals"), (0, u "([B[B)Z"), (107, .class_ 391), (0, u "java/lang/StringLatin1$CharsSpliterator")] 3

def k16m0 : Method := { name := "<init>", desc := "()V", sig := { parameters := [], returnType := none }, accessFlags := 0, code := none }
def k16c1 : Code := { maxStack := 3, maxLocals := 3, code := jdk_43_method_13_code, exceptionTable := #[], attributes := #[] }
def k16m1 : Method := { name := "equals", desc := "([B[B)Z", sig := { parameters := [(.array .byte), (.array .byte)], returnType := some .boolean }, accessFlags := 9, code := some k16c1 }
def k16c2 : Code := { maxStack := 6, maxLocals := 3, code := jdk_43_method_47_code, exceptionTable := #[], attributes := #[] }
def k16m2 : Method := { name := "newString", desc := "([BII)Ljava/lang/String;", sig := { parameters := [(.array .byte), .int, .int], returnType := some (.object "java/lang/String") }, accessFlags := 9, code := some k16c2 }
/-- java/lang/StringLatin1 -/
def k16 : Class := { plain "java/lang/StringLatin1" (some 0) with
  accessFlags := 48
  interfaces := #[]
  cf := some (fileOf pool16 14 #[.nestMembers #[390, 221]] #[{ accessFlags := 0, nameIndex := 7, descriptorIndex := 8, attributes := #[] }, { accessFlags := 9, nameIndex := 281, descriptorIndex := 282, attributes := #[] }, { accessFlags := 9, nameIndex := 196, descriptorIndex := 197, attributes := #[] }] 48 4 #[] #[{ accessFlags := 4120, nameIndex := 121, descriptorIndex := 122, attributes := #[] }])
  fields := #[{ name := "$assertionsDisabled", type := .boolean, accessFlags := 4120, slot := 0, constantValue := 0 }]
  methods := #[k16m0, k16m1, k16m2]
  instanceTypes := #[]
  staticTypes := #[.boolean]
  resolved := Array.replicate 395 none
  statics := none }

def pool17 : Array CpInfo := pool [(6, .class_ 8), (1, u "java/lang/Object"), (0, u "<init>"), (0, u "()V"), (1, .class_ 14), (1, u "java/lang/StringUTF16"), (31, u "$assertionsDisabled"), (0, u "Z"), (13, u "HI_BYTE_SHIFT"), (0, u "I"), (2, u "LO_BYTE_SHIFT"), (49, .methodref 12 116), (0, .nameAndType 117 118), (0, u "compress"), (0, u "([CI[BII)I"), (3, u "([CII)[B"), (138, u "coderFromArrayLen"), (0, u "([BI)B"), (106, .class_ 371), (1, u "java/lang/StringUTF16$LinesSpliterator"), (58, u "MAX_LENGTH"), (196, .class_ 628), (0, u "java/lang/StringUTF16$CodePointsSpliterator"), (0, .class_ 630), (0, u "java/lang/StringUTF16$CharsSpliterator")] 4

def k17m0 : Method := { name := "<init>", desc := "()V", sig := { parameters := [], returnType := none }, accessFlags := 0, code := none }
def k17c1 : Code := { maxStack := 2, maxLocals := 2, code := jdk_52_method_15_code, exceptionTable := #[], attributes := #[] }
def k17m1 : Method := { name := "coderFromArrayLen", desc := "([BI)B", sig := { parameters := [(.array .byte), .int], returnType := some .byte }, accessFlags := 8, code := some k17c1 }
def k17c2 : Code := { maxStack := 5, maxLocals := 6, code := jdk_52_method_16_code, exceptionTable := #[], attributes := #[] }
def k17m2 : Method := { name := "compress", desc := "([CII)[B", sig := { parameters := [(.array .char), .int, .int], returnType := some (.array .byte) }, accessFlags := 9, code := some k17c2 }
def k17c3 : Code := { maxStack := 3, maxLocals := 7, code := jdk_52_method_21_code, exceptionTable := #[], attributes := #[] }
def k17m3 : Method := { name := "compress", desc := "([CI[BII)I", sig := { parameters := [(.array .char), .int, (.array .byte), .int, .int], returnType := some .int }, accessFlags := 9, code := some k17c3 }
/-- java/lang/StringUTF16 -/
def k17 : Class := { plain "java/lang/StringUTF16" (some 0) with
  accessFlags := 48
  interfaces := #[]
  cf := some (fileOf pool17 12 #[.nestMembers #[627, 629, 369]] #[{ accessFlags := 0, nameIndex := 9, descriptorIndex := 10, attributes := #[] }, { accessFlags := 8, nameIndex := 261, descriptorIndex := 262, attributes := #[] }, { accessFlags := 9, nameIndex := 117, descriptorIndex := 122, attributes := #[] }, { accessFlags := 9, nameIndex := 117, descriptorIndex := 118, attributes := #[] }] 48 6 #[] #[{ accessFlags := 26, nameIndex := 61, descriptorIndex := 62, attributes := #[] }, { accessFlags := 26, nameIndex := 65, descriptorIndex := 62, attributes := #[] }, { accessFlags := 24, nameIndex := 430, descriptorIndex := 62, attributes := #[] }, { accessFlags := 4120, nameIndex := 46, descriptorIndex := 47, attributes := #[] }])
  fields := #[{ name := "HI_BYTE_SHIFT", type := .int, accessFlags := 26, slot := 0, constantValue := 0 }, { name := "LO_BYTE_SHIFT", type := .int, accessFlags := 26, slot := 1, constantValue := 0 }, { name := "MAX_LENGTH", type := .int, accessFlags := 24, slot := 2, constantValue := 0 }, { name := "$assertionsDisabled", type := .boolean, accessFlags := 4120, slot := 3, constantValue := 0 }]
  methods := #[k17m0, k17m1, k17m2, k17m3]
  instanceTypes := #[]
  staticTypes := #[.int, .int, .int, .boolean]
  resolved := Array.replicate 635 none
  statics := none }

def pool18 : Array CpInfo := pool [(9, u "<init>"), (6, .class_ 18), (1, u "java/lang/Object"), (0, u "()V"), (1, .class_ 23), (1, u "jdk/internal/util/ArraysSupport"), (0, u "LOG2_ARRAY_LONG_INDEX_SCALE"), (0, u "I"), (2, u "U"), (0, u "Ljdk/internal/misc/Unsafe;"), (8, u "BIG_ENDIAN"), (0, u "Z"), (8, u "LOG2_BYTE_BIT_SIZE"), (4, u "LOG2_ARRAY_INT_INDEX_SCALE"), (54, u "JLA"), (0, u "Ljdk/internal/access/JavaLangAccess;"), (11, u "LOG2_ARRAY_BOOLEAN_INDEX_SCALE"), (9, u "LOG2_ARRAY_BYTE_INDEX_SCALE"), (5, u "LOG2_ARRAY_CHAR_INDEX_SCALE"), (5, u "LOG2_ARRAY_SHORT_INDEX_SCALE"), (18, u "LOG2_ARRAY_FLOAT_INDEX_SCALE"), (24, u "LOG2_ARRAY_DOUBLE_INDEX_SCALE"), (6, .methodref 195 196), (0, .class_ 197), (0, .nameAndType 198 199), (0, u "java/lang/Math"), (0, u "max"), (0, u "(II)I"), (0, .integer 2147483639), (76, u "T_BOOLEAN"), (2, u "T_CHAR"), (1, u "T_FLOAT"), (1, u "T_DOUBLE"), (1, u "T_BYTE"), (1, u "T_SHORT"), (1, u "T_INT"), (1, u "T_LONG"), (1, u "SOFT_MAX_ARRAY_LENGTH"), (56, u "newLength"), (0, u "(III)I")] 25

def k18m0 : Method := { name := "<init>", desc := "()V", sig := { parameters := [], returnType := none }, accessFlags := 2, code := none }
def k18c1 : Code := { maxStack := 3, maxLocals := 4, code := jdk_48_method_27_code, exceptionTable := #[], attributes := #[] }
def k18m1 : Method := { name := "newLength", desc := "(III)I", sig := { parameters := [.int, .int, .int], returnType := some .int }, accessFlags := 9, code := some k18c1 }
/-- jdk/internal/util/ArraysSupport -/
def k18 : Class := { plain "jdk/internal/util/ArraysSupport" (some 0) with
  accessFlags := 33
  interfaces := #[]
  cf := some (fileOf pool18 21 #[] #[{ accessFlags := 2, nameIndex := 9, descriptorIndex := 19, attributes := #[] }, { accessFlags := 9, nameIndex := 351, descriptorIndex := 352, attributes := #[] }] 33 16 #[] #[{ accessFlags := 24, nameIndex := 28, descriptorIndex := 29, attributes := #[] }, { accessFlags := 26, nameIndex := 38, descriptorIndex := 39, attributes := #[] }, { accessFlags := 25, nameIndex := 121, descriptorIndex := 25, attributes := #[] }, { accessFlags := 25, nameIndex := 131, descriptorIndex := 25, attributes := #[] }, { accessFlags := 25, nameIndex := 137, descriptorIndex := 25, attributes := #[] }, { accessFlags := 25, nameIndex := 143, descriptorIndex := 25, attributes := #[] }, { accessFlags := 25, nameIndex := 53, descriptorIndex := 25, attributes := #[] }, { accessFlags := 25, nameIndex := 24, descriptorIndex := 25, attributes := #[] }, { accessFlags := 25, nameIndex := 162, descriptorIndex := 25, attributes := #[] }, { accessFlags := 25, nameIndex := 187, descriptorIndex := 25, attributes := #[] }, { accessFlags := 26, nameIndex := 48, descriptorIndex := 25, attributes := #[] }, { accessFlags := 25, nameIndex := 277, descriptorIndex := 25, attributes := #[] }, { accessFlags := 25, nameIndex := 280, descriptorIndex := 25, attributes := #[] }, { accessFlags := 25, nameIndex := 282, descriptorIndex := 25, attributes := #[] }, { accessFlags := 25, nameIndex := 284, descriptorIndex := 25, attributes := #[] }, { accessFlags := 25, nameIndex := 286, descriptorIndex := 25, attributes := #[] }, { accessFlags := 25, nameIndex := 288, descriptorIndex := 25, attributes := #[] }, { accessFlags := 25, nameIndex := 290, descriptorIndex := 25, attributes := #[] }, { accessFlags := 25, nameIndex := 292, descriptorIndex := 25, attributes := #[] }, { accessFlags := 26, nameIndex := 108, descriptorIndex := 109, attributes := #[] }, { accessFlags := 25, nameIndex := 294, descriptorIndex := 25, attributes := #[] }])
  fields := #[{ name := "U", type := (.object "jdk/internal/misc/Unsafe"), accessFlags := 24, slot := 0, constantValue := 0 }, { name := "BIG_ENDIAN", type := .boolean, accessFlags := 26, slot := 1, constantValue := 0 }, { name := "LOG2_ARRAY_BOOLEAN_INDEX_SCALE", type := .int, accessFlags := 25, slot := 2, constantValue := 0 }, { name := "LOG2_ARRAY_BYTE_INDEX_SCALE", type := .int, accessFlags := 25, slot := 3, constantValue := 0 }, { name := "LOG2_ARRAY_CHAR_INDEX_SCALE", type := .int, accessFlags := 25, slot := 4, constantValue := 0 }, { name := "LOG2_ARRAY_SHORT_INDEX_SCALE", type := .int, accessFlags := 25, slot := 5, constantValue := 0 }, { name := "LOG2_ARRAY_INT_INDEX_SCALE", type := .int, accessFlags := 25, slot := 6, constantValue := 0 }, { name := "LOG2_ARRAY_LONG_INDEX_SCALE", type := .int, accessFlags := 25, slot := 7, constantValue := 0 }, { name := "LOG2_ARRAY_FLOAT_INDEX_SCALE", type := .int, accessFlags := 25, slot := 8, constantValue := 0 }, { name := "LOG2_ARRAY_DOUBLE_INDEX_SCALE", type := .int, accessFlags := 25, slot := 9, constantValue := 0 }, { name := "LOG2_BYTE_BIT_SIZE", type := .int, accessFlags := 26, slot := 10, constantValue := 0 }, { name := "T_BOOLEAN", type := .int, accessFlags := 25, slot := 11, constantValue := 0 }, { name := "T_CHAR", type := .int, accessFlags := 25, slot := 12, constantValue := 0 }, { name := "T_FLOAT", type := .int, accessFlags := 25, slot := 13, constantValue := 0 }, { name := "T_DOUBLE", type := .int, accessFlags := 25, slot := 14, constantValue := 0 }, { name := "T_BYTE", type := .int, accessFlags := 25, slot := 15, constantValue := 0 }, { name := "T_SHORT", type := .int, accessFlags := 25, slot := 16, constantValue := 0 }, { name := "T_INT", type := .int, accessFlags := 25, slot := 17, constantValue := 0 }, { name := "T_LONG", type := .int, accessFlags := 25, slot := 18, constantValue := 0 }, { name := "JLA", type := (.object "jdk/internal/access/JavaLangAccess"), accessFlags := 26, slot := 19, constantValue := 0 }, { name := "SOFT_MAX_ARRAY_LENGTH", type := .int, accessFlags := 25, slot := 20, constantValue := 0 }]
  methods := #[k18m0, k18m1]
  instanceTypes := #[]
  staticTypes := #[(.object "jdk/internal/misc/Unsafe"), .boolean, .int, .int, .int, .int, .int, .int, .int, .int, .int, .int, .int, .int, .int, .int, .int, .int, .int, (.object "jdk/internal/access/JavaLangAccess"), .int]
  resolved := Array.replicate 378 none
  statics := none }

def pool19 : Array CpInfo := pool [(1, .class_ 2), (0, u "java/lang/Cloneable"), (0, .class_ 4), (0, u "java/lang/Object")] 2

/-- java/lang/Cloneable -/
def k19 : Class := { plain "java/lang/Cloneable" (some 0) with
  accessFlags := 1537
  interfaces := #[]
  cf := some (fileOf pool19 1 #[] #[] 1537 3 #[] #[])
  fields := #[]
  methods := #[]
  instanceTypes := #[]
  staticTypes := #[]
  resolved := Array.replicate 7 none
  statics := none }

/-- the primitive byte -/
def k20 : Class := { plain "byte" none with kind := .primitive 'B', accessFlags := 0x411 }
/-- [B -/
def k21 : Class := { plain "[B" (some 0) with kind := .array 20 .byte, interfaces := #[19, 2], accessFlags := 1041 }

/-- the primitive char -/
def k22 : Class := { plain "char" none with kind := .primitive 'C', accessFlags := 0x411 }
/-- [C -/
def k23 : Class := { plain "[C" (some 0) with kind := .array 22 .char, interfaces := #[19, 2], accessFlags := 1041 }

/-- the primitive int -/
def k24 : Class := { plain "int" none with kind := .primitive 'I', accessFlags := 0x411 }
/-- [I -/
def k25 : Class := { plain "[I" (some 0) with kind := .array 24 .int, interfaces := #[19, 2], accessFlags := 1041 }

def heap : Heap := #[{ cls := 7, slots := #[.long 0, .int 1, .null, .int 0, .null, .int 0, .int 0], vm := .statics 7 },
  { cls := 15, slots := #[.null, .null, .null], vm := .statics 15 }]
def classes : Array Class := #[k0, k1, k2, k3, k4, k5, k6, k7, k8, k9, k10, k11, k12, k13, k14, k15, k16, k17, k18, k19, k20, k21, k22, k23, k24, k25]
def interned : List (Array UInt16 × Addr) := []
def slotsUsed : Nat := 10
def theMethod : MethodId := ⟨1, 3⟩
def args0 : Array Value := #[.int 3, .int 7, .int 5]
def aboutOver (below : List Frame) : State where
  vm := { classes := classes, interned := interned.toArray }
  heap := heap
  slotsUsed := slotsUsed
  threads := #[{ frames := .invoking theMethod args0 :: below }]
def below0 : List Frame := [.native { method := ⟨0, 0⟩, args := #[] }]
def about1 : State := aboutOver below0
def p0 : Program := .bare "" "" ""
def e0 : Env := launch0.env 0 0 0
theorem w_frames : about1.frames = Frame.invoking theMethod args0 :: below0 := rfl
set_option maxRecDepth 65536 in
theorem w_args : argsFit about1.vm theMethod args0 = true := by decide +kernel
set_option maxRecDepth 65536 in
theorem w_heap : heapFits about1 = true := by decide +kernel
set_option maxRecDepth 65536 in
theorem w_runnable : about1.curStatus? = some .runnable := by decide +kernel
set_option maxRecDepth 65536 in
theorem w_alone : about1.alone = true := by decide +kernel
set_option maxRecDepth 65536 in
theorem w_named : about1.methodNamed? x = some theMethod := by decide +kernel
set_option maxRecDepth 65536 in
theorem w_hears : about1.hears theMethod below0 = true := by decide +kernel
set_option maxRecDepth 65536 in
theorem w_ripe : about1.ripe theMethod args0 below0 = true := by decide +kernel
theorem w_running : about1.status = .running := rfl
set_option maxRecDepth 65536 in
theorem w_room : about1.hasRoom e0.platform room_1 = true :=
  launch0.hasRoom_least _ room_1 (by decide +kernel) (by decide +kernel) (by decide +kernel) (by decide +kernel) (by decide +kernel) (by decide +kernel)
theorem allAtoms_all (ts : List Jvm.Cond) (a : Array Jvm.Value) (st : Jvm.State) : (allAtoms ts).before a st = ts.all (fun c => c.before a st) := by
  induction ts with
  | nil => rfl
  | cons c t ih =>
    show (Jvm.Cond.and c (allAtoms t)).before a st = _
    rw [Jvm.Cond.before_and, ih, List.all_cons]
def words1 : List Jvm.Cond := Jvm.Cond.code x code maxLocals ret :: tables_1
/-- a 'code' word, met by the world's own term for the bytes: nothing is compared byte by byte -/
theorem code_word {y : MethodName} {bytes : ByteArray} {mx : Nat} {rt : Option FieldType} {a : Array Value} {s : State} {m : MethodId} {meth : Method} {c : Code} (h1 : s.methodNamed? y = some m) (h2 : s.vm.method? m = some meth) (h3 : meth.code = some c) (h4 : c.code = bytes)
    (h5 : (c.maxLocals == mx && c.exceptionTable.isEmpty && decide (c.maxStack ≤ mostOperands) && decide (meth.sig.returnType = rt) && !meth.locks && decide (parseMethodDescriptor y.desc = some meth.sig)) = true) : (Jvm.Cond.code y bytes mx rt).before a s = true := by
  simp only [Bool.and_eq_true, beq_iff_eq, Bool.not_eq_true', decide_eq_true_eq] at h5
  obtain ⟨⟨⟨⟨⟨g1, g2⟩, g3⟩, g4⟩, g5⟩, g6⟩ := h5
  simp [Cond.before, Cond.holds, Cond.value, h1, h2, h3, h4, g1, g2, g3, g4, g5, g6]
def isCode : Jvm.Cond → Bool
  | .code _ _ _ _ => true
  | _ => false
theorem all_split {L : List Jvm.Cond} {P : Jvm.Cond → Bool} (h1 : L.all (fun c => isCode c || P c) = true) (h2 : ∀ c ∈ L.filter isCode, P c = true) : L.all P = true := by
  refine List.all_eq_true.mpr fun c hc => ?_
  have h := List.all_eq_true.mp h1 c hc
  rcases Bool.eq_false_or_eq_true (isCode c) with hi | hi
  · exact h2 c (List.mem_filter.mpr ⟨hc, hi⟩)
  · simpa [hi] using h
set_option maxRecDepth 65536 in
theorem w_c0 : (Jvm.Cond.code x code maxLocals ret).before args0 about1 = true := code_word (m := ⟨1, 3⟩) (meth := k1m3) (c := k1c3) (by decide +kernel) rfl rfl rfl (by decide +kernel)
set_option maxRecDepth 65536 in
theorem w_c1 : (Jvm.Cond.code ({ cls := "com/example/room_divider/roomdivider/isolation/GeneratedNamesOwnerPinLaw", name := "mk", desc := "(III)Ljava/lang/String;" } : Jvm.MethodName) method_3_code (8 : Nat) (Option.some (Jvm.ClassFile.FieldType.object "java/lang/String"))).before args0 about1 = true := code_word (m := ⟨1, 2⟩) (meth := k1m2) (c := k1c2) (by decide +kernel) rfl rfl rfl (by decide +kernel)
set_option maxRecDepth 65536 in
theorem w_c2 : (Jvm.Cond.code ({ cls := "com/example/room_divider/roomdivider/isolation/GeneratedNamesOwnerPinLaw", name := "ch", desc := "(II)C" } : Jvm.MethodName) method_2_code (2 : Nat) (Option.some Jvm.ClassFile.FieldType.char)).before args0 about1 = true := code_word (m := ⟨1, 1⟩) (meth := k1m1) (c := k1c1) (by decide +kernel) rfl rfl rfl (by decide +kernel)
set_option maxRecDepth 65536 in
theorem w_c3 : (Jvm.Cond.code ({ cls := "java/lang/String", name := "<init>", desc := "([C)V" } : Jvm.MethodName) jdk_42_method_3_code (2 : Nat) (Option.none : Option Jvm.ClassFile.FieldType)).before args0 about1 = true := code_word (m := ⟨7, 1⟩) (meth := k7m1) (c := k7c1) (by decide +kernel) rfl rfl rfl (by decide +kernel)
set_option maxRecDepth 65536 in
theorem w_c4 : (Jvm.Cond.code ({ cls := "java/lang/String", name := "<init>", desc := "([CIILjava/lang/Void;)V" } : Jvm.MethodName) jdk_42_method_149_code (6 : Nat) (Option.none : Option Jvm.ClassFile.FieldType)).before args0 about1 = true := code_word (m := ⟨7, 7⟩) (meth := k7m7) (c := k7c7) (by decide +kernel) rfl rfl rfl (by decide +kernel)
set_option maxRecDepth 65536 in
theorem w_c5 : (Jvm.Cond.code ({ cls := "java/lang/Object", name := "<init>", desc := "()V" } : Jvm.MethodName) object_method_1_code (1 : Nat) (Option.none : Option Jvm.ClassFile.FieldType)).before args0 about1 = true := code_word (m := ⟨0, 0⟩) (meth := k0m0) (c := k0c0) (by decide +kernel) rfl rfl rfl (by decide +kernel)
set_option maxRecDepth 65536 in
theorem w_c6 : (Jvm.Cond.code ({ cls := "com/example/room_divider/roomdivider/isolation/GeneratedNames", name := "companion", desc := "(Ljava/lang/String;)Ljava/lang/String;" } : Jvm.MethodName) prog_2_method_2_code (1 : Nat) (Option.some (Jvm.ClassFile.FieldType.object "java/lang/String"))).before args0 about1 = true := code_word (m := ⟨8, 1⟩) (meth := k8m1) (c := k8c1) (by decide +kernel) rfl rfl rfl (by decide +kernel)
set_option maxRecDepth 65536 in
theorem w_c7 : (Jvm.Cond.code ({ cls := "java/lang/StringBuilder", name := "<init>", desc := "()V" } : Jvm.MethodName) jdk_67_method_1_code (1 : Nat) (Option.none : Option Jvm.ClassFile.FieldType)).before args0 about1 = true := code_word (m := ⟨11, 0⟩) (meth := k11m0) (c := k11c0) (by decide +kernel) rfl rfl rfl (by decide +kernel)
set_option maxRecDepth 65536 in
theorem w_c8 : (Jvm.Cond.code ({ cls := "java/lang/AbstractStringBuilder", name := "<init>", desc := "(I)V" } : Jvm.MethodName) jdk_68_method_2_code (2 : Nat) (Option.none : Option Jvm.ClassFile.FieldType)).before args0 about1 = true := code_word (m := ⟨10, 1⟩) (meth := k10m1) (c := k10c1) (by decide +kernel) rfl rfl rfl (by decide +kernel)
set_option maxRecDepth 65536 in
theorem w_c9 : (Jvm.Cond.code ({ cls := "java/lang/StringBuilder", name := "append", desc := "(Ljava/lang/String;)Ljava/lang/StringBuilder;" } : Jvm.MethodName) jdk_67_method_7_code (2 : Nat) (Option.some (Jvm.ClassFile.FieldType.object "java/lang/StringBuilder"))).before args0 about1 = true := code_word (m := ⟨11, 1⟩) (meth := k11m1) (c := k11c1) (by decide +kernel) rfl rfl rfl (by decide +kernel)
set_option maxRecDepth 65536 in
theorem w_c10 : (Jvm.Cond.code ({ cls := "java/lang/AbstractStringBuilder", name := "append", desc := "(Ljava/lang/String;)Ljava/lang/AbstractStringBuilder;" } : Jvm.MethodName) jdk_68_method_22_code (3 : Nat) (Option.some (Jvm.ClassFile.FieldType.object "java/lang/AbstractStringBuilder"))).before args0 about1 = true := code_word (m := ⟨10, 5⟩) (meth := k10m5) (c := k10c5) (by decide +kernel) rfl rfl rfl (by decide +kernel)
set_option maxRecDepth 65536 in
theorem w_c11 : (Jvm.Cond.code ({ cls := "java/lang/String", name := "length", desc := "()I" } : Jvm.MethodName) jdk_42_method_54_code (1 : Nat) (Option.some Jvm.ClassFile.FieldType.int)).before args0 about1 = true := code_word (m := ⟨7, 3⟩) (meth := k7m3) (c := k7c3) (by decide +kernel) rfl rfl rfl (by decide +kernel)
set_option maxRecDepth 65536 in
theorem w_c12 : (Jvm.Cond.code ({ cls := "java/lang/String", name := "coder", desc := "()B" } : Jvm.MethodName) jdk_42_method_152_code (1 : Nat) (Option.some Jvm.ClassFile.FieldType.byte)).before args0 about1 = true := code_word (m := ⟨7, 10⟩) (meth := k7m10) (c := k7c10) (by decide +kernel) rfl rfl rfl (by decide +kernel)
set_option maxRecDepth 65536 in
theorem w_c13 : (Jvm.Cond.code ({ cls := "java/lang/AbstractStringBuilder", name := "ensureCapacityInternal", desc := "(I)V" } : Jvm.MethodName) jdk_68_method_9_code (3 : Nat) (Option.none : Option Jvm.ClassFile.FieldType)).before args0 about1 = true := code_word (m := ⟨10, 3⟩) (meth := k10m3) (c := k10c3) (by decide +kernel) rfl rfl rfl (by decide +kernel)
set_option maxRecDepth 65536 in
theorem w_c14 : (Jvm.Cond.code ({ cls := "java/lang/AbstractStringBuilder", name := "putStringAt", desc := "(ILjava/lang/String;)V" } : Jvm.MethodName) jdk_68_method_73_code (3 : Nat) (Option.none : Option Jvm.ClassFile.FieldType)).before args0 about1 = true := code_word (m := ⟨10, 9⟩) (meth := k10m9) (c := k10c9) (by decide +kernel) rfl rfl rfl (by decide +kernel)
set_option maxRecDepth 65536 in
theorem w_c15 : (Jvm.Cond.code ({ cls := "java/lang/AbstractStringBuilder", name := "inflateIfNeededFor", desc := "(Ljava/lang/String;)V" } : Jvm.MethodName) jdk_68_method_71_code (2 : Nat) (Option.none : Option Jvm.ClassFile.FieldType)).before args0 about1 = true := code_word (m := ⟨10, 8⟩) (meth := k10m8) (c := k10c8) (by decide +kernel) rfl rfl rfl (by decide +kernel)
set_option maxRecDepth 65536 in
theorem w_c16 : (Jvm.Cond.code ({ cls := "java/lang/String", name := "getBytes", desc := "([BIB)V" } : Jvm.MethodName) jdk_42_method_147_code (4 : Nat) (Option.none : Option Jvm.ClassFile.FieldType)).before args0 about1 = true := code_word (m := ⟨7, 6⟩) (meth := k7m6) (c := k7c6) (by decide +kernel) rfl rfl rfl (by decide +kernel)
set_option maxRecDepth 65536 in
theorem w_c17 : (Jvm.Cond.code ({ cls := "java/lang/StringBuilder", name := "toString", desc := "()Ljava/lang/String;" } : Jvm.MethodName) jdk_67_method_42_code (1 : Nat) (Option.some (Jvm.ClassFile.FieldType.object "java/lang/String"))).before args0 about1 = true := code_word (m := ⟨11, 2⟩) (meth := k11m2) (c := k11c2) (by decide +kernel) rfl rfl rfl (by decide +kernel)
set_option maxRecDepth 65536 in
theorem w_c18 : (Jvm.Cond.code ({ cls := "java/lang/String", name := "<init>", desc := "(Ljava/lang/StringBuilder;)V" } : Jvm.MethodName) jdk_42_method_53_code (2 : Nat) (Option.none : Option Jvm.ClassFile.FieldType)).before args0 about1 = true := code_word (m := ⟨7, 2⟩) (meth := k7m2) (c := k7c2) (by decide +kernel) rfl rfl rfl (by decide +kernel)
set_option maxRecDepth 65536 in
theorem w_c19 : (Jvm.Cond.code ({ cls := "java/lang/String", name := "<init>", desc := "(Ljava/lang/AbstractStringBuilder;Ljava/lang/Void;)V" } : Jvm.MethodName) jdk_42_method_150_code (5 : Nat) (Option.none : Option Jvm.ClassFile.FieldType)).before args0 about1 = true := code_word (m := ⟨7, 8⟩) (meth := k7m8) (c := k7c8) (by decide +kernel) rfl rfl rfl (by decide +kernel)
set_option maxRecDepth 65536 in
theorem w_c20 : (Jvm.Cond.code ({ cls := "java/lang/AbstractStringBuilder", name := "getValue", desc := "()[B" } : Jvm.MethodName) jdk_68_method_64_code (1 : Nat) (Option.some (Jvm.ClassFile.FieldType.array Jvm.ClassFile.FieldType.byte))).before args0 about1 = true := code_word (m := ⟨10, 6⟩) (meth := k10m6) (c := k10c6) (by decide +kernel) rfl rfl rfl (by decide +kernel)
set_option maxRecDepth 65536 in
theorem w_c21 : (Jvm.Cond.code ({ cls := "java/lang/StringBuilder", name := "length", desc := "()I" } : Jvm.MethodName) jdk_67_method_93_code (1 : Nat) (Option.some Jvm.ClassFile.FieldType.int)).before args0 about1 = true := code_word (m := ⟨11, 3⟩) (meth := k11m3) (c := k11c3) (by decide +kernel) rfl rfl rfl (by decide +kernel)
set_option maxRecDepth 65536 in
theorem w_c22 : (Jvm.Cond.code ({ cls := "java/lang/AbstractStringBuilder", name := "length", desc := "()I" } : Jvm.MethodName) jdk_68_method_6_code (1 : Nat) (Option.some Jvm.ClassFile.FieldType.int)).before args0 about1 = true := code_word (m := ⟨10, 2⟩) (meth := k10m2) (c := k10c2) (by decide +kernel) rfl rfl rfl (by decide +kernel)
set_option maxRecDepth 65536 in
theorem w_c23 : (Jvm.Cond.code ({ cls := "java/lang/AbstractStringBuilder", name := "isLatin1", desc := "()Z" } : Jvm.MethodName) jdk_68_method_68_code (1 : Nat) (Option.some Jvm.ClassFile.FieldType.boolean)).before args0 about1 = true := code_word (m := ⟨10, 7⟩) (meth := k10m7) (c := k10c7) (by decide +kernel) rfl rfl rfl (by decide +kernel)
set_option maxRecDepth 65536 in
theorem w_c24 : (Jvm.Cond.code ({ cls := "java/util/Arrays", name := "copyOfRange", desc := "([BII)[B" } : Jvm.MethodName) jdk_65_method_132_code (3 : Nat) (Option.some (Jvm.ClassFile.FieldType.array Jvm.ClassFile.FieldType.byte))).before args0 about1 = true := code_word (m := ⟨13, 3⟩) (meth := k13m3) (c := k13c3) (by decide +kernel) rfl rfl rfl (by decide +kernel)
set_option maxRecDepth 65536 in
theorem w_c25 : (Jvm.Cond.code ({ cls := "java/util/Arrays", name := "copyOfRangeByte", desc := "([BII)[B" } : Jvm.MethodName) jdk_65_method_133_code (5 : Nat) (Option.some (Jvm.ClassFile.FieldType.array Jvm.ClassFile.FieldType.byte))).before args0 about1 = true := code_word (m := ⟨13, 4⟩) (meth := k13m4) (c := k13c4) (by decide +kernel) rfl rfl rfl (by decide +kernel)
set_option maxRecDepth 65536 in
theorem w_c26 : (Jvm.Cond.code ({ cls := "java/util/Arrays", name := "checkLength", desc := "(II)V" } : Jvm.MethodName) jdk_65_method_131_code (2 : Nat) (Option.none : Option Jvm.ClassFile.FieldType)).before args0 about1 = true := code_word (m := ⟨13, 2⟩) (meth := k13m2) (c := k13c2) (by decide +kernel) rfl rfl rfl (by decide +kernel)
set_option maxRecDepth 65536 in
theorem w_c27 : (Jvm.Cond.code ({ cls := "java/lang/Math", name := "min", desc := "(II)I" } : Jvm.MethodName) jdk_29_method_69_code (2 : Nat) (Option.some Jvm.ClassFile.FieldType.int)).before args0 about1 = true := code_word (m := ⟨14, 2⟩) (meth := k14m2) (c := k14c2) (by decide +kernel) rfl rfl rfl (by decide +kernel)
set_option maxRecDepth 65536 in
theorem w_c28 : (Jvm.Cond.code ({ cls := "com/example/room_divider/roomdivider/isolation/GeneratedNames", name := "owner", desc := "(Ljava/lang/String;)Ljava/lang/String;" } : Jvm.MethodName) prog_2_method_4_code (1 : Nat) (Option.some (Jvm.ClassFile.FieldType.object "java/lang/String"))).before args0 about1 = true := code_word (m := ⟨8, 2⟩) (meth := k8m2) (c := k8c2) (by decide +kernel) rfl rfl rfl (by decide +kernel)
set_option maxRecDepth 65536 in
theorem w_c29 : (Jvm.Cond.code ({ cls := "java/lang/String", name := "substring", desc := "(II)Ljava/lang/String;" } : Jvm.MethodName) jdk_42_method_92_code (5 : Nat) (Option.some (Jvm.ClassFile.FieldType.object "java/lang/String"))).before args0 about1 = true := code_word (m := ⟨7, 5⟩) (meth := k7m5) (c := k7c5) (by decide +kernel) rfl rfl rfl (by decide +kernel)
set_option maxRecDepth 65536 in
theorem w_c30 : (Jvm.Cond.code ({ cls := "java/lang/String", name := "checkBoundsBeginEnd", desc := "(III)V" } : Jvm.MethodName) jdk_42_method_158_code (3 : Nat) (Option.none : Option Jvm.ClassFile.FieldType)).before args0 about1 = true := code_word (m := ⟨7, 12⟩) (meth := k7m12) (c := k7c12) (by decide +kernel) rfl rfl rfl (by decide +kernel)
set_option maxRecDepth 65536 in
theorem w_c31 : (Jvm.Cond.code ({ cls := "jdk/internal/util/Preconditions", name := "checkFromToIndex", desc := "(IIILjava/util/function/BiFunction;)I" } : Jvm.MethodName) jdk_41_method_12_code (4 : Nat) (Option.some Jvm.ClassFile.FieldType.int)).before args0 about1 = true := code_word (m := ⟨15, 1⟩) (meth := k15m1) (c := k15c1) (by decide +kernel) rfl rfl rfl (by decide +kernel)
set_option maxRecDepth 65536 in
theorem w_c32 : (Jvm.Cond.code ({ cls := "java/lang/String", name := "isLatin1", desc := "()Z" } : Jvm.MethodName) jdk_42_method_154_code (1 : Nat) (Option.some Jvm.ClassFile.FieldType.boolean)).before args0 about1 = true := code_word (m := ⟨7, 11⟩) (meth := k7m11) (c := k7c11) (by decide +kernel) rfl rfl rfl (by decide +kernel)
set_option maxRecDepth 65536 in
theorem w_c33 : (Jvm.Cond.code ({ cls := "java/lang/StringLatin1", name := "newString", desc := "([BII)Ljava/lang/String;" } : Jvm.MethodName) jdk_43_method_47_code (3 : Nat) (Option.some (Jvm.ClassFile.FieldType.object "java/lang/String"))).before args0 about1 = true := code_word (m := ⟨16, 2⟩) (meth := k16m2) (c := k16c2) (by decide +kernel) rfl rfl rfl (by decide +kernel)
set_option maxRecDepth 65536 in
theorem w_c34 : (Jvm.Cond.code ({ cls := "java/lang/String", name := "equals", desc := "(Ljava/lang/Object;)Z" } : Jvm.MethodName) jdk_42_method_66_code (3 : Nat) (Option.some Jvm.ClassFile.FieldType.boolean)).before args0 about1 = true := code_word (m := ⟨7, 4⟩) (meth := k7m4) (c := k7c4) (by decide +kernel) rfl rfl rfl (by decide +kernel)
set_option maxRecDepth 65536 in
theorem w_c35 : (Jvm.Cond.code ({ cls := "java/lang/StringLatin1", name := "equals", desc := "([B[B)Z" } : Jvm.MethodName) jdk_43_method_13_code (3 : Nat) (Option.some Jvm.ClassFile.FieldType.boolean)).before args0 about1 = true := code_word (m := ⟨16, 1⟩) (meth := k16m1) (c := k16c1) (by decide +kernel) rfl rfl rfl (by decide +kernel)
set_option maxRecDepth 65536 in
theorem w_c36 : (Jvm.Cond.code ({ cls := "java/lang/StringUTF16", name := "compress", desc := "([CII)[B" } : Jvm.MethodName) jdk_52_method_16_code (6 : Nat) (Option.some (Jvm.ClassFile.FieldType.array Jvm.ClassFile.FieldType.byte))).before args0 about1 = true := code_word (m := ⟨17, 2⟩) (meth := k17m2) (c := k17c2) (by decide +kernel) rfl rfl rfl (by decide +kernel)
set_option maxRecDepth 65536 in
theorem w_c37 : (Jvm.Cond.code ({ cls := "java/lang/StringUTF16", name := "compress", desc := "([CI[BII)I" } : Jvm.MethodName) jdk_52_method_21_code (7 : Nat) (Option.some Jvm.ClassFile.FieldType.int)).before args0 about1 = true := code_word (m := ⟨17, 3⟩) (meth := k17m3) (c := k17c3) (by decide +kernel) rfl rfl rfl (by decide +kernel)
set_option maxRecDepth 65536 in
theorem w_c38 : (Jvm.Cond.code ({ cls := "java/lang/StringUTF16", name := "coderFromArrayLen", desc := "([BI)B" } : Jvm.MethodName) jdk_52_method_15_code (2 : Nat) (Option.some Jvm.ClassFile.FieldType.byte)).before args0 about1 = true := code_word (m := ⟨17, 1⟩) (meth := k17m1) (c := k17c1) (by decide +kernel) rfl rfl rfl (by decide +kernel)
set_option maxRecDepth 65536 in
theorem w_c39 : (Jvm.Cond.code ({ cls := "java/lang/String", name := "<init>", desc := "([BB)V" } : Jvm.MethodName) jdk_42_method_151_code (3 : Nat) (Option.none : Option Jvm.ClassFile.FieldType)).before args0 about1 = true := code_word (m := ⟨7, 9⟩) (meth := k7m9) (c := k7c9) (by decide +kernel) rfl rfl rfl (by decide +kernel)
set_option maxRecDepth 65536 in
theorem w_c40 : (Jvm.Cond.code ({ cls := "java/lang/AbstractStringBuilder", name := "newCapacity", desc := "(I)I" } : Jvm.MethodName) jdk_68_method_10_code (6 : Nat) (Option.some Jvm.ClassFile.FieldType.int)).before args0 about1 = true := code_word (m := ⟨10, 4⟩) (meth := k10m4) (c := k10c4) (by decide +kernel) rfl rfl rfl (by decide +kernel)
set_option maxRecDepth 65536 in
theorem w_c41 : (Jvm.Cond.code ({ cls := "jdk/internal/util/ArraysSupport", name := "newLength", desc := "(III)I" } : Jvm.MethodName) jdk_48_method_27_code (4 : Nat) (Option.some Jvm.ClassFile.FieldType.int)).before args0 about1 = true := code_word (m := ⟨18, 1⟩) (meth := k18m1) (c := k18c1) (by decide +kernel) rfl rfl rfl (by decide +kernel)
set_option maxRecDepth 65536 in
theorem w_c42 : (Jvm.Cond.code ({ cls := "java/lang/Math", name := "max", desc := "(II)I" } : Jvm.MethodName) jdk_29_method_65_code (2 : Nat) (Option.some Jvm.ClassFile.FieldType.int)).before args0 about1 = true := code_word (m := ⟨14, 1⟩) (meth := k14m1) (c := k14c1) (by decide +kernel) rfl rfl rfl (by decide +kernel)
set_option maxRecDepth 65536 in
theorem w_c43 : (Jvm.Cond.code ({ cls := "java/util/Arrays", name := "copyOf", desc := "([BI)[B" } : Jvm.MethodName) jdk_65_method_121_code (3 : Nat) (Option.some (Jvm.ClassFile.FieldType.array Jvm.ClassFile.FieldType.byte))).before args0 about1 = true := code_word (m := ⟨13, 1⟩) (meth := k13m1) (c := k13c1) (by decide +kernel) rfl rfl rfl (by decide +kernel)
def codes1 : List Jvm.Cond := [Jvm.Cond.code x code maxLocals ret, Jvm.Cond.code ({ cls := "com/example/room_divider/roomdivider/isolation/GeneratedNamesOwnerPinLaw", name := "mk", desc := "(III)Ljava/lang/String;" } : Jvm.MethodName) method_3_code (8 : Nat) (Option.some (Jvm.ClassFile.FieldType.object "java/lang/String")), Jvm.Cond.code ({ cls := "com/example/room_divider/roomdivider/isolation/GeneratedNamesOwnerPinLaw", name := "ch", desc := "(II)C" } : Jvm.MethodName) method_2_code (2 : Nat) (Option.some Jvm.ClassFile.FieldType.char), Jvm.Cond.code ({ cls := "java/lang/String", name := "<init>", desc := "([C)V" } : Jvm.MethodName) jdk_42_method_3_code (2 : Nat) (Option.none : Option Jvm.ClassFile.FieldType), Jvm.Cond.code ({ cls := "java/lang/String", name := "<init>", desc := "([CIILjava/lang/Void;)V" } : Jvm.MethodName) jdk_42_method_149_code (6 : Nat) (Option.none : Option Jvm.ClassFile.FieldType), Jvm.Cond.code ({ cls := "java/lang/Object", name := "<init>", desc := "()V" } : Jvm.MethodName) object_method_1_code (1 : Nat) (Option.none : Option Jvm.ClassFile.FieldType), Jvm.Cond.code ({ cls := "com/example/room_divider/roomdivider/isolation/GeneratedNames", name := "companion", desc := "(Ljava/lang/String;)Ljava/lang/String;" } : Jvm.MethodName) prog_2_method_2_code (1 : Nat) (Option.some (Jvm.ClassFile.FieldType.object "java/lang/String")), Jvm.Cond.code ({ cls := "java/lang/StringBuilder", name := "<init>", desc := "()V" } : Jvm.MethodName) jdk_67_method_1_code (1 : Nat) (Option.none : Option Jvm.ClassFile.FieldType), Jvm.Cond.code ({ cls := "java/lang/AbstractStringBuilder", name := "<init>", desc := "(I)V" } : Jvm.MethodName) jdk_68_method_2_code (2 : Nat) (Option.none : Option Jvm.ClassFile.FieldType), Jvm.Cond.code ({ cls := "java/lang/StringBuilder", name := "append", desc := "(Ljava/lang/String;)Ljava/lang/StringBuilder;" } : Jvm.MethodName) jdk_67_method_7_code (2 : Nat) (Option.some (Jvm.ClassFile.FieldType.object "java/lang/StringBuilder")), Jvm.Cond.code ({ cls := "java/lang/AbstractStringBuilder", name := "append", desc := "(Ljava/lang/String;)Ljava/lang/AbstractStringBuilder;" } : Jvm.MethodName) jdk_68_method_22_code (3 : Nat) (Option.some (Jvm.ClassFile.FieldType.object "java/lang/AbstractStringBuilder")), Jvm.Cond.code ({ cls := "java/lang/String", name := "length", desc := "()I" } : Jvm.MethodName) jdk_42_method_54_code (1 : Nat) (Option.some Jvm.ClassFile.FieldType.int), Jvm.Cond.code ({ cls := "java/lang/String", name := "coder", desc := "()B" } : Jvm.MethodName) jdk_42_method_152_code (1 : Nat) (Option.some Jvm.ClassFile.FieldType.byte), Jvm.Cond.code ({ cls := "java/lang/AbstractStringBuilder", name := "ensureCapacityInternal", desc := "(I)V" } : Jvm.MethodName) jdk_68_method_9_code (3 : Nat) (Option.none : Option Jvm.ClassFile.FieldType), Jvm.Cond.code ({ cls := "java/lang/AbstractStringBuilder", name := "putStringAt", desc := "(ILjava/lang/String;)V" } : Jvm.MethodName) jdk_68_method_73_code (3 : Nat) (Option.none : Option Jvm.ClassFile.FieldType), Jvm.Cond.code ({ cls := "java/lang/AbstractStringBuilder", name := "inflateIfNeededFor", desc := "(Ljava/lang/String;)V" } : Jvm.MethodName) jdk_68_method_71_code (2 : Nat) (Option.none : Option Jvm.ClassFile.FieldType), Jvm.Cond.code ({ cls := "java/lang/String", name := "getBytes", desc := "([BIB)V" } : Jvm.MethodName) jdk_42_method_147_code (4 : Nat) (Option.none : Option Jvm.ClassFile.FieldType), Jvm.Cond.code ({ cls := "java/lang/StringBuilder", name := "toString", desc := "()Ljava/lang/String;" } : Jvm.MethodName) jdk_67_method_42_code (1 : Nat) (Option.some (Jvm.ClassFile.FieldType.object "java/lang/String")), Jvm.Cond.code ({ cls := "java/lang/String", name := "<init>", desc := "(Ljava/lang/StringBuilder;)V" } : Jvm.MethodName) jdk_42_method_53_code (2 : Nat) (Option.none : Option Jvm.ClassFile.FieldType), Jvm.Cond.code ({ cls := "java/lang/String", name := "<init>", desc := "(Ljava/lang/AbstractStringBuilder;Ljava/lang/Void;)V" } : Jvm.MethodName) jdk_42_method_150_code (5 : Nat) (Option.none : Option Jvm.ClassFile.FieldType), Jvm.Cond.code ({ cls := "java/lang/AbstractStringBuilder", name := "getValue", desc := "()[B" } : Jvm.MethodName) jdk_68_method_64_code (1 : Nat) (Option.some (Jvm.ClassFile.FieldType.array Jvm.ClassFile.FieldType.byte)), Jvm.Cond.code ({ cls := "java/lang/StringBuilder", name := "length", desc := "()I" } : Jvm.MethodName) jdk_67_method_93_code (1 : Nat) (Option.some Jvm.ClassFile.FieldType.int), Jvm.Cond.code ({ cls := "java/lang/AbstractStringBuilder", name := "length", desc := "()I" } : Jvm.MethodName) jdk_68_method_6_code (1 : Nat) (Option.some Jvm.ClassFile.FieldType.int), Jvm.Cond.code ({ cls := "java/lang/AbstractStringBuilder", name := "isLatin1", desc := "()Z" } : Jvm.MethodName) jdk_68_method_68_code (1 : Nat) (Option.some Jvm.ClassFile.FieldType.boolean), Jvm.Cond.code ({ cls := "java/util/Arrays", name := "copyOfRange", desc := "([BII)[B" } : Jvm.MethodName) jdk_65_method_132_code (3 : Nat) (Option.some (Jvm.ClassFile.FieldType.array Jvm.ClassFile.FieldType.byte)), Jvm.Cond.code ({ cls := "java/util/Arrays", name := "copyOfRangeByte", desc := "([BII)[B" } : Jvm.MethodName) jdk_65_method_133_code (5 : Nat) (Option.some (Jvm.ClassFile.FieldType.array Jvm.ClassFile.FieldType.byte)), Jvm.Cond.code ({ cls := "java/util/Arrays", name := "checkLength", desc := "(II)V" } : Jvm.MethodName) jdk_65_method_131_code (2 : Nat) (Option.none : Option Jvm.ClassFile.FieldType), Jvm.Cond.code ({ cls := "java/lang/Math", name := "min", desc := "(II)I" } : Jvm.MethodName) jdk_29_method_69_code (2 : Nat) (Option.some Jvm.ClassFile.FieldType.int), Jvm.Cond.code ({ cls := "com/example/room_divider/roomdivider/isolation/GeneratedNames", name := "owner", desc := "(Ljava/lang/String;)Ljava/lang/String;" } : Jvm.MethodName) prog_2_method_4_code (1 : Nat) (Option.some (Jvm.ClassFile.FieldType.object "java/lang/String")), Jvm.Cond.code ({ cls := "java/lang/String", name := "substring", desc := "(II)Ljava/lang/String;" } : Jvm.MethodName) jdk_42_method_92_code (5 : Nat) (Option.some (Jvm.ClassFile.FieldType.object "java/lang/String")), Jvm.Cond.code ({ cls := "java/lang/String", name := "checkBoundsBeginEnd", desc := "(III)V" } : Jvm.MethodName) jdk_42_method_158_code (3 : Nat) (Option.none : Option Jvm.ClassFile.FieldType), Jvm.Cond.code ({ cls := "jdk/internal/util/Preconditions", name := "checkFromToIndex", desc := "(IIILjava/util/function/BiFunction;)I" } : Jvm.MethodName) jdk_41_method_12_code (4 : Nat) (Option.some Jvm.ClassFile.FieldType.int), Jvm.Cond.code ({ cls := "java/lang/String", name := "isLatin1", desc := "()Z" } : Jvm.MethodName) jdk_42_method_154_code (1 : Nat) (Option.some Jvm.ClassFile.FieldType.boolean), Jvm.Cond.code ({ cls := "java/lang/StringLatin1", name := "newString", desc := "([BII)Ljava/lang/String;" } : Jvm.MethodName) jdk_43_method_47_code (3 : Nat) (Option.some (Jvm.ClassFile.FieldType.object "java/lang/String")), Jvm.Cond.code ({ cls := "java/lang/String", name := "equals", desc := "(Ljava/lang/Object;)Z" } : Jvm.MethodName) jdk_42_method_66_code (3 : Nat) (Option.some Jvm.ClassFile.FieldType.boolean), Jvm.Cond.code ({ cls := "java/lang/StringLatin1", name := "equals", desc := "([B[B)Z" } : Jvm.MethodName) jdk_43_method_13_code (3 : Nat) (Option.some Jvm.ClassFile.FieldType.boolean), Jvm.Cond.code ({ cls := "java/lang/StringUTF16", name := "compress", desc := "([CII)[B" } : Jvm.MethodName) jdk_52_method_16_code (6 : Nat) (Option.some (Jvm.ClassFile.FieldType.array Jvm.ClassFile.FieldType.byte)), Jvm.Cond.code ({ cls := "java/lang/StringUTF16", name := "compress", desc := "([CI[BII)I" } : Jvm.MethodName) jdk_52_method_21_code (7 : Nat) (Option.some Jvm.ClassFile.FieldType.int), Jvm.Cond.code ({ cls := "java/lang/StringUTF16", name := "coderFromArrayLen", desc := "([BI)B" } : Jvm.MethodName) jdk_52_method_15_code (2 : Nat) (Option.some Jvm.ClassFile.FieldType.byte), Jvm.Cond.code ({ cls := "java/lang/String", name := "<init>", desc := "([BB)V" } : Jvm.MethodName) jdk_42_method_151_code (3 : Nat) (Option.none : Option Jvm.ClassFile.FieldType), Jvm.Cond.code ({ cls := "java/lang/AbstractStringBuilder", name := "newCapacity", desc := "(I)I" } : Jvm.MethodName) jdk_68_method_10_code (6 : Nat) (Option.some Jvm.ClassFile.FieldType.int), Jvm.Cond.code ({ cls := "jdk/internal/util/ArraysSupport", name := "newLength", desc := "(III)I" } : Jvm.MethodName) jdk_48_method_27_code (4 : Nat) (Option.some Jvm.ClassFile.FieldType.int), Jvm.Cond.code ({ cls := "java/lang/Math", name := "max", desc := "(II)I" } : Jvm.MethodName) jdk_29_method_65_code (2 : Nat) (Option.some Jvm.ClassFile.FieldType.int), Jvm.Cond.code ({ cls := "java/util/Arrays", name := "copyOf", desc := "([BI)[B" } : Jvm.MethodName) jdk_65_method_121_code (3 : Nat) (Option.some (Jvm.ClassFile.FieldType.array Jvm.ClassFile.FieldType.byte))]
set_option maxRecDepth 65536 in
theorem codes_eq : words1.filter isCode = codes1 := rfl
theorem w_codes : ∀ c ∈ words1.filter isCode, c.before args0 about1 = true := by
  rw [codes_eq]
  intro c hc
  simp only [codes1, List.mem_cons, List.not_mem_nil, or_false] at hc
  rcases hc with rfl | rfl | rfl | rfl | rfl | rfl | rfl | rfl | rfl | rfl | rfl | rfl | rfl | rfl | rfl | rfl | rfl | rfl | rfl | rfl | rfl | rfl | rfl | rfl | rfl | rfl | rfl | rfl | rfl | rfl | rfl | rfl | rfl | rfl | rfl | rfl | rfl | rfl | rfl | rfl | rfl | rfl | rfl | rfl
  · exact w_c0
  · exact w_c1
  · exact w_c2
  · exact w_c3
  · exact w_c4
  · exact w_c5
  · exact w_c6
  · exact w_c7
  · exact w_c8
  · exact w_c9
  · exact w_c10
  · exact w_c11
  · exact w_c12
  · exact w_c13
  · exact w_c14
  · exact w_c15
  · exact w_c16
  · exact w_c17
  · exact w_c18
  · exact w_c19
  · exact w_c20
  · exact w_c21
  · exact w_c22
  · exact w_c23
  · exact w_c24
  · exact w_c25
  · exact w_c26
  · exact w_c27
  · exact w_c28
  · exact w_c29
  · exact w_c30
  · exact w_c31
  · exact w_c32
  · exact w_c33
  · exact w_c34
  · exact w_c35
  · exact w_c36
  · exact w_c37
  · exact w_c38
  · exact w_c39
  · exact w_c40
  · exact w_c41
  · exact w_c42
  · exact w_c43
set_option maxRecDepth 65536 in
theorem w_t1 : (words1.take 24).all (fun c => isCode c || c.before args0 about1) = true := by decide +kernel
set_option maxRecDepth 65536 in
theorem w_t2 : ((words1.drop 24).take 24).all (fun c => isCode c || c.before args0 about1) = true := by decide +kernel
set_option maxRecDepth 65536 in
theorem w_t3 : (((words1.drop 24).drop 24).take 24).all (fun c => isCode c || c.before args0 about1) = true := by decide +kernel
set_option maxRecDepth 65536 in
theorem w_t4 : ((((words1.drop 24).drop 24).drop 24).take 24).all (fun c => isCode c || c.before args0 about1) = true := by decide +kernel
set_option maxRecDepth 65536 in
theorem w_t5 : (((((words1.drop 24).drop 24).drop 24).drop 24).take 24).all (fun c => isCode c || c.before args0 about1) = true := by decide +kernel
set_option maxRecDepth 65536 in
theorem w_t6 : ((((((words1.drop 24).drop 24).drop 24).drop 24).drop 24).take 24).all (fun c => isCode c || c.before args0 about1) = true := by decide +kernel
set_option maxRecDepth 65536 in
theorem w_t7 : (((((((words1.drop 24).drop 24).drop 24).drop 24).drop 24).drop 24).take 24).all (fun c => isCode c || c.before args0 about1) = true := by decide +kernel
set_option maxRecDepth 65536 in
theorem w_t8 : ((((((((words1.drop 24).drop 24).drop 24).drop 24).drop 24).drop 24).drop 24).take 24).all (fun c => isCode c || c.before args0 about1) = true := by decide +kernel
set_option maxRecDepth 65536 in
theorem w_t9 : (((((((((words1.drop 24).drop 24).drop 24).drop 24).drop 24).drop 24).drop 24).drop 24).take 24).all (fun c => isCode c || c.before args0 about1) = true := by decide +kernel
set_option maxRecDepth 65536 in
theorem w_t10 : (((((((((words1.drop 24).drop 24).drop 24).drop 24).drop 24).drop 24).drop 24).drop 24).drop 24).all (fun c => isCode c || c.before args0 about1) = true := by decide +kernel
theorem w_tables : (allAtoms (Jvm.Cond.code x code maxLocals ret :: tables_1)).before args0 about1 = true := by
  rw [allAtoms_all]
  show words1.all (fun c => c.before args0 about1) = true
  refine all_split ?_ w_codes
  rw [← List.take_append_drop 24 words1, List.all_append, w_t1, ← List.take_append_drop 24 (words1.drop 24), List.all_append, w_t2, ← List.take_append_drop 24 ((words1.drop 24).drop 24), List.all_append, w_t3, ← List.take_append_drop 24 (((words1.drop 24).drop 24).drop 24), List.all_append, w_t4, ← List.take_append_drop 24 ((((words1.drop 24).drop 24).drop 24).drop 24), List.all_append, w_t5, ← List.take_append_drop 24 (((((words1.drop 24).drop 24).drop 24).drop 24).drop 24), List.all_append, w_t6, ← List.take_append_drop 24 ((((((words1.drop 24).drop 24).drop 24).drop 24).drop 24).drop 24), List.all_append, w_t7, ← List.take_append_drop 24 (((((((words1.drop 24).drop 24).drop 24).drop 24).drop 24).drop 24).drop 24), List.all_append, w_t8, ← List.take_append_drop 24 ((((((((words1.drop 24).drop 24).drop 24).drop 24).drop 24).drop 24).drop 24).drop 24), List.all_append, w_t9, w_t10]
  rfl
set_option maxRecDepth 65536 in
theorem w_rest : rest_1_c.before args0 about1 = true := by decide +kernel
set_option maxRecDepth 65536 in
theorem w_case : (Jvm.Cond.and given_1 narrow_1).before args0 about1 = true := by decide +kernel
set_option maxRecDepth 65536 in
theorem w_consts : constsHeld consts_1 about1 := Jvm.Lit.constsHeldB_iff.mp (by decide +kernel)
theorem w_applies : (headSpec (Jvm.Cond.code x code maxLocals ret :: tables_1) room_1).applies x e0.platform about1 = true :=
  (Spec.applies_iff w_frames).mpr ⟨w_running, w_runnable, w_alone, w_named, w_hears, w_ripe, w_room, w_tables⟩
theorem atStart : AtStart classFile x code maxLocals ret World_1 tables_1 room_1 Calls_1 rest_1 Pre_1 launch0 p0 e0 about1 theMethod args0 below0 :=
  ⟨lists_1, trivial, launch0.admits_env _ _ _, launch0.least_env, fairChoices_fair.cas, fairChoices_fair.clock, w_frames, w_args, w_heap, w_applies, ⟨w_consts, trivial⟩, w_rest, w_case⟩
end start1
theorem witness_1 : WitnessClaimed_1 := ⟨start1.p0, start1.e0, start1.about1, start1.theMethod, start1.args0, start1.below0, start1.atStart⟩
end Jvm.Pilot.@@N@@
