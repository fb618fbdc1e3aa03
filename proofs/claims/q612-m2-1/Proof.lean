import JvmDerived
import JvmDerived.Pilot.@@N@@Statement
import JvmDerived.Pilot.@@N@@Code
set_option linter.unusedVariables false
set_option linter.unusedSimpArgs false
namespace Jvm.OwnWp
open Sem ClassFile Op Lib Bundle Jvm.Stand Jvm.Free Jvm.LawKit Jvm.RoadKit
abbrev GoT : Type := List Addr → Heap → Nat → Nat → Nat → Array Slot → List Value → Prop
abbrev QT : Type := Option Value → List Addr → Heap → Prop
abbrev ELT : Type := List (String × Nat)
/-- each address of M is new since the law's start, stands in the heap, and is no String constant's cell -/
def Saf (Z : State) (EL : ELT) (n0 : Nat) (vm : Vm) (h : Heap) (M : List Addr) : Prop := ∀ x ∈ M, n0 ≤ x ∧ x < h.size ∧ Safe Z EL vm h x
/-- where a walk stands: all that isn't the heap is hidden -/
def Inv (p : Program) (l : Launch) (e : Env) (R : Room) (s : State) (m : MethodId) (args : Array Value) (below : List Frame) (meth : Method) (c : Code) (Z : State) (own : String) (EL : ELT) (n0 : Nat) (M : List Addr) (T : State) (h : Heap) (k n : Nat) : Prop :=
  ∃ (vm0 : Vm) (locs : List Loc) (k0 : Nat), Stand p l e R (s.setVm vm0) m args below meth c T locs k n ∧ T.heap = h ∧ s.Since vm0 k0 ∧ k0 ≤ h.size ∧ Z.Warmed39 vm0 ∧ vm0.findClass own = some m.cls ∧ Fr n0 locs ∧ CHr Z EL s.vm s.heap vm0 h ∧ Saf Z EL n0 vm0 h M ∧ Old Z n0 h
/-- what the end of a body is to say -/
def Done (s : State) (Z : State) (EL : ELT) (n0 : Nat) (R : Room) (Q : QT) (o : Outcome) (U : State) : Prop :=
  ∃ (v : Option Value) (L : List Loc) (M' : List Addr), o = .returned v ∧ Q v M' U.heap ∧ Fr n0 L ∧ CHr Z EL s.vm s.heap U.vm U.heap ∧ Saf Z EL n0 U.vm U.heap M' ∧ Old Z n0 U.heap ∧ ReturnedEndW s o U L R.cells R.slots
def Ends (p : Program) (e : Env) (below : List Frame) (P : Outcome → State → Prop) (A : State) : Prop := ∃ s₂ o, Steps p.tables e below A s₂ ∧ s₂.status = .running ∧ Ended s₂ below o ∧ P o s₂
/-- G M h k n pc ls st: from this frame, with this heap, k cells and n slots made so far, the body comes to an end that says Q -/
def IsGo (G : GoT) (l : Launch) (Z : State) (a0 : Array Value) (EL : ELT) (n0 : Nat) (own name : String) (code : ByteArray) (maxL : Nat) (ret : Option FieldType) (R : Room) (Q : QT) : Prop :=
  ∃ (p : Program) (e : Env) (s : State) (m : MethodId) (args : Array Value) (below : List Frame) (meth : Method) (c : Code),
    p.tables.exec = Jvm.exec ∧ c.code = code ∧ c.maxLocals = maxL ∧ meth.name = name ∧ meth.sig.returnType = ret ∧ meth.locks = false ∧ EW Z a0 EL ∧
    G = fun M h k n pc ls st => ∀ T, Inv p l e R s m args below meth c Z own EL n0 M T h k n → Ends p e below (Done s Z EL n0 R Q) (T.setTop (mkF m pc ls st))
/-- a method's contract: called with these arguments at this heap, M being its to write, it returns and says Q -/
def Met (l : Launch) (Z : State) (EL : ELT) (n0 : Nat) (y : MethodName) (bytes : ByteArray) (maxL : Nat) (ret : Option FieldType) (ws : List Jvm.Cond) (rm : Room) (as' : List Value) (M : List Addr) (h : Heap) (Q : QT) : Prop :=
  MetFree l y (head1 (Jvm.Cond.code y bytes maxL ret :: ws) rm) (fun a U => a = as'.toArray ∧ Z.Warmed39 U.vm ∧ U.heap = h ∧ CHv Z EL U.vm h ∧ Saf Z EL n0 U.vm h M ∧ Old Z n0 h) (fun _ _ _ _ _ => True) (fun _ U o U' => Done U Z EL n0 rm Q o U')
variable {G : GoT} {l : Launch} {Z : State} {a0 : Array Value} {EL : ELT} {n0 : Nat} {own name : String} {code : ByteArray} {maxL : Nat} {ret : Option FieldType} {R : Room} {Q : QT}
variable {M M' : List Addr} {h h' : Heap} {k n k' n' pc pc' : Nat} {ls ls' : Array Slot} {st st' rest : List Value}
theorem Saf.chr {vm vm1 : Vm} (S : Saf Z EL n0 vm h M) (A : CHr Z EL vm h vm1 h') : Saf Z EL n0 vm1 h' M := fun x hx => ⟨(S x hx).1, Nat.lt_of_lt_of_le (S x hx).2.1 A.2.1, A.safe (S x hx).2.1 (S x hx).2.2⟩
theorem Saf.sub {vm : Vm} (S : Saf Z EL n0 vm h M) (q : ∀ x ∈ M', x ∈ M) : Saf Z EL n0 vm h M' := fun x hx => S x (q x hx)
theorem Saf.app {vm : Vm} (S : Saf Z EL n0 vm h M) (S' : Saf Z EL n0 vm h M') : Saf Z EL n0 vm h (M ++ M') := fun x hx => (List.mem_append.mp hx).elim (S x) (S' x)
theorem since0 (s : State) (k0 : Nat) : s.Since s.vm k0 := ⟨State.Warmed39.refl s, by
  first
    | exact State.Booked.refl _ _
    | (intro j q h1 h2; exact absurd (Array.getElem?_eq_some_iff.mp h2).1 (Nat.not_lt.mpr h1))
    | (refine ⟨?_, ?_⟩ <;> intro j q h1 h2 <;> exact absurd (Array.getElem?_eq_some_iff.mp h2).1 (Nat.not_lt.mpr h1))⟩
/-- the way in -/
theorem Met.intro {y : MethodName} {bytes : ByteArray} {ws : List Jvm.Cond} {rm : Room} {as' : List Value} (hp : plainFor y = true) (hef : ∀ m, entryFrame m as'.toArray maxL = mkF m 0 ls []) (hEL : EW Z a0 EL)
    (body : ∀ G, IsGo G l Z a0 EL n0 y.cls y.name bytes maxL ret rm Q → G M h 0 0 0 ls []) : Met l Z EL n0 y bytes maxL ret ws rm as' M h Q := by
  refine MetFree.of_bodySF hp hisR ?_
  intro p e s m args below meth c s₁ Bd hml0 hP hK
  obtain ⟨rfl, hZ, hh, hC, hS, hn0⟩ := hP
  have hown : s.vm.findClass y.cls = some m.cls := findClass_of_methodNamed Bd.named
  have hnm := (name_of_methodNamed Bd.named Bd.method).1
  have X0 : Stand p l e rm s m as'.toArray below meth c s₁ [] 0 0 := Stand.of_body Bd
  have e0 : s₁.heap = h := by rw [← hh, Bd.state]; rfl
  have hlk : meth.locks = false := Bd.notSynchronized
  have q := body _ ⟨p, e, s, m, as'.toArray, below, meth, c, Bd.exec, Bd.bytes, hml0, hnm, Bd.returns, hlk, hEL, rfl⟩ s₁ ⟨s.vm, [], h.size, X0, e0, since0 s _, Nat.le_refl _, hZ, hown, Fr.nil n0, by rw [hh]; exact CHr.refl hC, hS, hn0⟩
  obtain ⟨s₂, o, h1, h2, h3, h4⟩ := q
  rw [← hef] at h1
  exact ⟨s₂, o, h1, h2, h3, h4⟩
/-- a step that looks at no heap -/
theorem plain (hG : IsGo G l Z a0 EL n0 own name code maxL ret R Q) (f : ∀ (p : Program) (e : Env) (below : List Frame) (m : MethodId) (c : Code) (T target : State), At T m c below → p.tables.exec = Jvm.exec → c.code = code → Steps p.tables e below (T.setTop (mkF m pc' ls' st')) target → Steps p.tables e below (T.setTop (mkF m pc ls st)) target)
    (k1 : G M h k n pc' ls' st') : G M h k n pc ls st := by
  obtain ⟨p, e, s, m, args, below, meth, c, hx, hc, hml, hnm, hr, hlk, hEL, rfl⟩ := hG
  intro T I
  obtain ⟨s₂, o, h1, h2⟩ := k1 T I
  obtain ⟨vm0, locs, k0, X, -⟩ := I
  exact ⟨s₂, o, f p e below m c T s₂ X.here hx hc h1, h2⟩
/-- a step that leaves the heap as it is -/
theorem stepX (hG : IsGo G l Z a0 EL n0 own name code maxL ret R Q)
    (f : ∀ (p : Program) (e : Env) (s : State) (m : MethodId) (args : Array Value) (below : List Frame) (meth : Method) (c : Code) (T : State) (locs : List Loc), Stand p l e R s m args below meth c T locs k n → p.tables.exec = Jvm.exec → c.code = code → c.maxLocals = maxL → T.heap = h → Z.Warmed39 s.vm → s.vm.findClass own = some m.cls →
      ∃ T', Stand p l e R s m args below meth c T' locs k n ∧ T'.heap = h ∧ ∀ target, Steps p.tables e below (T'.setTop (mkF m pc' ls' st')) target → Steps p.tables e below (T.setTop (mkF m pc ls st)) target)
    (k1 : G M h k n pc' ls' st') : G M h k n pc ls st := by
  obtain ⟨p, e, s, m, args, below, meth, c, hx, hc, hml, hnm, hr, hlk, hEL, rfl⟩ := hG
  intro T I
  obtain ⟨vm0, locs, k0, X, eT, hS, hk, hZ, hown, N, H, S, hn0⟩ := I
  obtain ⟨T', X', e', st⟩ := f p e (s.setVm vm0) m args below meth c T locs X hx hc hml eT hZ hown
  obtain ⟨s₂, o, h1, h2⟩ := k1 T' ⟨vm0, locs, k0, X', e', hS, hk, hZ, hown, N, H, S, hn0⟩
  exact ⟨s₂, o, st _ h1, h2⟩
/-- a step that writes one place of an object that is ours -/
theorem stepW (hG : IsGo G l Z a0 EL n0 own name code maxL ret R Q) {a : Addr} {sl : Nat} {v : Value} (ha : a ∈ M)
    (f : ∀ (p : Program) (e : Env) (s : State) (m : MethodId) (args : Array Value) (below : List Frame) (meth : Method) (c : Code) (T : State) (locs : List Loc), Stand p l e R s m args below meth c T locs k n → p.tables.exec = Jvm.exec → c.code = code → meth.name = name → T.heap = h → Z.Warmed39 s.vm → s.vm.findClass own = some m.cls →
      ∃ T' h', Stand p l e R s m args below meth c T' (locs ++ [⟨a, sl⟩]) k n ∧ T'.heap = h' ∧ Wr h h' a sl v ∧ ∀ target, Steps p.tables e below (T'.setTop (mkF m pc' ls' st')) target → Steps p.tables e below (T.setTop (mkF m pc ls st)) target)
    (k1 : ∀ h', Wr h h' a sl v → G M h' k n pc' ls' st') : G M h k n pc ls st := by
  obtain ⟨p, e, s, m, args, below, meth, c, hx, hc, hml, hnm, hr, hlk, hEL, rfl⟩ := hG
  intro T I
  obtain ⟨vm0, locs, k0, X, eT, hS, hk, hZ, hown, N, H, S, hn0⟩ := I
  obtain ⟨T', h', X', e', W, st⟩ := f p e (s.setVm vm0) m args below meth c T locs X hx hc hnm eT hZ hown
  have A : CHr Z EL vm0 h vm0 h' := CHr.wr W (S a ha).2.2 H.1
  obtain ⟨s₂, o, h1, h2⟩ := k1 h' W T' ⟨vm0, _, k0, X', e', hS, Nat.le_trans hk A.2.1, hZ, hown, Fr.snoc X' N (S a ha).1, H.trans A, S.chr A, hn0.wr W (S a ha).1⟩
  exact ⟨s₂, o, st _ h1, h2⟩
/-- a step that makes one object -/
theorem stepN (hG : IsGo G l Z a0 EL n0 own name code maxL ret R Q) {P : Heap → Addr → Prop} (hP : ∀ h', P h' h.size → h.size < h'.size) {st' : Addr → List Value}
    (f : ∀ (p : Program) (e : Env) (s : State) (m : MethodId) (args : Array Value) (below : List Frame) (meth : Method) (c : Code) (T : State) (locs : List Loc), Stand p l e R s m args below meth c T locs k n → p.tables.exec = Jvm.exec → c.code = code → c.maxLocals = maxL → T.heap = h → Z.Warmed39 s.vm → s.vm.findClass own = some m.cls →
      ∃ T' h', Stand p l e R s m args below meth c T' locs k' n' ∧ T'.heap = h' ∧ Ext h h' ∧ P h' h.size ∧ ∀ target, Steps p.tables e below (T'.setTop (mkF m pc' ls' (st' h.size))) target → Steps p.tables e below (T.setTop (mkF m pc ls st)) target)
    (k1 : ∀ h' a, h.size ≤ a → Ext h h' → P h' a → G (a :: M) h' k' n' pc' ls' (st' a)) : G M h k n pc ls st := by
  obtain ⟨p, e, s, m, args, below, meth, c, hx, hc, hml, hnm, hr, hlk, hEL, rfl⟩ := hG
  intro T I
  obtain ⟨vm0, locs, k0, X, eT, hS, hk, hZ, hown, N, H, S, hn0⟩ := I
  obtain ⟨T', h', X', e', E, hp, st⟩ := f p e (s.setVm vm0) m args below meth c T locs X hx hc hml eT hZ hown
  have A : CHr Z EL vm0 h vm0 h' := CHr.ext E H.1
  obtain ⟨s₂, o, h1, h2⟩ := k1 h' h.size (Nat.le_refl _) E hp T' ⟨vm0, _, k0, X', e', hS, Nat.le_trans hk A.2.1, hZ, hown, N, H.trans A, fun x hx => by
    rcases List.mem_cons.mp hx with rfl | q
    · exact ⟨hn0.1 ▸ hn0.2.1, hP _ hp, Safe.ext E H.1 (Safe.new (Nat.le_refl _))⟩
    · exact S.chr A x q, hn0.ext E⟩
  exact ⟨s₂, o, st _ h1, h2⟩
/-- less is known, more is made -/
theorem weaken (hG : IsGo G l Z a0 EL n0 own name code maxL ret R Q) (hM : ∀ x ∈ M', x ∈ M) (hk : k ≤ k') (hn : n ≤ n') (k1 : G M' h k' n' pc ls st) : G M h k n pc ls st := by
  obtain ⟨p, e, s, m, args, below, meth, c, hx, hc, hml, hnm, hr, hlk, hEL, rfl⟩ := hG
  intro T I
  obtain ⟨vm0, locs, k0, X, eT, hS, hk0, hZ, hown, N, H, S, hn0⟩ := I
  exact k1 T ⟨vm0, locs, k0, X.more hk hn, eT, hS, hk0, hZ, hown, N, H, S.sub hM, hn0⟩
theorem facts (hG : IsGo G l Z a0 EL n0 own name code maxL ret R Q) (k1 : Old Z n0 h → (∀ x ∈ M, n0 ≤ x ∧ x < h.size) → G M h k n pc ls st) : G M h k n pc ls st := by
  obtain ⟨p, e, s, m, args, below, meth, c, hx, hc, hml, hnm, hr, hlk, hEL, rfl⟩ := hG
  intro T I
  obtain ⟨vm0, locs, k0, X, eT, hS, hk0, hZ, hown, N, H, S, hn0⟩ := id I
  exact k1 hn0 (fun x hx => ⟨(S x hx).1, (S x hx).2.1⟩) T I
/-- the way out -/
theorem leaves (hG : IsGo G l Z a0 EL n0 own name code maxL ret R Q) {v : Option Value} (hv : ret = none → v = none) (hq : Q v M' h) (hM : ∀ x ∈ M', x ∈ M) (hk : k ≤ R.cells) (hn : n ≤ R.slots)
    (f : ∀ (p : Program) (e : Env) (s : State) (m : MethodId) (args : Array Value) (below : List Frame) (meth : Method) (c : Code) (T : State) (locs : List Loc) (fs : List Frame), Stand p l e R s m args below meth c T locs k n → p.tables.exec = Jvm.exec → c.code = code → meth.sig.returnType = ret →
      (∀ (f : JFrame) (acts : List Action), f.method = m → f.locked = none → f.entered = [] → (doReturn e (T.setTop f) acts v).1 = T.setFrames fs) → Steps p.tables e below (T.setTop (mkF m pc ls st)) (T.setFrames fs)) : G M h k n pc ls st := by
  obtain ⟨p, e, s, m, args, below, meth, c, hx, hc, hml, hnm, hr, hlk, hEL, rfl⟩ := hG
  intro T I
  obtain ⟨vm0, locs, k0, X, eT, hS, hk0, hZ, hown, N, H, S, hn0⟩ := I
  obtain ⟨fs, h1, h2, h3, h4⟩ := X.leaveW (v := v) hS (by rw [eT]; exact hk0) (fun q => hv (hr ▸ q)) hlk
  have A := CHv.at X hZ hEL H.1
  have eh : (T.setFrames fs).heap = h := eT
  have ev : (T.setFrames fs).vm = T.vm := rfl
  refine ⟨_, _, f p e (s.setVm vm0) m args below meth c T locs fs X hx hc hr h1, h2, h3, v, locs, M', rfl, by rw [eh]; exact hq, N, by rw [eh, ev]; exact H.trans A, by rw [eh, ev]; exact (S.chr A).sub hM, by rw [eh]; exact hn0, h4.1, h4.2.1, h4.2.2.1, h4.2.2.2.mono hk hn⟩
end Jvm.OwnWp
namespace Jvm.OwnWp
open Sem ClassFile Op Lib Bundle Jvm.Stand Jvm.Free Jvm.LawKit Jvm.RoadKit
variable {G : GoT} {l : Launch} {Z : State} {a0 : Array Value} {EL : ELT} {n0 : Nat} {own name : String} {code : ByteArray} {maxL : Nat} {ret : Option FieldType} {R : Room} {Q : QT}
variable {M M' : List Addr} {h h' : Heap} {k n k' n' pc pc' : Nat} {ls ls' : Array Slot} {st st' rest : List Value}
theorem iloadN (hG : IsGo G l Z a0 EL n0 own name code maxL ret R Q) {j : Fin 4} {x : Int32} (hd : decode code pc = .ok (.iload_n j, 1)) (hl : ls[j.val]? = some (.val (.int x))) (k1 : G M h k n (pc + 1) ls (.int x :: st)) : G M h k n pc ls st :=
  plain hG (fun _ _ _ _ _ _ _ A hx hc r => XS.iloadN A hx rfl (hb hc hd) hl r) k1
theorem iload (hG : IsGo G l Z a0 EL n0 own name code maxL ret R Q) {j : Nat} {x : Int32} (hd : decode code pc = .ok (.iload j, 2)) (hl : ls[j]? = some (.val (.int x))) (k1 : G M h k n (pc + 2) ls (.int x :: st)) : G M h k n pc ls st :=
  plain hG (fun _ _ _ _ _ _ _ A hx hc r => XS.iload A hx rfl (hb hc hd) hl r) k1
theorem istoreN (hG : IsGo G l Z a0 EL n0 own name code maxL ret R Q) {j : Fin 4} {x : Int32} (hd : decode code pc = .ok (.istore_n j, 1))  (hl : storeLocals ls j.val (.int x) = some ls') (k1 : G M h k n (pc + 1) ls' st) : G M h k n pc ls (.int x :: st) :=
  plain hG (fun _ _ _ _ _ _ _ A hx hc r => XS.istoreN A hx rfl (hb hc hd) rfl hl r) k1
theorem istore (hG : IsGo G l Z a0 EL n0 own name code maxL ret R Q) {j : Nat} {x : Int32} (hd : decode code pc = .ok (.istore j, 2))  (hl : storeLocals ls j (.int x) = some ls') (k1 : G M h k n (pc + 2) ls' st) : G M h k n pc ls (.int x :: st) :=
  plain hG (fun _ _ _ _ _ _ _ A hx hc r => XS.istore A hx rfl (hb hc hd) rfl hl r) k1
theorem aloadN (hG : IsGo G l Z a0 EL n0 own name code maxL ret R Q) {j : Fin 4} {v : Value} (hd : decode code pc = .ok (.aload_n j, 1)) (hl : ls[j.val]? = some (.val (v))) (hv : v.isRef = true) (k1 : G M h k n (pc + 1) ls (v :: st)) : G M h k n pc ls st :=
  plain hG (fun _ _ _ _ _ _ _ A hx hc r => XS.aloadN A hx rfl (hb hc hd) hl hv r) k1
theorem aload (hG : IsGo G l Z a0 EL n0 own name code maxL ret R Q) {j : Nat} {v : Value} (hd : decode code pc = .ok (.aload j, 2)) (hl : ls[j]? = some (.val (v))) (hv : v.isRef = true) (k1 : G M h k n (pc + 2) ls (v :: st)) : G M h k n pc ls st :=
  plain hG (fun _ _ _ _ _ _ _ A hx hc r => XS.aload A hx rfl (hb hc hd) hl hv r) k1
theorem astoreN (hG : IsGo G l Z a0 EL n0 own name code maxL ret R Q) {j : Fin 4} {v : Value} (hd : decode code pc = .ok (.astore_n j, 1)) (hv : v.isRef = true) (hl : storeLocals ls j.val (v) = some ls') (k1 : G M h k n (pc + 1) ls' st) : G M h k n pc ls (v :: st) :=
  plain hG (fun _ _ _ _ _ _ _ A hx hc r => XS.astoreN A hx rfl (hb hc hd) rfl hv hl r) k1
theorem astore (hG : IsGo G l Z a0 EL n0 own name code maxL ret R Q) {j : Nat} {v : Value} (hd : decode code pc = .ok (.astore j, 2)) (hv : v.isRef = true) (hl : storeLocals ls j (v) = some ls') (k1 : G M h k n (pc + 2) ls' st) : G M h k n pc ls (v :: st) :=
  plain hG (fun _ _ _ _ _ _ _ A hx hc r => XS.astore A hx rfl (hb hc hd) rfl hv hl r) k1
theorem istoreS (hG : IsGo G l Z a0 EL n0 own name code maxL ret R Q) {j : Nat} {x : Int32} {o : Slot} (hd : decode code pc = .ok (.istore j, 2)) (hold : ls[j]? = some o) (ho : One o) (k1 : G M h k n (pc + 2) (ls.setIfInBounds j (.val (.int x))) st) : G M h k n pc ls (.int x :: st) :=
  plain hG (fun _ _ _ _ _ _ _ A hx hc r => XS.istoreS A hx rfl (hb hc hd) rfl hold ho r) k1
theorem istoreSN (hG : IsGo G l Z a0 EL n0 own name code maxL ret R Q) {j : Fin 4} {x : Int32} {o : Slot} (hd : decode code pc = .ok (.istore_n j, 1)) (hold : ls[j.val]? = some o) (ho : One o) (k1 : G M h k n (pc + 1) (ls.setIfInBounds j.val (.val (.int x))) st) : G M h k n pc ls (.int x :: st) :=
  plain hG (fun _ _ _ _ _ _ _ A hx hc r => XS.istoreNS A hx rfl (hb hc hd) rfl hold ho r) k1
theorem astoreS (hG : IsGo G l Z a0 EL n0 own name code maxL ret R Q) {j : Nat} {v : Value} {o : Slot} (hd : decode code pc = .ok (.astore j, 2)) (hv : v.isRef = true) (hc1 : v.category = 1) (hold : ls[j]? = some o) (ho : One o) (k1 : G M h k n (pc + 2) (ls.setIfInBounds j (.val (v))) st) : G M h k n pc ls (v :: st) :=
  plain hG (fun _ _ _ _ _ _ _ A hx hc r => XS.astoreS A hx rfl (hb hc hd) rfl hv hc1 hold ho r) k1
theorem astoreSN (hG : IsGo G l Z a0 EL n0 own name code maxL ret R Q) {j : Fin 4} {v : Value} {o : Slot} (hd : decode code pc = .ok (.astore_n j, 1)) (hv : v.isRef = true) (hc1 : v.category = 1) (hold : ls[j.val]? = some o) (ho : One o) (k1 : G M h k n (pc + 1) (ls.setIfInBounds j.val (.val (v))) st) : G M h k n pc ls (v :: st) :=
  plain hG (fun _ _ _ _ _ _ _ A hx hc r => XT.astoreNS A hx rfl (hb hc hd) rfl hv hc1 hold ho r) k1
theorem iconst (hG : IsGo G l Z a0 EL n0 own name code maxL ret R Q) {i : Int} (hd : decode code pc = .ok (.iconst i, 1)) (x : Int32) (hv : Int32.ofInt i = x) (k1 : G M h k n (pc + 1) ls (.int x :: st)) : G M h k n pc ls st :=
  plain hG (fun _ _ _ _ _ _ _ A hx hc r => XS.iconst A hx rfl (hb hc hd) (by rw [hv]; exact r)) k1
theorem bipush (hG : IsGo G l Z a0 EL n0 own name code maxL ret R Q) {i : Int} (hd : decode code pc = .ok (.bipush i, 2)) (x : Int32) (hv : (Int8.ofInt i).toInt32 = x) (k1 : G M h k n (pc + 2) ls (.int x :: st)) : G M h k n pc ls st :=
  plain hG (fun _ _ _ _ _ _ _ A hx hc r => XS.bipush A hx rfl (hb hc hd) (by rw [hv]; exact r)) k1
theorem sipush (hG : IsGo G l Z a0 EL n0 own name code maxL ret R Q) {i : Int} (hd : decode code pc = .ok (.sipush i, 3)) (x : Int32) (hv : (Int16.ofInt i).toInt32 = x) (k1 : G M h k n (pc + 3) ls (.int x :: st)) : G M h k n pc ls st :=
  plain hG (fun _ _ _ _ _ _ _ A hx hc r => XS.sipush A hx rfl (hb hc hd) (by rw [hv]; exact r)) k1
theorem aconst_null (hG : IsGo G l Z a0 EL n0 own name code maxL ret R Q)  (hd : decode code pc = .ok (.aconst_null, 1)) (k1 : G M h k n (pc + 1) ls (.null :: st)) : G M h k n pc ls st :=
  plain hG (fun _ _ _ _ _ _ _ A hx hc r => XS.aconstNull A hx rfl (hb hc hd) r) k1
theorem iadd (hG : IsGo G l Z a0 EL n0 own name code maxL ret R Q) {x y : Int32} (hd : decode code pc = .ok (.iadd, 1)) (k1 : G M h k n (pc + 1) ls (.int (x + y) :: st)) : G M h k n pc ls (.int y :: .int x :: st) :=
  plain hG (fun _ _ _ _ _ _ _ A hx hc r => XS.iadd A hx rfl (hb hc hd) rfl r) k1
theorem isub (hG : IsGo G l Z a0 EL n0 own name code maxL ret R Q) {x y : Int32} (hd : decode code pc = .ok (.isub, 1)) (k1 : G M h k n (pc + 1) ls (.int (x - y) :: st)) : G M h k n pc ls (.int y :: .int x :: st) :=
  plain hG (fun _ _ _ _ _ _ _ A hx hc r => XS.isub A hx rfl (hb hc hd) rfl r) k1
theorem iand (hG : IsGo G l Z a0 EL n0 own name code maxL ret R Q) {x y : Int32} (hd : decode code pc = .ok (.iand, 1)) (k1 : G M h k n (pc + 1) ls (.int (x &&& y) :: st)) : G M h k n pc ls (.int y :: .int x :: st) :=
  plain hG (fun _ _ _ _ _ _ _ A hx hc r => XS.iand A hx rfl (hb hc hd) rfl r) k1
theorem imul (hG : IsGo G l Z a0 EL n0 own name code maxL ret R Q) {x y : Int32} (hd : decode code pc = .ok (.imul, 1)) (k1 : G M h k n (pc + 1) ls (.int (x * y) :: st)) : G M h k n pc ls (.int y :: .int x :: st) :=
  plain hG (fun _ _ _ _ _ _ _ A hx hc r => XS.imul A hx rfl (hb hc hd) rfl r) k1
theorem ior (hG : IsGo G l Z a0 EL n0 own name code maxL ret R Q) {x y : Int32} (hd : decode code pc = .ok (.ior, 1)) (k1 : G M h k n (pc + 1) ls (.int (x ||| y) :: st)) : G M h k n pc ls (.int y :: .int x :: st) :=
  plain hG (fun _ _ _ _ _ _ _ A hx hc r => XS.ior A hx rfl (hb hc hd) rfl r) k1
theorem ixor (hG : IsGo G l Z a0 EL n0 own name code maxL ret R Q) {x y : Int32} (hd : decode code pc = .ok (.ixor, 1)) (k1 : G M h k n (pc + 1) ls (.int (x ^^^ y) :: st)) : G M h k n pc ls (.int y :: .int x :: st) :=
  plain hG (fun _ _ _ _ _ _ _ A hx hc r => XS.ixor A hx rfl (hb hc hd) rfl r) k1
theorem ishl (hG : IsGo G l Z a0 EL n0 own name code maxL ret R Q) {x y : Int32} (hd : decode code pc = .ok (.ishl, 1)) (k1 : G M h k n (pc + 1) ls (.int (x <<< (y &&& 31)) :: st)) : G M h k n pc ls (.int y :: .int x :: st) :=
  plain hG (fun _ _ _ _ _ _ _ A hx hc r => XS.ishl A hx rfl (hb hc hd) rfl r) k1
theorem ishr (hG : IsGo G l Z a0 EL n0 own name code maxL ret R Q) {x y : Int32} (hd : decode code pc = .ok (.ishr, 1)) (k1 : G M h k n (pc + 1) ls (.int (x >>> (y &&& 31)) :: st)) : G M h k n pc ls (.int y :: .int x :: st) :=
  plain hG (fun _ _ _ _ _ _ _ A hx hc r => XS.ishr A hx rfl (hb hc hd) rfl r) k1
theorem iushr (hG : IsGo G l Z a0 EL n0 own name code maxL ret R Q) {x y : Int32} (hd : decode code pc = .ok (.iushr, 1)) (k1 : G M h k n (pc + 1) ls (.int ((x.toUInt32 >>> (y &&& 31).toUInt32).toInt32) :: st)) : G M h k n pc ls (.int y :: .int x :: st) :=
  plain hG (fun _ _ _ _ _ _ _ A hx hc r => XS.iushr A hx rfl (hb hc hd) rfl r) k1
theorem ineg (hG : IsGo G l Z a0 EL n0 own name code maxL ret R Q) {x : Int32} (hd : decode code pc = .ok (.ineg, 1)) (k1 : G M h k n (pc + 1) ls (.int (-x) :: st)) : G M h k n pc ls (.int x :: st) :=
  plain hG (fun _ _ _ _ _ _ _ A hx hc r => XS.ineg A hx rfl (hb hc hd) rfl r) k1
theorem i2b (hG : IsGo G l Z a0 EL n0 own name code maxL ret R Q) {x : Int32} (hd : decode code pc = .ok (.i2b, 1)) (k1 : G M h k n (pc + 1) ls (.int x.toInt8.toInt32 :: st)) : G M h k n pc ls (.int x :: st) :=
  plain hG (fun _ _ _ _ _ _ _ A hx hc r => XS.i2b A hx rfl (hb hc hd) rfl r) k1
theorem i2c (hG : IsGo G l Z a0 EL n0 own name code maxL ret R Q) {x : Int32} (hd : decode code pc = .ok (.i2c, 1)) (k1 : G M h k n (pc + 1) ls (.int x.toUInt32.toUInt16.toUInt32.toInt32 :: st)) : G M h k n pc ls (.int x :: st) :=
  plain hG (fun _ _ _ _ _ _ _ A hx hc r => XS.i2c A hx rfl (hb hc hd) rfl r) k1
theorem idiv (hG : IsGo G l Z a0 EL n0 own name code maxL ret R Q) {x y : Int32} (hd : decode code pc = .ok (.idiv, 1)) (hy : y ≠ 0) (k1 : G M h k n (pc + 1) ls (.int (x / y) :: st)) : G M h k n pc ls (.int y :: .int x :: st) :=
  plain hG (fun _ _ _ _ _ _ _ A hx hc r => XS.idiv A hx rfl (hb hc hd) rfl hy r) k1
theorem dup (hG : IsGo G l Z a0 EL n0 own name code maxL ret R Q) {v : Value} (hd : decode code pc = .ok (.dup, 1)) (hc1 : v.category = 1) (k1 : G M h k n (pc + 1) ls (v :: v :: st)) : G M h k n pc ls (v :: st) :=
  plain hG (fun _ _ _ _ _ _ _ A hx hc r => XS.dup A hx rfl (hb hc hd) rfl hc1 r) k1
theorem pop (hG : IsGo G l Z a0 EL n0 own name code maxL ret R Q) {v : Value} (hd : decode code pc = .ok (.pop, 1)) (hc1 : v.category = 1) (k1 : G M h k n (pc + 1) ls st) : G M h k n pc ls (v :: st) :=
  plain hG (fun _ _ _ _ _ _ _ A hx hc r => XS.pop A hx rfl (hb hc hd) rfl hc1 r) k1
theorem dup_x1 (hG : IsGo G l Z a0 EL n0 own name code maxL ret R Q) {v w : Value} (hd : decode code pc = .ok (.dup_x1, 1)) (hc1 : v.category = 1) (hc2 : w.category = 1) (k1 : G M h k n (pc + 1) ls (v :: w :: v :: st)) : G M h k n pc ls (v :: w :: st) :=
  plain hG (fun _ _ _ _ _ _ _ A hx hc r => XS.dupX1 A hx rfl (hb hc hd) rfl hc1 hc2 r) k1
theorem iinc (hG : IsGo G l Z a0 EL n0 own name code maxL ret R Q) {j : Nat} {cst : Int} {x : Int32} (hd : decode code pc = .ok (.iinc j cst, 3)) (hl : ls[j]? = some (.val (.int x))) (y : Int32) (hv : x + Int32.ofInt cst = y) (hl' : storeLocals ls j (.int y) = some ls') (k1 : G M h k n (pc + 3) ls' st) : G M h k n pc ls st :=
  plain hG (fun _ _ _ _ _ _ _ A hx hc r => XS.iinc A hx rfl (hb hc hd) hl (by rw [hv]; exact hl') r) k1
theorem goto (hG : IsGo G l Z a0 EL n0 own name code maxL ret R Q) {o : Int} (hd : decode code pc = .ok (.goto o, 3)) (ho : 0 ≤ (pc : Int) + o) (hp : ((pc : Int) + o).toNat = pc') (k1 : G M h k n pc' ls st) : G M h k n pc ls st :=
  plain hG (fun _ _ _ _ _ _ _ A hx hc r => XS.goto A hx rfl rfl (hb hc hd) ho hp r) k1
theorem ifYes (hG : IsGo G l Z a0 EL n0 own name code maxL ret R Q) {o : Int} {cd : ClassFile.Cond} {x : Int32} (hd : decode code pc = .ok (.ifCond cd o, 3)) (hc1 : if_icmp.holds cd x 0 = true) (ho : 0 ≤ (pc : Int) + o) (hp : ((pc : Int) + o).toNat = pc') (k1 : G M h k n pc' ls st) : G M h k n pc ls (.int x :: st) :=
  plain hG (fun _ _ _ _ _ _ _ A hx hc r => XS.ifYes A hx rfl rfl (hb hc hd) rfl (by rw [if0]; exact hc1) ho hp r) k1
theorem ifNo (hG : IsGo G l Z a0 EL n0 own name code maxL ret R Q) {o : Int} {cd : ClassFile.Cond} {x : Int32} (hd : decode code pc = .ok (.ifCond cd o, 3)) (hc1 : if_icmp.holds cd x 0 = false) (k1 : G M h k n (pc + 3) ls st) : G M h k n pc ls (.int x :: st) :=
  plain hG (fun _ _ _ _ _ _ _ A hx hc r => XS.ifNo A hx rfl (hb hc hd) rfl (by rw [if0]; exact hc1) r) k1
theorem icmpYes (hG : IsGo G l Z a0 EL n0 own name code maxL ret R Q) {o : Int} {cd : ClassFile.Cond} {x y : Int32} (hd : decode code pc = .ok (.if_icmp cd o, 3)) (hc1 : if_icmp.holds cd x y = true) (ho : 0 ≤ (pc : Int) + o) (hp : ((pc : Int) + o).toNat = pc') (k1 : G M h k n pc' ls st) : G M h k n pc ls (.int y :: .int x :: st) :=
  plain hG (fun _ _ _ _ _ _ _ A hx hc r => XS.icmpYes A hx rfl rfl (hb hc hd) rfl hc1 ho hp r) k1
theorem icmpNo (hG : IsGo G l Z a0 EL n0 own name code maxL ret R Q) {o : Int} {cd : ClassFile.Cond} {x y : Int32} (hd : decode code pc = .ok (.if_icmp cd o, 3)) (hc1 : if_icmp.holds cd x y = false) (k1 : G M h k n (pc + 3) ls st) : G M h k n pc ls (.int y :: .int x :: st) :=
  plain hG (fun _ _ _ _ _ _ _ A hx hc r => XS.icmpNo A hx rfl (hb hc hd) rfl hc1 r) k1
theorem icmp_eq (hG : IsGo G l Z a0 EL n0 own name code maxL ret R Q) {o : Int} {x y : Int32} (hd : decode code pc = .ok (.if_icmp .eq o, 3)) (ho : 0 ≤ (pc : Int) + o) (hp : ((pc : Int) + o).toNat = pc') (k1 : x = y → G M h k n pc' ls st) (k2 : ¬ (x = y) → G M h k n (pc + 3) ls st) : G M h k n pc ls (.int y :: .int x :: st) := by
  by_cases q : x = y
  · exact icmpYes hG hd (teq q).1 ho hp (k1 q)
  · exact icmpNo hG hd (feq q).1 (k2 q)
theorem if_eq (hG : IsGo G l Z a0 EL n0 own name code maxL ret R Q) {o : Int} {x : Int32} (hd : decode code pc = .ok (.ifCond .eq o, 3)) (ho : 0 ≤ (pc : Int) + o) (hp : ((pc : Int) + o).toNat = pc') (k1 : x = 0 → G M h k n pc' ls st) (k2 : ¬ (x = 0) → G M h k n (pc + 3) ls st) : G M h k n pc ls (.int x :: st) := by
  by_cases q : x = 0
  · exact ifYes hG hd (teq q).1 ho hp (k1 q)
  · exact ifNo hG hd (feq q).1 (k2 q)
theorem icmp_ne (hG : IsGo G l Z a0 EL n0 own name code maxL ret R Q) {o : Int} {x y : Int32} (hd : decode code pc = .ok (.if_icmp .ne o, 3)) (ho : 0 ≤ (pc : Int) + o) (hp : ((pc : Int) + o).toNat = pc') (k1 : ¬ (x = y) → G M h k n pc' ls st) (k2 : x = y → G M h k n (pc + 3) ls st) : G M h k n pc ls (.int y :: .int x :: st) := by
  by_cases q : x = y
  · exact icmpNo hG hd (teq q).2 (k2 q)
  · exact icmpYes hG hd (feq q).2 ho hp (k1 q)
theorem if_ne (hG : IsGo G l Z a0 EL n0 own name code maxL ret R Q) {o : Int} {x : Int32} (hd : decode code pc = .ok (.ifCond .ne o, 3)) (ho : 0 ≤ (pc : Int) + o) (hp : ((pc : Int) + o).toNat = pc') (k1 : ¬ (x = 0) → G M h k n pc' ls st) (k2 : x = 0 → G M h k n (pc + 3) ls st) : G M h k n pc ls (.int x :: st) := by
  by_cases q : x = 0
  · exact ifNo hG hd (teq q).2 (k2 q)
  · exact ifYes hG hd (feq q).2 ho hp (k1 q)
theorem icmp_lt (hG : IsGo G l Z a0 EL n0 own name code maxL ret R Q) {o : Int} {x y : Int32} (hd : decode code pc = .ok (.if_icmp .lt o, 3)) (ho : 0 ≤ (pc : Int) + o) (hp : ((pc : Int) + o).toNat = pc') (k1 : x < y → G M h k n pc' ls st) (k2 : ¬ (x < y) → G M h k n (pc + 3) ls st) : G M h k n pc ls (.int y :: .int x :: st) := by
  by_cases q : x < y
  · exact icmpYes hG hd (tlt q).1 ho hp (k1 q)
  · exact icmpNo hG hd (flt q).1 (k2 q)
theorem if_lt (hG : IsGo G l Z a0 EL n0 own name code maxL ret R Q) {o : Int} {x : Int32} (hd : decode code pc = .ok (.ifCond .lt o, 3)) (ho : 0 ≤ (pc : Int) + o) (hp : ((pc : Int) + o).toNat = pc') (k1 : x < 0 → G M h k n pc' ls st) (k2 : ¬ (x < 0) → G M h k n (pc + 3) ls st) : G M h k n pc ls (.int x :: st) := by
  by_cases q : x < 0
  · exact ifYes hG hd (tlt q).1 ho hp (k1 q)
  · exact ifNo hG hd (flt q).1 (k2 q)
theorem icmp_ge (hG : IsGo G l Z a0 EL n0 own name code maxL ret R Q) {o : Int} {x y : Int32} (hd : decode code pc = .ok (.if_icmp .ge o, 3)) (ho : 0 ≤ (pc : Int) + o) (hp : ((pc : Int) + o).toNat = pc') (k1 : ¬ (x < y) → G M h k n pc' ls st) (k2 : x < y → G M h k n (pc + 3) ls st) : G M h k n pc ls (.int y :: .int x :: st) := by
  by_cases q : x < y
  · exact icmpNo hG hd (tlt q).2.1 (k2 q)
  · exact icmpYes hG hd (flt q).2.1 ho hp (k1 q)
theorem if_ge (hG : IsGo G l Z a0 EL n0 own name code maxL ret R Q) {o : Int} {x : Int32} (hd : decode code pc = .ok (.ifCond .ge o, 3)) (ho : 0 ≤ (pc : Int) + o) (hp : ((pc : Int) + o).toNat = pc') (k1 : ¬ (x < 0) → G M h k n pc' ls st) (k2 : x < 0 → G M h k n (pc + 3) ls st) : G M h k n pc ls (.int x :: st) := by
  by_cases q : x < 0
  · exact ifNo hG hd (tlt q).2.1 (k2 q)
  · exact ifYes hG hd (flt q).2.1 ho hp (k1 q)
theorem icmp_gt (hG : IsGo G l Z a0 EL n0 own name code maxL ret R Q) {o : Int} {x y : Int32} (hd : decode code pc = .ok (.if_icmp .gt o, 3)) (ho : 0 ≤ (pc : Int) + o) (hp : ((pc : Int) + o).toNat = pc') (k1 : y < x → G M h k n pc' ls st) (k2 : ¬ (y < x) → G M h k n (pc + 3) ls st) : G M h k n pc ls (.int y :: .int x :: st) := by
  by_cases q : y < x
  · exact icmpYes hG hd (tlt q).2.2.1 ho hp (k1 q)
  · exact icmpNo hG hd (flt q).2.2.1 (k2 q)
theorem if_gt (hG : IsGo G l Z a0 EL n0 own name code maxL ret R Q) {o : Int} {x : Int32} (hd : decode code pc = .ok (.ifCond .gt o, 3)) (ho : 0 ≤ (pc : Int) + o) (hp : ((pc : Int) + o).toNat = pc') (k1 : 0 < x → G M h k n pc' ls st) (k2 : ¬ (0 < x) → G M h k n (pc + 3) ls st) : G M h k n pc ls (.int x :: st) := by
  by_cases q : 0 < x
  · exact ifYes hG hd (tlt q).2.2.1 ho hp (k1 q)
  · exact ifNo hG hd (flt q).2.2.1 (k2 q)
theorem icmp_le (hG : IsGo G l Z a0 EL n0 own name code maxL ret R Q) {o : Int} {x y : Int32} (hd : decode code pc = .ok (.if_icmp .le o, 3)) (ho : 0 ≤ (pc : Int) + o) (hp : ((pc : Int) + o).toNat = pc') (k1 : ¬ (y < x) → G M h k n pc' ls st) (k2 : y < x → G M h k n (pc + 3) ls st) : G M h k n pc ls (.int y :: .int x :: st) := by
  by_cases q : y < x
  · exact icmpNo hG hd (tlt q).2.2.2 (k2 q)
  · exact icmpYes hG hd (flt q).2.2.2 ho hp (k1 q)
theorem if_le (hG : IsGo G l Z a0 EL n0 own name code maxL ret R Q) {o : Int} {x : Int32} (hd : decode code pc = .ok (.ifCond .le o, 3)) (ho : 0 ≤ (pc : Int) + o) (hp : ((pc : Int) + o).toNat = pc') (k1 : ¬ (0 < x) → G M h k n pc' ls st) (k2 : 0 < x → G M h k n (pc + 3) ls st) : G M h k n pc ls (.int x :: st) := by
  by_cases q : 0 < x
  · exact ifNo hG hd (tlt q).2.2.2 (k2 q)
  · exact ifYes hG hd (flt q).2.2.2 ho hp (k1 q)
theorem ifnullYes (hG : IsGo G l Z a0 EL n0 own name code maxL ret R Q) {o : Int} (hd : decode code pc = .ok (.ifnull o, 3)) (ho : 0 ≤ (pc : Int) + o) (hp : ((pc : Int) + o).toNat = pc') (k1 : G M h k n pc' ls st) : G M h k n pc ls (.null :: st) :=
  plain hG (fun _ _ _ _ _ _ _ A hx hc r => XS.ifnullYes A hx rfl rfl (hb hc hd) rfl ho hp r) k1
theorem ifnullNo (hG : IsGo G l Z a0 EL n0 own name code maxL ret R Q) {o : Int} {a : Addr} (hd : decode code pc = .ok (.ifnull o, 3)) (k1 : G M h k n (pc + 3) ls st) : G M h k n pc ls (.ref a :: st) :=
  plain hG (fun _ _ _ _ _ _ _ A hx hc r => XS.ifnullNo A hx rfl (hb hc hd) rfl r) k1
theorem ifnonnullYes (hG : IsGo G l Z a0 EL n0 own name code maxL ret R Q) {o : Int} {a : Addr} (hd : decode code pc = .ok (.ifnonnull o, 3)) (ho : 0 ≤ (pc : Int) + o) (hp : ((pc : Int) + o).toNat = pc') (k1 : G M h k n pc' ls st) : G M h k n pc ls (.ref a :: st) :=
  plain hG (fun _ _ _ _ _ _ _ A hx hc r => XS.ifnonnullYes A hx rfl rfl (hb hc hd) rfl ho hp r) k1
theorem ifnonnullNo (hG : IsGo G l Z a0 EL n0 own name code maxL ret R Q) {o : Int} (hd : decode code pc = .ok (.ifnonnull o, 3)) (k1 : G M h k n (pc + 3) ls st) : G M h k n pc ls (.null :: st) :=
  plain hG (fun _ _ _ _ _ _ _ A hx hc r => XS.ifnonnullNo A hx rfl (hb hc hd) rfl r) k1
theorem acmp_ne (hG : IsGo G l Z a0 EL n0 own name code maxL ret R Q) {o : Int} {x y : Value} (hd : decode code pc = .ok (.if_acmp .ne o, 3)) (hx1 : x.isRef = true) (hy1 : y.isRef = true) (ho : 0 ≤ (pc : Int) + o) (hp : ((pc : Int) + o).toNat = pc') (k1 : ¬ x = y → G M h k n pc' ls st) (k2 : x = y → G M h k n (pc + 3) ls st) : G M h k n pc ls (y :: x :: st) := by
  by_cases q : x = y
  · exact plain hG (fun _ _ _ _ _ _ _ A hx hc r => XT.acmpNo A hx rfl (hb hc hd) rfl hx1 hy1 (by simp [XT.acmp, q]) r) (k2 q)
  · exact plain hG (fun _ _ _ _ _ _ _ A hx hc r => XT.acmpYes A hx rfl rfl (hb hc hd) rfl hx1 hy1 (by simp [XT.acmp, q]) ho hp r) (k1 q)
theorem acmp_eq (hG : IsGo G l Z a0 EL n0 own name code maxL ret R Q) {o : Int} {x y : Value} (hd : decode code pc = .ok (.if_acmp .eq o, 3)) (hx1 : x.isRef = true) (hy1 : y.isRef = true) (ho : 0 ≤ (pc : Int) + o) (hp : ((pc : Int) + o).toNat = pc') (k1 : x = y → G M h k n pc' ls st) (k2 : ¬ x = y → G M h k n (pc + 3) ls st) : G M h k n pc ls (y :: x :: st) := by
  by_cases q : x = y
  · exact plain hG (fun _ _ _ _ _ _ _ A hx hc r => XT.acmpYes A hx rfl rfl (hb hc hd) rfl hx1 hy1 (by simp [XT.acmp, q]) ho hp r) (k1 q)
  · exact plain hG (fun _ _ _ _ _ _ _ A hx hc r => XT.acmpNo A hx rfl (hb hc hd) rfl hx1 hy1 (by simp [XT.acmp, q]) r) (k2 q)
theorem irem (hG : IsGo G l Z a0 EL n0 own name code maxL ret R Q) {x y : Int32} (hd : decode code pc = .ok (.irem, 1)) (hy : y ≠ 0) (k1 : G M h k n (pc + 1) ls (.int (x % y) :: st)) : G M h k n pc ls (.int y :: .int x :: st) :=
  stepX hG (fun _ _ _ _ _ _ _ _ T _ X hx hc _ eT _ _ => ⟨T, X, eT, fun _ r => iremM X hx (g := mkF _ pc ls _) rfl (hb hc hd) rfl hy r⟩) k1
theorem getfield (hG : IsGo G l Z a0 EL n0 own name code maxL ret R Q) {R0 O nm d : String} {index : Nat} (hd : decode code pc = .ok (.getfield index, 3)) (w : (Cond.fieldLink own index R0 nm d).before a0 Z = true) (via : Via Z R0 O nm d) {a : Addr} {v : Value} (F : Fld Z h a O nm d v) (k1 : G M h k n (pc + 3) ls (v :: st)) : G M h k n pc ls (.ref a :: st) :=
  stepX hG (fun _ _ _ m _ _ _ _ _ _ X hx hc _ eT hZ hown => getF X hx hZ hown (host := "") (Or.inl w) via eT F (g := mkF m pc ls (.ref a :: st)) rfl rfl (hb hc hd)) k1
theorem getfieldN (hG : IsGo G l Z a0 EL n0 own name code maxL ret R Q) {R0 O nm d host : String} {index : Nat} (hd : decode code pc = .ok (.getfield index, 3)) (w : (Cond.fieldLinkNest own index R0 nm d host).before a0 Z = true) (via : Via Z R0 O nm d) {a : Addr} {v : Value} (F : Fld Z h a O nm d v) (k1 : G M h k n (pc + 3) ls (v :: st)) : G M h k n pc ls (.ref a :: st) :=
  stepX hG (fun _ _ _ m _ _ _ _ _ _ X hx hc _ eT hZ hown => getF X hx hZ hown (Or.inr w) via eT F (g := mkF m pc ls (.ref a :: st)) rfl rfl (hb hc hd)) k1
theorem getstatic (hG : IsGo G l Z a0 EL n0 own name code maxL ret R Q) {R0 O nm d : String} {index : Nat} (hd : decode code pc = .ok (.getstatic index, 3)) (w : (Cond.fieldLink own index R0 nm d).before a0 Z = true) (via : Via Z R0 O nm d) {v : Value} (F : Sta Z Z.heap O nm d v) (k1 : G M h k n (pc + 3) ls (v :: st)) : G M h k n pc ls st :=
  facts hG fun O9 _ => stepX hG (fun _ _ _ m _ _ _ _ _ _ X hx hc _ eT hZ hown => getS (host := "") X hx hZ hown w via eT (F.ext O9.2) (g := mkF m pc ls st) rfl (hb hc hd)) k1
theorem getstaticN (hG : IsGo G l Z a0 EL n0 own name code maxL ret R Q) {R0 O nm d host : String} {index : Nat} (hd : decode code pc = .ok (.getstatic index, 3)) (w : (Cond.fieldLinkNest own index R0 nm d host).before a0 Z = true) (via : Via Z R0 O nm d) {v : Value} (F : Sta Z Z.heap O nm d v) (k1 : G M h k n (pc + 3) ls (v :: st)) : G M h k n pc ls st :=
  facts hG fun O9 _ => stepX hG (fun _ _ _ m _ _ _ _ _ _ X hx hc _ eT hZ hown => getS2 X hx hZ hown (Or.inr w) via eT (F.ext O9.2) (g := mkF m pc ls st) rfl (hb hc hd)) k1
theorem checkcast (hG : IsGo G l Z a0 EL n0 own name code maxL ret R Q) {K : String} {index : Nat} (hd : decode code pc = .ok (.checkcast index, 3)) (w : (Cond.classLink own index K).before a0 Z = true) {a : Addr} (F : Ins Z h a K true) (k1 : G M h k n (pc + 3) ls (.ref a :: st)) : G M h k n pc ls (.ref a :: st) :=
  stepX hG (fun _ _ _ m _ _ _ _ _ _ X hx hc _ eT hZ hown => castY X hx hZ hown w eT F (g := mkF m pc ls (.ref a :: st)) rfl rfl (hb hc hd)) k1
theorem instYes (hG : IsGo G l Z a0 EL n0 own name code maxL ret R Q) {K : String} {index : Nat} (hd : decode code pc = .ok (.instanceof index, 3)) (w : (Cond.classLink own index K).before a0 Z = true) {a : Addr} (F : Ins Z h a K true) (k1 : G M h k n (pc + 3) ls (.int 1 :: st)) : G M h k n pc ls (.ref a :: st) :=
  stepX hG (fun _ _ _ m _ _ _ _ _ _ X hx hc _ eT hZ hown => instY X hx hZ hown w eT F (g := mkF m pc ls (.ref a :: st)) rfl rfl (hb hc hd)) k1
theorem instNot (hG : IsGo G l Z a0 EL n0 own name code maxL ret R Q) {K C : String} {index : Nat} (hd : decode code pc = .ok (.instanceof index, 3)) (w : (Cond.classLink own index K).before a0 Z = true) {a : Addr} (E : Exa Z h a C) (F : ∃ c t, Z.vm.findClass C = some c ∧ Z.vm.findClass K = some t ∧ Z.vm.assignable c t = false) (k1 : G M h k n (pc + 3) ls (.int 0 :: st)) : G M h k n pc ls (.ref a :: st) :=
  stepX hG (fun _ _ _ m _ _ _ _ _ _ X hx hc _ eT hZ hown => instNo X hx hZ hown w eT E F (g := mkF m pc ls (.ref a :: st)) rfl rfl (hb hc hd)) k1
theorem objInit (hG : IsGo G l Z a0 EL n0 own name code maxL ret R Q) {index W : Nat} (hd : decode code pc = .ok (.invokespecial index, 3)) (w1 : (Cond.methodLink own index Lib.objectInit).before a0 Z = true) (w2 : (Cond.instanceMethod Lib.objectInit).before a0 Z = true) (w3 : (Cond.code Lib.objectInit ⟨#[0xb1]⟩ 1 none).before a0 Z = true) (hls : ls.size = maxL) (hf : 1 ≤ R.frames) {a : Addr} (hW : (st.map fun v => v.category).sum ≤ W) (hl : W + 12 ≤ R.locals) (k1 : G M h k n (pc + 3) ls st) : G M h k n pc ls (.ref a :: st) :=
  stepX hG (fun _ _ _ m _ _ _ _ _ _ X hx hc hml eT hZ hown => initO X hx hZ hown w1 w2 w3 eT (g := mkF m pc ls (.ref a :: st)) rfl (by rw [hml]; exact hls) rfl (hb hc hd) hf (W := W) (by show 2 * 0 + _ ≤ _; omega) hl) k1
theorem alen (hG : IsGo G l Z a0 EL n0 own name code maxL ret R Q) (hd : decode code pc = .ok (.arraylength, 1)) {a : Addr} {kk : ClassId} {ty : FieldType} {N : Int32} {vs : List Value} {d : Value} (V : Arv Z h a kk ty N vs d) (k1 : G M h k n (pc + 1) ls (.int N :: st)) : G M h k n pc ls (.ref a :: st) :=
  stepX hG (fun _ _ _ m _ _ _ _ T _ X hx hc _ eT hZ _ => ⟨T, X, eT, fun t r => by
    obtain ⟨cl, A, -, S, hN, -⟩ := V
    refine X.arraylength hx (by rw [eT]; exact A.1) (State.isArrayOf_alike hZ.alike A.2.1) (g := mkF m pc ls (.ref a :: st)) rfl rfl (hb hc hd) t ?_
    rw [len_of S hN]; exact r⟩) k1
theorem caload (hG : IsGo G l Z a0 EL n0 own name code maxL ret R Q) (hd : decode code pc = .ok (.caload, 1)) {a : Addr} {kk : ClassId} {N j : Int32} {vs : List Value} {d v : Value} (V : Arv Z h a kk .char N vs d) (hj : ¬ j < 0 ∧ j < N) (hv : vs.getD j.toNatClampNeg d = v) (k1 : G M h k n (pc + 1) ls (v :: st)) : G M h k n pc ls (.int j :: .ref a :: st) :=
  stepX hG (fun _ _ _ m _ _ _ _ T _ X hx hc _ eT hZ _ => ⟨T, X, eT, fun t r => by
    obtain ⟨cl, A, -, S, hN, H, -⟩ := V
    exact X.caload hx (by rw [eT]; exact A.1) (State.isArrayOf_alike hZ.alike A.2.1) A.2.2 (inb_of S hj) (Has.at H (inb_of S hj) hv) (g := mkF m pc ls (.int j :: .ref a :: st)) rfl rfl (hb hc hd) t r⟩) k1
theorem baload (hG : IsGo G l Z a0 EL n0 own name code maxL ret R Q) (hd : decode code pc = .ok (.baload, 1)) {a : Addr} {kk : ClassId} {N j : Int32} {vs : List Value} {d v : Value} (V : Arv Z h a kk .byte N vs d) (hj : ¬ j < 0 ∧ j < N) (hv : vs.getD j.toNatClampNeg d = v) (k1 : G M h k n (pc + 1) ls (v :: st)) : G M h k n pc ls (.int j :: .ref a :: st) :=
  stepX hG (fun _ _ _ m _ _ _ _ T _ X hx hc _ eT hZ _ => ⟨T, X, eT, fun t r => by
    obtain ⟨cl, A, -, S, hN, H, -⟩ := V
    exact X.baloadBytes hx (by rw [eT]; exact A.1) (State.isArrayOf_alike hZ.alike A.2.1) A.2.2 (inb_of S hj) (Has.at H (inb_of S hj) hv) (g := mkF m pc ls (.int j :: .ref a :: st)) rfl rfl (hb hc hd) t r⟩) k1
theorem iaload (hG : IsGo G l Z a0 EL n0 own name code maxL ret R Q) (hd : decode code pc = .ok (.iaload, 1)) {a : Addr} {kk : ClassId} {N j : Int32} {vs : List Value} {d v : Value} (V : Arv Z h a kk .int N vs d) (hj : ¬ j < 0 ∧ j < N) (hv : vs.getD j.toNatClampNeg d = v) (k1 : G M h k n (pc + 1) ls (v :: st)) : G M h k n pc ls (.int j :: .ref a :: st) :=
  stepX hG (fun _ _ _ m _ _ _ _ T _ X hx hc _ eT hZ _ => ⟨T, X, eT, fun t r => by
    obtain ⟨cl, A, -, S, hN, H, -⟩ := V
    exact X.iaload hx (by rw [eT]; exact A.1) (State.isArrayOf_alike hZ.alike A.2.1) A.2.2 (inb_of S hj) (Has.at H (inb_of S hj) hv) (g := mkF m pc ls (.int j :: .ref a :: st)) rfl rfl (hb hc hd) t r⟩) k1
theorem aaload (hG : IsGo G l Z a0 EL n0 own name code maxL ret R Q) (hd : decode code pc = .ok (.aaload, 1)) {a : Addr} {kk : ClassId} {ty : FieldType} (hty : ty.isReference = true) {N j : Int32} {vs : List Value} {d v : Value} (V : Arv Z h a kk ty N vs d) (hj : ¬ j < 0 ∧ j < N) (hv : vs.getD j.toNatClampNeg d = v) (k1 : G M h k n (pc + 1) ls (v :: st)) : G M h k n pc ls (.int j :: .ref a :: st) :=
  stepX hG (fun _ _ _ m _ _ _ _ T _ X hx hc _ eT hZ _ => ⟨T, X, eT, fun t r => by
    obtain ⟨cl, A, -, S, hN, H, -⟩ := V
    exact X.aaload hx (by rw [eT]; exact A.1) (State.isArrayOf_alike hZ.alike A.2.1) hty A.2.2 (inb_of S hj) (Has.at H (inb_of S hj) hv) (g := mkF m pc ls (.int j :: .ref a :: st)) rfl rfl (hb hc hd) t r⟩) k1
theorem putfield (hG : IsGo G l Z a0 EL n0 own name code maxL ret R Q) {R0 O nm d C : String} {index kk : Nat} {ty : FieldType} (hd : decode code pc = .ok (.putfield index, 3)) (w : (Cond.fieldLink own index R0 nm d).before a0 Z = true) (via : Via Z R0 O nm d) {a : Addr} {v old : Value} (F : Fld Z h a O nm d old) (E : Exa Z h a C) (L : (Cond.lays C O nm d).before a0 Z = true ∨ ((Cond.laysFinal C O nm d).before a0 Z = true ∧ own = O ∧ name = "<init>")) (wi : (Cond.instantiable C kk).before a0 Z = true)
    (hty : parseFieldDescriptor d = some ty) (hn : narrow ty v = v) (hf : fits ty v = true) (ha : a ∈ M) (k1 : ∀ h', Wr h h' a (RoadKit.slotOf Z O nm d) v → G M h' k n (pc + 3) ls st) : G M h k n pc ls (v :: .ref a :: st) :=
  stepW hG ha (fun _ _ _ m _ _ _ _ _ _ X hx hc hnm eT hZ hown => putF X hx hZ hown (host := "") (Or.inl w) via eT F E (L.imp id fun q => ⟨q.1, q.2.1, hnm.trans q.2.2⟩) wi hty hn hf (g := mkF m pc ls (v :: .ref a :: st)) rfl rfl (hb hc hd)) k1
theorem castore (hG : IsGo G l Z a0 EL n0 own name code maxL ret R Q) (hd : decode code pc = .ok (.castore, 1)) {a : Addr} {kk : ClassId} {N j x : Int32} {vs : List Value} {d : Value} (V : Arv Z h a kk .char N vs d) (hj : ¬ j < 0 ∧ j < N) (i : Nat) (hji : j.toNatClampNeg = i) (hi : i < vs.length) (ha : a ∈ M) (k1 : ∀ h', Wr h h' a i (.int (nar .char x)) → Arv Z h' a kk .char N (vs.set i (.int (nar .char x))) d → G M h' k n (pc + 1) ls st) : G M h k n pc ls (.int x :: .int j :: .ref a :: st) := by
  subst hji
  obtain ⟨cl, A, q, S, hN, H, U⟩ := V
  exact stepW hG ha (fun _ _ _ m _ _ _ _ _ _ X hx hc _ eT hZ _ => stC X hx hZ eT A (inb_of S hj) (g := mkF m pc ls (.int x :: .int j :: .ref a :: st)) rfl rfl (hb hc hd)) (fun h' W => k1 h' W (Arv.set A q S hN H U (fits_nar_char x) W _ rfl hi))
theorem bastore (hG : IsGo G l Z a0 EL n0 own name code maxL ret R Q) (hd : decode code pc = .ok (.bastore, 1)) {a : Addr} {kk : ClassId} {N j x : Int32} {vs : List Value} {d : Value} (V : Arv Z h a kk .byte N vs d) (hj : ¬ j < 0 ∧ j < N) (i : Nat) (hji : j.toNatClampNeg = i) (hi : i < vs.length) (ha : a ∈ M) (k1 : ∀ h', Wr h h' a i (.int (nar .byte x)) → Arv Z h' a kk .byte N (vs.set i (.int (nar .byte x))) d → G M h' k n (pc + 1) ls st) : G M h k n pc ls (.int x :: .int j :: .ref a :: st) := by
  subst hji
  obtain ⟨cl, A, q, S, hN, H, U⟩ := V
  exact stepW hG ha (fun _ _ _ m _ _ _ _ _ _ X hx hc _ eT hZ _ => stB X hx hZ eT A (inb_of S hj) (g := mkF m pc ls (.int x :: .int j :: .ref a :: st)) rfl rfl (hb hc hd)) (fun h' W => k1 h' W (Arv.set A q S hN H U (fits_nar_byte x) W _ rfl hi))
theorem iastore (hG : IsGo G l Z a0 EL n0 own name code maxL ret R Q) (hd : decode code pc = .ok (.iastore, 1)) {a : Addr} {kk : ClassId} {N j x : Int32} {vs : List Value} {d : Value} (V : Arv Z h a kk .int N vs d) (hj : ¬ j < 0 ∧ j < N) (i : Nat) (hji : j.toNatClampNeg = i) (hi : i < vs.length) (ha : a ∈ M) (k1 : ∀ h', Wr h h' a i (.int x) → Arv Z h' a kk .int N (vs.set i (.int x)) d → G M h' k n (pc + 1) ls st) : G M h k n pc ls (.int x :: .int j :: .ref a :: st) := by
  subst hji
  obtain ⟨cl, A, q, S, hN, H, U⟩ := V
  exact stepW hG ha (fun _ _ _ m _ _ _ _ _ _ X hx hc _ eT hZ _ => stI X hx hZ eT A (inb_of S hj) (g := mkF m pc ls (.int x :: .int j :: .ref a :: st)) rfl rfl (hb hc hd)) (fun h' W => k1 h' W (Arv.set A q S hN H U (rfl) W _ rfl hi))
theorem aastore (hG : IsGo G l Z a0 EL n0 own name code maxL ret R Q) (hd : decode code pc = .ok (.aastore, 1)) {a : Addr} {kk : ClassId} {ty : FieldType} (hty : ty.isReference = true) {N j : Int32} {vs : List Value} {d v : Value} (V : Arv Z h a kk ty N vs d) (hj : ¬ j < 0 ∧ j < N) (i : Nat) (hji : j.toNatClampNeg = i) (hi : i < vs.length) (hsto : Sto Z h a v) (hfit : fits ty v = true) (ha : a ∈ M) (k1 : ∀ h', Wr h h' a i v → Arv Z h' a kk ty N (vs.set i v) d → G M h' k n (pc + 1) ls st) : G M h k n pc ls (v :: .int j :: .ref a :: st) := by
  subst hji
  obtain ⟨cl, A, q, S, hN, H, U⟩ := V
  exact stepW hG ha (fun _ _ _ m _ _ _ _ _ _ X hx hc _ eT hZ _ => stR X hx hZ eT A (inb_of S hj) hty hsto (g := mkF m pc ls (v :: .int j :: .ref a :: st)) rfl rfl (hb hc hd)) (fun h' W => k1 h' W (Arv.set A q S hN H U hfit W _ rfl hi))
theorem new (hG : IsGo G l Z a0 EL n0 own name code maxL ret R Q) {C : String} {index nn : Nat} (hd : decode code pc = .ok (.new index, 3)) (w : (Cond.classLink own index C).before a0 Z = true) (wi : (Cond.instantiable C nn).before a0 Z = true) (wz : (Cond.initialized C).before a0 Z = true) (hc : k + 1 ≤ R.cells) (hl : n + nn ≤ R.slots)
    (k1 : ∀ h' a, h.size ≤ a → Ext h h' → Exa Z h' a C → (∀ {O nm d : String} {ty : FieldType}, Laid Z a0 C O nm d → parseFieldDescriptor d = some ty → Fld Z h' a O nm d (defaultValue ty)) → G (a :: M) h' (k + 1) (n + nn) (pc + 3) ls (.ref a :: st)) : G M h k n pc ls st :=
  stepN hG (P := fun h' a => Exa Z h' a C ∧ ∀ {O nm d : String} {ty : FieldType}, Laid Z a0 C O nm d → parseFieldDescriptor d = some ty → Fld Z h' a O nm d (defaultValue ty)) (fun _ q => q.1.lt) (st' := fun a => .ref a :: st)
    (fun _ _ _ m _ _ _ _ _ _ X hx hb0 _ eT hZ hown => by
      obtain ⟨T', h', X', e', E, A, D, -, st1⟩ := newO X hx hZ hown w wi wz eT (g := mkF m pc ls st) rfl (hb hb0 hd) hc hl
      exact ⟨T', h', X', e', E, ⟨A, D⟩, st1⟩) (fun h' a q E P => k1 h' a q E P.1 P.2)
theorem newarray (hG : IsGo G l Z a0 EL n0 own name code maxL ret R Q) {aty : ArrayType} {ty : FieldType} (hd : decode code pc = .ok (.newarray aty, 2)) (hty : newarray.typeOf aty = ty) (w : (Cond.arrayClass ty).before a0 Z = true) {N : Int32} (hN : ¬ N < 0) (cap : Nat) (hcap : N.toNatClampNeg ≤ cap) (hb0 : cap * 8 ≤ 536870912) (hc : k + 1 ≤ R.cells) (hl : n + cap ≤ R.slots) (cnt : Nat) (vs : List Value) (hvs : vs = List.replicate cnt (defaultValue ty))
    (k1 : ∀ h' a kk, h.size ≤ a → Ext h h' → Arv Z h' a kk ty N vs (defaultValue ty) → G (a :: M) h' (k + 1) (n + cap) (pc + 2) ls (.ref a :: st)) : G M h k n pc ls (.int N :: st) := by
  subst hty
  exact stepN hG (P := fun h' a => ∃ kk, Arv Z h' a kk (newarray.typeOf aty) N vs (defaultValue (newarray.typeOf aty))) (fun _ q => q.elim fun _ q => q.lt) (st' := fun a => .ref a :: st)
    (fun _ _ _ m _ _ _ _ _ _ X hx hc0 _ eT hZ hown => by
      obtain ⟨T', h', cA, X', e', E, A, st1⟩ := newP X hx hZ w eT (g := mkF m pc ls (.int N :: st)) rfl (hb hc0 hd) rfl hN (cap := cap) hcap hb0 hc hl
      exact ⟨T', h', X', e', E, ⟨cA, (Arv.new A hN).pad (by subst hvs; exact pad_rep [] _ cnt)⟩, st1⟩) (fun h' a q E P => P.elim fun kk V => k1 h' a kk q E V)
theorem anewarray (hG : IsGo G l Z a0 EL n0 own name code maxL ret R Q) {C : String} {index : Nat} (hd : decode code pc = .ok (.anewarray index, 3)) (w1 : (Cond.classLink own index C).before a0 Z = true) (w2 : (Cond.arrayOver (.object C)).before a0 Z = true) {N : Int32} (hN : ¬ N < 0) (cap : Nat) (hcap : N.toNatClampNeg ≤ cap) (hb0 : cap * 8 ≤ 536870912) (hc : k + 1 ≤ R.cells) (hl : n + cap ≤ R.slots) (cnt : Nat) (vs : List Value) (hvs : vs = List.replicate cnt .null) {ad : String} (had : "[" ++ (FieldType.object C).toString = ad)
    (k1 : ∀ h' a kk, h.size ≤ a → Ext h h' → Arv Z h' a kk (.object C) N vs .null → Exa Z h' a ad → Ovr Z kk C → G (a :: M) h' (k + 1) (n + cap) (pc + 3) ls (.ref a :: st)) : G M h k n pc ls (.int N :: st) :=
  stepN hG (P := fun h' a => ∃ kk, Arv Z h' a kk (.object C) N vs .null ∧ Exa Z h' a ad ∧ Ovr Z kk C) (fun _ q => q.elim fun _ q => q.1.lt) (st' := fun a => .ref a :: st)
    (fun _ _ _ m _ _ _ _ _ _ X hx hc0 _ eT hZ hown => by
      obtain ⟨T', h', cA, X', e', E, A, A2, O, st1⟩ := newRE X hx hZ hown w1 w2 eT (g := mkF m pc ls (.int N :: st)) rfl (hb hc0 hd) rfl hN (cap := cap) hcap hb0 hc hl had
      exact ⟨T', h', X', e', E, ⟨cA, (Arv.new A hN).pad (by subst hvs; exact pad_rep [] _ cnt), A2, O⟩, st1⟩) (fun h' a q E P => P.elim fun kk V => k1 h' a kk q E V.1 V.2.1 V.2.2)
theorem ldcInt (hG : IsGo G l Z a0 EL n0 own name code maxL ret R Q) {index : Nat} {x : Int32} (hd : decode code pc = .ok (.ldc index, 2)) (w : (Cond.constant own index x).before a0 Z = true) (k1 : G M h k n (pc + 2) ls (.int x :: st)) : G M h k n pc ls st :=
  stepX hG (fun _ _ _ m _ _ _ _ T _ X hx hc _ eT hZ hown => ⟨T, X, eT, fun t r => X.ldcInt hx hown (mv hZ w) (g := mkF m pc ls st) rfl (hb hc hd) t r⟩) k1
theorem ldc (hG : IsGo G l Z a0 EL n0 own name code maxL ret R Q) {index : Nat} {text : String} (hd : decode code pc = .ok (.ldc index, 2)) (w : (Cond.stringLink own index text).before a0 Z = true) (wS : ∀ a ∈ Bundle.stringAtoms, a.before a0 Z = true) (hmem : (own, index) ∈ EL) {vs : List Value} {N : Int32}
    (ht : (∀ c ∈ text.toList, c.toNat < 256) ∧ text.toList.map (fun c => Value.int (Jvm.Lit.byteI c.toNat.toUInt16)) = vs) (hz : ¬ N < 0) (hl : N.toNatClampNeg = vs.length) {nn : Nat} (hn : 4 * text.toList.length ≤ nn) (hbig : nn ≤ 536870912) (hc : k + 2 ≤ R.cells) (hl' : n + (nn + 4) ≤ R.slots)
    (k1 : ∀ h' a b kk, Ext h h' → Exa Z h' a "java/lang/String" → Fld Z h' a "java/lang/String" "coder" "B" (.int 0) → Fld Z h' a "java/lang/String" "value" "[B" (.ref b) → Arv Z h' b kk .byte N vs (.int 0) → (∀ x ∈ M, x ≠ a ∧ x ≠ b) → G M h' (k + 2) (n + (nn + 4)) (pc + 2) ls (.ref a :: st)) : G M h k n pc ls st := by
  obtain ⟨p, e, s, m, args, below, meth, c, hx, hc0, hml, hnm, hr, hlk, hEL, rfl⟩ := hG
  intro T I
  obtain ⟨vm0, locs, k0, X, eT, hS, hk, hZ, hown, N0, H, S, hn0⟩ := I
  obtain ⟨a, T', h', k9, b, kk, X', e', E, hS', hk', hZ', hown', E1, F1, F2, V, la, lb, C, -, hne, st1⟩ := ldcCH X hx hZ hown w wS eT hS hk hEL hmem H.1 ht hz hl (g := mkF m pc ls st) rfl (hb hc0 hd) hn hbig hc hl'
  have S' := S.chr C
  obtain ⟨s₂, o, h1, h2⟩ := k1 h' a b kk E E1 F1 F2 V (fun x hx => hne x (S' x hx).2.2) T' ⟨T'.vm, locs, k9, X', e', hS', hk', hZ', hown', N0, H.trans C, S', hn0.ext E⟩
  exact ⟨s₂, o, st1 _ h1, h2⟩
theorem Met.back {y : MethodName} {bytes : ByteArray} {maxL' : Nat} {ret' : Option FieldType} {rm : Room} {as' : List Value} {M0 : List Addr} {Q' : QT} (hM : Met l Z EL n0 y bytes maxL' ret' [] rm as' M0 h Q') {p : Program} {e : Env} {below : List Frame} {s : State} {vm0 : Vm} {args : Array Value} {len W : Nat} (hZ : Z.Warmed39 vm0) (wc : (Cond.code y bytes maxL' ret').before a0 Z = true) (wz : (Cond.initialized y.cls).before a0 Z = true) (hf : rm.frames + 1 ≤ R.frames) (hl : W + (maxL' + 11) + rm.locals ≤ R.locals) (hEL : EW Z a0 EL) (H : CHv Z EL vm0 h) (S : Saf Z EL n0 vm0 h M0) (hn0 : Old Z n0 h) :
    BackS l R p e below (s.setVm vm0) args y len W (fun A a => a = as'.toArray ∧ A.U.heap = h ∧ A.cells + rm.cells ≤ R.cells ∧ A.slots + rm.slots ≤ R.slots)
      (fun A _ v B => ∃ (L : List Loc) (M' : List Addr), Q' v M' B.U.heap ∧ Fr n0 L ∧ B.locs = A.locs ++ L ∧ B.cells = A.cells + rm.cells ∧ B.slots = A.slots + rm.slots ∧ CHr Z EL vm0 h B.U.vm B.U.heap ∧ Saf Z EL n0 B.U.vm B.U.heap M' ∧ Old Z n0 B.U.heap) :=
  BackS.of_freeW (bytes := bytes) (maxL := maxL') (ret := ret') (E := fun _ first o t L k n => k = rm.cells ∧ n = rm.slots ∧ ∃ v M', o = .returned v ∧ Q' v M' t.heap ∧ Fr n0 L ∧ CHr Z EL first.vm first.heap t.vm t.heap ∧ Saf Z EL n0 t.vm t.heap M' ∧ Old Z n0 t.heap) hM hf hl
    (fun m meth c A a Y hp => have hU : Z.Warmed39 A.U.vm := wtrans (s := s.setVm vm0) hZ Y.warmed
      ⟨by show (Cond.and _ .tt).before a A.U = true; rw [Cond.before_and, mv hU wc]; rfl, mv hU wc, mv hU wz, hp.2.2.1, hp.2.2.2⟩)
    (fun m meth c A a g mk Y hp => by have q := CHv.at Y hZ hEL H; exact ⟨hp.1, wtrans (s := s.setVm vm0) hZ Y.warmed, hp.2.1, q.1, S.chr q, hn0⟩) (fun _ _ _ _ _ _ _ _ _ => trivial)
    (fun _ _ _ _ ⟨v, L, M', h1, h2, h3, h4, h5, h7, h6⟩ => ⟨L, _, _, h6, rfl, rfl, v, M', h1, h2, h3, h4, h5, h7⟩)
    (fun m meth c A a g mk v t L k n Y hp _ _ ⟨e1, e2, v', M', e3, e4, e5, e6, e7, e8⟩ => by
      cases e3; subst e1 e2
      refine ⟨L, M', e4, e5, rfl, rfl, rfl, (CHv.at Y hZ hEL H).trans ?_, e7, e8⟩
      rw [← hp.2.1]; exact e6)
theorem callStatic (hG : IsGo G l Z a0 EL n0 own name code maxL ret R Q) {y : MethodName} {bytes : ByteArray} {maxL' : Nat} {ret' : Option FieldType} {rm : Room} {as' : List Value} {M0 : List Addr} {Q' : QT} {index : Nat} {ps : List FieldType} {rt : Option FieldType} (hd : decode code pc = .ok (.invokestatic index, 3)) (w1 : (Cond.methodLink own index y).before a0 Z = true) (w2 : (Cond.static y).before a0 Z = true) (w3 : (Cond.initialized y.cls).before a0 Z = true) (w4 : (Cond.code y bytes maxL' ret').before a0 Z = true) (hy : y.cls ≠ "java/lang/invoke/MethodHandle" ∧ y.cls ≠ "java/lang/invoke/VarHandle") (hM : Met l Z EL n0 y bytes maxL' ret' [] rm as' M0 h Q') (hpd : parseMethodDescriptor y.desc = some ⟨ps, rt⟩) (hal : as'.length = ps.length) (hst : st = as'.reverse ++ rest)
    (hls : ls.size = maxL) (hM0 : ∀ x ∈ M0, x ∈ M) (hf : rm.frames + 1 ≤ R.frames) {W : Nat} (hW : (rest.map fun v => v.category).sum ≤ W) (hl : W + (maxL' + 11) + rm.locals ≤ R.locals) (hc : k + rm.cells ≤ R.cells) (hs : n + rm.slots ≤ R.slots)
    (k1 : ∀ v M' h', h.size ≤ h'.size → Q' v M' h' → G (M' ++ M) h' (k + rm.cells) (n + rm.slots) (pc + 3) ls (v.toList ++ rest)) : G M h k n pc ls st := by
  obtain ⟨p, e, s, m, args, below, meth, c, hx, hc0, hml, hnm, hr, hlk, hEL, rfl⟩ := hG
  intro T I
  obtain ⟨vm0, locs, k0, X, eT, hS, hk, hZ, hown, N0, H, S, hn0⟩ := I
  obtain ⟨v, vm₁, B, -, X2, hS2, hle, post, stp⟩ := callSS X hx hown (mvT hZ w1) (mvT hZ w2) (mvT hZ w3) (mvT hZ w4) hy (hM.back (W := W) hZ w4 w3 hf hl hEL H.1 (S.sub hM0) hn0) (g := mkF m pc ls st) rfl (by rw [hml]; exact hls) (argsL := as') (rest := rest) (lenOf hpd hal) hst (by show 2 * 0 + _ ≤ _; omega) (hb hc0 hd) (fun _ _ => ⟨rfl, eT, hc, hs⟩)
  obtain ⟨L, M', q1, q2, q3, q4, q5, q6, q7, q8⟩ := post
  obtain ⟨X3, hS3, hZ3, hown3⟩ := rebS hS hk X2 hS2 (by rw [← eT]; exact hle) hZ hown
  dsimp only [Pt.U, Pt.locs, Pt.cells, Pt.slots] at *
  obtain ⟨U, Lc, kc, sc⟩ := B
  dsimp only at *
  subst q3 q4 q5
  obtain ⟨s₂, o, h1, h2⟩ := k1 v M' U.heap (by rw [← eT]; exact hle) q1 U ⟨U.vm, locs ++ L, _, X3, rfl, hS3, Nat.le_refl _, hZ3, hown3, Fr.app N0 q2, H.trans q6, q7.app (S.chr q6), q8⟩
  exact ⟨s₂, o, stp.trans h1, h2⟩
theorem callInit (hG : IsGo G l Z a0 EL n0 own name code maxL ret R Q) {y : MethodName} {bytes : ByteArray} {maxL' : Nat} {rm : Room} {a : Addr} {as' : List Value} {M0 : List Addr} {Q' : QT} {index : Nat} {ps : List FieldType} {rt : Option FieldType} (hd : decode code pc = .ok (.invokespecial index, 3)) (hy1 : y.name = "<init>") (w1 : (Cond.methodLink own index y).before a0 Z = true) (w2 : (Cond.instanceMethod y).before a0 Z = true) (w3 : (Cond.initialized y.cls).before a0 Z = true) (w4 : (Cond.code y bytes maxL' none).before a0 Z = true) (hy : y.cls ≠ "java/lang/invoke/MethodHandle" ∧ y.cls ≠ "java/lang/invoke/VarHandle") (hM : Met l Z EL n0 y bytes maxL' none [] rm (.ref a :: as') M0 h Q') (hpd : parseMethodDescriptor y.desc = some ⟨ps, rt⟩) (hal : as'.length = ps.length) (hst : st = as'.reverse ++ .ref a :: rest)
    (hls : ls.size = maxL) (hM0 : ∀ x ∈ M0, x ∈ M) (hf : rm.frames + 1 ≤ R.frames) {W : Nat} (hW : (rest.map fun v => v.category).sum ≤ W) (hl : W + (maxL' + 11) + rm.locals ≤ R.locals) (hc : k + rm.cells ≤ R.cells) (hs : n + rm.slots ≤ R.slots)
    (k1 : ∀ v M' h', h.size ≤ h'.size → Q' v M' h' → G (M' ++ M) h' (k + rm.cells) (n + rm.slots) (pc + 3) ls (v.toList ++ rest)) : G M h k n pc ls st := by
  obtain ⟨p, e, s, m, args, below, meth, c, hx, hc0, hml, hnm, hr, hlk, hEL, rfl⟩ := hG
  intro T I
  obtain ⟨vm0, locs, k0, X, eT, hS, hk, hZ, hown, N0, H, S, hn0⟩ := I
  obtain ⟨v, vm₁, B, -, X2, hS2, hle, post, stp⟩ := X.specialBackS hx hy1 hown (mvT hZ w1) (mvT hZ w2) (mvT hZ w4) hy (hM.back (W := W) hZ w4 w3 hf hl hEL H.1 (S.sub hM0) hn0) (g := mkF m pc ls st) rfl (by rw [hml]; exact hls) (Steps.refl _) (a := a) (argsL := as') (rest := rest) (lenOf hpd hal) hst (by show 2 * 0 + _ ≤ _; omega) (hb hc0 hd) (fun _ _ => ⟨rfl, eT, hc, hs⟩)
  obtain ⟨L, M', q1, q2, q3, q4, q5, q6, q7, q8⟩ := post
  obtain ⟨X3, hS3, hZ3, hown3⟩ := rebS hS hk X2 hS2 (by rw [← eT]; exact hle) hZ hown
  dsimp only [Pt.U, Pt.locs, Pt.cells, Pt.slots] at *
  obtain ⟨U, Lc, kc, sc⟩ := B
  dsimp only at *
  subst q3 q4 q5
  obtain ⟨s₂, o, h1, h2⟩ := k1 v M' U.heap (by rw [← eT]; exact hle) q1 U ⟨U.vm, locs ++ L, _, X3, rfl, hS3, Nat.le_refl _, hZ3, hown3, Fr.app N0 q2, H.trans q6, q7.app (S.chr q6), q8⟩
  exact ⟨s₂, o, stp.trans h1, h2⟩
theorem callVirtual (hG : IsGo G l Z a0 EL n0 own name code maxL ret R Q) {y z : MethodName} {bytes : ByteArray} {maxL' : Nat} {ret' : Option FieldType} {rm : Room} {a : Addr} {as' : List Value} {M0 : List Addr} {Q' : QT} {C : String} {index : Nat} {ps : List FieldType} {rt : Option FieldType} (hd : decode code pc = .ok (.invokevirtual index, 3)) (E : Exa Z h a C) (w1 : (Cond.methodLink own index y).before a0 Z = true) (wd : (Cond.declares y).before a0 Z = true) (nf : ∀ (s : State), Z.Warmed39 s.vm → NotFace s y) (ws : (Cond.selects C y z).before a0 Z = true) (w2 : (Cond.instanceMethod z).before a0 Z = true) (w3 : (Cond.initialized z.cls).before a0 Z = true) (w4 : (Cond.code z bytes maxL' ret').before a0 Z = true) (hy : y.cls ≠ "java/lang/invoke/MethodHandle" ∧ y.cls ≠ "java/lang/invoke/VarHandle") (hM : Met l Z EL n0 z bytes maxL' ret' [] rm (.ref a :: as') M0 h Q') (hpd : parseMethodDescriptor y.desc = some ⟨ps, rt⟩) (hal : as'.length = ps.length) (hst : st = as'.reverse ++ .ref a :: rest)
    (hls : ls.size = maxL) (hM0 : ∀ x ∈ M0, x ∈ M) (hf : rm.frames + 1 ≤ R.frames) {W : Nat} (hW : (rest.map fun v => v.category).sum ≤ W) (hl : W + (maxL' + 11) + rm.locals ≤ R.locals) (hc : k + rm.cells ≤ R.cells) (hs : n + rm.slots ≤ R.slots)
    (k1 : ∀ v M' h', h.size ≤ h'.size → Q' v M' h' → G (M' ++ M) h' (k + rm.cells) (n + rm.slots) (pc + 3) ls (v.toList ++ rest)) : G M h k n pc ls st := by
  obtain ⟨p, e, s, m, args, below, meth, c, hx, hc0, hml, hnm, hr, hlk, hEL, rfl⟩ := hG
  intro T I
  obtain ⟨vm0, locs, k0, X, eT, hS, hk, hZ, hown, N0, H, S, hn0⟩ := I
  obtain ⟨cB, kB, i1, i2, i3⟩ := isOf (s := s.setVm vm0) hZ eT E
  obtain ⟨v, vm₁, B, -, X2, hS2, hle, post, stp⟩ := X.virtualBackS hx hown (mvT hZ w1) (mvT hZ wd) (nf (s.setVm vm0) hZ) (mvT hZ ws) (mvT hZ w2) hy (hM.back (W := W) hZ w4 w3 hf hl hEL H.1 (S.sub hM0) hn0) i1 i3 (g := mkF m pc ls st) rfl (by rw [hml]; exact hls) (Steps.refl _) (argsL := as') (rest := rest) (lenOf hpd hal) hst (by show 2 * 0 + _ ≤ _; omega) (hb hc0 hd) (fun _ _ => ⟨rfl, eT, hc, hs⟩)
  obtain ⟨L, M', q1, q2, q3, q4, q5, q6, q7, q8⟩ := post
  obtain ⟨X3, hS3, hZ3, hown3⟩ := rebS hS hk X2 hS2 (by rw [← eT]; exact hle) hZ hown
  dsimp only [Pt.U, Pt.locs, Pt.cells, Pt.slots] at *
  obtain ⟨U, Lc, kc, sc⟩ := B
  dsimp only at *
  subst q3 q4 q5
  obtain ⟨s₂, o, h1, h2⟩ := k1 v M' U.heap (by rw [← eT]; exact hle) q1 U ⟨U.vm, locs ++ L, _, X3, rfl, hS3, Nat.le_refl _, hZ3, hown3, Fr.app N0 q2, H.trans q6, q7.app (S.chr q6), q8⟩
  exact ⟨s₂, o, stp.trans h1, h2⟩
theorem callVirtualUp (hG : IsGo G l Z a0 EL n0 own name code maxL ret R Q) {y z : MethodName} {bytes : ByteArray} {maxL' : Nat} {ret' : Option FieldType} {rm : Room} {a : Addr} {as' : List Value} {M0 : List Addr} {Q' : QT} {C owner : String} {index : Nat} {ps : List FieldType} {rt : Option FieldType} (hd : decode code pc = .ok (.invokevirtual index, 3)) (E : Exa Z h a C) (w1 : (Cond.methodLink own index y).before a0 Z = true) (wsm : (Cond.sameMethod y.cls owner y.name y.desc).before a0 Z = true) (wd : (Cond.declares ⟨owner, y.name, y.desc⟩).before a0 Z = true) (ws : (Cond.selects C y z).before a0 Z = true) (w2 : (Cond.instanceMethod z).before a0 Z = true) (w3 : (Cond.initialized z.cls).before a0 Z = true) (w4 : (Cond.code z bytes maxL' ret').before a0 Z = true) (hy : owner ≠ "java/lang/invoke/MethodHandle" ∧ owner ≠ "java/lang/invoke/VarHandle") (hM : Met l Z EL n0 z bytes maxL' ret' [] rm (.ref a :: as') M0 h Q') (hpd : parseMethodDescriptor y.desc = some ⟨ps, rt⟩) (hal : as'.length = ps.length) (hst : st = as'.reverse ++ .ref a :: rest)
    (hls : ls.size = maxL) (hM0 : ∀ x ∈ M0, x ∈ M) (hf : rm.frames + 1 ≤ R.frames) {W : Nat} (hW : (rest.map fun v => v.category).sum ≤ W) (hl : W + (maxL' + 11) + rm.locals ≤ R.locals) (hc : k + rm.cells ≤ R.cells) (hs : n + rm.slots ≤ R.slots)
    (k1 : ∀ v M' h', h.size ≤ h'.size → Q' v M' h' → G (M' ++ M) h' (k + rm.cells) (n + rm.slots) (pc + 3) ls (v.toList ++ rest)) : G M h k n pc ls st := by
  obtain ⟨p, e, s, m, args, below, meth, c, hx, hc0, hml, hnm, hr, hlk, hEL, rfl⟩ := hG
  intro T I
  obtain ⟨vm0, locs, k0, X, eT, hS, hk, hZ, hown, N0, H, S, hn0⟩ := I
  obtain ⟨cB, kB, i1, i2, i3⟩ := isOf (s := s.setVm vm0) hZ eT E
  obtain ⟨v, vm₁, B, -, X2, hS2, hle, post, stp⟩ := X.virtualBackUpS hx hown (mvT hZ w1) (mvT hZ wsm) (mvT hZ wd) hy (mvT hZ ws) (mvT hZ w2) (hM.back (W := W) hZ w4 w3 hf hl hEL H.1 (S.sub hM0) hn0) i1 i3 (g := mkF m pc ls st) rfl (by rw [hml]; exact hls) (Steps.refl _) (argsL := as') (rest := rest) (lenOf hpd hal) hst (by show 2 * 0 + _ ≤ _; omega) (hb hc0 hd) (fun _ _ => ⟨rfl, eT, hc, hs⟩)
  obtain ⟨L, M', q1, q2, q3, q4, q5, q6, q7, q8⟩ := post
  obtain ⟨X3, hS3, hZ3, hown3⟩ := rebS hS hk X2 hS2 (by rw [← eT]; exact hle) hZ hown
  dsimp only [Pt.U, Pt.locs, Pt.cells, Pt.slots] at *
  obtain ⟨U, Lc, kc, sc⟩ := B
  dsimp only at *
  subst q3 q4 q5
  obtain ⟨s₂, o, h1, h2⟩ := k1 v M' U.heap (by rw [← eT]; exact hle) q1 U ⟨U.vm, locs ++ L, _, X3, rfl, hS3, Nat.le_refl _, hZ3, hown3, Fr.app N0 q2, H.trans q6, q7.app (S.chr q6), q8⟩
  exact ⟨s₂, o, stp.trans h1, h2⟩
theorem callFace (hG : IsGo G l Z a0 EL n0 own name code maxL ret R Q) {y z : MethodName} {bytes : ByteArray} {maxL' : Nat} {ret' : Option FieldType} {rm : Room} {a : Addr} {as' : List Value} {M0 : List Addr} {Q' : QT} {C : String} {index count : Nat} {ps : List FieldType} {rt : Option FieldType} (hd : decode code pc = .ok (.invokeinterface index count, 5)) (E : Exa Z h a C) (w1 : (Cond.methodLink own index y).before a0 Z = true) (wd : (Cond.declares y).before a0 Z = true) (wf : ∀ (s : State) (args : Array Value), Z.Warmed39 s.vm → (Cond.interfaceMethod y.cls y.cls y.name y.desc).before args s = true) (ws : (Cond.selects C y z).before a0 Z = true) (w2 : (Cond.instanceMethod z).before a0 Z = true) (wp : (Cond.publicMethod z).before a0 Z = true) (wu : (Cond.unhidden C y.name y.desc).before a0 Z = true) (wk : (Cond.castable C y.cls).before a0 Z = true) (w3 : (Cond.initialized z.cls).before a0 Z = true) (w4 : (Cond.code z bytes maxL' ret').before a0 Z = true) (hy : y.cls ≠ "java/lang/invoke/MethodHandle" ∧ y.cls ≠ "java/lang/invoke/VarHandle") (hM : Met l Z EL n0 z bytes maxL' ret' [] rm (.ref a :: as') M0 h Q') (hpd : parseMethodDescriptor y.desc = some ⟨ps, rt⟩) (hal : as'.length = ps.length) (hst : st = as'.reverse ++ .ref a :: rest)
    (hls : ls.size = maxL) (hM0 : ∀ x ∈ M0, x ∈ M) (hf : rm.frames + 1 ≤ R.frames) {W : Nat} (hW : (rest.map fun v => v.category).sum ≤ W) (hl : W + (maxL' + 11) + rm.locals ≤ R.locals) (hc : k + rm.cells ≤ R.cells) (hs : n + rm.slots ≤ R.slots)
    (k1 : ∀ v M' h', h.size ≤ h'.size → Q' v M' h' → G (M' ++ M) h' (k + rm.cells) (n + rm.slots) (pc + 5) ls (v.toList ++ rest)) : G M h k n pc ls st := by
  obtain ⟨p, e, s, m, args, below, meth, c, hx, hc0, hml, hnm, hr, hlk, hEL, rfl⟩ := hG
  intro T I
  obtain ⟨vm0, locs, k0, X, eT, hS, hk, hZ, hown, N0, H, S, hn0⟩ := I
  obtain ⟨cB, kB, i1, i2, i3⟩ := isOf (s := s.setVm vm0) hZ eT E
  obtain ⟨v, vm₁, B, -, X2, hS2, hle, post, stp⟩ := X.interfaceBackS hx hown (mvT hZ w1) (mvT hZ wd) (wf _ _ hZ) (mvT hZ ws) (mvT hZ w2) (mvT hZ wp) (mvT hZ wu) (mvT hZ wk) hy (hM.back (W := W) hZ w4 w3 hf hl hEL H.1 (S.sub hM0) hn0) i1 i2 i3 (g := mkF m pc ls st) rfl (by rw [hml]; exact hls) (Steps.refl _) (argsL := as') (rest := rest) (lenOf hpd hal) hst (by show 2 * 0 + _ ≤ _; omega) (hb hc0 hd) (fun _ _ => ⟨rfl, eT, hc, hs⟩)
  obtain ⟨L, M', q1, q2, q3, q4, q5, q6, q7, q8⟩ := post
  obtain ⟨X3, hS3, hZ3, hown3⟩ := rebS hS hk X2 hS2 (by rw [← eT]; exact hle) hZ hown
  dsimp only [Pt.U, Pt.locs, Pt.cells, Pt.slots] at *
  obtain ⟨U, Lc, kc, sc⟩ := B
  dsimp only at *
  subst q3 q4 q5
  obtain ⟨s₂, o, h1, h2⟩ := k1 v M' U.heap (by rw [← eT]; exact hle) q1 U ⟨U.vm, locs ++ L, _, X3, rfl, hS3, Nat.le_refl _, hZ3, hown3, Fr.app N0 q2, H.trans q6, q7.app (S.chr q6), q8⟩
  exact ⟨s₂, o, stp.trans h1, h2⟩
theorem ireturn (hG : IsGo G l Z a0 EL n0 own name code maxL (some .int) R Q) {x : Int32} (hd : decode code pc = .ok (.ireturn, 1)) (hq : Q (some (.int x)) M' h) (hM : ∀ x ∈ M', x ∈ M) (hk : k ≤ R.cells) (hn : n ≤ R.slots) : G M h k n pc ls (.int x :: st) :=
  leaves hG (fun q => by cases q) hq hM hk hn (fun _ _ _ _ _ _ _ _ _ _ _ X hx hc hr hl => retOut X hx hr rfl (Or.inl ⟨rfl, Or.inl rfl, x, rfl⟩) (hb hc hd) hl)
theorem ireturnN {t : FieldType} (hG : IsGo G l Z a0 EL n0 own name code maxL (some t) R Q) {x : Int32} (ht : t = .boolean ∨ t = .byte ∨ t = .char ∨ t = .short) (hd : decode code pc = .ok (.ireturn, 1)) (hq : Q (some (.int (nar t x))) M' h) (hM : ∀ x ∈ M', x ∈ M) (hk : k ≤ R.cells) (hn : n ≤ R.slots) : G M h k n pc ls (.int x :: st) :=
  leaves hG (fun q => by cases q) hq hM hk hn (fun _ _ _ _ _ _ _ _ _ _ _ X hx hc hr hl => retN X hx hr ht (hb hc hd) hl)
theorem areturn {t : FieldType} (hG : IsGo G l Z a0 EL n0 own name code maxL (some t) R Q) {v : Value} (ht : t.isReference = true) (hnr : narrow t v = v) (hv : v.isRef = true) (hd : decode code pc = .ok (.areturn, 1)) (hq : Q (some v) M' h) (hM : ∀ x ∈ M', x ∈ M) (hk : k ≤ R.cells) (hn : n ≤ R.slots) : G M h k n pc ls (v :: st) :=
  leaves hG (fun q => by cases q) hq hM hk hn (fun _ _ _ _ _ _ _ _ _ _ _ X hx hc hr hl => retOut X hx hr hnr (Or.inr (Or.inr (Or.inr (Or.inr ⟨rfl, ht, hv⟩)))) (hb hc hd) hl)
theorem return0 (hG : IsGo G l Z a0 EL n0 own name code maxL none R Q) (hd : decode code pc = .ok (.return_, 1)) (hq : Q none M' h) (hM : ∀ x ∈ M', x ∈ M) (hk : k ≤ R.cells) (hn : n ≤ R.slots) : G M h k n pc ls [] :=
  leaves hG (fun _ => rfl) hq hM hk hn (fun _ _ _ _ _ _ _ _ _ _ _ X hx hc hr hl => X.returnOut hx hr (hb hc hd) hl)
end Jvm.OwnWp
namespace Jvm.OwnWp
open Sem ClassFile Op Lib Bundle Jvm.Stand Jvm.Free Jvm.LawKit Jvm.RoadKit
/-- a list of ints as an array's values -/
abbrev ints (xs : List Int32) : List Value := xs.map Value.int
theorem ofN_clamp {i : Nat} (h : i < 2 ^ 31) : (Int32.ofNat i).toNatClampNeg = i := clamp_of rfl h
theorem ofN_toInt {i : Nat} (h : i < 2 ^ 31) : (Int32.ofNat i).toInt = i := toInt_of rfl h
theorem ofN_succ (i : Nat) : Int32.ofNat i + Int32.ofInt 1 = Int32.ofNat (i + 1) := (inc_ofNat i).symm
theorem ofN_lt {i n : Nat} (h : i < n) (hn : n < 2 ^ 31) : Int32.ofNat i < Int32.ofNat n := by
  rw [Int32.lt_iff_toInt_lt, ofN_toInt (by omega), ofN_toInt hn]; omega
theorem ofN_nlt {i n : Nat} (h : n ≤ i) (hi : i < 2 ^ 31) : ¬ Int32.ofNat i < Int32.ofNat n := by
  rw [Int32.lt_iff_toInt_lt, ofN_toInt hi, ofN_toInt (by omega)]; omega
theorem ofN_nn {i : Nat} (h : i < 2 ^ 31) : ¬ Int32.ofNat i < 0 := by
  have e : (0 : Int32) = Int32.ofNat 0 := rfl
  rw [e]; exact ofN_nlt (Nat.zero_le _) h
theorem ofN_inj {i n : Nat} (hi : i < 2 ^ 31) (hn : n < 2 ^ 31) (h : Int32.ofNat i = Int32.ofNat n) : i = n := by
  have := congrArg Int32.toInt h
  rw [ofN_toInt hi, ofN_toInt hn] at this; omega
theorem ofN_in {i n : Nat} (h : i < n) (hn : n < 2 ^ 31) : ¬ Int32.ofNat i < 0 ∧ Int32.ofNat i < Int32.ofNat n := ⟨ofN_nn (by omega), ofN_lt h hn⟩
theorem ints_at {xs : List Int32} {i : Nat} (h : i < 2 ^ 31) : (ints xs).getD (Int32.ofNat i).toNatClampNeg (.int 0) = .int (xs.getD i 0) := by
  rw [ofN_clamp h]; simp only [ints, List.getD_eq_getElem?_getD, List.getElem?_map]
  cases xs[i]? <;> rfl
theorem ints_rep (n : Nat) : ints (List.replicate n 0) = List.replicate n (Value.int 0) := by simp [ints]
theorem byte_idem (x : Int32) : nar .byte (nar .byte x) = nar .byte x := by
  show x.toInt8.toInt32.toInt8.toInt32 = x.toInt8.toInt32
  simp
theorem byte_idem2 (x : Int32) : nar .byte x.toInt8.toInt32 = nar .byte x := byte_idem x
theorem nar_char {x : Int32} (h0 : ¬ x < 0) (h1 : ¬ (65535 : Int32) < x) : nar .char x = x := by
  have e := c_i2c x
  have r : (nar .char x).toInt = x.toInt := by
    show (x.toUInt32.toUInt16.toUInt32.toInt32).toInt = x.toInt
    rw [Int32.lt_iff_toInt_lt] at h0 h1
    have e1 : (65535 : Int32).toInt = 65535 := rfl
    have e2 : (0 : Int32).toInt = 0 := rfl
    omega
  exact Int32.toInt_inj.mp r
theorem nar_bool1 : nar .boolean 1 = 1 := by decide
theorem nar_bool0 : nar .boolean 0 = 0 := by decide
theorem Arv.neTy {Z : State} {h : Heap} {a b : Addr} {k k' : ClassId} {t t' : FieldType} {z z' : Int32} {vs vs' : List Value} {d d' : Value} (F : Arv Z h a k t z vs d) (F' : Arv Z h b k' t' z' vs' d') (hne : t ≠ t') : a ≠ b := fun q => by
  subst q
  obtain ⟨c, A, -⟩ := F
  obtain ⟨c', A', -⟩ := F'
  cases A.1.symm.trans A'.1
  obtain ⟨-, k1, h1, comp, h2⟩ := A.2.1
  obtain ⟨-, k2, h3, comp', h4⟩ := A'.2.1
  cases h1.symm.trans h3
  rw [h2] at h4
  cases h4
  exact hne rfl
theorem Sto.ofArv {Z : State} {h : Heap} {a y : Addr} {k : ClassId} {t : FieldType} {z : Int32} {vs : List Value} {d : Value} {C : String} (F : Arv Z h a k t z vs d) (O : Ovr Z k C) (I : Ins Z h y C true) : Sto Z h a (.ref y) := by
  obtain ⟨c, A, q, -⟩ := F
  exact Sto.ofV A q O I
/-- 1 where the two lists are one, 0 else -/
def eqv (xs ys : List Int32) : Int32 := if xs = ys then 1 else 0
theorem eqv_yes {xs ys : List Int32} (h : xs = ys) : eqv xs ys = 1 := if_pos h
theorem eqv_no {xs ys : List Int32} (h : ¬ xs = ys) : eqv xs ys = 0 := if_neg h
theorem getD_in {xs : List Int32} {i : Nat} (h : i < xs.length) : xs.getD i 0 ∈ xs := by
  rw [List.getD_eq_getElem?_getD, List.getElem?_eq_getElem h]; exact List.getElem_mem h
theorem take_succ' {xs : List Int32} {i : Nat} (h : i < xs.length) : xs.take (i + 1) = xs.take i ++ [xs.getD i 0] := by
  rw [List.take_add_one, List.getElem?_eq_getElem h, List.getD_eq_getElem?_getD, List.getElem?_eq_getElem h]; rfl
end Jvm.OwnWp
namespace Jvm.OwnWp
open Sem ClassFile Op Lib Bundle Jvm.Stand Jvm.Free Jvm.LawKit Jvm.RoadKit
theorem forallS {P : Int32 → Prop} {y : Int32} {L : List Int32} (q : P y) (r : ∀ x ∈ L, P x) : ∀ x ∈ y :: L, P x := fun x z => (List.mem_cons.mp z).elim (fun u => u ▸ q) (r x)
theorem eqv_one {xs ys : List Int32} (h : ¬ eqv xs ys = 0) : eqv xs ys = 1 := by
  unfold eqv at h ⊢
  by_cases q : xs = ys
  · rw [if_pos q]
  · rw [if_neg q] at h; exact absurd rfl h
theorem fill_step {cs : List Int32} {i r : Nat} {v : Int32} (h : i + (r + 1) = cs.length) (f : Int32 → Int32) (hv : v = f (cs.getD i 0)) : (ints ((cs.take i).map f ++ List.replicate (r + 1) 0)).set i (.int v) = ints ((cs.take (i + 1)).map f ++ List.replicate r 0) := by
  subst hv
  have e : List.replicate (r + 1) (0 : Int32) = 0 :: List.replicate r 0 := rfl
  have l1 : ((cs.take i).map f).length = i := by simp; omega
  show List.set (List.map Value.int _) i _ = _
  rw [← List.map_set, take_succ' (by omega), List.map_append, e, List.set_append_right _ _ (by omega), l1, Nat.sub_self]
  simp
end Jvm.OwnWp
namespace Jvm.OwnWp
open Sem ClassFile Op Lib Bundle Jvm.Stand Jvm.Free Jvm.LawKit Jvm.RoadKit
theorem shr0 (x : Int32) : x >>> ((0 : Int32) &&& 31) = x := by
  have s := c_ishr x 0 0 (by decide)
  refine Int32.toInt_inj.mp ?_
  rw [s]; simp
theorem ints_at' {xs : List Int32} (i : Nat) : (ints xs).getD i (.int 0) = .int (xs.getD i 0) := by
  simp only [ints, List.getD_eq_getElem?_getD, List.getElem?_map]
  cases xs[i]? <;> rfl
/-- a char read of a byte -/
def chr8 (u : Int32) : Int32 := nar .char ((u &&& 255).toUInt32.toUInt16.toUInt32.toInt32)
theorem char_idem (x : Int32) : nar .char (nar .char x) = nar .char x := by
  have e := c_i2c x
  have e' : (nar .char x).toInt = x.toUInt32.toUInt16.toUInt32.toInt32.toInt := rfl
  refine nar_char ?_ ?_
  · rw [Int32.lt_iff_toInt_lt, e']; have e0 : (0 : Int32).toInt = 0 := rfl; omega
  · rw [Int32.lt_iff_toInt_lt, e']; have e0 : (65535 : Int32).toInt = 65535 := rfl; omega
theorem chr8_nar (u : Int32) : nar .char (chr8 u) = chr8 u := char_idem _
theorem chr8_lo {c : Int32} (h : ¬ c < 0 ∧ ¬ (255 : Int32) < c) : chr8 (nar .byte c) = c := by
  obtain ⟨h0, h1⟩ := h
  rw [Int32.lt_iff_toInt_lt] at h0 h1
  have e0 : (0 : Int32).toInt = 0 := rfl
  have e1 : (255 : Int32).toInt = 255 := rfl
  have b := c_i2b c
  have b' : ((nar .byte c).toInt - c.toInt) % 256 = 0 := b.1
  have m := c_mask (nar .byte c) 255 8 (by decide) (by decide)
  have m' : (nar .byte c &&& 255).toInt = (nar .byte c).toInt % 256 := m
  have v : nar .byte c &&& 255 = c := Int32.toInt_inj.mp (by omega)
  show nar .char (nar .char (nar .byte c &&& 255)) = c
  rw [v, char_idem]
  refine nar_char ?_ ?_
  · rw [Int32.lt_iff_toInt_lt]; omega
  · rw [Int32.lt_iff_toInt_lt]; have e2 : (65535 : Int32).toInt = 65535 := rfl; omega
end Jvm.OwnWp
namespace Jvm.Pilot.@@N@@
open Jvm Jvm.ClassFile Sem Op Lib Jvm.Free Jvm.Stand Jvm.LawKit Jvm.RoadKit Bundle Jvm.OwnWp Jvm.Pilot.@@N@@.Jvm.D
abbrev EL0 : ELT := [("com/example/claimwheel/claimwheel/engine/CronField", (52 : Nat)), ("com/example/claimwheel/claimwheel/engine/CronField", (60 : Nat)), ("java/lang/String", (7 : Nat))]
/-- what holds at the law's start -/
def Ctx (l : Launch) (Z : State) (a0 : Array Value) (n0 : Nat) (g0 : Int32) : Prop := (∀ d ∈ tables_1, d.before a0 Z = true) ∧ (∀ a ∈ Bundle.stringAtoms, a.before a0 Z = true) ∧ EW Z a0 EL0 ∧ (Sta Z Z.heap "java/lang/String" "COMPACT_STRINGS" "Z" (.int g0) ∧ ¬ g0 = 0) ∧ True
theorem own_and255 (x : Int32) : ¬ nar .char ((x &&& (255 : Int32)).toUInt32.toUInt16.toUInt32.toInt32) < 0 ∧ ¬ (255 : Int32) < nar .char ((x &&& (255 : Int32)).toUInt32.toUInt16.toUInt32.toInt32) := by
  have a := c_and x 255 (by decide)
  have e1 : (255 : Int32).toInt = 255 := rfl
  have e0 : (0 : Int32).toInt = 0 := rfl
  have n1 : nar .char (x &&& 255) = x &&& 255 := nar_char (by rw [Int32.lt_iff_toInt_lt]; omega) (by rw [Int32.lt_iff_toInt_lt]; have e2 : (65535 : Int32).toInt = 65535 := rfl; omega)
  have n2 : (x &&& (255 : Int32)).toUInt32.toUInt16.toUInt32.toInt32 = x &&& 255 := n1
  rw [n2, n1, Int32.lt_iff_toInt_lt, Int32.lt_iff_toInt_lt]; omega
theorem own_up {c : Int32} (h : ¬ c < 0 ∧ ¬ (255 : Int32) < c) : ¬ c < 0 ∧ ¬ (65535 : Int32) < c := ⟨h.1, fun q => h.2 (by rw [Int32.lt_iff_toInt_lt] at q ⊢; have e1 : (65535 : Int32).toInt = 65535 := rfl; have e2 : (255 : Int32).toInt = 255 := rfl; omega)⟩
theorem eqv_eq {xs ys : List Int32} (h : ¬ eqv xs ys = 0) : xs = ys := by
  by_cases q : xs = ys
  · exact q
  · exact absurd (eqv_no q) h
theorem eqv_ne {xs ys : List Int32} (h : eqv xs ys = 0) : ¬ xs = ys := fun q => by
  rw [eqv_yes q] at h; exact absurd h (by decide)
theorem own_un0 {xs : List Int32} {r : Int32} (hr : (r = 1 ∧ (xs = [42] ∨ xs = [63])) ∨ (r = 0 ∧ ¬ (xs = [42] ∨ xs = [63]))) (hl : xs.length ≠ 1) : r = 0 := by
  rcases hr with ⟨-, h | h⟩ | ⟨h, -⟩
  · exact absurd (by rw [h]; rfl) hl
  · exact absurd (by rw [h]; rfl) hl
  · exact h
theorem own_byte {c k : Int32} (h : ¬ c < 0 ∧ ¬ (255 : Int32) < c) (h0 : 0 ≤ k.toInt) (h1 : k.toInt < 128) : nar .byte c = k ↔ c = k := by
  have e0 : (0 : Int32).toInt = 0 := rfl
  have e1 : (255 : Int32).toInt = 255 := rfl
  have b := c_i2b c
  rw [Int32.lt_iff_toInt_lt, Int32.lt_iff_toInt_lt] at h
  have b' : ((nar .byte c).toInt - c.toInt) % 256 = 0 ∧ -128 ≤ (nar .byte c).toInt ∧ (nar .byte c).toInt < 128 := b
  constructor
  · intro q; rw [q] at b'; exact Int32.toInt_inj.mp (by omega)
  · intro q; subst q; exact Int32.toInt_inj.mp (by omega)
theorem own_un1 {c r : Int32} (h : ¬ c < 0 ∧ ¬ (255 : Int32) < c) (hr : (r = 1 ∧ ([nar .byte c] = [42] ∨ [nar .byte c] = [63])) ∨ (r = 0 ∧ ¬ ([nar .byte c] = [42] ∨ [nar .byte c] = [63]))) : ((c = 42 ∨ c = 63) → r = 1) ∧ (¬ c = 42 → ¬ c = 63 → r = 0) := by
  simp only [List.cons.injEq, and_true, own_byte h (show 0 ≤ (42 : Int32).toInt by decide) (by decide), own_byte h (show 0 ≤ (63 : Int32).toInt by decide) (by decide)] at hr
  rcases hr with ⟨h1, h2⟩ | ⟨h1, h2⟩
  · exact ⟨fun _ => h1, fun a b => absurd h2 (fun q => q.elim a b)⟩
  · exact ⟨fun q => absurd q h2, fun _ _ => h1⟩
theorem d_jdk_52_method_21_code_3 : decode jdk_52_method_21_code 3 = .ok (.iload 5, 2) := by decide +kernel
theorem d_jdk_52_method_21_code_5 : decode jdk_52_method_21_code 5 = .ok (.iload 4, 2) := by decide +kernel
theorem d_jdk_52_method_21_code_7 : decode jdk_52_method_21_code 7 = .ok (.if_icmp .ge 37, 3) := by decide +kernel
theorem d_jdk_52_method_21_code_44 : decode jdk_52_method_21_code 44 = .ok (.iload 4, 2) := by decide +kernel
theorem d_jdk_52_method_21_code_46 : decode jdk_52_method_21_code 46 = .ok (.ireturn, 1) := by decide +kernel
theorem d_jdk_52_method_21_code_10 : decode jdk_52_method_21_code 10 = .ok (.aload_n 0, 1) := by decide +kernel
theorem d_jdk_52_method_21_code_11 : decode jdk_52_method_21_code 11 = .ok (.iload_n 1, 1) := by decide +kernel
theorem d_jdk_52_method_21_code_12 : decode jdk_52_method_21_code 12 = .ok (.caload, 1) := by decide +kernel
theorem d_jdk_52_method_21_code_13 : decode jdk_52_method_21_code 13 = .ok (.istore 6, 2) := by decide +kernel
theorem d_jdk_52_method_21_code_15 : decode jdk_52_method_21_code 15 = .ok (.iload 6, 2) := by decide +kernel
theorem d_jdk_52_method_21_code_17 : decode jdk_52_method_21_code 17 = .ok (.sipush 255, 3) := by decide +kernel
theorem d_jdk_52_method_21_code_20 : decode jdk_52_method_21_code 20 = .ok (.if_icmp .le 6, 3) := by decide +kernel
theorem d_jdk_52_method_21_code_26 : decode jdk_52_method_21_code 26 = .ok (.aload_n 2, 1) := by decide +kernel
theorem d_jdk_52_method_21_code_27 : decode jdk_52_method_21_code 27 = .ok (.iload_n 3, 1) := by decide +kernel
theorem d_jdk_52_method_21_code_28 : decode jdk_52_method_21_code 28 = .ok (.iload 6, 2) := by decide +kernel
theorem d_jdk_52_method_21_code_30 : decode jdk_52_method_21_code 30 = .ok (.i2b, 1) := by decide +kernel
theorem d_jdk_52_method_21_code_31 : decode jdk_52_method_21_code 31 = .ok (.bastore, 1) := by decide +kernel
theorem d_jdk_52_method_21_code_32 : decode jdk_52_method_21_code 32 = .ok (.iinc 1 1, 3) := by decide +kernel
theorem d_jdk_52_method_21_code_35 : decode jdk_52_method_21_code 35 = .ok (.iinc 3 1, 3) := by decide +kernel
theorem d_jdk_52_method_21_code_38 : decode jdk_52_method_21_code 38 = .ok (.iinc 5 1, 3) := by decide +kernel
theorem d_jdk_52_method_21_code_41 : decode jdk_52_method_21_code 41 = .ok (.goto (-38), 3) := by decide +kernel
theorem d_jdk_52_method_21_code_0 : decode jdk_52_method_21_code 0 = .ok (.iconst 0, 1) := by decide +kernel
theorem d_jdk_52_method_21_code_1 : decode jdk_52_method_21_code 1 = .ok (.istore 5, 2) := by decide +kernel
theorem pl_0 : plainFor (⟨"java/lang/StringUTF16", "compress", "([CI[BII)I"⟩ : MethodName) = true := by first | exact plainFor_of_name (by first | (simp [plainName, overriddenIn]; done) | decide +kernel) | decide +kernel
theorem d_jdk_52_method_16_code_0 : decode jdk_52_method_16_code 0 = .ok (.iload_n 2, 1) := by decide +kernel
theorem d_jdk_52_method_16_code_1 : decode jdk_52_method_16_code 1 = .ok (.newarray .byte, 2) := by decide +kernel
theorem w19 {Z : State} {a0 : Array Value} (hw : ∀ d ∈ tables_1, d.before a0 Z = true) : (Jvm.Cond.arrayClass Jvm.ClassFile.FieldType.byte).before a0 Z = true := hw _ (List.mem_of_getElem? (i := 19) rfl)
theorem d_jdk_52_method_16_code_3 : decode jdk_52_method_16_code 3 = .ok (.astore_n 3, 1) := by decide +kernel
theorem d_jdk_52_method_16_code_4 : decode jdk_52_method_16_code 4 = .ok (.aload_n 0, 1) := by decide +kernel
theorem d_jdk_52_method_16_code_5 : decode jdk_52_method_16_code 5 = .ok (.iload_n 1, 1) := by decide +kernel
theorem d_jdk_52_method_16_code_6 : decode jdk_52_method_16_code 6 = .ok (.aload_n 3, 1) := by decide +kernel
theorem d_jdk_52_method_16_code_7 : decode jdk_52_method_16_code 7 = .ok (.iconst 0, 1) := by decide +kernel
theorem d_jdk_52_method_16_code_8 : decode jdk_52_method_16_code 8 = .ok (.iload_n 2, 1) := by decide +kernel
theorem d_jdk_52_method_16_code_9 : decode jdk_52_method_16_code 9 = .ok (.invokestatic 115, 3) := by decide +kernel
theorem w47 {Z : State} {a0 : Array Value} (hw : ∀ d ∈ tables_1, d.before a0 Z = true) : (Jvm.Cond.methodLink "java/lang/StringUTF16" (115 : Nat) ({ cls := "java/lang/StringUTF16", name := "compress", desc := "([CI[BII)I" } : Jvm.MethodName)).before a0 Z = true := hw _ (List.mem_of_getElem? (i := 47) rfl)
theorem w49 {Z : State} {a0 : Array Value} (hw : ∀ d ∈ tables_1, d.before a0 Z = true) : (Jvm.Cond.code ({ cls := "java/lang/StringUTF16", name := "compress", desc := "([CI[BII)I" } : Jvm.MethodName) jdk_52_method_21_code (7 : Nat) (Option.some Jvm.ClassFile.FieldType.int)).before a0 Z = true := hw _ (List.mem_of_getElem? (i := 49) rfl)
theorem w45 {Z : State} {a0 : Array Value} (hw : ∀ d ∈ tables_1, d.before a0 Z = true) : (Jvm.Cond.initialized "java/lang/StringUTF16").before a0 Z = true := hw _ (List.mem_of_getElem? (i := 45) rfl)
theorem w48 {Z : State} {a0 : Array Value} (hw : ∀ d ∈ tables_1, d.before a0 Z = true) : (Jvm.Cond.static ({ cls := "java/lang/StringUTF16", name := "compress", desc := "([CI[BII)I" } : Jvm.MethodName)).before a0 Z = true := hw _ (List.mem_of_getElem? (i := 48) rfl)
theorem pd_0 : parseMethodDescriptor "([CI[BII)I" = some ⟨[(.array .char), .int, (.array .byte), .int, .int], some .int⟩ := by decide +kernel
theorem d_jdk_52_method_16_code_12 : decode jdk_52_method_16_code 12 = .ok (.istore 4, 2) := by decide +kernel
theorem d_jdk_52_method_16_code_14 : decode jdk_52_method_16_code 14 = .ok (.iload 4, 2) := by decide +kernel
theorem d_jdk_52_method_16_code_16 : decode jdk_52_method_16_code 16 = .ok (.iload_n 2, 1) := by decide +kernel
theorem d_jdk_52_method_16_code_17 : decode jdk_52_method_16_code 17 = .ok (.if_icmp .eq 40, 3) := by decide +kernel
theorem d_jdk_52_method_16_code_57 : decode jdk_52_method_16_code 57 = .ok (.aload_n 3, 1) := by decide +kernel
theorem d_jdk_52_method_16_code_58 : decode jdk_52_method_16_code 58 = .ok (.areturn, 1) := by decide +kernel
theorem pl_1 : plainFor (⟨"java/lang/StringUTF16", "compress", "([CII)[B"⟩ : MethodName) = true := by first | exact plainFor_of_name (by first | (simp [plainName, overriddenIn]; done) | decide +kernel) | decide +kernel
theorem d_jdk_52_method_15_code_0 : decode jdk_52_method_15_code 0 = .ok (.iload_n 1, 1) := by decide +kernel
theorem d_jdk_52_method_15_code_1 : decode jdk_52_method_15_code 1 = .ok (.aload_n 0, 1) := by decide +kernel
theorem d_jdk_52_method_15_code_2 : decode jdk_52_method_15_code 2 = .ok (.arraylength, 1) := by decide +kernel
theorem d_jdk_52_method_15_code_3 : decode jdk_52_method_15_code 3 = .ok (.isub, 1) := by decide +kernel
theorem d_jdk_52_method_15_code_4 : decode jdk_52_method_15_code 4 = .ok (.bipush 31, 2) := by decide +kernel
theorem d_jdk_52_method_15_code_6 : decode jdk_52_method_15_code 6 = .ok (.iushr, 1) := by decide +kernel
theorem d_jdk_52_method_15_code_7 : decode jdk_52_method_15_code 7 = .ok (.i2b, 1) := by decide +kernel
theorem d_jdk_52_method_15_code_8 : decode jdk_52_method_15_code 8 = .ok (.ireturn, 1) := by decide +kernel
theorem pl_2 : plainFor (⟨"java/lang/StringUTF16", "coderFromArrayLen", "([BI)B"⟩ : MethodName) = true := by first | exact plainFor_of_name (by first | (simp [plainName, overriddenIn]; done) | decide +kernel) | decide +kernel
theorem d_jdk_42_method_149_code_0 : decode jdk_42_method_149_code 0 = .ok (.aload_n 0, 1) := by decide +kernel
theorem d_jdk_42_method_149_code_1 : decode jdk_42_method_149_code 1 = .ok (.invokespecial 1, 3) := by decide +kernel
theorem w15 {Z : State} {a0 : Array Value} (hw : ∀ d ∈ tables_1, d.before a0 Z = true) : (Jvm.Cond.methodLink "java/lang/String" (1 : Nat) ({ cls := "java/lang/Object", name := "<init>", desc := "()V" } : Jvm.MethodName)).before a0 Z = true := hw _ (List.mem_of_getElem? (i := 15) rfl)
theorem w16 {Z : State} {a0 : Array Value} (hw : ∀ d ∈ tables_1, d.before a0 Z = true) : (Jvm.Cond.instanceMethod ({ cls := "java/lang/Object", name := "<init>", desc := "()V" } : Jvm.MethodName)).before a0 Z = true := hw _ (List.mem_of_getElem? (i := 16) rfl)
theorem w17 {Z : State} {a0 : Array Value} (hw : ∀ d ∈ tables_1, d.before a0 Z = true) : (Jvm.Cond.code ({ cls := "java/lang/Object", name := "<init>", desc := "()V" } : Jvm.MethodName) object_method_1_code (1 : Nat) (Option.none : Option Jvm.ClassFile.FieldType)).before a0 Z = true := hw _ (List.mem_of_getElem? (i := 17) rfl)
theorem d_jdk_42_method_149_code_4 : decode jdk_42_method_149_code 4 = .ok (.iload_n 3, 1) := by decide +kernel
theorem d_jdk_42_method_149_code_5 : decode jdk_42_method_149_code 5 = .ok (.ifCond .ne 22, 3) := by decide +kernel
theorem d_jdk_42_method_149_code_8 : decode jdk_42_method_149_code 8 = .ok (.aload_n 0, 1) := by decide +kernel
theorem d_jdk_42_method_149_code_9 : decode jdk_42_method_149_code 9 = .ok (.ldc 7, 2) := by decide +kernel
theorem w18 {Z : State} {a0 : Array Value} (hw : ∀ d ∈ tables_1, d.before a0 Z = true) : (Jvm.Cond.stringLink "java/lang/String" (7 : Nat) "").before a0 Z = true := hw _ (List.mem_of_getElem? (i := 18) rfl)
theorem d_jdk_42_method_149_code_11 : decode jdk_42_method_149_code 11 = .ok (.getfield 9, 3) := by decide +kernel
theorem w24 {Z : State} {a0 : Array Value} (hw : ∀ d ∈ tables_1, d.before a0 Z = true) : (Jvm.Cond.fieldLink "java/lang/String" (9 : Nat) "java/lang/String" "value" "[B").before a0 Z = true := hw _ (List.mem_of_getElem? (i := 24) rfl)
theorem d_jdk_42_method_149_code_14 : decode jdk_42_method_149_code 14 = .ok (.putfield 9, 3) := by decide +kernel
theorem w20 {Z : State} {a0 : Array Value} (hw : ∀ d ∈ tables_1, d.before a0 Z = true) : (Jvm.Cond.laysFinal "java/lang/String" "java/lang/String" "value" "[B").before a0 Z = true := hw _ (List.mem_of_getElem? (i := 20) rfl)
theorem w5 {Z : State} {a0 : Array Value} (hw : ∀ d ∈ tables_1, d.before a0 Z = true) : (Jvm.Cond.instantiable "java/lang/String" (4 : Nat)).before a0 Z = true := hw _ (List.mem_of_getElem? (i := 5) rfl)
theorem pf__B : parseFieldDescriptor "[B" = some (.array .byte) := by decide +kernel
theorem d_jdk_42_method_149_code_17 : decode jdk_42_method_149_code 17 = .ok (.aload_n 0, 1) := by decide +kernel
theorem d_jdk_42_method_149_code_18 : decode jdk_42_method_149_code 18 = .ok (.ldc 7, 2) := by decide +kernel
theorem d_jdk_42_method_149_code_20 : decode jdk_42_method_149_code 20 = .ok (.getfield 15, 3) := by decide +kernel
theorem w25 {Z : State} {a0 : Array Value} (hw : ∀ d ∈ tables_1, d.before a0 Z = true) : (Jvm.Cond.fieldLink "java/lang/String" (15 : Nat) "java/lang/String" "coder" "B").before a0 Z = true := hw _ (List.mem_of_getElem? (i := 25) rfl)
theorem d_jdk_42_method_149_code_23 : decode jdk_42_method_149_code 23 = .ok (.putfield 15, 3) := by decide +kernel
theorem w21 {Z : State} {a0 : Array Value} (hw : ∀ d ∈ tables_1, d.before a0 Z = true) : (Jvm.Cond.laysFinal "java/lang/String" "java/lang/String" "coder" "B").before a0 Z = true := hw _ (List.mem_of_getElem? (i := 21) rfl)
theorem pf_B : parseFieldDescriptor "B" = some .byte := by decide +kernel
theorem d_jdk_42_method_149_code_26 : decode jdk_42_method_149_code 26 = .ok (.return_, 1) := by decide +kernel
theorem pl_3 : plainFor (⟨"java/lang/String", "<init>", "([CIILjava/lang/Void;)V"⟩ : MethodName) = true := by first | exact plainFor_of_name (by first | (simp [plainName, overriddenIn]; done) | decide +kernel) | decide +kernel
theorem d_jdk_42_method_149_code_27 : decode jdk_42_method_149_code 27 = .ok (.getstatic 38, 3) := by decide +kernel
theorem w37 {Z : State} {a0 : Array Value} (hw : ∀ d ∈ tables_1, d.before a0 Z = true) : (Jvm.Cond.fieldLink "java/lang/String" (38 : Nat) "java/lang/String" "COMPACT_STRINGS" "Z").before a0 Z = true := hw _ (List.mem_of_getElem? (i := 37) rfl)
theorem d_jdk_42_method_149_code_30 : decode jdk_42_method_149_code 30 = .ok (.ifCond .eq 28, 3) := by decide +kernel
theorem d_jdk_42_method_149_code_33 : decode jdk_42_method_149_code 33 = .ok (.aload_n 1, 1) := by decide +kernel
theorem d_jdk_42_method_149_code_34 : decode jdk_42_method_149_code 34 = .ok (.iload_n 2, 1) := by decide +kernel
theorem d_jdk_42_method_149_code_35 : decode jdk_42_method_149_code 35 = .ok (.iload_n 3, 1) := by decide +kernel
theorem d_jdk_42_method_149_code_36 : decode jdk_42_method_149_code 36 = .ok (.invokestatic 177, 3) := by decide +kernel
theorem w43 {Z : State} {a0 : Array Value} (hw : ∀ d ∈ tables_1, d.before a0 Z = true) : (Jvm.Cond.methodLink "java/lang/String" (177 : Nat) ({ cls := "java/lang/StringUTF16", name := "compress", desc := "([CII)[B" } : Jvm.MethodName)).before a0 Z = true := hw _ (List.mem_of_getElem? (i := 43) rfl)
theorem w46 {Z : State} {a0 : Array Value} (hw : ∀ d ∈ tables_1, d.before a0 Z = true) : (Jvm.Cond.code ({ cls := "java/lang/StringUTF16", name := "compress", desc := "([CII)[B" } : Jvm.MethodName) jdk_52_method_16_code (6 : Nat) (Option.some (Jvm.ClassFile.FieldType.array Jvm.ClassFile.FieldType.byte))).before a0 Z = true := hw _ (List.mem_of_getElem? (i := 46) rfl)
theorem w44 {Z : State} {a0 : Array Value} (hw : ∀ d ∈ tables_1, d.before a0 Z = true) : (Jvm.Cond.static ({ cls := "java/lang/StringUTF16", name := "compress", desc := "([CII)[B" } : Jvm.MethodName)).before a0 Z = true := hw _ (List.mem_of_getElem? (i := 44) rfl)
theorem pd_1 : parseMethodDescriptor "([CII)[B" = some ⟨[(.array .char), .int, .int], some (.array .byte)⟩ := by decide +kernel
theorem d_jdk_42_method_149_code_39 : decode jdk_42_method_149_code 39 = .ok (.astore 5, 2) := by decide +kernel
theorem d_jdk_42_method_149_code_41 : decode jdk_42_method_149_code 41 = .ok (.aload_n 0, 1) := by decide +kernel
theorem d_jdk_42_method_149_code_42 : decode jdk_42_method_149_code 42 = .ok (.aload 5, 2) := by decide +kernel
theorem d_jdk_42_method_149_code_44 : decode jdk_42_method_149_code 44 = .ok (.iload_n 3, 1) := by decide +kernel
theorem d_jdk_42_method_149_code_45 : decode jdk_42_method_149_code 45 = .ok (.invokestatic 47, 3) := by decide +kernel
theorem w50 {Z : State} {a0 : Array Value} (hw : ∀ d ∈ tables_1, d.before a0 Z = true) : (Jvm.Cond.methodLink "java/lang/String" (47 : Nat) ({ cls := "java/lang/StringUTF16", name := "coderFromArrayLen", desc := "([BI)B" } : Jvm.MethodName)).before a0 Z = true := hw _ (List.mem_of_getElem? (i := 50) rfl)
theorem w52 {Z : State} {a0 : Array Value} (hw : ∀ d ∈ tables_1, d.before a0 Z = true) : (Jvm.Cond.code ({ cls := "java/lang/StringUTF16", name := "coderFromArrayLen", desc := "([BI)B" } : Jvm.MethodName) jdk_52_method_15_code (2 : Nat) (Option.some Jvm.ClassFile.FieldType.byte)).before a0 Z = true := hw _ (List.mem_of_getElem? (i := 52) rfl)
theorem w51 {Z : State} {a0 : Array Value} (hw : ∀ d ∈ tables_1, d.before a0 Z = true) : (Jvm.Cond.static ({ cls := "java/lang/StringUTF16", name := "coderFromArrayLen", desc := "([BI)B" } : Jvm.MethodName)).before a0 Z = true := hw _ (List.mem_of_getElem? (i := 51) rfl)
theorem pd_2 : parseMethodDescriptor "([BI)B" = some ⟨[(.array .byte), .int], some .byte⟩ := by decide +kernel
theorem d_jdk_42_method_149_code_48 : decode jdk_42_method_149_code 48 = .ok (.putfield 15, 3) := by decide +kernel
theorem d_jdk_42_method_149_code_51 : decode jdk_42_method_149_code 51 = .ok (.aload_n 0, 1) := by decide +kernel
theorem d_jdk_42_method_149_code_52 : decode jdk_42_method_149_code 52 = .ok (.aload 5, 2) := by decide +kernel
theorem d_jdk_42_method_149_code_54 : decode jdk_42_method_149_code 54 = .ok (.putfield 9, 3) := by decide +kernel
theorem d_jdk_42_method_149_code_57 : decode jdk_42_method_149_code 57 = .ok (.return_, 1) := by decide +kernel
theorem d_jdk_42_method_3_code_0 : decode jdk_42_method_3_code 0 = .ok (.aload_n 0, 1) := by decide +kernel
theorem d_jdk_42_method_3_code_1 : decode jdk_42_method_3_code 1 = .ok (.aload_n 1, 1) := by decide +kernel
theorem d_jdk_42_method_3_code_2 : decode jdk_42_method_3_code 2 = .ok (.iconst 0, 1) := by decide +kernel
theorem d_jdk_42_method_3_code_3 : decode jdk_42_method_3_code 3 = .ok (.aload_n 1, 1) := by decide +kernel
theorem d_jdk_42_method_3_code_4 : decode jdk_42_method_3_code 4 = .ok (.arraylength, 1) := by decide +kernel
theorem d_jdk_42_method_3_code_5 : decode jdk_42_method_3_code 5 = .ok (.aconst_null, 1) := by decide +kernel
theorem d_jdk_42_method_3_code_6 : decode jdk_42_method_3_code 6 = .ok (.invokespecial 27, 3) := by decide +kernel
theorem w11 {Z : State} {a0 : Array Value} (hw : ∀ d ∈ tables_1, d.before a0 Z = true) : (Jvm.Cond.methodLink "java/lang/String" (27 : Nat) ({ cls := "java/lang/String", name := "<init>", desc := "([CIILjava/lang/Void;)V" } : Jvm.MethodName)).before a0 Z = true := hw _ (List.mem_of_getElem? (i := 11) rfl)
theorem w14 {Z : State} {a0 : Array Value} (hw : ∀ d ∈ tables_1, d.before a0 Z = true) : (Jvm.Cond.code ({ cls := "java/lang/String", name := "<init>", desc := "([CIILjava/lang/Void;)V" } : Jvm.MethodName) jdk_42_method_149_code (6 : Nat) (Option.none : Option Jvm.ClassFile.FieldType)).before a0 Z = true := hw _ (List.mem_of_getElem? (i := 14) rfl)
theorem w6 {Z : State} {a0 : Array Value} (hw : ∀ d ∈ tables_1, d.before a0 Z = true) : (Jvm.Cond.initialized "java/lang/String").before a0 Z = true := hw _ (List.mem_of_getElem? (i := 6) rfl)
theorem w12 {Z : State} {a0 : Array Value} (hw : ∀ d ∈ tables_1, d.before a0 Z = true) : (Jvm.Cond.instanceMethod ({ cls := "java/lang/String", name := "<init>", desc := "([CIILjava/lang/Void;)V" } : Jvm.MethodName)).before a0 Z = true := hw _ (List.mem_of_getElem? (i := 12) rfl)
theorem pd_3 : parseMethodDescriptor "([CIILjava/lang/Void;)V" = some ⟨[(.array .char), .int, .int, (.object "java/lang/Void")], none⟩ := by decide +kernel
theorem d_jdk_42_method_3_code_9 : decode jdk_42_method_3_code 9 = .ok (.return_, 1) := by decide +kernel
theorem pl_4 : plainFor (⟨"java/lang/String", "<init>", "([C)V"⟩ : MethodName) = true := by first | exact plainFor_of_name (by first | (simp [plainName, overriddenIn]; done) | decide +kernel) | decide +kernel
theorem d_jdk_43_method_13_code_9 : decode jdk_43_method_13_code 9 = .ok (.iload_n 2, 1) := by decide +kernel
theorem d_jdk_43_method_13_code_10 : decode jdk_43_method_13_code 10 = .ok (.aload_n 0, 1) := by decide +kernel
theorem d_jdk_43_method_13_code_11 : decode jdk_43_method_13_code 11 = .ok (.arraylength, 1) := by decide +kernel
theorem d_jdk_43_method_13_code_12 : decode jdk_43_method_13_code 12 = .ok (.if_icmp .ge 20, 3) := by decide +kernel
theorem d_jdk_43_method_13_code_32 : decode jdk_43_method_13_code 32 = .ok (.iconst 1, 1) := by decide +kernel
theorem d_jdk_43_method_13_code_33 : decode jdk_43_method_13_code 33 = .ok (.ireturn, 1) := by decide +kernel
theorem d_jdk_43_method_13_code_15 : decode jdk_43_method_13_code 15 = .ok (.aload_n 0, 1) := by decide +kernel
theorem d_jdk_43_method_13_code_16 : decode jdk_43_method_13_code 16 = .ok (.iload_n 2, 1) := by decide +kernel
theorem d_jdk_43_method_13_code_17 : decode jdk_43_method_13_code 17 = .ok (.baload, 1) := by decide +kernel
theorem d_jdk_43_method_13_code_18 : decode jdk_43_method_13_code 18 = .ok (.aload_n 1, 1) := by decide +kernel
theorem d_jdk_43_method_13_code_19 : decode jdk_43_method_13_code 19 = .ok (.iload_n 2, 1) := by decide +kernel
theorem d_jdk_43_method_13_code_20 : decode jdk_43_method_13_code 20 = .ok (.baload, 1) := by decide +kernel
theorem d_jdk_43_method_13_code_21 : decode jdk_43_method_13_code 21 = .ok (.if_icmp .eq 5, 3) := by decide +kernel
theorem d_jdk_43_method_13_code_26 : decode jdk_43_method_13_code 26 = .ok (.iinc 2 1, 3) := by decide +kernel
theorem d_jdk_43_method_13_code_29 : decode jdk_43_method_13_code 29 = .ok (.goto (-20), 3) := by decide +kernel
theorem d_jdk_43_method_13_code_24 : decode jdk_43_method_13_code 24 = .ok (.iconst 0, 1) := by decide +kernel
theorem d_jdk_43_method_13_code_25 : decode jdk_43_method_13_code 25 = .ok (.ireturn, 1) := by decide +kernel
theorem d_jdk_43_method_13_code_0 : decode jdk_43_method_13_code 0 = .ok (.aload_n 0, 1) := by decide +kernel
theorem d_jdk_43_method_13_code_1 : decode jdk_43_method_13_code 1 = .ok (.arraylength, 1) := by decide +kernel
theorem d_jdk_43_method_13_code_2 : decode jdk_43_method_13_code 2 = .ok (.aload_n 1, 1) := by decide +kernel
theorem d_jdk_43_method_13_code_3 : decode jdk_43_method_13_code 3 = .ok (.arraylength, 1) := by decide +kernel
theorem d_jdk_43_method_13_code_4 : decode jdk_43_method_13_code 4 = .ok (.if_icmp .ne 30, 3) := by decide +kernel
theorem d_jdk_43_method_13_code_34 : decode jdk_43_method_13_code 34 = .ok (.iconst 0, 1) := by decide +kernel
theorem d_jdk_43_method_13_code_35 : decode jdk_43_method_13_code 35 = .ok (.ireturn, 1) := by decide +kernel
theorem d_jdk_43_method_13_code_7 : decode jdk_43_method_13_code 7 = .ok (.iconst 0, 1) := by decide +kernel
theorem d_jdk_43_method_13_code_8 : decode jdk_43_method_13_code 8 = .ok (.istore_n 2, 1) := by decide +kernel
theorem pl_5 : plainFor (⟨"java/lang/StringLatin1", "equals", "([B[B)Z"⟩ : MethodName) = true := by first | exact plainFor_of_name (by first | (simp [plainName, overriddenIn]; done) | decide +kernel) | decide +kernel
theorem d_jdk_42_method_66_code_0 : decode jdk_42_method_66_code 0 = .ok (.aload_n 0, 1) := by decide +kernel
theorem d_jdk_42_method_66_code_1 : decode jdk_42_method_66_code 1 = .ok (.aload_n 1, 1) := by decide +kernel
theorem d_jdk_42_method_66_code_2 : decode jdk_42_method_66_code 2 = .ok (.if_acmp .ne 5, 3) := by decide +kernel
theorem d_jdk_42_method_66_code_7 : decode jdk_42_method_66_code 7 = .ok (.aload_n 1, 1) := by decide +kernel
theorem d_jdk_42_method_66_code_8 : decode jdk_42_method_66_code 8 = .ok (.instanceof 10, 3) := by decide +kernel
theorem w36 {Z : State} {a0 : Array Value} (hw : ∀ d ∈ tables_1, d.before a0 Z = true) : (Jvm.Cond.classLink "java/lang/String" (10 : Nat) "java/lang/String").before a0 Z = true := hw _ (List.mem_of_getElem? (i := 36) rfl)
theorem w13 {Z : State} {a0 : Array Value} (hw : ∀ d ∈ tables_1, d.before a0 Z = true) : (Jvm.Cond.castable "java/lang/String" "java/lang/String").before a0 Z = true := hw _ (List.mem_of_getElem? (i := 13) rfl)
theorem d_jdk_42_method_66_code_11 : decode jdk_42_method_66_code 11 = .ok (.ifCond .eq 43, 3) := by decide +kernel
theorem d_jdk_42_method_66_code_14 : decode jdk_42_method_66_code 14 = .ok (.aload_n 1, 1) := by decide +kernel
theorem d_jdk_42_method_66_code_15 : decode jdk_42_method_66_code 15 = .ok (.checkcast 10, 3) := by decide +kernel
theorem d_jdk_42_method_66_code_18 : decode jdk_42_method_66_code 18 = .ok (.astore_n 2, 1) := by decide +kernel
theorem d_jdk_42_method_66_code_19 : decode jdk_42_method_66_code 19 = .ok (.getstatic 38, 3) := by decide +kernel
theorem d_jdk_42_method_66_code_22 : decode jdk_42_method_66_code 22 = .ok (.ifCond .eq 14, 3) := by decide +kernel
theorem d_jdk_42_method_66_code_25 : decode jdk_42_method_66_code 25 = .ok (.aload_n 0, 1) := by decide +kernel
theorem d_jdk_42_method_66_code_26 : decode jdk_42_method_66_code 26 = .ok (.getfield 15, 3) := by decide +kernel
theorem d_jdk_42_method_66_code_29 : decode jdk_42_method_66_code 29 = .ok (.aload_n 2, 1) := by decide +kernel
theorem d_jdk_42_method_66_code_30 : decode jdk_42_method_66_code 30 = .ok (.getfield 15, 3) := by decide +kernel
theorem d_jdk_42_method_66_code_33 : decode jdk_42_method_66_code 33 = .ok (.if_icmp .ne 21, 3) := by decide +kernel
theorem d_jdk_42_method_66_code_36 : decode jdk_42_method_66_code 36 = .ok (.aload_n 0, 1) := by decide +kernel
theorem d_jdk_42_method_66_code_37 : decode jdk_42_method_66_code 37 = .ok (.getfield 9, 3) := by decide +kernel
theorem d_jdk_42_method_66_code_40 : decode jdk_42_method_66_code 40 = .ok (.aload_n 2, 1) := by decide +kernel
theorem d_jdk_42_method_66_code_41 : decode jdk_42_method_66_code 41 = .ok (.getfield 9, 3) := by decide +kernel
theorem d_jdk_42_method_66_code_44 : decode jdk_42_method_66_code 44 = .ok (.invokestatic 541, 3) := by decide +kernel
theorem w38 {Z : State} {a0 : Array Value} (hw : ∀ d ∈ tables_1, d.before a0 Z = true) : (Jvm.Cond.methodLink "java/lang/String" (541 : Nat) ({ cls := "java/lang/StringLatin1", name := "equals", desc := "([B[B)Z" } : Jvm.MethodName)).before a0 Z = true := hw _ (List.mem_of_getElem? (i := 38) rfl)
theorem w41 {Z : State} {a0 : Array Value} (hw : ∀ d ∈ tables_1, d.before a0 Z = true) : (Jvm.Cond.code ({ cls := "java/lang/StringLatin1", name := "equals", desc := "([B[B)Z" } : Jvm.MethodName) jdk_43_method_13_code (3 : Nat) (Option.some Jvm.ClassFile.FieldType.boolean)).before a0 Z = true := hw _ (List.mem_of_getElem? (i := 41) rfl)
theorem w40 {Z : State} {a0 : Array Value} (hw : ∀ d ∈ tables_1, d.before a0 Z = true) : (Jvm.Cond.initialized "java/lang/StringLatin1").before a0 Z = true := hw _ (List.mem_of_getElem? (i := 40) rfl)
theorem w39 {Z : State} {a0 : Array Value} (hw : ∀ d ∈ tables_1, d.before a0 Z = true) : (Jvm.Cond.static ({ cls := "java/lang/StringLatin1", name := "equals", desc := "([B[B)Z" } : Jvm.MethodName)).before a0 Z = true := hw _ (List.mem_of_getElem? (i := 39) rfl)
theorem pd_4 : parseMethodDescriptor "([B[B)Z" = some ⟨[(.array .byte), (.array .byte)], some .boolean⟩ := by decide +kernel
theorem d_jdk_42_method_66_code_47 : decode jdk_42_method_66_code 47 = .ok (.ifCond .eq 7, 3) := by decide +kernel
theorem d_jdk_42_method_66_code_54 : decode jdk_42_method_66_code 54 = .ok (.iconst 0, 1) := by decide +kernel
theorem d_jdk_42_method_66_code_55 : decode jdk_42_method_66_code 55 = .ok (.ireturn, 1) := by decide +kernel
theorem d_jdk_42_method_66_code_50 : decode jdk_42_method_66_code 50 = .ok (.iconst 1, 1) := by decide +kernel
theorem d_jdk_42_method_66_code_51 : decode jdk_42_method_66_code 51 = .ok (.goto 4, 3) := by decide +kernel
theorem pl_6 : plainFor (⟨"java/lang/String", "equals", "(Ljava/lang/Object;)Z"⟩ : MethodName) = true := by first | exact plainFor_of_name (by first | (simp [plainName, overriddenIn]; done) | decide +kernel) | decide +kernel
theorem d_method_2_code_0 : decode method_2_code 0 = .ok (.iload_n 0, 1) := by decide +kernel
theorem d_method_2_code_1 : decode method_2_code 1 = .ok (.sipush 256, 3) := by decide +kernel
theorem d_method_2_code_4 : decode method_2_code 4 = .ok (.iand, 1) := by decide +kernel
theorem d_method_2_code_5 : decode method_2_code 5 = .ok (.ifCond .eq 17, 3) := by decide +kernel
theorem d_method_2_code_22 : decode method_2_code 22 = .ok (.iload_n 0, 1) := by decide +kernel
theorem d_method_2_code_23 : decode method_2_code 23 = .ok (.sipush 255, 3) := by decide +kernel
theorem d_method_2_code_26 : decode method_2_code 26 = .ok (.iand, 1) := by decide +kernel
theorem d_method_2_code_27 : decode method_2_code 27 = .ok (.i2c, 1) := by decide +kernel
theorem d_method_2_code_28 : decode method_2_code 28 = .ok (.ireturn, 1) := by decide +kernel
theorem d_method_2_code_8 : decode method_2_code 8 = .ok (.iload_n 0, 1) := by decide +kernel
theorem d_method_2_code_9 : decode method_2_code 9 = .ok (.iconst 1, 1) := by decide +kernel
theorem d_method_2_code_10 : decode method_2_code 10 = .ok (.iand, 1) := by decide +kernel
theorem d_method_2_code_11 : decode method_2_code 11 = .ok (.ifCond .ne 8, 3) := by decide +kernel
theorem d_method_2_code_19 : decode method_2_code 19 = .ok (.bipush 63, 2) := by decide +kernel
theorem d_method_2_code_21 : decode method_2_code 21 = .ok (.ireturn, 1) := by decide +kernel
theorem d_method_2_code_14 : decode method_2_code 14 = .ok (.bipush 42, 2) := by decide +kernel
theorem d_method_2_code_16 : decode method_2_code 16 = .ok (.goto 5, 3) := by decide +kernel
theorem pl_7 : plainFor (⟨"com/example/claimwheel/claimwheel/engine/CronFieldIsUnrestrictedPinLaw", "pick", "(I)C"⟩ : MethodName) = true := by first | exact plainFor_of_name (by first | (simp [plainName, overriddenIn]; done) | decide +kernel) | decide +kernel
theorem d_prog_3_method_4_code_0 : decode prog_3_method_4_code 0 = .ok (.aload_n 0, 1) := by decide +kernel
theorem d_prog_3_method_4_code_1 : decode prog_3_method_4_code 1 = .ok (.ldc 52, 2) := by decide +kernel
theorem w30 {Z : State} {a0 : Array Value} (hw : ∀ d ∈ tables_1, d.before a0 Z = true) : (Jvm.Cond.stringLink "com/example/claimwheel/claimwheel/engine/CronField" (52 : Nat) "*").before a0 Z = true := hw _ (List.mem_of_getElem? (i := 30) rfl)
theorem d_prog_3_method_4_code_3 : decode prog_3_method_4_code 3 = .ok (.invokevirtual 54, 3) := by decide +kernel
theorem w31 {Z : State} {a0 : Array Value} (hw : ∀ d ∈ tables_1, d.before a0 Z = true) : (Jvm.Cond.methodLink "com/example/claimwheel/claimwheel/engine/CronField" (54 : Nat) ({ cls := "java/lang/String", name := "equals", desc := "(Ljava/lang/Object;)Z" } : Jvm.MethodName)).before a0 Z = true := hw _ (List.mem_of_getElem? (i := 31) rfl)
theorem w35 {Z : State} {a0 : Array Value} (hw : ∀ d ∈ tables_1, d.before a0 Z = true) : (Jvm.Cond.code ({ cls := "java/lang/String", name := "equals", desc := "(Ljava/lang/Object;)Z" } : Jvm.MethodName) jdk_42_method_66_code (3 : Nat) (Option.some Jvm.ClassFile.FieldType.boolean)).before a0 Z = true := hw _ (List.mem_of_getElem? (i := 35) rfl)
theorem w34 {Z : State} {a0 : Array Value} (hw : ∀ d ∈ tables_1, d.before a0 Z = true) : (Jvm.Cond.selects "java/lang/String" ({ cls := "java/lang/String", name := "equals", desc := "(Ljava/lang/Object;)Z" } : Jvm.MethodName) ({ cls := "java/lang/String", name := "equals", desc := "(Ljava/lang/Object;)Z" } : Jvm.MethodName)).before a0 Z = true := hw _ (List.mem_of_getElem? (i := 34) rfl)
theorem w32 {Z : State} {a0 : Array Value} (hw : ∀ d ∈ tables_1, d.before a0 Z = true) : (Jvm.Cond.declares ({ cls := "java/lang/String", name := "equals", desc := "(Ljava/lang/Object;)Z" } : Jvm.MethodName)).before a0 Z = true := hw _ (List.mem_of_getElem? (i := 32) rfl)
theorem w33 {Z : State} {a0 : Array Value} (hw : ∀ d ∈ tables_1, d.before a0 Z = true) : (Jvm.Cond.instanceMethod ({ cls := "java/lang/String", name := "equals", desc := "(Ljava/lang/Object;)Z" } : Jvm.MethodName)).before a0 Z = true := hw _ (List.mem_of_getElem? (i := 33) rfl)
theorem pd_5 : parseMethodDescriptor "(Ljava/lang/Object;)Z" = some ⟨[(.object "java/lang/Object")], some .boolean⟩ := by decide +kernel
theorem d_prog_3_method_4_code_6 : decode prog_3_method_4_code 6 = .ok (.ifCond .ne 12, 3) := by decide +kernel
theorem d_prog_3_method_4_code_18 : decode prog_3_method_4_code 18 = .ok (.iconst 1, 1) := by decide +kernel
theorem d_prog_3_method_4_code_19 : decode prog_3_method_4_code 19 = .ok (.goto 4, 3) := by decide +kernel
theorem d_prog_3_method_4_code_23 : decode prog_3_method_4_code 23 = .ok (.ireturn, 1) := by decide +kernel
theorem d_prog_3_method_4_code_9 : decode prog_3_method_4_code 9 = .ok (.aload_n 0, 1) := by decide +kernel
theorem d_prog_3_method_4_code_10 : decode prog_3_method_4_code 10 = .ok (.ldc 60, 2) := by decide +kernel
theorem w42 {Z : State} {a0 : Array Value} (hw : ∀ d ∈ tables_1, d.before a0 Z = true) : (Jvm.Cond.stringLink "com/example/claimwheel/claimwheel/engine/CronField" (60 : Nat) "?").before a0 Z = true := hw _ (List.mem_of_getElem? (i := 42) rfl)
theorem d_prog_3_method_4_code_12 : decode prog_3_method_4_code 12 = .ok (.invokevirtual 54, 3) := by decide +kernel
theorem d_prog_3_method_4_code_15 : decode prog_3_method_4_code 15 = .ok (.ifCond .eq 7, 3) := by decide +kernel
theorem d_prog_3_method_4_code_22 : decode prog_3_method_4_code 22 = .ok (.iconst 0, 1) := by decide +kernel
theorem pl_8 : plainFor (⟨"com/example/claimwheel/claimwheel/engine/CronField", "isUnrestricted", "(Ljava/lang/String;)Z"⟩ : MethodName) = true := by first | exact plainFor_of_name (by first | (simp [plainName, overriddenIn]; done) | decide +kernel) | decide +kernel
theorem w0 {Z : State} {a0 : Array Value} (hw : ∀ d ∈ tables_1, d.before a0 Z = true) : (Jvm.Cond.methodLink "com/example/claimwheel/claimwheel/engine/CronFieldIsUnrestrictedPinLaw" (7 : Nat) ({ cls := "com/example/claimwheel/claimwheel/engine/CronFieldIsUnrestrictedPinLaw", name := "pick", desc := "(I)C" } : Jvm.MethodName)).before a0 Z = true := hw _ (List.mem_of_getElem? (i := 0) rfl)
theorem w3 {Z : State} {a0 : Array Value} (hw : ∀ d ∈ tables_1, d.before a0 Z = true) : (Jvm.Cond.code ({ cls := "com/example/claimwheel/claimwheel/engine/CronFieldIsUnrestrictedPinLaw", name := "pick", desc := "(I)C" } : Jvm.MethodName) method_2_code (1 : Nat) (Option.some Jvm.ClassFile.FieldType.char)).before a0 Z = true := hw _ (List.mem_of_getElem? (i := 3) rfl)
theorem w2 {Z : State} {a0 : Array Value} (hw : ∀ d ∈ tables_1, d.before a0 Z = true) : (Jvm.Cond.initialized "com/example/claimwheel/claimwheel/engine/CronFieldIsUnrestrictedPinLaw").before a0 Z = true := hw _ (List.mem_of_getElem? (i := 2) rfl)
theorem w1 {Z : State} {a0 : Array Value} (hw : ∀ d ∈ tables_1, d.before a0 Z = true) : (Jvm.Cond.static ({ cls := "com/example/claimwheel/claimwheel/engine/CronFieldIsUnrestrictedPinLaw", name := "pick", desc := "(I)C" } : Jvm.MethodName)).before a0 Z = true := hw _ (List.mem_of_getElem? (i := 1) rfl)
theorem pd_6 : parseMethodDescriptor "(I)C" = some ⟨[.int], some .char⟩ := by decide +kernel
theorem w4 {Z : State} {a0 : Array Value} (hw : ∀ d ∈ tables_1, d.before a0 Z = true) : (Jvm.Cond.classLink "com/example/claimwheel/claimwheel/engine/CronFieldIsUnrestrictedPinLaw" (13 : Nat) "java/lang/String").before a0 Z = true := hw _ (List.mem_of_getElem? (i := 4) rfl)
theorem w7 {Z : State} {a0 : Array Value} (hw : ∀ d ∈ tables_1, d.before a0 Z = true) : (Jvm.Cond.arrayClass Jvm.ClassFile.FieldType.char).before a0 Z = true := hw _ (List.mem_of_getElem? (i := 7) rfl)
theorem w8 {Z : State} {a0 : Array Value} (hw : ∀ d ∈ tables_1, d.before a0 Z = true) : (Jvm.Cond.methodLink "com/example/claimwheel/claimwheel/engine/CronFieldIsUnrestrictedPinLaw" (15 : Nat) ({ cls := "java/lang/String", name := "<init>", desc := "([C)V" } : Jvm.MethodName)).before a0 Z = true := hw _ (List.mem_of_getElem? (i := 8) rfl)
theorem w10 {Z : State} {a0 : Array Value} (hw : ∀ d ∈ tables_1, d.before a0 Z = true) : (Jvm.Cond.code ({ cls := "java/lang/String", name := "<init>", desc := "([C)V" } : Jvm.MethodName) jdk_42_method_3_code (2 : Nat) (Option.none : Option Jvm.ClassFile.FieldType)).before a0 Z = true := hw _ (List.mem_of_getElem? (i := 10) rfl)
theorem w9 {Z : State} {a0 : Array Value} (hw : ∀ d ∈ tables_1, d.before a0 Z = true) : (Jvm.Cond.instanceMethod ({ cls := "java/lang/String", name := "<init>", desc := "([C)V" } : Jvm.MethodName)).before a0 Z = true := hw _ (List.mem_of_getElem? (i := 9) rfl)
theorem pd_7 : parseMethodDescriptor "([C)V" = some ⟨[(.array .char)], none⟩ := by decide +kernel
theorem w26 {Z : State} {a0 : Array Value} (hw : ∀ d ∈ tables_1, d.before a0 Z = true) : (Jvm.Cond.methodLink "com/example/claimwheel/claimwheel/engine/CronFieldIsUnrestrictedPinLaw" (18 : Nat) ({ cls := "com/example/claimwheel/claimwheel/engine/CronField", name := "isUnrestricted", desc := "(Ljava/lang/String;)Z" } : Jvm.MethodName)).before a0 Z = true := hw _ (List.mem_of_getElem? (i := 26) rfl)
theorem w29 {Z : State} {a0 : Array Value} (hw : ∀ d ∈ tables_1, d.before a0 Z = true) : (Jvm.Cond.code ({ cls := "com/example/claimwheel/claimwheel/engine/CronField", name := "isUnrestricted", desc := "(Ljava/lang/String;)Z" } : Jvm.MethodName) prog_3_method_4_code (1 : Nat) (Option.some Jvm.ClassFile.FieldType.boolean)).before a0 Z = true := hw _ (List.mem_of_getElem? (i := 29) rfl)
theorem w28 {Z : State} {a0 : Array Value} (hw : ∀ d ∈ tables_1, d.before a0 Z = true) : (Jvm.Cond.initialized "com/example/claimwheel/claimwheel/engine/CronField").before a0 Z = true := hw _ (List.mem_of_getElem? (i := 28) rfl)
theorem w27 {Z : State} {a0 : Array Value} (hw : ∀ d ∈ tables_1, d.before a0 Z = true) : (Jvm.Cond.static ({ cls := "com/example/claimwheel/claimwheel/engine/CronField", name := "isUnrestricted", desc := "(Ljava/lang/String;)Z" } : Jvm.MethodName)).before a0 Z = true := hw _ (List.mem_of_getElem? (i := 27) rfl)
theorem pd_8 : parseMethodDescriptor "(Ljava/lang/String;)Z" = some ⟨[(.object "java/lang/String")], some .boolean⟩ := by decide +kernel
theorem pl_9 : plainFor (⟨"com/example/claimwheel/claimwheel/engine/CronFieldIsUnrestrictedPinLaw", "law", "(IIII)Z"⟩ : MethodName) = true := by first | exact plainFor_of_name (by first | (simp [plainName, overriddenIn]; done) | decide +kernel) | decide +kernel
def Q_cmp5 (Z : State) (g0 : Int32) (b : Addr) (d : Addr) (kb : ClassId) (kd : ClassId) (N : Int32) (cs : List Int32) (h : Heap) : QT := fun v' M9 h9 => v' = some (.int N) ∧ M9 = [] ∧ Keep h h9 [d] ∧ Arv Z h9 d kd .byte N (ints (cs.map (nar .byte))) (.int 0)
theorem ef_cmp5 (m : MethodId) (b : Addr) (d : Addr) (kb : ClassId) (kd : ClassId) (N : Int32) (cs : List Int32) : entryFrame m [(.ref b), (.int (0 : Int32)), (.ref d), (.int (0 : Int32)), (.int N)].toArray 7 = mkF m 0 #[.val (.ref b), .val (.int (0 : Int32)), .val (.ref d), .val (.int (0 : Int32)), .val (.int N), .unset, .unset] [] := by first | rfl | (simp [entryFrame, mkF, argsToLocals, Value.category]; done)
set_option maxRecDepth 65536 in
set_option maxHeartbeats 4000000 in
theorem m_cmp5 {l : Launch} {Z : State} {a0 : Array Value} {n0 : Nat} {g0 : Int32} (hC : Ctx l Z a0 n0 g0) (b : Addr) (d : Addr) (kb : ClassId) (kd : ClassId) (N : Int32) (cs : List Int32) (h : Heap) (p0_arv : Arv Z h b kb .char N (ints cs) (.int 0)) (p1_arv : Arv Z h d kd .byte N (ints (List.replicate cs.length 0)) (.int 0)) (hN : N = Int32.ofNat cs.length) (hlen : cs.length ≤ 32) (hlat : ∀ c ∈ cs, ¬ c < 0 ∧ ¬ (255 : Int32) < c) :
    Met l Z EL0 n0 (⟨"java/lang/StringUTF16", "compress", "([CI[BII)I"⟩ : MethodName) jdk_52_method_21_code 7 (some .int) [] ({ frames := 0, cells := 0, slots := 0, locals := 0 } : Room) [(.ref b), (.int (0 : Int32)), (.ref d), (.int (0 : Int32)), (.int N)] [d] h (Q_cmp5 Z g0 b d kb kd N cs h) := by
  obtain ⟨hw, hS, hE, hK, hX⟩ := id hC
  refine Met.intro pl_0 (fun m => ef_cmp5 m b d kb kd N cs) hE ?_
  intro G hG
  have loop : ∀ (r i : Nat) (h1 : Heap) (s6 : Slot), i + r = cs.length → One s6 → Keep h h1 [d] → Arv Z h1 d kd .byte N (ints ((cs.take i).map (nar .byte) ++ List.replicate r 0)) (.int 0) → Arv Z h1 b kb .char N (ints cs) (.int 0) → G [d] h1 0 0 3 #[.val (.ref b), .val (.int (Int32.ofNat i)), .val (.ref d), .val (.int (Int32.ofNat i)), .val (.int N), .val (.int (Int32.ofNat i)), s6] [] := by
    intro r; induction r with
    | zero =>
      intro i h1 s6 hi hs6 K V1 V2
      have e : i = cs.length := by omega
      have V3 : Arv Z h1 d kd .byte N (ints (cs.map (nar .byte))) (.int 0) := by subst e; simpa using V1
      refine iload hG d_jdk_52_method_21_code_3 rfl ?_
      refine iload hG d_jdk_52_method_21_code_5 rfl ?_
      refine icmpYes hG d_jdk_52_method_21_code_7 (flt (by rw [hN]; exact ofN_nlt (by omega) (by omega))).2.1 (by decide) (pc' := 44) rfl ?_
      refine iload hG d_jdk_52_method_21_code_44 rfl ?_
      have K1 : Keep h h1 [d] := ((Keep.refl _ _).trans K (allS (Or.inl (List.mem_of_getElem? (i := 0) rfl)) all0))
      exact ireturn hG d_jdk_52_method_21_code_46 (M' := []) ⟨rfl, rfl, K1, V3⟩ all0 (Nat.le_of_ble_eq_true rfl) (Nat.le_of_ble_eq_true rfl)
    | succ r ih =>
      intro i h1 s6 hi hs6 K V1 V2
      have hin := ofN_in (i := i) (n := cs.length) (by omega) (by omega)
      rw [← hN] at hin
      have hc := hlat _ (getD_in (xs := cs) (i := i) (by omega))
      refine iload hG d_jdk_52_method_21_code_3 rfl ?_
      refine iload hG d_jdk_52_method_21_code_5 rfl ?_
      refine icmpNo hG d_jdk_52_method_21_code_7 (tlt hin.2).2.1 ?_
      refine aloadN hG d_jdk_52_method_21_code_10 rfl rfl ?_
      refine iloadN hG d_jdk_52_method_21_code_11 rfl ?_
      refine caload hG d_jdk_52_method_21_code_12 V2 hin (v := (.int (cs.getD i 0))) (ints_at (by omega)) ?_
      refine istoreS hG d_jdk_52_method_21_code_13 (o := s6) rfl hs6 ?_
      show G [d] h1 (0) (0) 15 #[.val (.ref b), .val (.int (Int32.ofNat i)), .val (.ref d), .val (.int (Int32.ofNat i)), .val (.int N), .val (.int (Int32.ofNat i)), .val (.int (cs.getD i 0))] []
      refine iload hG d_jdk_52_method_21_code_15 rfl ?_
      refine sipush hG d_jdk_52_method_21_code_17 (255) rfl ?_
      refine icmpYes hG d_jdk_52_method_21_code_20 (flt hc.2).2.2.2 (by decide) (pc' := 26) rfl ?_
      refine aloadN hG d_jdk_52_method_21_code_26 rfl rfl ?_
      refine iloadN hG d_jdk_52_method_21_code_27 rfl ?_
      refine iload hG d_jdk_52_method_21_code_28 rfl ?_
      refine i2b hG d_jdk_52_method_21_code_30 ?_
      refine bastore hG d_jdk_52_method_21_code_31 V1 hin (i := i) (ofN_clamp (by omega)) (by simp; omega) (List.mem_of_getElem? (i := 0) rfl) (fun h2 W3 V4 => ?_)
      have V5 : Arv Z h2 d kd .byte N (ints ((cs.take (i + 1)).map (nar .byte) ++ List.replicate r 0)) (.int 0) := by rw [fill_step (by omega) (nar .byte) (byte_idem2 _)] at V4; assumption
      refine iinc hG d_jdk_52_method_21_code_32 rfl (Int32.ofNat (i + 1)) (ofN_succ i) rfl ?_
      refine iinc hG d_jdk_52_method_21_code_35 rfl (Int32.ofNat (i + 1)) (ofN_succ i) rfl ?_
      refine iinc hG d_jdk_52_method_21_code_38 rfl (Int32.ofNat (i + 1)) (ofN_succ i) rfl ?_
      refine goto hG d_jdk_52_method_21_code_41 (by decide) (pc' := 3) rfl ?_
      have ne6 : b ≠ d := (Arv.neTy V2 V1 (by decide))
      have V7 : Arv Z h2 b kb .char N (ints cs) (.int 0) := (V2.other W3 ne6)
      exact ih (i + 1) h2 _ (by omega) (One.val rfl) (((Keep.refl _ _).trans K (allS (Or.inl (List.mem_of_getElem? (i := 0) rfl)) all0)).wr W3 (Or.inl (List.mem_of_getElem? (i := 0) rfl))) V5 V7
  refine iconst hG d_jdk_52_method_21_code_0 (0) rfl ?_
  refine istore hG d_jdk_52_method_21_code_1 rfl ?_
  exact loop cs.length 0 h _ (by omega) One.u (Keep.refl _ _) (by simpa using p1_arv) p0_arv
def Q_cmp3 (Z : State) (g0 : Int32) (b : Addr) (kb : ClassId) (N : Int32) (cs : List Int32) (h : Heap) : QT := fun v' M9 h9 => ∃ (t : Addr), ∃ (kt : ClassId), v' = some (.ref t) ∧ M9 = [t] ∧ Keep h h9 [] ∧ h.size ≤ t ∧ Arv Z h9 t kt .byte N (ints (cs.map (nar .byte))) (.int 0)
theorem ef_cmp3 (m : MethodId) (b : Addr) (kb : ClassId) (N : Int32) (cs : List Int32) : entryFrame m [(.ref b), (.int (0 : Int32)), (.int N)].toArray 6 = mkF m 0 #[.val (.ref b), .val (.int (0 : Int32)), .val (.int N), .unset, .unset, .unset] [] := by first | rfl | (simp [entryFrame, mkF, argsToLocals, Value.category]; done)
set_option maxRecDepth 65536 in
set_option maxHeartbeats 4000000 in
theorem m_cmp3 {l : Launch} {Z : State} {a0 : Array Value} {n0 : Nat} {g0 : Int32} (hC : Ctx l Z a0 n0 g0) (b : Addr) (kb : ClassId) (N : Int32) (cs : List Int32) (h : Heap) (p0_arv : Arv Z h b kb .char N (ints cs) (.int 0)) (hN : N = Int32.ofNat cs.length) (hlen : cs.length ≤ 32) (hlat : ∀ c ∈ cs, ¬ c < 0 ∧ ¬ (255 : Int32) < c) :
    Met l Z EL0 n0 (⟨"java/lang/StringUTF16", "compress", "([CII)[B"⟩ : MethodName) jdk_52_method_16_code 6 (some (.array .byte)) [] ({ frames := 1, cells := 1, slots := 32, locals := 18 } : Room) [(.ref b), (.int (0 : Int32)), (.int N)] [] h (Q_cmp3 Z g0 b kb N cs h) := by
  obtain ⟨hw, hS, hE, hK, hX⟩ := id hC
  refine Met.intro pl_1 (fun m => ef_cmp3 m b kb N cs) hE ?_
  intro G hG
  refine iloadN hG d_jdk_52_method_16_code_0 rfl ?_
  refine newarray hG d_jdk_52_method_16_code_1 rfl (w19 hw) (by rw [hN]; exact ofN_nn (by omega)) (cap := 32) (by rw [hN, ofN_clamp (by omega)]; exact hlen) (by decide) (Nat.le_of_ble_eq_true rfl) (Nat.le_of_ble_eq_true rfl) (cnt := cs.length) (vs := (ints (List.replicate cs.length 0))) (ints_rep _) (fun h8 a9 kk10 g11 E12 V13 => ?_)
  show G [a9] h8 (1) (32) 3 #[.val (.ref b), .val (.int (0 : Int32)), .val (.int N), .unset, .unset, .unset] [(.ref a9)]
  refine astoreN hG d_jdk_52_method_16_code_3 rfl rfl ?_
  refine aloadN hG d_jdk_52_method_16_code_4 rfl rfl ?_
  refine iloadN hG d_jdk_52_method_16_code_5 rfl ?_
  refine aloadN hG d_jdk_52_method_16_code_6 rfl rfl ?_
  refine iconst hG d_jdk_52_method_16_code_7 (0) rfl ?_
  refine iloadN hG d_jdk_52_method_16_code_8 rfl ?_
  have V14 : Arv Z h8 b kb .char N (ints cs) (.int 0) := (p0_arv.ext E12)
  refine callStatic hG d_jdk_52_method_16_code_9 (w47 hw) (w48 hw) (w45 hw) (w49 hw) (by decide) (m_cmp5 hC (b) (a9) (kb) (kk10) (N) (cs) h8 V14 V13 hN hlen hlat) pd_0 rfl (rest := []) rfl rfl (allS (List.mem_of_getElem? (i := 0) rfl) all0) (Nat.le_of_ble_eq_true rfl) (W := 0) (Nat.le_of_ble_eq_true rfl) (Nat.le_of_ble_eq_true rfl) (Nat.le_of_ble_eq_true rfl) (Nat.le_of_ble_eq_true rfl) (fun v15 M16 h17 le18 hq19 => ?_)
  obtain ⟨rfl, rfl, K20, f21⟩ := hq19
  show G [a9] h17 (1) (32) 12 #[.val (.ref b), .val (.int (0 : Int32)), .val (.int N), .val (.ref a9), .unset, .unset] [(.int N)]
  refine istore hG d_jdk_52_method_16_code_12 rfl ?_
  refine iload hG d_jdk_52_method_16_code_14 rfl ?_
  refine iloadN hG d_jdk_52_method_16_code_16 rfl ?_
  refine icmpYes hG d_jdk_52_method_16_code_17 (teq rfl).1 (by decide) (pc' := 57) rfl ?_
  refine aloadN hG d_jdk_52_method_16_code_57 rfl rfl ?_
  have K22 : Keep h h17 [] := (((Keep.refl _ _).ext E12).trans K20 (allS (Or.inr g11) all0))
  exact areturn hG rfl rfl rfl d_jdk_52_method_16_code_58 (M' := [a9]) ⟨a9, kk10, rfl, rfl, K22, g11, f21⟩ (allS (List.mem_of_getElem? (i := 0) rfl) all0) (Nat.le_of_ble_eq_true rfl) (Nat.le_of_ble_eq_true rfl)
def Q_codL (Z : State) (g0 : Int32) (t : Addr) (kt : ClassId) (N : Int32) (xs : List Int32) (h : Heap) : QT := fun v' M9 h9 => v' = some (.int (0 : Int32)) ∧ M9 = [] ∧ h = h9
theorem ef_codL (m : MethodId) (t : Addr) (kt : ClassId) (N : Int32) (xs : List Int32) : entryFrame m [(.ref t), (.int N)].toArray 2 = mkF m 0 #[.val (.ref t), .val (.int N)] [] := by first | rfl | (simp [entryFrame, mkF, argsToLocals, Value.category]; done)
set_option maxRecDepth 65536 in
set_option maxHeartbeats 4000000 in
theorem m_codL {l : Launch} {Z : State} {a0 : Array Value} {n0 : Nat} {g0 : Int32} (hC : Ctx l Z a0 n0 g0) (t : Addr) (kt : ClassId) (N : Int32) (xs : List Int32) (h : Heap) (p0_arv : Arv Z h t kt .byte N (ints xs) (.int 0)) :
    Met l Z EL0 n0 (⟨"java/lang/StringUTF16", "coderFromArrayLen", "([BI)B"⟩ : MethodName) jdk_52_method_15_code 2 (some .byte) [] ({ frames := 0, cells := 0, slots := 0, locals := 0 } : Room) [(.ref t), (.int N)] [] h (Q_codL Z g0 t kt N xs h) := by
  obtain ⟨hw, hS, hE, hK, hX⟩ := id hC
  refine Met.intro pl_2 (fun m => ef_codL m t kt N xs) hE ?_
  intro G hG
  refine iloadN hG d_jdk_52_method_15_code_0 rfl ?_
  refine aloadN hG d_jdk_52_method_15_code_1 rfl rfl ?_
  refine alen hG d_jdk_52_method_15_code_2 p0_arv ?_
  refine isub hG d_jdk_52_method_15_code_3 ?_
  refine bipush hG d_jdk_52_method_15_code_4 (31) rfl ?_
  refine iushr hG d_jdk_52_method_15_code_6 ?_
  refine i2b hG d_jdk_52_method_15_code_7 ?_
  exact ireturnN hG (by simp) d_jdk_52_method_15_code_8 (M' := []) ⟨(by rw [Int32.sub_self]; decide), rfl, rfl⟩ all0 (Nat.le_of_ble_eq_true rfl) (Nat.le_of_ble_eq_true rfl)
def Q_initV0 (Z : State) (g0 : Int32) (a : Addr) (b : Addr) (h : Heap) : QT := fun v' M9 h9 => ∃ (t : Addr), ∃ (kt : ClassId), v' = none ∧ M9 = [] ∧ Keep h h9 [a] ∧ Exa Z h9 a "java/lang/String" ∧ Fld Z h9 a "java/lang/String" "coder" "B" (.int (0 : Int32)) ∧ Fld Z h9 a "java/lang/String" "value" "[B" (.ref t) ∧ Arv Z h9 t kt .byte (0 : Int32) (ints []) (.int 0) ∧ (a ≠ t)
theorem ef_initV0 (m : MethodId) (a : Addr) (b : Addr) : entryFrame m [(.ref a), (.ref b), (.int (0 : Int32)), (.int (0 : Int32)), .null].toArray 6 = mkF m 0 #[.val (.ref a), .val (.ref b), .val (.int (0 : Int32)), .val (.int (0 : Int32)), .val .null, .unset] [] := by first | rfl | (simp [entryFrame, mkF, argsToLocals, Value.category]; done)
set_option maxRecDepth 65536 in
set_option maxHeartbeats 4000000 in
theorem m_initV0 {l : Launch} {Z : State} {a0 : Array Value} {n0 : Nat} {g0 : Int32} (hC : Ctx l Z a0 n0 g0) (a : Addr) (b : Addr) (h : Heap) (p0_exa : Exa Z h a "java/lang/String") (p1_fld : Fld Z h a "java/lang/String" "value" "[B" .null) (p2_fld : Fld Z h a "java/lang/String" "coder" "B" (.int (0 : Int32))) :
    Met l Z EL0 n0 (⟨"java/lang/String", "<init>", "([CIILjava/lang/Void;)V"⟩ : MethodName) jdk_42_method_149_code 6 none [] ({ frames := 1, cells := 4, slots := 8, locals := 12 } : Room) [(.ref a), (.ref b), (.int (0 : Int32)), (.int (0 : Int32)), .null] [a] h (Q_initV0 Z g0 a b h) := by
  obtain ⟨hw, hS, hE, hK, hX⟩ := id hC
  refine Met.intro pl_3 (fun m => ef_initV0 m a b) hE ?_
  intro G hG
  refine aloadN hG d_jdk_42_method_149_code_0 rfl rfl ?_
  refine objInit hG d_jdk_42_method_149_code_1 (w15 hw) (w16 hw) (w17 hw) rfl (Nat.le_of_ble_eq_true rfl) (W := 0) (Nat.le_of_ble_eq_true rfl) (Nat.le_of_ble_eq_true rfl) ?_
  refine iloadN hG d_jdk_42_method_149_code_4 rfl ?_
  refine ifNo hG d_jdk_42_method_149_code_5 (by decide) ?_
  refine aloadN hG d_jdk_42_method_149_code_8 rfl rfl ?_
  refine ldc hG d_jdk_42_method_149_code_9 (w18 hw) hS (by decide) (vs := []) (N := 0) ⟨by decide, by decide +kernel⟩ (by decide) (by decide) (nn := 0) (by decide) (by decide) (Nat.le_of_ble_eq_true rfl) (Nat.le_of_ble_eq_true rfl) (fun h23 a24 b25 kk26 E27 X28 F29 F30 V31 ne32 => ?_)
  show G [a] h23 (2) (4) 11 #[.val (.ref a), .val (.ref b), .val (.int (0 : Int32)), .val (.int (0 : Int32)), .val .null, .unset] [(.ref a24), (.ref a)]
  refine getfield hG d_jdk_42_method_149_code_11 (w24 hw) Via.refl F30 ?_
  have E33 : Exa Z h23 a "java/lang/String" := (p0_exa.ext E27)
  have F34 : Fld Z h23 a "java/lang/String" "value" "[B" .null := (p1_fld.ext E27)
  refine putfield hG d_jdk_42_method_149_code_14 (w24 hw) Via.refl F34 E33 (Or.inr ⟨(w20 hw), rfl, rfl⟩) (w5 hw) pf__B rfl rfl (List.mem_of_getElem? (i := 0) rfl) (fun h35 W36 => ?_)
  have F37 : Fld Z h35 a "java/lang/String" "value" "[B" (.ref b25) := F34.same W36
  refine aloadN hG d_jdk_42_method_149_code_17 rfl rfl ?_
  refine ldc hG d_jdk_42_method_149_code_18 (w18 hw) hS (by decide) (vs := []) (N := 0) ⟨by decide, by decide +kernel⟩ (by decide) (by decide) (nn := 0) (by decide) (by decide) (Nat.le_of_ble_eq_true rfl) (Nat.le_of_ble_eq_true rfl) (fun h38 a39 b40 kk41 E42 X43 F44 F45 V46 ne47 => ?_)
  show G [a] h38 (4) (8) 20 #[.val (.ref a), .val (.ref b), .val (.int (0 : Int32)), .val (.int (0 : Int32)), .val .null, .unset] [(.ref a39), (.ref a)]
  refine getfield hG d_jdk_42_method_149_code_20 (w25 hw) Via.refl F44 ?_
  have E48 : Exa Z h38 a "java/lang/String" := ((E33.wr W36).ext E42)
  have F49 : Fld Z h38 a "java/lang/String" "coder" "B" (.int (0 : Int32)) := (((p2_fld.ext E27).other W36 (Or.inr (RoadKit.slot_ne (Or.inr (w21 hw)) (Or.inr (w20 hw)) (by decide) pf_B pf__B))).ext E42)
  refine putfield hG d_jdk_42_method_149_code_23 (w25 hw) Via.refl F49 E48 (Or.inr ⟨(w21 hw), rfl, rfl⟩) (w5 hw) pf_B rfl rfl (List.mem_of_getElem? (i := 0) rfl) (fun h50 W51 => ?_)
  have F52 : Fld Z h50 a "java/lang/String" "coder" "B" (.int (0 : Int32)) := F49.same W51
  have E53 : Exa Z h50 a "java/lang/String" := (E48.wr W51)
  have F54 : Fld Z h50 a "java/lang/String" "value" "[B" (.ref b25) := ((F37.ext E42).other W51 (Or.inr (RoadKit.slot_ne (Or.inr (w20 hw)) (Or.inr (w21 hw)) (by decide) pf__B pf_B)))
  have V55 : Arv Z h50 b25 kk26 .byte (0 : Int32) [] (.int 0) := (((V31.other W36 (Ne.symm (ne32 _ (List.mem_of_getElem? (i := 0) rfl)).2)).ext E42).other W51 (Ne.symm (ne32 _ (List.mem_of_getElem? (i := 0) rfl)).2))
  have K56 : Keep h h50 [a] := (((((Keep.refl _ _).ext E27).wr W36 (Or.inl (List.mem_of_getElem? (i := 0) rfl))).ext E42).wr W51 (Or.inl (List.mem_of_getElem? (i := 0) rfl)))
  exact return0 hG d_jdk_42_method_149_code_26 (M' := []) ⟨b25, kk26, rfl, rfl, K56, E53, F52, F54, V55, (ne32 _ (List.mem_of_getElem? (i := 0) rfl)).2⟩ all0 (Nat.le_of_ble_eq_true rfl) (Nat.le_of_ble_eq_true rfl)
def Q_initV1 (Z : State) (g0 : Int32) (a : Addr) (b : Addr) (kb : ClassId) (N : Int32) (cs : List Int32) (h : Heap) : QT := fun v' M9 h9 => ∃ (t : Addr), ∃ (kt : ClassId), v' = none ∧ M9 = [t] ∧ Keep h h9 [a] ∧ h.size ≤ t ∧ Exa Z h9 a "java/lang/String" ∧ Fld Z h9 a "java/lang/String" "coder" "B" (.int (0 : Int32)) ∧ Fld Z h9 a "java/lang/String" "value" "[B" (.ref t) ∧ Arv Z h9 t kt .byte N (ints (cs.map (nar .byte))) (.int 0)
theorem ef_initV1 (m : MethodId) (a : Addr) (b : Addr) (kb : ClassId) (N : Int32) (cs : List Int32) : entryFrame m [(.ref a), (.ref b), (.int (0 : Int32)), (.int N), .null].toArray 6 = mkF m 0 #[.val (.ref a), .val (.ref b), .val (.int (0 : Int32)), .val (.int N), .val .null, .unset] [] := by first | rfl | (simp [entryFrame, mkF, argsToLocals, Value.category]; done)
set_option maxRecDepth 65536 in
set_option maxHeartbeats 4000000 in
theorem m_initV1 {l : Launch} {Z : State} {a0 : Array Value} {n0 : Nat} {g0 : Int32} (hC : Ctx l Z a0 n0 g0) (a : Addr) (b : Addr) (kb : ClassId) (N : Int32) (cs : List Int32) (h : Heap) (p0_exa : Exa Z h a "java/lang/String") (p1_fld : Fld Z h a "java/lang/String" "value" "[B" .null) (p2_fld : Fld Z h a "java/lang/String" "coder" "B" (.int (0 : Int32))) (p3_arv : Arv Z h b kb .char N (ints cs) (.int 0)) (hN : N = Int32.ofNat cs.length) (hlen : cs.length ≤ 32) (hlat : ∀ c ∈ cs, ¬ c < 0 ∧ ¬ (255 : Int32) < c) (hpos : ¬ N = 0) :
    Met l Z EL0 n0 (⟨"java/lang/String", "<init>", "([CIILjava/lang/Void;)V"⟩ : MethodName) jdk_42_method_149_code 6 none [] ({ frames := 2, cells := 1, slots := 32, locals := 35 } : Room) [(.ref a), (.ref b), (.int (0 : Int32)), (.int N), .null] [a] h (Q_initV1 Z g0 a b kb N cs h) := by
  obtain ⟨hw, hS, hE, hK, hX⟩ := id hC
  refine Met.intro pl_3 (fun m => ef_initV1 m a b kb N cs) hE ?_
  intro G hG
  refine aloadN hG d_jdk_42_method_149_code_0 rfl rfl ?_
  refine objInit hG d_jdk_42_method_149_code_1 (w15 hw) (w16 hw) (w17 hw) rfl (Nat.le_of_ble_eq_true rfl) (W := 0) (Nat.le_of_ble_eq_true rfl) (Nat.le_of_ble_eq_true rfl) ?_
  refine iloadN hG d_jdk_42_method_149_code_4 rfl ?_
  refine ifYes hG d_jdk_42_method_149_code_5 (feq hpos).2 (by decide) (pc' := 27) rfl ?_
  refine getstatic hG d_jdk_42_method_149_code_27 (w37 hw) Via.refl hK.1 ?_
  refine ifNo hG d_jdk_42_method_149_code_30 (feq hK.2).1 ?_
  refine aloadN hG d_jdk_42_method_149_code_33 rfl rfl ?_
  refine iloadN hG d_jdk_42_method_149_code_34 rfl ?_
  refine iloadN hG d_jdk_42_method_149_code_35 rfl ?_
  refine callStatic hG d_jdk_42_method_149_code_36 (w43 hw) (w44 hw) (w45 hw) (w46 hw) (by decide) (m_cmp3 hC (b) (kb) (N) (cs) h p3_arv hN hlen hlat) pd_1 rfl (rest := []) rfl rfl all0 (Nat.le_of_ble_eq_true rfl) (W := 0) (Nat.le_of_ble_eq_true rfl) (Nat.le_of_ble_eq_true rfl) (Nat.le_of_ble_eq_true rfl) (Nat.le_of_ble_eq_true rfl) (fun v57 M58 h59 le60 hq61 => ?_)
  obtain ⟨t62, kt63, rfl, rfl, K64, g65, f66⟩ := hq61
  show G [t62, a] h59 (1) (32) 39 #[.val (.ref a), .val (.ref b), .val (.int (0 : Int32)), .val (.int N), .val .null, .unset] [(.ref t62)]
  refine astore hG d_jdk_42_method_149_code_39 rfl rfl ?_
  refine aloadN hG d_jdk_42_method_149_code_41 rfl rfl ?_
  refine aload hG d_jdk_42_method_149_code_42 rfl rfl ?_
  refine iloadN hG d_jdk_42_method_149_code_44 rfl ?_
  refine callStatic hG d_jdk_42_method_149_code_45 (w50 hw) (w51 hw) (w45 hw) (w52 hw) (by decide) (m_codL hC (t62) (kt63) (N) ((cs.map (nar .byte))) h59 f66) pd_2 rfl (rest := [(.ref a)]) rfl rfl all0 (Nat.le_of_ble_eq_true rfl) (W := 1) (Nat.le_of_ble_eq_true rfl) (Nat.le_of_ble_eq_true rfl) (Nat.le_of_ble_eq_true rfl) (Nat.le_of_ble_eq_true rfl) (fun v67 M68 h69 le70 hq71 => ?_)
  obtain ⟨rfl, rfl, rfl⟩ := hq71
  show G [t62, a] h59 (1) (32) 48 #[.val (.ref a), .val (.ref b), .val (.int (0 : Int32)), .val (.int N), .val .null, .val (.ref t62)] [(.int (0 : Int32)), (.ref a)]
  have E72 : Exa Z h59 a "java/lang/String" := (p0_exa.keep K64)
  have F73 : Fld Z h59 a "java/lang/String" "coder" "B" (.int (0 : Int32)) := (p2_fld.keep K64 nin0)
  refine putfield hG d_jdk_42_method_149_code_48 (w25 hw) Via.refl F73 E72 (Or.inr ⟨(w21 hw), rfl, rfl⟩) (w5 hw) pf_B rfl rfl (List.mem_of_getElem? (i := 1) rfl) (fun h74 W75 => ?_)
  have F76 : Fld Z h74 a "java/lang/String" "coder" "B" (.int (0 : Int32)) := F73.same W75
  refine aloadN hG d_jdk_42_method_149_code_51 rfl rfl ?_
  refine aload hG d_jdk_42_method_149_code_52 rfl rfl ?_
  have E77 : Exa Z h74 a "java/lang/String" := (E72.wr W75)
  have F78 : Fld Z h74 a "java/lang/String" "value" "[B" .null := ((p1_fld.keep K64 nin0).other W75 (Or.inr (RoadKit.slot_ne (Or.inr (w20 hw)) (Or.inr (w21 hw)) (by decide) pf__B pf_B)))
  refine putfield hG d_jdk_42_method_149_code_54 (w24 hw) Via.refl F78 E77 (Or.inr ⟨(w20 hw), rfl, rfl⟩) (w5 hw) pf__B rfl rfl (List.mem_of_getElem? (i := 1) rfl) (fun h79 W80 => ?_)
  have F81 : Fld Z h79 a "java/lang/String" "value" "[B" (.ref t62) := F78.same W80
  have E82 : Exa Z h79 a "java/lang/String" := (E77.wr W80)
  have F83 : Fld Z h79 a "java/lang/String" "coder" "B" (.int (0 : Int32)) := (F76.other W80 (Or.inr (RoadKit.slot_ne (Or.inr (w21 hw)) (Or.inr (w20 hw)) (by decide) pf_B pf__B)))
  have ne84 : t62 ≠ a := (Nat.ne_of_gt (Nat.lt_of_lt_of_le p0_exa.lt g65))
  have V85 : Arv Z h79 t62 kt63 .byte N (ints (cs.map (nar .byte))) (.int 0) := ((f66.other W75 ne84).other W80 ne84)
  have K86 : Keep h h79 [a] := ((((Keep.refl _ _).trans K64 all0).wr W75 (Or.inl (List.mem_of_getElem? (i := 0) rfl))).wr W80 (Or.inl (List.mem_of_getElem? (i := 0) rfl)))
  exact return0 hG d_jdk_42_method_149_code_57 (M' := [t62]) ⟨t62, kt63, rfl, rfl, K86, g65, E82, F83, F81, V85⟩ (allS (List.mem_of_getElem? (i := 0) rfl) all0) (Nat.le_of_ble_eq_true rfl) (Nat.le_of_ble_eq_true rfl)
def Q_initC0 (Z : State) (g0 : Int32) (a : Addr) (b : Addr) (kb : ClassId) (h : Heap) : QT := fun v' M9 h9 => ∃ (t : Addr), ∃ (kt : ClassId), v' = none ∧ M9 = [] ∧ Keep h h9 [a] ∧ Exa Z h9 a "java/lang/String" ∧ Fld Z h9 a "java/lang/String" "coder" "B" (.int (0 : Int32)) ∧ Fld Z h9 a "java/lang/String" "value" "[B" (.ref t) ∧ Arv Z h9 t kt .byte (0 : Int32) (ints []) (.int 0) ∧ (a ≠ t)
theorem ef_initC0 (m : MethodId) (a : Addr) (b : Addr) (kb : ClassId) : entryFrame m [(.ref a), (.ref b)].toArray 2 = mkF m 0 #[.val (.ref a), .val (.ref b)] [] := by first | rfl | (simp [entryFrame, mkF, argsToLocals, Value.category]; done)
set_option maxRecDepth 65536 in
set_option maxHeartbeats 4000000 in
theorem m_initC0 {l : Launch} {Z : State} {a0 : Array Value} {n0 : Nat} {g0 : Int32} (hC : Ctx l Z a0 n0 g0) (a : Addr) (b : Addr) (kb : ClassId) (h : Heap) (p0_exa : Exa Z h a "java/lang/String") (p1_fld : Fld Z h a "java/lang/String" "value" "[B" .null) (p2_fld : Fld Z h a "java/lang/String" "coder" "B" (.int (0 : Int32))) (p3_arv : Arv Z h b kb .char (0 : Int32) (ints []) (.int 0)) :
    Met l Z EL0 n0 (⟨"java/lang/String", "<init>", "([C)V"⟩ : MethodName) jdk_42_method_3_code 2 none [] ({ frames := 2, cells := 4, slots := 8, locals := 29 } : Room) [(.ref a), (.ref b)] [a] h (Q_initC0 Z g0 a b kb h) := by
  obtain ⟨hw, hS, hE, hK, hX⟩ := id hC
  refine Met.intro pl_4 (fun m => ef_initC0 m a b kb) hE ?_
  intro G hG
  refine aloadN hG d_jdk_42_method_3_code_0 rfl rfl ?_
  refine aloadN hG d_jdk_42_method_3_code_1 rfl rfl ?_
  refine iconst hG d_jdk_42_method_3_code_2 (0) rfl ?_
  refine aloadN hG d_jdk_42_method_3_code_3 rfl rfl ?_
  refine alen hG d_jdk_42_method_3_code_4 p3_arv ?_
  refine aconst_null hG d_jdk_42_method_3_code_5 ?_
  refine callInit hG d_jdk_42_method_3_code_6 rfl (w11 hw) (w12 hw) (w6 hw) (w14 hw) (by decide) (m_initV0 hC (a) (b) h p0_exa p1_fld p2_fld) pd_3 rfl (rest := []) rfl rfl (allS (List.mem_of_getElem? (i := 0) rfl) all0) (Nat.le_of_ble_eq_true rfl) (W := 0) (Nat.le_of_ble_eq_true rfl) (Nat.le_of_ble_eq_true rfl) (Nat.le_of_ble_eq_true rfl) (Nat.le_of_ble_eq_true rfl) (fun v87 M88 h89 le90 hq91 => ?_)
  obtain ⟨t92, kt93, rfl, rfl, K94, f95, f96, f97, f98, hat99⟩ := hq91
  show G [a] h89 (4) (8) 9 #[.val (.ref a), .val (.ref b)] []
  have K100 : Keep h h89 [a] := ((Keep.refl _ _).trans K94 (allS (Or.inl (List.mem_of_getElem? (i := 0) rfl)) all0))
  exact return0 hG d_jdk_42_method_3_code_9 (M' := []) ⟨t92, kt93, rfl, rfl, K100, f95, f96, f97, f98, hat99⟩ all0 (Nat.le_of_ble_eq_true rfl) (Nat.le_of_ble_eq_true rfl)
def Q_initC1 (Z : State) (g0 : Int32) (a : Addr) (b : Addr) (kb : ClassId) (N : Int32) (cs : List Int32) (h : Heap) : QT := fun v' M9 h9 => ∃ (t : Addr), ∃ (kt : ClassId), v' = none ∧ M9 = [t] ∧ Keep h h9 [a] ∧ h.size ≤ t ∧ Exa Z h9 a "java/lang/String" ∧ Fld Z h9 a "java/lang/String" "coder" "B" (.int (0 : Int32)) ∧ Fld Z h9 a "java/lang/String" "value" "[B" (.ref t) ∧ Arv Z h9 t kt .byte N (ints (cs.map (nar .byte))) (.int 0)
theorem ef_initC1 (m : MethodId) (a : Addr) (b : Addr) (kb : ClassId) (N : Int32) (cs : List Int32) : entryFrame m [(.ref a), (.ref b)].toArray 2 = mkF m 0 #[.val (.ref a), .val (.ref b)] [] := by first | rfl | (simp [entryFrame, mkF, argsToLocals, Value.category]; done)
set_option maxRecDepth 65536 in
set_option maxHeartbeats 4000000 in
theorem m_initC1 {l : Launch} {Z : State} {a0 : Array Value} {n0 : Nat} {g0 : Int32} (hC : Ctx l Z a0 n0 g0) (a : Addr) (b : Addr) (kb : ClassId) (N : Int32) (cs : List Int32) (h : Heap) (p0_exa : Exa Z h a "java/lang/String") (p1_fld : Fld Z h a "java/lang/String" "value" "[B" .null) (p2_fld : Fld Z h a "java/lang/String" "coder" "B" (.int (0 : Int32))) (p3_arv : Arv Z h b kb .char N (ints cs) (.int 0)) (hN : N = Int32.ofNat cs.length) (hlen : cs.length ≤ 32) (hlat : ∀ c ∈ cs, ¬ c < 0 ∧ ¬ (255 : Int32) < c) (hpos : ¬ N = 0) :
    Met l Z EL0 n0 (⟨"java/lang/String", "<init>", "([C)V"⟩ : MethodName) jdk_42_method_3_code 2 none [] ({ frames := 3, cells := 1, slots := 32, locals := 52 } : Room) [(.ref a), (.ref b)] [a] h (Q_initC1 Z g0 a b kb N cs h) := by
  obtain ⟨hw, hS, hE, hK, hX⟩ := id hC
  refine Met.intro pl_4 (fun m => ef_initC1 m a b kb N cs) hE ?_
  intro G hG
  refine aloadN hG d_jdk_42_method_3_code_0 rfl rfl ?_
  refine aloadN hG d_jdk_42_method_3_code_1 rfl rfl ?_
  refine iconst hG d_jdk_42_method_3_code_2 (0) rfl ?_
  refine aloadN hG d_jdk_42_method_3_code_3 rfl rfl ?_
  refine alen hG d_jdk_42_method_3_code_4 p3_arv ?_
  refine aconst_null hG d_jdk_42_method_3_code_5 ?_
  refine callInit hG d_jdk_42_method_3_code_6 rfl (w11 hw) (w12 hw) (w6 hw) (w14 hw) (by decide) (m_initV1 hC (a) (b) (kb) (N) (cs) h p0_exa p1_fld p2_fld p3_arv hN hlen hlat hpos) pd_3 rfl (rest := []) rfl rfl (allS (List.mem_of_getElem? (i := 0) rfl) all0) (Nat.le_of_ble_eq_true rfl) (W := 0) (Nat.le_of_ble_eq_true rfl) (Nat.le_of_ble_eq_true rfl) (Nat.le_of_ble_eq_true rfl) (Nat.le_of_ble_eq_true rfl) (fun v101 M102 h103 le104 hq105 => ?_)
  obtain ⟨t106, kt107, rfl, rfl, K108, g109, f110, f111, f112, f113⟩ := hq105
  show G [t106, a] h103 (1) (32) 9 #[.val (.ref a), .val (.ref b)] []
  have K114 : Keep h h103 [a] := ((Keep.refl _ _).trans K108 (allS (Or.inl (List.mem_of_getElem? (i := 0) rfl)) all0))
  exact return0 hG d_jdk_42_method_3_code_9 (M' := [t106]) ⟨t106, kt107, rfl, rfl, K114, g109, f110, f111, f112, f113⟩ (allS (List.mem_of_getElem? (i := 0) rfl) all0) (Nat.le_of_ble_eq_true rfl) (Nat.le_of_ble_eq_true rfl)
def Q_eqL1 (Z : State) (g0 : Int32) (a : Addr) (b : Addr) (ka : ClassId) (kb : ClassId) (Na : Int32) (Nb : Int32) (xs : List Int32) (ys : List Int32) (h : Heap) : QT := fun v' M9 h9 => v' = some (.int (eqv xs ys)) ∧ M9 = [] ∧ h = h9
theorem ef_eqL1 (m : MethodId) (a : Addr) (b : Addr) (ka : ClassId) (kb : ClassId) (Na : Int32) (Nb : Int32) (xs : List Int32) (ys : List Int32) : entryFrame m [(.ref a), (.ref b)].toArray 3 = mkF m 0 #[.val (.ref a), .val (.ref b), .unset] [] := by first | rfl | (simp [entryFrame, mkF, argsToLocals, Value.category]; done)
set_option maxRecDepth 65536 in
set_option maxHeartbeats 4000000 in
theorem m_eqL1 {l : Launch} {Z : State} {a0 : Array Value} {n0 : Nat} {g0 : Int32} (hC : Ctx l Z a0 n0 g0) (a : Addr) (b : Addr) (ka : ClassId) (kb : ClassId) (Na : Int32) (Nb : Int32) (xs : List Int32) (ys : List Int32) (h : Heap) (p0_arv : Arv Z h a ka .byte Na (ints xs) (.int 0)) (p1_arv : Arv Z h b kb .byte Nb (ints ys) (.int 0)) (hNa : Na = Int32.ofNat xs.length) (hNb : Nb = Int32.ofNat ys.length) (hla : xs.length ≤ 2000) (hlb : ys.length ≤ 2000) :
    Met l Z EL0 n0 (⟨"java/lang/StringLatin1", "equals", "([B[B)Z"⟩ : MethodName) jdk_43_method_13_code 3 (some .boolean) [] ({ frames := 0, cells := 0, slots := 0, locals := 0 } : Room) [(.ref a), (.ref b)] [] h (Q_eqL1 Z g0 a b ka kb Na Nb xs ys h) := by
  obtain ⟨hw, hS, hE, hK, hX⟩ := id hC
  refine Met.intro pl_5 (fun m => ef_eqL1 m a b ka kb Na Nb xs ys) hE ?_
  intro G hG
  have loop : xs.length = ys.length → ∀ (r i : Nat), i + r = xs.length → xs.take i = ys.take i → G [] h 0 0 9 #[.val (.ref a), .val (.ref b), .val (.int (Int32.ofNat i))] [] := by
    intro hl r; induction r with
    | zero =>
      intro i hi ht
      have e : xs = ys := by rw [List.take_of_length_le (by omega), List.take_of_length_le (by omega)] at ht; exact ht
      refine iloadN hG d_jdk_43_method_13_code_9 rfl ?_
      refine aloadN hG d_jdk_43_method_13_code_10 rfl rfl ?_
      refine alen hG d_jdk_43_method_13_code_11 p0_arv ?_
      refine icmpYes hG d_jdk_43_method_13_code_12 (flt (by rw [hNa]; exact ofN_nlt (by omega) (by omega))).2.1 (by decide) (pc' := 32) rfl ?_
      refine iconst hG d_jdk_43_method_13_code_32 (1) rfl ?_
      exact ireturnN hG (by simp) d_jdk_43_method_13_code_33 (M' := []) ⟨(by rw [eqv_yes e]; rfl), rfl, rfl⟩ all0 (Nat.le_of_ble_eq_true rfl) (Nat.le_of_ble_eq_true rfl)
    | succ r ih =>
      intro i hi ht
      have hina := ofN_in (i := i) (n := xs.length) (by omega) (by omega)
      have hinb := ofN_in (i := i) (n := ys.length) (by omega) (by omega)
      rw [← hNa] at hina
      rw [← hNb] at hinb
      refine iloadN hG d_jdk_43_method_13_code_9 rfl ?_
      refine aloadN hG d_jdk_43_method_13_code_10 rfl rfl ?_
      refine alen hG d_jdk_43_method_13_code_11 p0_arv ?_
      refine icmpNo hG d_jdk_43_method_13_code_12 (tlt hina.2).2.1 ?_
      refine aloadN hG d_jdk_43_method_13_code_15 rfl rfl ?_
      refine iloadN hG d_jdk_43_method_13_code_16 rfl ?_
      refine baload hG d_jdk_43_method_13_code_17 p0_arv hina (v := (.int (xs.getD i 0))) (ints_at (by omega)) ?_
      refine aloadN hG d_jdk_43_method_13_code_18 rfl rfl ?_
      refine iloadN hG d_jdk_43_method_13_code_19 rfl ?_
      refine baload hG d_jdk_43_method_13_code_20 p1_arv hinb (v := (.int (ys.getD i 0))) (ints_at (by omega)) ?_
      refine icmp_eq hG d_jdk_43_method_13_code_21 (by decide) (pc' := 26) rfl (fun q115 => ?_) (fun q115 => ?_)
      · skip
        refine iinc hG d_jdk_43_method_13_code_26 rfl (Int32.ofNat (i + 1)) (ofN_succ i) rfl ?_
        refine goto hG d_jdk_43_method_13_code_29 (by decide) (pc' := 9) rfl ?_
        exact ih (i + 1) (by omega) (by rw [take_succ' (by omega), take_succ' (by omega), ht, q115])
      · skip
        refine iconst hG d_jdk_43_method_13_code_24 (0) rfl ?_
        exact ireturnN hG (by simp) d_jdk_43_method_13_code_25 (M' := []) ⟨(by rw [eqv_no (fun e => q115 (by rw [e]))]; rfl), rfl, rfl⟩ all0 (Nat.le_of_ble_eq_true rfl) (Nat.le_of_ble_eq_true rfl)
  refine aloadN hG d_jdk_43_method_13_code_0 rfl rfl ?_
  refine alen hG d_jdk_43_method_13_code_1 p0_arv ?_
  refine aloadN hG d_jdk_43_method_13_code_2 rfl rfl ?_
  refine alen hG d_jdk_43_method_13_code_3 p1_arv ?_
  refine icmp_ne hG d_jdk_43_method_13_code_4 (by decide) (pc' := 34) rfl (fun q116 => ?_) (fun q116 => ?_)
  · skip
    refine iconst hG d_jdk_43_method_13_code_34 (0) rfl ?_
    exact ireturnN hG (by simp) d_jdk_43_method_13_code_35 (M' := []) ⟨(by rw [eqv_no (fun e => q116 (by rw [hNa, hNb, e]))]; rfl), rfl, rfl⟩ all0 (Nat.le_of_ble_eq_true rfl) (Nat.le_of_ble_eq_true rfl)
  · skip
    refine iconst hG d_jdk_43_method_13_code_7 (0) rfl ?_
    refine istoreN hG d_jdk_43_method_13_code_8 rfl ?_
    exact loop (ofN_inj (by omega) (by omega) (by rw [← hNa, ← hNb]; exact q116)) xs.length 0 (by omega) rfl
def Q_eqS (Z : State) (g0 : Int32) (a : Addr) (b : Addr) (ta : Addr) (tb : Addr) (ka : ClassId) (kb : ClassId) (Na : Int32) (Nb : Int32) (xs : List Int32) (ys : List Int32) (h : Heap) : QT := fun v' M9 h9 => v' = some (.int (eqv xs ys)) ∧ M9 = [] ∧ h = h9
theorem ef_eqS (m : MethodId) (a : Addr) (b : Addr) (ta : Addr) (tb : Addr) (ka : ClassId) (kb : ClassId) (Na : Int32) (Nb : Int32) (xs : List Int32) (ys : List Int32) : entryFrame m [(.ref a), (.ref b)].toArray 3 = mkF m 0 #[.val (.ref a), .val (.ref b), .unset] [] := by first | rfl | (simp [entryFrame, mkF, argsToLocals, Value.category]; done)
set_option maxRecDepth 65536 in
set_option maxHeartbeats 4000000 in
theorem m_eqS {l : Launch} {Z : State} {a0 : Array Value} {n0 : Nat} {g0 : Int32} (hC : Ctx l Z a0 n0 g0) (a : Addr) (b : Addr) (ta : Addr) (tb : Addr) (ka : ClassId) (kb : ClassId) (Na : Int32) (Nb : Int32) (xs : List Int32) (ys : List Int32) (h : Heap) (p0_exa : Exa Z h a "java/lang/String") (p1_exa : Exa Z h b "java/lang/String") (p2_fld : Fld Z h a "java/lang/String" "coder" "B" (.int (0 : Int32))) (p3_fld : Fld Z h b "java/lang/String" "coder" "B" (.int (0 : Int32))) (p4_fld : Fld Z h a "java/lang/String" "value" "[B" (.ref ta)) (p5_fld : Fld Z h b "java/lang/String" "value" "[B" (.ref tb)) (p6_arv : Arv Z h ta ka .byte Na (ints xs) (.int 0)) (p7_arv : Arv Z h tb kb .byte Nb (ints ys) (.int 0)) (hNa : Na = Int32.ofNat xs.length) (hNb : Nb = Int32.ofNat ys.length) (hla : xs.length ≤ 2000) (hlb : ys.length ≤ 2000) (hab : a ≠ b) :
    Met l Z EL0 n0 (⟨"java/lang/String", "equals", "(Ljava/lang/Object;)Z"⟩ : MethodName) jdk_42_method_66_code 3 (some .boolean) [] ({ frames := 1, cells := 0, slots := 0, locals := 14 } : Room) [(.ref a), (.ref b)] [] h (Q_eqS Z g0 a b ta tb ka kb Na Nb xs ys h) := by
  obtain ⟨hw, hS, hE, hK, hX⟩ := id hC
  refine Met.intro pl_6 (fun m => ef_eqS m a b ta tb ka kb Na Nb xs ys) hE ?_
  intro G hG
  refine aloadN hG d_jdk_42_method_66_code_0 rfl rfl ?_
  refine aloadN hG d_jdk_42_method_66_code_1 rfl rfl ?_
  refine acmp_ne hG d_jdk_42_method_66_code_2 rfl rfl (by decide) (pc' := 7) rfl (fun _ => ?_) (fun q => absurd q (fun q => hab (Value.ref.inj q)))
  refine aloadN hG d_jdk_42_method_66_code_7 rfl rfl ?_
  refine instYes hG d_jdk_42_method_66_code_8 (w36 hw) (Ins.of_exa p1_exa (w13 hw)) ?_
  refine ifNo hG d_jdk_42_method_66_code_11 (by decide) ?_
  refine aloadN hG d_jdk_42_method_66_code_14 rfl rfl ?_
  refine checkcast hG d_jdk_42_method_66_code_15 (w36 hw) (Ins.of_exa p1_exa (w13 hw)) ?_
  refine astoreN hG d_jdk_42_method_66_code_18 rfl rfl ?_
  refine getstatic hG d_jdk_42_method_66_code_19 (w37 hw) Via.refl hK.1 ?_
  refine ifNo hG d_jdk_42_method_66_code_22 (feq hK.2).1 ?_
  refine aloadN hG d_jdk_42_method_66_code_25 rfl rfl ?_
  refine getfield hG d_jdk_42_method_66_code_26 (w25 hw) Via.refl p2_fld ?_
  refine aloadN hG d_jdk_42_method_66_code_29 rfl rfl ?_
  refine getfield hG d_jdk_42_method_66_code_30 (w25 hw) Via.refl p3_fld ?_
  refine icmpNo hG d_jdk_42_method_66_code_33 (by decide) ?_
  refine aloadN hG d_jdk_42_method_66_code_36 rfl rfl ?_
  refine getfield hG d_jdk_42_method_66_code_37 (w24 hw) Via.refl p4_fld ?_
  refine aloadN hG d_jdk_42_method_66_code_40 rfl rfl ?_
  refine getfield hG d_jdk_42_method_66_code_41 (w24 hw) Via.refl p5_fld ?_
  refine callStatic hG d_jdk_42_method_66_code_44 (w38 hw) (w39 hw) (w40 hw) (w41 hw) (by decide) (m_eqL1 hC (ta) (tb) (ka) (kb) (Na) (Nb) (xs) (ys) h p6_arv p7_arv hNa hNb hla hlb) pd_4 rfl (rest := []) rfl rfl all0 (Nat.le_of_ble_eq_true rfl) (W := 0) (Nat.le_of_ble_eq_true rfl) (Nat.le_of_ble_eq_true rfl) (Nat.le_of_ble_eq_true rfl) (Nat.le_of_ble_eq_true rfl) (fun v117 M118 h119 le120 hq121 => ?_)
  obtain ⟨rfl, rfl, rfl⟩ := hq121
  show G [] h (0) (0) 47 #[.val (.ref a), .val (.ref b), .val (.ref b)] [(.int (eqv xs ys))]
  refine if_eq hG d_jdk_42_method_66_code_47 (by decide) (pc' := 54) rfl (fun q122 => ?_) (fun q122 => ?_)
  · skip
    refine iconst hG d_jdk_42_method_66_code_54 (0) rfl ?_
    exact ireturnN hG (by simp) d_jdk_42_method_66_code_55 (M' := []) ⟨(by rw [q122]; rfl), rfl, rfl⟩ all0 (Nat.le_of_ble_eq_true rfl) (Nat.le_of_ble_eq_true rfl)
  · skip
    refine iconst hG d_jdk_42_method_66_code_50 (1) rfl ?_
    refine goto hG d_jdk_42_method_66_code_51 (by decide) (pc' := 55) rfl ?_
    exact ireturnN hG (by simp) d_jdk_42_method_66_code_55 (M' := []) ⟨(by rw [eqv_one q122]; rfl), rfl, rfl⟩ all0 (Nat.le_of_ble_eq_true rfl) (Nat.le_of_ble_eq_true rfl)
def Q_pick (Z : State) (g0 : Int32) (x : Int32) (h : Heap) : QT := fun v' M9 h9 => ∃ (c : Int32), v' = some (.int c) ∧ M9 = [] ∧ h = h9 ∧ (¬ c < 0 ∧ ¬ (255 : Int32) < c)
theorem ef_pick (m : MethodId) (x : Int32) : entryFrame m [(.int x)].toArray 1 = mkF m 0 #[.val (.int x)] [] := by first | rfl | (simp [entryFrame, mkF, argsToLocals, Value.category]; done)
set_option maxRecDepth 65536 in
set_option maxHeartbeats 4000000 in
theorem m_pick {l : Launch} {Z : State} {a0 : Array Value} {n0 : Nat} {g0 : Int32} (hC : Ctx l Z a0 n0 g0) (x : Int32) (h : Heap) :
    Met l Z EL0 n0 (⟨"com/example/claimwheel/claimwheel/engine/CronFieldIsUnrestrictedPinLaw", "pick", "(I)C"⟩ : MethodName) method_2_code 1 (some .char) [] ({ frames := 0, cells := 0, slots := 0, locals := 0 } : Room) [(.int x)] [] h (Q_pick Z g0 x h) := by
  obtain ⟨hw, hS, hE, hK, hX⟩ := id hC
  refine Met.intro pl_7 (fun m => ef_pick m x) hE ?_
  intro G hG
  refine iloadN hG d_method_2_code_0 rfl ?_
  refine sipush hG d_method_2_code_1 (256) rfl ?_
  refine iand hG d_method_2_code_4 ?_
  refine if_eq hG d_method_2_code_5 (by decide) (pc' := 22) rfl (fun q123 => ?_) (fun q123 => ?_)
  · skip
    refine iloadN hG d_method_2_code_22 rfl ?_
    refine sipush hG d_method_2_code_23 (255) rfl ?_
    refine iand hG d_method_2_code_26 ?_
    refine i2c hG d_method_2_code_27 ?_
    exact ireturnN hG (by simp) d_method_2_code_28 (M' := []) ⟨(nar .char (x &&& (255 : Int32)).toUInt32.toUInt16.toUInt32.toInt32), rfl, rfl, rfl, (own_and255 x)⟩ all0 (Nat.le_of_ble_eq_true rfl) (Nat.le_of_ble_eq_true rfl)
  · skip
    refine iloadN hG d_method_2_code_8 rfl ?_
    refine iconst hG d_method_2_code_9 (1) rfl ?_
    refine iand hG d_method_2_code_10 ?_
    refine if_ne hG d_method_2_code_11 (by decide) (pc' := 19) rfl (fun q124 => ?_) (fun q124 => ?_)
    · skip
      refine bipush hG d_method_2_code_19 (63) rfl ?_
      exact ireturnN hG (by simp) d_method_2_code_21 (M' := []) ⟨(nar .char (63 : Int32)), rfl, rfl, rfl, (by decide)⟩ all0 (Nat.le_of_ble_eq_true rfl) (Nat.le_of_ble_eq_true rfl)
    · skip
      refine bipush hG d_method_2_code_14 (42) rfl ?_
      refine goto hG d_method_2_code_16 (by decide) (pc' := 21) rfl ?_
      exact ireturnN hG (by simp) d_method_2_code_21 (M' := []) ⟨(nar .char (42 : Int32)), rfl, rfl, rfl, (by decide)⟩ all0 (Nat.le_of_ble_eq_true rfl) (Nat.le_of_ble_eq_true rfl)
def Q_un (Z : State) (g0 : Int32) (a : Addr) (ta : Addr) (ka : ClassId) (Na : Int32) (xs : List Int32) (h : Heap) : QT := fun v' M9 h9 => ∃ (r : Int32), v' = some (.int r) ∧ M9 = [] ∧ Keep h h9 [] ∧ ((r = 1 ∧ (xs = [42] ∨ xs = [63])) ∨ (r = 0 ∧ ¬ (xs = [42] ∨ xs = [63])))
theorem ef_un (m : MethodId) (a : Addr) (ta : Addr) (ka : ClassId) (Na : Int32) (xs : List Int32) : entryFrame m [(.ref a)].toArray 1 = mkF m 0 #[.val (.ref a)] [] := by first | rfl | (simp [entryFrame, mkF, argsToLocals, Value.category]; done)
set_option maxRecDepth 65536 in
set_option maxHeartbeats 4000000 in
theorem m_un {l : Launch} {Z : State} {a0 : Array Value} {n0 : Nat} {g0 : Int32} (hC : Ctx l Z a0 n0 g0) (a : Addr) (ta : Addr) (ka : ClassId) (Na : Int32) (xs : List Int32) (h : Heap) (p0_exa : Exa Z h a "java/lang/String") (p1_fld : Fld Z h a "java/lang/String" "coder" "B" (.int (0 : Int32))) (p2_fld : Fld Z h a "java/lang/String" "value" "[B" (.ref ta)) (p3_arv : Arv Z h ta ka .byte Na (ints xs) (.int 0)) (hNa : Na = Int32.ofNat xs.length) (hla : xs.length ≤ 2000) :
    Met l Z EL0 n0 (⟨"com/example/claimwheel/claimwheel/engine/CronField", "isUnrestricted", "(Ljava/lang/String;)Z"⟩ : MethodName) prog_3_method_4_code 1 (some .boolean) [] ({ frames := 2, cells := 4, slots := 16, locals := 28 } : Room) [(.ref a)] [a] h (Q_un Z g0 a ta ka Na xs h) := by
  obtain ⟨hw, hS, hE, hK, hX⟩ := id hC
  refine Met.intro pl_8 (fun m => ef_un m a ta ka Na xs) hE ?_
  intro G hG
  refine aloadN hG d_prog_3_method_4_code_0 rfl rfl ?_
  refine ldc hG d_prog_3_method_4_code_1 (w30 hw) hS (by decide) (vs := [(.int (42 : Int32))]) (N := 1) ⟨by decide, by decide +kernel⟩ (by decide) (by decide) (nn := 4) (by decide) (by decide) (Nat.le_of_ble_eq_true rfl) (Nat.le_of_ble_eq_true rfl) (fun h125 a126 b127 kk128 E129 X130 F131 F132 V133 ne134 => ?_)
  show G [a] h125 (2) (8) 3 #[.val (.ref a)] [(.ref a126), (.ref a)]
  have E135 : Exa Z h125 a "java/lang/String" := (p0_exa.ext E129)
  have F136 : Fld Z h125 a "java/lang/String" "coder" "B" (.int (0 : Int32)) := (p1_fld.ext E129)
  have F137 : Fld Z h125 a "java/lang/String" "value" "[B" (.ref ta) := (p2_fld.ext E129)
  have V138 : Arv Z h125 ta ka .byte Na (ints xs) (.int 0) := (p3_arv.ext E129)
  refine callVirtual hG d_prog_3_method_4_code_3 E135 (w31 hw) (w32 hw) (fun _ hz => notFace_of_selects (args := #[]) (mvT hz (w34 hw))) (w34 hw) (w33 hw) (w6 hw) (w35 hw) (by decide) (m_eqS hC (a) (a126) (ta) (b127) (ka) (kk128) (Na) ((1 : Int32)) (xs) ([(42 : Int32)]) h125 E135 X130 F136 F131 F137 F132 V138 V133 hNa rfl hla (by first | exact Nat.le_of_ble_eq_true rfl | (simp; done) | (simp; omega)) (ne134 _ (List.mem_of_getElem? (i := 0) rfl)).1) pd_5 rfl (rest := []) rfl rfl all0 (Nat.le_of_ble_eq_true rfl) (W := 0) (Nat.le_of_ble_eq_true rfl) (Nat.le_of_ble_eq_true rfl) (Nat.le_of_ble_eq_true rfl) (Nat.le_of_ble_eq_true rfl) (fun v139 M140 h141 le142 hq143 => ?_)
  obtain ⟨rfl, rfl, rfl⟩ := hq143
  show G [a] h125 (2) (8) 6 #[.val (.ref a)] [(.int (eqv xs [(42 : Int32)]))]
  refine if_ne hG d_prog_3_method_4_code_6 (by decide) (pc' := 18) rfl (fun q144 => ?_) (fun q144 => ?_)
  · skip
    refine iconst hG d_prog_3_method_4_code_18 (1) rfl ?_
    refine goto hG d_prog_3_method_4_code_19 (by decide) (pc' := 23) rfl ?_
    have K145 : Keep h h125 [] := ((Keep.refl _ _).ext E129)
    exact ireturnN hG (by simp) d_prog_3_method_4_code_23 (M' := []) ⟨(nar .boolean (1 : Int32)), rfl, rfl, K145, (Or.inl ⟨rfl, Or.inl (eqv_eq q144)⟩)⟩ all0 (Nat.le_of_ble_eq_true rfl) (Nat.le_of_ble_eq_true rfl)
  · skip
    refine aloadN hG d_prog_3_method_4_code_9 rfl rfl ?_
    refine ldc hG d_prog_3_method_4_code_10 (w42 hw) hS (by decide) (vs := [(.int (63 : Int32))]) (N := 1) ⟨by decide, by decide +kernel⟩ (by decide) (by decide) (nn := 4) (by decide) (by decide) (Nat.le_of_ble_eq_true rfl) (Nat.le_of_ble_eq_true rfl) (fun h146 a147 b148 kk149 E150 X151 F152 F153 V154 ne155 => ?_)
    show G [a] h146 (4) (16) 12 #[.val (.ref a)] [(.ref a147), (.ref a)]
    have E156 : Exa Z h146 a "java/lang/String" := (E135.ext E150)
    have F157 : Fld Z h146 a "java/lang/String" "coder" "B" (.int (0 : Int32)) := (F136.ext E150)
    have F158 : Fld Z h146 a "java/lang/String" "value" "[B" (.ref ta) := (F137.ext E150)
    have V159 : Arv Z h146 ta ka .byte Na (ints xs) (.int 0) := (V138.ext E150)
    refine callVirtual hG d_prog_3_method_4_code_12 E156 (w31 hw) (w32 hw) (fun _ hz => notFace_of_selects (args := #[]) (mvT hz (w34 hw))) (w34 hw) (w33 hw) (w6 hw) (w35 hw) (by decide) (m_eqS hC (a) (a147) (ta) (b148) (ka) (kk149) (Na) ((1 : Int32)) (xs) ([(63 : Int32)]) h146 E156 X151 F157 F152 F158 F153 V159 V154 hNa rfl hla (by first | exact Nat.le_of_ble_eq_true rfl | (simp; done) | (simp; omega)) (ne155 _ (List.mem_of_getElem? (i := 0) rfl)).1) pd_5 rfl (rest := []) rfl rfl all0 (Nat.le_of_ble_eq_true rfl) (W := 0) (Nat.le_of_ble_eq_true rfl) (Nat.le_of_ble_eq_true rfl) (Nat.le_of_ble_eq_true rfl) (Nat.le_of_ble_eq_true rfl) (fun v160 M161 h162 le163 hq164 => ?_)
    obtain ⟨rfl, rfl, rfl⟩ := hq164
    show G [a] h146 (4) (16) 15 #[.val (.ref a)] [(.int (eqv xs [(63 : Int32)]))]
    refine if_eq hG d_prog_3_method_4_code_15 (by decide) (pc' := 22) rfl (fun q165 => ?_) (fun q165 => ?_)
    · skip
      refine iconst hG d_prog_3_method_4_code_22 (0) rfl ?_
      have K166 : Keep h h146 [] := (((Keep.refl _ _).ext E129).ext E150)
      exact ireturnN hG (by simp) d_prog_3_method_4_code_23 (M' := []) ⟨(nar .boolean (0 : Int32)), rfl, rfl, K166, (Or.inr ⟨rfl, fun q => q.elim (eqv_ne q144) (eqv_ne q165)⟩)⟩ all0 (Nat.le_of_ble_eq_true rfl) (Nat.le_of_ble_eq_true rfl)
    · skip
      refine iconst hG d_prog_3_method_4_code_18 (1) rfl ?_
      refine goto hG d_prog_3_method_4_code_19 (by decide) (pc' := 23) rfl ?_
      have K167 : Keep h h146 [] := (((Keep.refl _ _).ext E129).ext E150)
      exact ireturnN hG (by simp) d_prog_3_method_4_code_23 (M' := []) ⟨(nar .boolean (1 : Int32)), rfl, rfl, K167, (Or.inl ⟨rfl, Or.inr (eqv_eq q165)⟩)⟩ all0 (Nat.le_of_ble_eq_true rfl) (Nat.le_of_ble_eq_true rfl)
def Q_law (Z : State) (g0 : Int32) (p0 : Int32) (p1 : Int32) (p2 : Int32) (p3 : Int32) (h : Heap) : QT := fun v' M9 h9 => v' = some (.int (1 : Int32)) ∧ M9 = [] ∧ Keep h h9 []
theorem ef_law (m : MethodId) (p0 : Int32) (p1 : Int32) (p2 : Int32) (p3 : Int32) : entryFrame m [(.int p0), (.int p1), (.int p2), (.int p3)].toArray maxLocals = mkF m 0 #[.val (.int p0), .val (.int p1), .val (.int p2), .val (.int p3), .unset, .unset, .unset, .unset, .unset, .unset] [] := by first | rfl | (simp [entryFrame, mkF, argsToLocals, Value.category]; done)
set_option maxRecDepth 65536 in
set_option maxHeartbeats 4000000 in
theorem m_law {l : Launch} {Z : State} {a0 : Array Value} {n0 : Nat} {g0 : Int32} (hC : Ctx l Z a0 n0 g0) (p0 : Int32) (p1 : Int32) (p2 : Int32) (p3 : Int32) (h : Heap) :
    Met l Z EL0 n0 x code maxLocals ret tables_1 room_1 [(.int p0), (.int p1), (.int p2), (.int p3)] [] h (Q_law Z g0 p0 p1 p2 p3 h) := by
  obtain ⟨hw, hS, hE, hK, hX⟩ := id hC
  refine Met.intro pl_9 (fun m => ef_law m p0 p1 p2 p3) hE ?_
  intro G hG
  refine iloadN hG at_0 rfl ?_
  refine iconst hG at_1 (3) rfl ?_
  refine iand hG at_2 ?_
  refine istore hG at_3 rfl ?_
  refine iloadN hG at_5 rfl ?_
  refine callStatic hG at_6 (w0 hw) (w1 hw) (w2 hw) (w3 hw) (by decide) (m_pick hC (p1) h) pd_6 rfl (rest := []) rfl rfl all0 (Nat.le_of_ble_eq_true rfl) (W := 0) (Nat.le_of_ble_eq_true rfl) (Nat.le_of_ble_eq_true rfl) (Nat.le_of_ble_eq_true rfl) (Nat.le_of_ble_eq_true rfl) (fun v168 M169 h170 le171 hq172 => ?_)
  obtain ⟨c173, rfl, rfl, rfl, hc174⟩ := hq172
  show G [] h (0) (0) 9 #[.val (.int p0), .val (.int p1), .val (.int p2), .val (.int p3), .val (.int (p0 &&& (3 : Int32))), .unset, .unset, .unset, .unset, .unset] [(.int c173)]
  have nc175 : nar .char c173 = c173 := nar_char hc174.1 (own_up hc174).2
  refine istore hG at_9 rfl ?_
  refine iloadN hG at_11 rfl ?_
  refine callStatic hG at_12 (w0 hw) (w1 hw) (w2 hw) (w3 hw) (by decide) (m_pick hC (p2) h) pd_6 rfl (rest := []) rfl rfl all0 (Nat.le_of_ble_eq_true rfl) (W := 0) (Nat.le_of_ble_eq_true rfl) (Nat.le_of_ble_eq_true rfl) (Nat.le_of_ble_eq_true rfl) (Nat.le_of_ble_eq_true rfl) (fun v176 M177 h178 le179 hq180 => ?_)
  obtain ⟨c181, rfl, rfl, rfl, hc182⟩ := hq180
  show G [] h (0) (0) 15 #[.val (.int p0), .val (.int p1), .val (.int p2), .val (.int p3), .val (.int (p0 &&& (3 : Int32))), .val (.int c173), .unset, .unset, .unset, .unset] [(.int c181)]
  have nc183 : nar .char c181 = c181 := nar_char hc182.1 (own_up hc182).2
  refine istore hG at_15 rfl ?_
  refine iloadN hG at_17 rfl ?_
  refine callStatic hG at_18 (w0 hw) (w1 hw) (w2 hw) (w3 hw) (by decide) (m_pick hC (p3) h) pd_6 rfl (rest := []) rfl rfl all0 (Nat.le_of_ble_eq_true rfl) (W := 0) (Nat.le_of_ble_eq_true rfl) (Nat.le_of_ble_eq_true rfl) (Nat.le_of_ble_eq_true rfl) (Nat.le_of_ble_eq_true rfl) (fun v184 M185 h186 le187 hq188 => ?_)
  obtain ⟨c189, rfl, rfl, rfl, hc190⟩ := hq188
  show G [] h (0) (0) 21 #[.val (.int p0), .val (.int p1), .val (.int p2), .val (.int p3), .val (.int (p0 &&& (3 : Int32))), .val (.int c173), .val (.int c181), .unset, .unset, .unset] [(.int c189)]
  have nc191 : nar .char c189 = c189 := nar_char hc190.1 (own_up hc190).2
  refine istore hG at_21 rfl ?_
  refine iload hG at_23 rfl ?_
  refine if_ne hG at_25 (by decide) (pc' := 43) rfl (fun q192 => ?_) (fun q192 => ?_)
  · skip
    refine iload hG at_43 rfl ?_
    refine iconst hG at_45 (1) rfl ?_
    refine icmp_ne hG at_46 (by decide) (pc' := 69) rfl (fun q193 => ?_) (fun q193 => ?_)
    · skip
      refine iload hG at_69 rfl ?_
      refine iconst hG at_71 (2) rfl ?_
      refine icmp_ne hG at_72 (by decide) (pc' := 100) rfl (fun q194 => ?_) (fun q194 => ?_)
      · skip
        refine new hG at_100 (w4 hw) (w5 hw) (w6 hw) (Nat.le_of_ble_eq_true rfl) (Nat.le_of_ble_eq_true rfl) (fun h195 a196 g197 E198 X199 D200 => ?_)
        show G [a196] h195 (1) (4) 103 #[.val (.int p0), .val (.int p1), .val (.int p2), .val (.int p3), .val (.int (p0 &&& (3 : Int32))), .val (.int c173), .val (.int c181), .val (.int c189), .unset, .unset] [(.ref a196)]
        refine dup hG at_103 rfl ?_
        refine iconst hG at_104 (3) rfl ?_
        refine newarray hG at_105 rfl (w7 hw) (by decide) (cap := 3) (by decide) (by decide) (Nat.le_of_ble_eq_true rfl) (Nat.le_of_ble_eq_true rfl) (cnt := 3) (vs := [(.int (0 : Int32)), (.int (0 : Int32)), (.int (0 : Int32))]) rfl (fun h201 a202 kk203 g204 E205 V206 => ?_)
        show G [a202, a196] h201 (2) (7) 107 #[.val (.int p0), .val (.int p1), .val (.int p2), .val (.int p3), .val (.int (p0 &&& (3 : Int32))), .val (.int c173), .val (.int c181), .val (.int c189), .unset, .unset] [(.ref a202), (.ref a196), (.ref a196)]
        refine dup hG at_107 rfl ?_
        refine iconst hG at_108 (0) rfl ?_
        refine iload hG at_109 rfl ?_
        refine castore hG at_111 V206 ⟨by decide, by decide⟩ (i := 0) rfl (Nat.le_of_ble_eq_true rfl) (List.mem_of_getElem? (i := 0) rfl) (fun h207 W208 V209 => ?_)
        rw [nc175] at V209
        have V211 : Arv Z h207 a202 kk203 .char (3 : Int32) [(.int c173), (.int (0 : Int32)), (.int (0 : Int32))] (.int 0) := V209
        refine dup hG at_112 rfl ?_
        refine iconst hG at_113 (1) rfl ?_
        refine iload hG at_114 rfl ?_
        refine castore hG at_116 V211 ⟨by decide, by decide⟩ (i := 1) rfl (Nat.le_of_ble_eq_true rfl) (List.mem_of_getElem? (i := 0) rfl) (fun h212 W213 V214 => ?_)
        rw [nc183] at V214
        have V216 : Arv Z h212 a202 kk203 .char (3 : Int32) [(.int c173), (.int c181), (.int (0 : Int32))] (.int 0) := V214
        refine dup hG at_117 rfl ?_
        refine iconst hG at_118 (2) rfl ?_
        refine iload hG at_119 rfl ?_
        refine castore hG at_121 V216 ⟨by decide, by decide⟩ (i := 2) rfl (Nat.le_of_ble_eq_true rfl) (List.mem_of_getElem? (i := 0) rfl) (fun h217 W218 V219 => ?_)
        rw [nc191] at V219
        have V221 : Arv Z h217 a202 kk203 .char (3 : Int32) [(.int c173), (.int c181), (.int c189)] (.int 0) := V219
        have E222 : Exa Z h217 a196 "java/lang/String" := ((((X199.ext E205).wr W208).wr W213).wr W218)
        have F223 : Fld Z h195 a196 "java/lang/String" "value" "[B" .null := D200 (Or.inr (w20 hw)) pf__B
        have ne224 : a196 ≠ a202 := (Nat.ne_of_lt (Nat.lt_of_lt_of_le X199.lt g204))
        have F225 : Fld Z h217 a196 "java/lang/String" "value" "[B" .null := ((((F223.ext E205).other W208 (Or.inl ne224)).other W213 (Or.inl ne224)).other W218 (Or.inl ne224))
        have F226 : Fld Z h195 a196 "java/lang/String" "coder" "B" (.int (0 : Int32)) := D200 (Or.inr (w21 hw)) pf_B
        have F227 : Fld Z h217 a196 "java/lang/String" "coder" "B" (.int (0 : Int32)) := ((((F226.ext E205).other W208 (Or.inl ne224)).other W213 (Or.inl ne224)).other W218 (Or.inl ne224))
        refine callInit hG at_122 rfl (w8 hw) (w9 hw) (w6 hw) (w10 hw) (by decide) (m_initC1 hC (a196) (a202) (kk203) ((3 : Int32)) ([c173, c181, c189]) h217 E222 F225 F227 V221 rfl (by first | exact Nat.le_of_ble_eq_true rfl | (simp; done) | (simp; omega)) (forallS hc174 (forallS hc182 (forallS hc190 (fun _ q => nomatch q)))) (by decide)) pd_7 rfl (rest := [(.ref a196)]) rfl rfl (allS (List.mem_of_getElem? (i := 1) rfl) all0) (Nat.le_of_ble_eq_true rfl) (W := 1) (Nat.le_of_ble_eq_true rfl) (Nat.le_of_ble_eq_true rfl) (Nat.le_of_ble_eq_true rfl) (Nat.le_of_ble_eq_true rfl) (fun v228 M229 h230 le231 hq232 => ?_)
        obtain ⟨t233, kt234, rfl, rfl, K235, g236, f237, f238, f239, f240⟩ := hq232
        show G [t233, a202, a196] h230 (3) (39) 125 #[.val (.int p0), .val (.int p1), .val (.int p2), .val (.int p3), .val (.int (p0 &&& (3 : Int32))), .val (.int c173), .val (.int c181), .val (.int c189), .unset, .unset] [(.ref a196)]
        have V241 : Arv Z h230 t233 kt234 .byte (3 : Int32) [(.int (nar .byte c173)), (.int (nar .byte c181)), (.int (nar .byte c189))] (.int 0) := f240
        refine astore hG at_125 rfl rfl ?_
        refine iload hG at_127 rfl ?_
        refine iconst hG at_129 (1) rfl ?_
        refine icmpYes hG at_130 (feq q193).2 (by decide) (pc' := 151) rfl ?_
        refine iconst hG at_151 (0) rfl ?_
        refine istore hG at_152 rfl ?_
        refine aload hG at_154 rfl rfl ?_
        refine callStatic hG at_156 (w26 hw) (w27 hw) (w28 hw) (w29 hw) (by decide) (m_un hC (a196) (t233) (kt234) ((3 : Int32)) ([(nar .byte c173), (nar .byte c181), (nar .byte c189)]) h230 f237 f238 f239 V241 rfl (by first | exact Nat.le_of_ble_eq_true rfl | (simp; done) | (simp; omega))) pd_8 rfl (rest := []) rfl rfl (allS (List.mem_of_getElem? (i := 2) rfl) all0) (Nat.le_of_ble_eq_true rfl) (W := 0) (Nat.le_of_ble_eq_true rfl) (Nat.le_of_ble_eq_true rfl) (Nat.le_of_ble_eq_true rfl) (Nat.le_of_ble_eq_true rfl) (fun v242 M243 h244 le245 hq246 => ?_)
        obtain ⟨r247, rfl, rfl, K248, hr249⟩ := hq246
        show G [t233, a202, a196] h244 (7) (55) 159 #[.val (.int p0), .val (.int p1), .val (.int p2), .val (.int p3), .val (.int (p0 &&& (3 : Int32))), .val (.int c173), .val (.int c181), .val (.int c189), .val (.ref a196), .val (.int (0 : Int32))] [(.int r247)]
        refine iload hG at_159 rfl ?_
        refine icmpNo hG at_161 (teq (own_un0 hr249 (by simp))).2 ?_
        refine iconst hG at_164 (1) rfl ?_
        refine goto hG at_165 (by decide) (pc' := 169) rfl ?_
        have K250 : Keep h h244 [] := ((((((((Keep.refl _ _).ext E198).ext E205).wr W208 (Or.inr (Nat.le_trans E198.1 g204))).wr W213 (Or.inr (Nat.le_trans E198.1 g204))).wr W218 (Or.inr (Nat.le_trans E198.1 g204))).trans K235 (allS (Or.inr g197) all0)).trans K248 all0)
        exact ireturnN hG (by simp) at_169 (M' := []) ⟨rfl, rfl, K250⟩ all0 (Nat.le_of_ble_eq_true rfl) (Nat.le_of_ble_eq_true rfl)
      · skip
        refine new hG at_75 (w4 hw) (w5 hw) (w6 hw) (Nat.le_of_ble_eq_true rfl) (Nat.le_of_ble_eq_true rfl) (fun h251 a252 g253 E254 X255 D256 => ?_)
        show G [a252] h251 (1) (4) 78 #[.val (.int p0), .val (.int p1), .val (.int p2), .val (.int p3), .val (.int (p0 &&& (3 : Int32))), .val (.int c173), .val (.int c181), .val (.int c189), .unset, .unset] [(.ref a252)]
        refine dup hG at_78 rfl ?_
        refine iconst hG at_79 (2) rfl ?_
        refine newarray hG at_80 rfl (w7 hw) (by decide) (cap := 2) (by decide) (by decide) (Nat.le_of_ble_eq_true rfl) (Nat.le_of_ble_eq_true rfl) (cnt := 2) (vs := [(.int (0 : Int32)), (.int (0 : Int32))]) rfl (fun h257 a258 kk259 g260 E261 V262 => ?_)
        show G [a258, a252] h257 (2) (6) 82 #[.val (.int p0), .val (.int p1), .val (.int p2), .val (.int p3), .val (.int (p0 &&& (3 : Int32))), .val (.int c173), .val (.int c181), .val (.int c189), .unset, .unset] [(.ref a258), (.ref a252), (.ref a252)]
        refine dup hG at_82 rfl ?_
        refine iconst hG at_83 (0) rfl ?_
        refine iload hG at_84 rfl ?_
        refine castore hG at_86 V262 ⟨by decide, by decide⟩ (i := 0) rfl (Nat.le_of_ble_eq_true rfl) (List.mem_of_getElem? (i := 0) rfl) (fun h263 W264 V265 => ?_)
        rw [nc175] at V265
        have V267 : Arv Z h263 a258 kk259 .char (2 : Int32) [(.int c173), (.int (0 : Int32))] (.int 0) := V265
        refine dup hG at_87 rfl ?_
        refine iconst hG at_88 (1) rfl ?_
        refine iload hG at_89 rfl ?_
        refine castore hG at_91 V267 ⟨by decide, by decide⟩ (i := 1) rfl (Nat.le_of_ble_eq_true rfl) (List.mem_of_getElem? (i := 0) rfl) (fun h268 W269 V270 => ?_)
        rw [nc183] at V270
        have V272 : Arv Z h268 a258 kk259 .char (2 : Int32) [(.int c173), (.int c181)] (.int 0) := V270
        have E273 : Exa Z h268 a252 "java/lang/String" := (((X255.ext E261).wr W264).wr W269)
        have F274 : Fld Z h251 a252 "java/lang/String" "value" "[B" .null := D256 (Or.inr (w20 hw)) pf__B
        have ne275 : a252 ≠ a258 := (Nat.ne_of_lt (Nat.lt_of_lt_of_le X255.lt g260))
        have F276 : Fld Z h268 a252 "java/lang/String" "value" "[B" .null := (((F274.ext E261).other W264 (Or.inl ne275)).other W269 (Or.inl ne275))
        have F277 : Fld Z h251 a252 "java/lang/String" "coder" "B" (.int (0 : Int32)) := D256 (Or.inr (w21 hw)) pf_B
        have F278 : Fld Z h268 a252 "java/lang/String" "coder" "B" (.int (0 : Int32)) := (((F277.ext E261).other W264 (Or.inl ne275)).other W269 (Or.inl ne275))
        refine callInit hG at_92 rfl (w8 hw) (w9 hw) (w6 hw) (w10 hw) (by decide) (m_initC1 hC (a252) (a258) (kk259) ((2 : Int32)) ([c173, c181]) h268 E273 F276 F278 V272 rfl (by first | exact Nat.le_of_ble_eq_true rfl | (simp; done) | (simp; omega)) (forallS hc174 (forallS hc182 (fun _ q => nomatch q))) (by decide)) pd_7 rfl (rest := [(.ref a252)]) rfl rfl (allS (List.mem_of_getElem? (i := 1) rfl) all0) (Nat.le_of_ble_eq_true rfl) (W := 1) (Nat.le_of_ble_eq_true rfl) (Nat.le_of_ble_eq_true rfl) (Nat.le_of_ble_eq_true rfl) (Nat.le_of_ble_eq_true rfl) (fun v279 M280 h281 le282 hq283 => ?_)
        obtain ⟨t284, kt285, rfl, rfl, K286, g287, f288, f289, f290, f291⟩ := hq283
        show G [t284, a258, a252] h281 (3) (38) 95 #[.val (.int p0), .val (.int p1), .val (.int p2), .val (.int p3), .val (.int (p0 &&& (3 : Int32))), .val (.int c173), .val (.int c181), .val (.int c189), .unset, .unset] [(.ref a252)]
        have V292 : Arv Z h281 t284 kt285 .byte (2 : Int32) [(.int (nar .byte c173)), (.int (nar .byte c181))] (.int 0) := f291
        refine astore hG at_95 rfl rfl ?_
        refine goto hG at_97 (by decide) (pc' := 127) rfl ?_
        refine iload hG at_127 rfl ?_
        refine iconst hG at_129 (1) rfl ?_
        refine icmpYes hG at_130 (feq q193).2 (by decide) (pc' := 151) rfl ?_
        refine iconst hG at_151 (0) rfl ?_
        refine istore hG at_152 rfl ?_
        refine aload hG at_154 rfl rfl ?_
        refine callStatic hG at_156 (w26 hw) (w27 hw) (w28 hw) (w29 hw) (by decide) (m_un hC (a252) (t284) (kt285) ((2 : Int32)) ([(nar .byte c173), (nar .byte c181)]) h281 f288 f289 f290 V292 rfl (by first | exact Nat.le_of_ble_eq_true rfl | (simp; done) | (simp; omega))) pd_8 rfl (rest := []) rfl rfl (allS (List.mem_of_getElem? (i := 2) rfl) all0) (Nat.le_of_ble_eq_true rfl) (W := 0) (Nat.le_of_ble_eq_true rfl) (Nat.le_of_ble_eq_true rfl) (Nat.le_of_ble_eq_true rfl) (Nat.le_of_ble_eq_true rfl) (fun v293 M294 h295 le296 hq297 => ?_)
        obtain ⟨r298, rfl, rfl, K299, hr300⟩ := hq297
        show G [t284, a258, a252] h295 (7) (54) 159 #[.val (.int p0), .val (.int p1), .val (.int p2), .val (.int p3), .val (.int (p0 &&& (3 : Int32))), .val (.int c173), .val (.int c181), .val (.int c189), .val (.ref a252), .val (.int (0 : Int32))] [(.int r298)]
        refine iload hG at_159 rfl ?_
        refine icmpNo hG at_161 (teq (own_un0 hr300 (by simp))).2 ?_
        refine iconst hG at_164 (1) rfl ?_
        refine goto hG at_165 (by decide) (pc' := 169) rfl ?_
        have K301 : Keep h h295 [] := (((((((Keep.refl _ _).ext E254).ext E261).wr W264 (Or.inr (Nat.le_trans E254.1 g260))).wr W269 (Or.inr (Nat.le_trans E254.1 g260))).trans K286 (allS (Or.inr g253) all0)).trans K299 all0)
        exact ireturnN hG (by simp) at_169 (M' := []) ⟨rfl, rfl, K301⟩ all0 (Nat.le_of_ble_eq_true rfl) (Nat.le_of_ble_eq_true rfl)
    · skip
      refine new hG at_49 (w4 hw) (w5 hw) (w6 hw) (Nat.le_of_ble_eq_true rfl) (Nat.le_of_ble_eq_true rfl) (fun h302 a303 g304 E305 X306 D307 => ?_)
      show G [a303] h302 (1) (4) 52 #[.val (.int p0), .val (.int p1), .val (.int p2), .val (.int p3), .val (.int (p0 &&& (3 : Int32))), .val (.int c173), .val (.int c181), .val (.int c189), .unset, .unset] [(.ref a303)]
      refine dup hG at_52 rfl ?_
      refine iconst hG at_53 (1) rfl ?_
      refine newarray hG at_54 rfl (w7 hw) (by decide) (cap := 1) (by decide) (by decide) (Nat.le_of_ble_eq_true rfl) (Nat.le_of_ble_eq_true rfl) (cnt := 1) (vs := [(.int (0 : Int32))]) rfl (fun h308 a309 kk310 g311 E312 V313 => ?_)
      show G [a309, a303] h308 (2) (5) 56 #[.val (.int p0), .val (.int p1), .val (.int p2), .val (.int p3), .val (.int (p0 &&& (3 : Int32))), .val (.int c173), .val (.int c181), .val (.int c189), .unset, .unset] [(.ref a309), (.ref a303), (.ref a303)]
      refine dup hG at_56 rfl ?_
      refine iconst hG at_57 (0) rfl ?_
      refine iload hG at_58 rfl ?_
      refine castore hG at_60 V313 ⟨by decide, by decide⟩ (i := 0) rfl (Nat.le_of_ble_eq_true rfl) (List.mem_of_getElem? (i := 0) rfl) (fun h314 W315 V316 => ?_)
      rw [nc175] at V316
      have V318 : Arv Z h314 a309 kk310 .char (1 : Int32) [(.int c173)] (.int 0) := V316
      have E319 : Exa Z h314 a303 "java/lang/String" := ((X306.ext E312).wr W315)
      have F320 : Fld Z h302 a303 "java/lang/String" "value" "[B" .null := D307 (Or.inr (w20 hw)) pf__B
      have ne321 : a303 ≠ a309 := (Nat.ne_of_lt (Nat.lt_of_lt_of_le X306.lt g311))
      have F322 : Fld Z h314 a303 "java/lang/String" "value" "[B" .null := ((F320.ext E312).other W315 (Or.inl ne321))
      have F323 : Fld Z h302 a303 "java/lang/String" "coder" "B" (.int (0 : Int32)) := D307 (Or.inr (w21 hw)) pf_B
      have F324 : Fld Z h314 a303 "java/lang/String" "coder" "B" (.int (0 : Int32)) := ((F323.ext E312).other W315 (Or.inl ne321))
      refine callInit hG at_61 rfl (w8 hw) (w9 hw) (w6 hw) (w10 hw) (by decide) (m_initC1 hC (a303) (a309) (kk310) ((1 : Int32)) ([c173]) h314 E319 F322 F324 V318 rfl (by first | exact Nat.le_of_ble_eq_true rfl | (simp; done) | (simp; omega)) (forallS hc174 (fun _ q => nomatch q)) (by decide)) pd_7 rfl (rest := [(.ref a303)]) rfl rfl (allS (List.mem_of_getElem? (i := 1) rfl) all0) (Nat.le_of_ble_eq_true rfl) (W := 1) (Nat.le_of_ble_eq_true rfl) (Nat.le_of_ble_eq_true rfl) (Nat.le_of_ble_eq_true rfl) (Nat.le_of_ble_eq_true rfl) (fun v325 M326 h327 le328 hq329 => ?_)
      obtain ⟨t330, kt331, rfl, rfl, K332, g333, f334, f335, f336, f337⟩ := hq329
      show G [t330, a309, a303] h327 (3) (37) 64 #[.val (.int p0), .val (.int p1), .val (.int p2), .val (.int p3), .val (.int (p0 &&& (3 : Int32))), .val (.int c173), .val (.int c181), .val (.int c189), .unset, .unset] [(.ref a303)]
      have V338 : Arv Z h327 t330 kt331 .byte (1 : Int32) [(.int (nar .byte c173))] (.int 0) := f337
      refine astore hG at_64 rfl rfl ?_
      refine goto hG at_66 (by decide) (pc' := 127) rfl ?_
      refine iload hG at_127 rfl ?_
      refine iconst hG at_129 (1) rfl ?_
      refine icmpNo hG at_130 (teq q193).2 ?_
      refine iload hG at_133 rfl ?_
      refine bipush hG at_135 (42) rfl ?_
      refine icmp_eq hG at_137 (by decide) (pc' := 147) rfl (fun q339 => ?_) (fun q339 => ?_)
      · skip
        refine iconst hG at_147 (1) rfl ?_
        refine goto hG at_148 (by decide) (pc' := 152) rfl ?_
        refine istore hG at_152 rfl ?_
        refine aload hG at_154 rfl rfl ?_
        refine callStatic hG at_156 (w26 hw) (w27 hw) (w28 hw) (w29 hw) (by decide) (m_un hC (a303) (t330) (kt331) ((1 : Int32)) ([(nar .byte c173)]) h327 f334 f335 f336 V338 rfl (by first | exact Nat.le_of_ble_eq_true rfl | (simp; done) | (simp; omega))) pd_8 rfl (rest := []) rfl rfl (allS (List.mem_of_getElem? (i := 2) rfl) all0) (Nat.le_of_ble_eq_true rfl) (W := 0) (Nat.le_of_ble_eq_true rfl) (Nat.le_of_ble_eq_true rfl) (Nat.le_of_ble_eq_true rfl) (Nat.le_of_ble_eq_true rfl) (fun v340 M341 h342 le343 hq344 => ?_)
        obtain ⟨r345, rfl, rfl, K346, hr347⟩ := hq344
        show G [t330, a309, a303] h342 (7) (53) 159 #[.val (.int p0), .val (.int p1), .val (.int p2), .val (.int p3), .val (.int (p0 &&& (3 : Int32))), .val (.int c173), .val (.int c181), .val (.int c189), .val (.ref a303), .val (.int (1 : Int32))] [(.int r345)]
        refine iload hG at_159 rfl ?_
        refine icmpNo hG at_161 (teq ((own_un1 hc174 hr347).1 (Or.inl q339))).2 ?_
        refine iconst hG at_164 (1) rfl ?_
        refine goto hG at_165 (by decide) (pc' := 169) rfl ?_
        have K348 : Keep h h342 [] := ((((((Keep.refl _ _).ext E305).ext E312).wr W315 (Or.inr (Nat.le_trans E305.1 g311))).trans K332 (allS (Or.inr g304) all0)).trans K346 all0)
        exact ireturnN hG (by simp) at_169 (M' := []) ⟨rfl, rfl, K348⟩ all0 (Nat.le_of_ble_eq_true rfl) (Nat.le_of_ble_eq_true rfl)
      · skip
        refine iload hG at_140 rfl ?_
        refine bipush hG at_142 (63) rfl ?_
        refine icmp_ne hG at_144 (by decide) (pc' := 151) rfl (fun q349 => ?_) (fun q349 => ?_)
        · skip
          refine iconst hG at_151 (0) rfl ?_
          refine istore hG at_152 rfl ?_
          refine aload hG at_154 rfl rfl ?_
          refine callStatic hG at_156 (w26 hw) (w27 hw) (w28 hw) (w29 hw) (by decide) (m_un hC (a303) (t330) (kt331) ((1 : Int32)) ([(nar .byte c173)]) h327 f334 f335 f336 V338 rfl (by first | exact Nat.le_of_ble_eq_true rfl | (simp; done) | (simp; omega))) pd_8 rfl (rest := []) rfl rfl (allS (List.mem_of_getElem? (i := 2) rfl) all0) (Nat.le_of_ble_eq_true rfl) (W := 0) (Nat.le_of_ble_eq_true rfl) (Nat.le_of_ble_eq_true rfl) (Nat.le_of_ble_eq_true rfl) (Nat.le_of_ble_eq_true rfl) (fun v350 M351 h352 le353 hq354 => ?_)
          obtain ⟨r355, rfl, rfl, K356, hr357⟩ := hq354
          show G [t330, a309, a303] h352 (7) (53) 159 #[.val (.int p0), .val (.int p1), .val (.int p2), .val (.int p3), .val (.int (p0 &&& (3 : Int32))), .val (.int c173), .val (.int c181), .val (.int c189), .val (.ref a303), .val (.int (0 : Int32))] [(.int r355)]
          refine iload hG at_159 rfl ?_
          refine icmpNo hG at_161 (teq ((own_un1 hc174 hr357).2 q339 q349)).2 ?_
          refine iconst hG at_164 (1) rfl ?_
          refine goto hG at_165 (by decide) (pc' := 169) rfl ?_
          have K358 : Keep h h352 [] := ((((((Keep.refl _ _).ext E305).ext E312).wr W315 (Or.inr (Nat.le_trans E305.1 g311))).trans K332 (allS (Or.inr g304) all0)).trans K356 all0)
          exact ireturnN hG (by simp) at_169 (M' := []) ⟨rfl, rfl, K358⟩ all0 (Nat.le_of_ble_eq_true rfl) (Nat.le_of_ble_eq_true rfl)
        · skip
          refine iconst hG at_147 (1) rfl ?_
          refine goto hG at_148 (by decide) (pc' := 152) rfl ?_
          refine istore hG at_152 rfl ?_
          refine aload hG at_154 rfl rfl ?_
          refine callStatic hG at_156 (w26 hw) (w27 hw) (w28 hw) (w29 hw) (by decide) (m_un hC (a303) (t330) (kt331) ((1 : Int32)) ([(nar .byte c173)]) h327 f334 f335 f336 V338 rfl (by first | exact Nat.le_of_ble_eq_true rfl | (simp; done) | (simp; omega))) pd_8 rfl (rest := []) rfl rfl (allS (List.mem_of_getElem? (i := 2) rfl) all0) (Nat.le_of_ble_eq_true rfl) (W := 0) (Nat.le_of_ble_eq_true rfl) (Nat.le_of_ble_eq_true rfl) (Nat.le_of_ble_eq_true rfl) (Nat.le_of_ble_eq_true rfl) (fun v359 M360 h361 le362 hq363 => ?_)
          obtain ⟨r364, rfl, rfl, K365, hr366⟩ := hq363
          show G [t330, a309, a303] h361 (7) (53) 159 #[.val (.int p0), .val (.int p1), .val (.int p2), .val (.int p3), .val (.int (p0 &&& (3 : Int32))), .val (.int c173), .val (.int c181), .val (.int c189), .val (.ref a303), .val (.int (1 : Int32))] [(.int r364)]
          refine iload hG at_159 rfl ?_
          refine icmpNo hG at_161 (teq ((own_un1 hc174 hr366).1 (Or.inr q349))).2 ?_
          refine iconst hG at_164 (1) rfl ?_
          refine goto hG at_165 (by decide) (pc' := 169) rfl ?_
          have K367 : Keep h h361 [] := ((((((Keep.refl _ _).ext E305).ext E312).wr W315 (Or.inr (Nat.le_trans E305.1 g311))).trans K332 (allS (Or.inr g304) all0)).trans K365 all0)
          exact ireturnN hG (by simp) at_169 (M' := []) ⟨rfl, rfl, K367⟩ all0 (Nat.le_of_ble_eq_true rfl) (Nat.le_of_ble_eq_true rfl)
  · skip
    refine new hG at_28 (w4 hw) (w5 hw) (w6 hw) (Nat.le_of_ble_eq_true rfl) (Nat.le_of_ble_eq_true rfl) (fun h368 a369 g370 E371 X372 D373 => ?_)
    show G [a369] h368 (1) (4) 31 #[.val (.int p0), .val (.int p1), .val (.int p2), .val (.int p3), .val (.int (p0 &&& (3 : Int32))), .val (.int c173), .val (.int c181), .val (.int c189), .unset, .unset] [(.ref a369)]
    refine dup hG at_31 rfl ?_
    refine iconst hG at_32 (0) rfl ?_
    refine newarray hG at_33 rfl (w7 hw) (by decide) (cap := 0) (by decide) (by decide) (Nat.le_of_ble_eq_true rfl) (Nat.le_of_ble_eq_true rfl) (cnt := 0) (vs := []) rfl (fun h374 a375 kk376 g377 E378 V379 => ?_)
    show G [a375, a369] h374 (2) (4) 35 #[.val (.int p0), .val (.int p1), .val (.int p2), .val (.int p3), .val (.int (p0 &&& (3 : Int32))), .val (.int c173), .val (.int c181), .val (.int c189), .unset, .unset] [(.ref a375), (.ref a369), (.ref a369)]
    have E380 : Exa Z h374 a369 "java/lang/String" := (X372.ext E378)
    have F381 : Fld Z h368 a369 "java/lang/String" "value" "[B" .null := D373 (Or.inr (w20 hw)) pf__B
    have F382 : Fld Z h374 a369 "java/lang/String" "value" "[B" .null := (F381.ext E378)
    have F383 : Fld Z h368 a369 "java/lang/String" "coder" "B" (.int (0 : Int32)) := D373 (Or.inr (w21 hw)) pf_B
    have F384 : Fld Z h374 a369 "java/lang/String" "coder" "B" (.int (0 : Int32)) := (F383.ext E378)
    refine callInit hG at_35 rfl (w8 hw) (w9 hw) (w6 hw) (w10 hw) (by decide) (m_initC0 hC (a369) (a375) (kk376) h374 E380 F382 F384 V379) pd_7 rfl (rest := [(.ref a369)]) rfl rfl (allS (List.mem_of_getElem? (i := 1) rfl) all0) (Nat.le_of_ble_eq_true rfl) (W := 1) (Nat.le_of_ble_eq_true rfl) (Nat.le_of_ble_eq_true rfl) (Nat.le_of_ble_eq_true rfl) (Nat.le_of_ble_eq_true rfl) (fun v385 M386 h387 le388 hq389 => ?_)
    obtain ⟨t390, kt391, rfl, rfl, K392, f393, f394, f395, f396, hat397⟩ := hq389
    show G [a375, a369] h387 (6) (12) 38 #[.val (.int p0), .val (.int p1), .val (.int p2), .val (.int p3), .val (.int (p0 &&& (3 : Int32))), .val (.int c173), .val (.int c181), .val (.int c189), .unset, .unset] [(.ref a369)]
    refine astore hG at_38 rfl rfl ?_
    refine goto hG at_40 (by decide) (pc' := 127) rfl ?_
    refine iload hG at_127 rfl ?_
    refine iconst hG at_129 (1) rfl ?_
    refine icmpYes hG at_130 (feq (by rw [q192]; decide)).2 (by decide) (pc' := 151) rfl ?_
    refine iconst hG at_151 (0) rfl ?_
    refine istore hG at_152 rfl ?_
    refine aload hG at_154 rfl rfl ?_
    refine callStatic hG at_156 (w26 hw) (w27 hw) (w28 hw) (w29 hw) (by decide) (m_un hC (a369) (t390) (kt391) ((0 : Int32)) ([]) h387 f393 f394 f395 f396 rfl (by first | exact Nat.le_of_ble_eq_true rfl | (simp; done) | (simp; omega))) pd_8 rfl (rest := []) rfl rfl (allS (List.mem_of_getElem? (i := 1) rfl) all0) (Nat.le_of_ble_eq_true rfl) (W := 0) (Nat.le_of_ble_eq_true rfl) (Nat.le_of_ble_eq_true rfl) (Nat.le_of_ble_eq_true rfl) (Nat.le_of_ble_eq_true rfl) (fun v398 M399 h400 le401 hq402 => ?_)
    obtain ⟨r403, rfl, rfl, K404, hr405⟩ := hq402
    show G [a375, a369] h400 (10) (28) 159 #[.val (.int p0), .val (.int p1), .val (.int p2), .val (.int p3), .val (.int (p0 &&& (3 : Int32))), .val (.int c173), .val (.int c181), .val (.int c189), .val (.ref a369), .val (.int (0 : Int32))] [(.int r403)]
    refine iload hG at_159 rfl ?_
    refine icmpNo hG at_161 (teq (own_un0 hr405 (by simp))).2 ?_
    refine iconst hG at_164 (1) rfl ?_
    refine goto hG at_165 (by decide) (pc' := 169) rfl ?_
    have K406 : Keep h h400 [] := (((((Keep.refl _ _).ext E371).ext E378).trans K392 (allS (Or.inr g370) all0)).trans K404 all0)
    exact ireturnN hG (by simp) at_169 (M' := []) ⟨rfl, rfl, K406⟩ all0 (Nat.le_of_ble_eq_true rfl) (Nat.le_of_ble_eq_true rfl)
set_option maxRecDepth 65536 in
set_option maxHeartbeats 4000000 in
theorem comes_1 {Post : Tables → Env → Array Value → State → Outcome → State → Prop} (hpost : ∀ tb e args s v u, (limb_1_1.after args s (.returned v) u = true ∧ limb_1_2.after args s (.returned v) u = true ∧ True) → ReturnedEndW s (.returned v) u (Jvm.fieldLocs frame_1_writes args s ++ Jvm.arrayLocs frame_1_arrays args s ++ Jvm.staticLocs frame_1_statics s) 24 3200 → Post tb e args s (.returned v) u) :
    ArmFor flags0 classFile x code maxLocals ret World_1 tables_1 room_1 Calls_1 rest_1 Pre_1 Post := by
  intro l hfl _ _ p e ha hc hk s m args below hf hA hF happ hP
  obtain ⟨hcalls, hrest, hpre⟩ := hP
  obtain ⟨-, -, -, hnamed, -, -, -, hat⟩ := (Spec.applies_iff hf).mp happ
  obtain ⟨hg, hnar⟩ := and_e (Cond.before_iff.mp (show (Jvm.Cond.and given_1 narrow_1).before args s = true from hpre))
  obtain ⟨hcount, hi0⟩ := and_e hg
  obtain ⟨hx0, hi1⟩ := and_e hi0
  obtain ⟨hx1, hi2⟩ := and_e hi1
  obtain ⟨hx2, hi3⟩ := and_e hi2
  have hx3 := hi3
  obtain ⟨w0, w1, w2, w3, rfl⟩ : ∃ w0 w1 w2 w3 : Value, args = #[w0, w1, w2, w3] := by
    have hs : args.size = 4 := by simpa [Cond.value, given_1] using hcount
    obtain ⟨L⟩ := args
    match L, hs with
    | [w0, w1, w2, w3], _ => exact ⟨w0, w1, w2, w3, rfl⟩
  have hw := fun d (hd : d ∈ tables_1) => atoms_spec (ws := Jvm.Cond.code x code maxLocals ret :: tables_1) hat d (List.mem_cons_of_mem _ hd)
  obtain ⟨hsets, hown0⟩ := atoms_of _ (rest_1_c_eq ▸ (show rest_1_c.before _ s = true from hrest))
  have hfit : Fit s := fun {y c} hc i hi => by
    obtain ⟨ha, rfl⟩ := Array.getElem?_eq_some_iff.mp hc
    have q := List.all_eq_true.mp ((Array.all_eq_true_iff_forall_mem.mp hF) _ (Array.getElem_mem ha)) i (List.mem_range.mpr hi)
    simpa [Array.getElem?_eq_getElem hi] using q
  obtain ⟨i0, e0⟩ := is_v hx0
  obtain rfl : w0 = (.int i0) := Option.some.inj e0
  obtain ⟨i1, e1⟩ := is_v hx1
  obtain rfl : w1 = (.int i1) := Option.some.inj e1
  obtain ⟨i2, e2⟩ := is_v hx2
  obtain rfl : w2 = (.int i2) := Option.some.inj e2
  obtain ⟨i3, e3⟩ := is_v hx3
  obtain rfl : w3 = (.int i3) := Option.some.inj e3
  have hcw := hsets _ (List.mem_of_getElem? (i := 2) rfl)
  obtain ⟨g0, eg⟩ := is_v (Cond.before_iff.mp (hsets _ (List.mem_of_getElem? (i := 1) rfl)))
  have hK1 : Sta s s.heap "java/lang/String" "COMPACT_STRINGS" "Z" (.int g0) := Sta.start eg (Or.inl (hsets _ (List.mem_of_getElem? (i := 0) rfl)))
  have hK2 : ¬ g0 = 0 := gotF (Cond.eq_ints eg (Term.int_eval (0))) (not_v (Cond.before_iff.mp hcw))
  have hS : ∀ a ∈ Bundle.stringAtoms, a.before _ s = true := fun d hd => hw d ((by decide +kernel : ∀ d ∈ Bundle.stringAtoms, d ∈ tables_1) d hd)
  have hE : EW s _ EL0 := (EW.cons (w30 hw) (by decide) (EW.cons (w42 hw) (by decide) (EW.cons (w18 hw) (by decide) EW.nil)))
  have hC : Ctx l s _ s.heap.size g0 := ⟨hw, hS, hE, ⟨hK1, hK2⟩, trivial⟩
  have hH : CHv s EL0 s.vm s.heap := CHv.start hE (fun p hp => hcalls.1 p hp) hcw (hS _ (by simp [Bundle.stringAtoms])) (hS _ (by simp [Bundle.stringAtoms, Bundle.sN]))
  obtain ⟨n, o, h1, h2, h3, ⟨v, L, M', rfl, hQ, N, -, -, -, hq⟩⟩ := m_law hC i0 i1 i2 i3 s.heap p e ha hc hk s m _ below hf ((Spec.applies_iff_loose hf).mp happ).1 ⟨rfl, State.Warmed39.refl s, rfl, hH, fun _ q => (nomatch q), Old.start s⟩ trivial
  obtain ⟨rfl, -⟩ := hQ
  refine ⟨n, _, h1, h2, h3, hpost _ _ _ _ _ _ ⟨Cond.after_iff.mpr rfl, Cond.after_iff.mpr (eq_i res_at (Term.int_eval (1)) rfl), trivial⟩ ⟨hq.1, hq.2.1, hq.2.2.1, (hq.2.2.2.sift fun y hy => Or.inr (N y hy)).mono (by decide) (by decide)⟩⟩
theorem main_1_1 : Claimed_1_1 := comes_1 fun _ _ _ _ _ _ h hF => ⟨h.1, hF⟩
theorem main_1_2 : Claimed_1_2 := comes_1 fun _ _ _ _ _ _ h hF => ⟨h.2.1, hF⟩
end Jvm.Pilot.@@N@@
namespace Jvm.Pilot.@@N@@
open Jvm Jvm.ClassFile Sem Op Lib Jvm.Free Jvm.Stand Jvm.Pilot.@@N@@.Jvm.D
/-! MADE BY PROGRAM (witnessworld.py) out of the Statement's table words and the real class files: 21 classes; the members and pool entries that the words name. The judged class is class 1, her method 2. -/
namespace start1
open Jvm.ClassFile
def u (s : String) : CpInfo := .utf8 (stringToUtf16 s)
/-- a pool by its gaps: so many unusable entries, then the entry; so many at the end -/
def gap : Nat → List CpInfo → List CpInfo
  | 0, r => r
  | n + 1, r => .unusable :: gap n r
def poolList (es : List (Nat × CpInfo)) (last : Nat) : List CpInfo := es.foldr (fun e r => gap e.1 (e.2 :: r)) (gap last [])
def pool (es : List (Nat × CpInfo)) (last : Nat) : Array CpInfo := ⟨poolList es last⟩
def fileOf (pool : Array CpInfo) (this : Nat) (attrs : Array Attribute := #[]) (ms : Array MethodInfo := #[]) (fl : Nat := 33) (sup : Nat := 0) (ifs : Array Nat := #[]) (fds : Array FieldInfo := #[]) : ClassFile where
  minorVersion := 0
  majorVersion := 65
  constantPool := pool
  accessFlags := fl
  thisClass := this
  superClass := sup
  interfaces := ifs
  fields := fds
  methods := ms
  attributes := attrs
def plain (name : String) (sup : Option ClassId) : Class where
  name := name
  kind := .ordinary
  loader := none
  accessFlags := 33
  super := sup
  interfaces := #[]
  cf := none
  fields := #[]
  methods := #[]
  instanceTypes := #[]
  staticTypes := #[]
  resolved := #[]
  callSites := []
  init := .initialized
  statics := none
  mirror := none

def pool0 : Array CpInfo := pool [(5, u "<init>"), (0, u "()V"), (1, .class_ 10), (1, u "java/lang/Object")] 113

def k0c0 : Code := { maxStack := 0, maxLocals := 1, code := object_method_1_code, exceptionTable := #[], attributes := #[] }
def k0m0 : Method := { name := "<init>", desc := "()V", sig := { parameters := [], returnType := none }, accessFlags := 1, code := some k0c0 }
/-- java/lang/Object -/
def k0 : Class := { plain "java/lang/Object" none with
  accessFlags := 33
  interfaces := #[]
  cf := some (fileOf pool0 8 #[] #[{ accessFlags := 1, nameIndex := 5, descriptorIndex := 6, attributes := #[] }] 33 0 #[] #[])
  fields := #[]
  methods := #[k0m0]
  instanceTypes := #[]
  staticTypes := #[]
  resolved := Array.replicate 124 none
  statics := none }

def pool1 : Array CpInfo := pool [(2, .class_ 4), (1, u "java/lang/Object"), (0, u "<init>"), (0, u "()V"), (0, .methodref 8 9), (0, .class_ 10), (0, .nameAndType 11 12), (0, u "com/example/claimwheel/claimwheel/engine/CronFieldIsUnrestrictedPinLaw"), (0, u "pick"), (0, u "(I)C"), (0, .class_ 14), (0, u "java/lang/String"), (0, .methodref 13 16), (0, .nameAndType 5 17), (0, u "([C)V"), (0, .methodref 19 20), (0, .class_ 21), (0, .nameAndType 22 23), (0, u "com/example/claimwheel/claimwheel/engine/CronField"), (0, u "isUnrestricted"), (0, u "(Ljava/lang/String;)Z"), (3, u "law"), (0, u "(IIII)Z")] 2

def k1m0 : Method := { name := "<init>", desc := "()V", sig := { parameters := [], returnType := none }, accessFlags := 1, code := none }
def k1c1 : Code := { maxStack := 2, maxLocals := 1, code := method_2_code, exceptionTable := #[], attributes := #[] }
def k1m1 : Method := { name := "pick", desc := "(I)C", sig := { parameters := [.int], returnType := some .char }, accessFlags := 10, code := some k1c1 }
def k1c2 : Code := { maxStack := 6, maxLocals := 10, code := code, exceptionTable := #[], attributes := #[] }
def k1m2 : Method := { name := "law", desc := "(IIII)Z", sig := { parameters := [.int, .int, .int, .int], returnType := some .boolean }, accessFlags := 9, code := some k1c2 }
/-- com/example/claimwheel/claimwheel/engine/CronFieldIsUnrestrictedPinLaw -/
def k1 : Class := { plain "com/example/claimwheel/claimwheel/engine/CronFieldIsUnrestrictedPinLaw" (some 0) with
  accessFlags := 49
  interfaces := #[]
  cf := some (fileOf pool1 8 #[] #[{ accessFlags := 1, nameIndex := 5, descriptorIndex := 6, attributes := #[] }, { accessFlags := 10, nameIndex := 11, descriptorIndex := 12, attributes := #[] }, { accessFlags := 9, nameIndex := 27, descriptorIndex := 28, attributes := #[] }] 49 2 #[] #[])
  fields := #[]
  methods := #[k1m0, k1m1, k1m2]
  instanceTypes := #[]
  staticTypes := #[]
  resolved := Array.replicate 31 none
  statics := none }

def pool2 : Array CpInfo := pool [(1, .class_ 2), (0, u "java/io/Serializable"), (0, .class_ 4), (0, u "java/lang/Object")] 2

/-- java/io/Serializable -/
def k2 : Class := { plain "java/io/Serializable" (some 0) with
  accessFlags := 1537
  interfaces := #[]
  cf := some (fileOf pool2 1 #[] #[] 1537 3 #[] #[])
  fields := #[]
  methods := #[]
  instanceTypes := #[]
  staticTypes := #[]
  resolved := Array.replicate 7 none
  statics := none }

def pool3 : Array CpInfo := pool [(1, .class_ 2), (0, u "java/lang/Comparable"), (0, .class_ 4), (0, u "java/lang/Object")] 7

/-- java/lang/Comparable -/
def k3 : Class := { plain "java/lang/Comparable" (some 0) with
  accessFlags := 1537
  interfaces := #[]
  cf := some (fileOf pool3 1 #[] #[] 1537 3 #[] #[])
  fields := #[]
  methods := #[]
  instanceTypes := #[]
  staticTypes := #[]
  resolved := Array.replicate 12 none
  statics := none }

def pool4 : Array CpInfo := pool [(2, .class_ 4), (1, u "java/lang/CharSequence"), (42, .class_ 48), (0, u "java/lang/CharSequence$1CodePointIterator"), (10, .class_ 60), (0, u "java/lang/CharSequence$1CharIterator"), (5, .class_ 67), (0, u "java/lang/Object")] 63

/-- java/lang/CharSequence -/
def k4 : Class := { plain "java/lang/CharSequence" (some 0) with
  accessFlags := 1537
  interfaces := #[]
  cf := some (fileOf pool4 2 #[.nestMembers #[47, 59]] #[] 1537 66 #[] #[])
  fields := #[]
  methods := #[]
  instanceTypes := #[]
  staticTypes := #[]
  resolved := Array.replicate 131 none
  statics := none }

def pool5 : Array CpInfo := pool [(1, .class_ 2), (0, u "java/lang/constant/Constable"), (0, .class_ 4), (0, u "java/lang/Object")] 6

/-- java/lang/constant/Constable -/
def k5 : Class := { plain "java/lang/constant/Constable" (some 0) with
  accessFlags := 1537
  interfaces := #[]
  cf := some (fileOf pool5 1 #[] #[] 1537 3 #[] #[])
  fields := #[]
  methods := #[]
  instanceTypes := #[]
  staticTypes := #[]
  resolved := Array.replicate 11 none
  statics := none }

def pool6 : Array CpInfo := pool [(1, .class_ 2), (0, u "java/lang/constant/ConstantDesc"), (0, .class_ 4), (0, u "java/lang/Object")] 32

/-- java/lang/constant/ConstantDesc -/
def k6 : Class := { plain "java/lang/constant/ConstantDesc" (some 0) with
  accessFlags := 1537
  interfaces := #[]
  cf := some (fileOf pool6 1 #[] #[] 1537 3 #[] #[])
  fields := #[]
  methods := #[]
  instanceTypes := #[]
  staticTypes := #[]
  resolved := Array.replicate 37 none
  statics := none }

def pool7 : Array CpInfo := pool [(1, .methodref 2 3), (0, .class_ 4), (0, .nameAndType 5 6), (0, u "java/lang/Object"), (0, u "<init>"), (0, u "()V"), (0, .string 8), (0, u ""), (0, .fieldref 10 11), (0, .class_ 12), (0, .nameAndType 13 14), (0, u "java/lang/String"), (0, u "value"), (0, u "[B"), (0, .fieldref 10 16), (0, .nameAndType 17 18), (0, u "coder"), (0, u "B"), (2, u "hash"), (0, u "I"), (2, u "hashIsZero"), (0, u "Z"), (0, .methodref 10 28), (0, .nameAndType 5 29), (0, u "([CIILjava/lang/Void;)V"), (8, .fieldref 10 39), (0, .nameAndType 40 26), (0, u "COMPACT_STRINGS"), (1, .class_ 44), (1, u "java/lang/StringUTF16"), (0, u "compress"), (1, .methodref 42 48), (0, .nameAndType 49 50), (0, u "coderFromArrayLen"), (0, u "([BI)B"), (56, .class_ 109), (1, u "java/lang/StringLatin1"), (67, .methodref 42 178), (0, .nameAndType 45 179), (0, u "([CII)[B"), (361, .methodref 107 542), (0, .nameAndType 543 544), (0, u "equals"), (0, u "([B[B)Z"), (28, u "(Ljava/lang/Object;)Z"), (1, .class_ 576), (0, u "java/lang/CharSequence"), (22, u "CASE_INSENSITIVE_ORDER"), (0, u "Ljava/util/Comparator;"), (409, u "([C)V"), (90, u "serialPersistentFields"), (0, u "[Ljava/io/ObjectStreamField;"), (0, .class_ 1104), (0, u "java/lang/String$CaseInsensitiveComparator"), (1, .class_ 1107), (0, u "java/io/Serializable"), (0, .class_ 1109), (0, u "java/lang/Comparable"), (0, .class_ 1111), (0, u "java/lang/constant/Constable"), (0, .class_ 1113), (0, u "java/lang/constant/ConstantDesc"), (2, u "serialVersionUID"), (0, u "J"), (3, u "REPL"), (0, u "C"), (2, u "LATIN1"), (1, u "UTF16")] 323

def k7m0 : Method := { name := "<init>", desc := "()V", sig := { parameters := [], returnType := none }, accessFlags := 1, code := none }
def k7c1 : Code := { maxStack := 5, maxLocals := 2, code := jdk_42_method_3_code, exceptionTable := #[], attributes := #[] }
def k7m1 : Method := { name := "<init>", desc := "([C)V", sig := { parameters := [(.array .char)], returnType := none }, accessFlags := 1, code := some k7c1 }
def k7c2 : Code := { maxStack := 2, maxLocals := 3, code := jdk_42_method_66_code, exceptionTable := #[], attributes := #[] }
def k7m2 : Method := { name := "equals", desc := "(Ljava/lang/Object;)Z", sig := { parameters := [(.object "java/lang/Object")], returnType := some .boolean }, accessFlags := 1, code := some k7c2 }
def k7c3 : Code := { maxStack := 4, maxLocals := 6, code := jdk_42_method_149_code, exceptionTable := #[], attributes := #[] }
def k7m3 : Method := { name := "<init>", desc := "([CIILjava/lang/Void;)V", sig := { parameters := [(.array .char), .int, .int, (.object "java/lang/Void")], returnType := none }, accessFlags := 2, code := some k7c3 }
/-- java/lang/String -/
def k7 : Class := { plain "java/lang/String" (some 0) with
  accessFlags := 49
  interfaces := #[2, 3, 4, 5, 6]
  cf := some (fileOf pool7 10 #[.nestMembers #[1103]] #[{ accessFlags := 1, nameIndex := 5, descriptorIndex := 6, attributes := #[] }, { accessFlags := 1, nameIndex := 5, descriptorIndex := 1010, attributes := #[] }, { accessFlags := 1, nameIndex := 543, descriptorIndex := 573, attributes := #[] }, { accessFlags := 2, nameIndex := 5, descriptorIndex := 29, attributes := #[] }] 49 2 #[1106, 1108, 575, 1110, 1112] #[{ accessFlags := 18, nameIndex := 13, descriptorIndex := 14, attributes := #[] }, { accessFlags := 18, nameIndex := 17, descriptorIndex := 18, attributes := #[] }, { accessFlags := 2, nameIndex := 21, descriptorIndex := 22, attributes := #[] }, { accessFlags := 2, nameIndex := 25, descriptorIndex := 26, attributes := #[] }, { accessFlags := 26, nameIndex := 1116, descriptorIndex := 1117, attributes := #[] }, { accessFlags := 24, nameIndex := 40, descriptorIndex := 26, attributes := #[] }, { accessFlags := 26, nameIndex := 1101, descriptorIndex := 1102, attributes := #[] }, { accessFlags := 26, nameIndex := 1121, descriptorIndex := 1122, attributes := #[] }, { accessFlags := 25, nameIndex := 599, descriptorIndex := 600, attributes := #[] }, { accessFlags := 24, nameIndex := 1125, descriptorIndex := 18, attributes := #[] }, { accessFlags := 24, nameIndex := 1127, descriptorIndex := 18, attributes := #[] }])
  fields := #[{ name := "value", type := (.array .byte), accessFlags := 18, slot := 0, constantValue := 0 }, { name := "coder", type := .byte, accessFlags := 18, slot := 1, constantValue := 0 }, { name := "hash", type := .int, accessFlags := 2, slot := 2, constantValue := 0 }, { name := "hashIsZero", type := .boolean, accessFlags := 2, slot := 3, constantValue := 0 }, { name := "serialVersionUID", type := .long, accessFlags := 26, slot := 0, constantValue := 0 }, { name := "COMPACT_STRINGS", type := .boolean, accessFlags := 24, slot := 1, constantValue := 0 }, { name := "serialPersistentFields", type := (.array (.object "java/io/ObjectStreamField")), accessFlags := 26, slot := 2, constantValue := 0 }, { name := "REPL", type := .char, accessFlags := 26, slot := 3, constantValue := 0 }, { name := "CASE_INSENSITIVE_ORDER", type := (.object "java/util/Comparator"), accessFlags := 25, slot := 4, constantValue := 0 }, { name := "LATIN1", type := .byte, accessFlags := 24, slot := 5, constantValue := 0 }, { name := "UTF16", type := .byte, accessFlags := 24, slot := 6, constantValue := 0 }]
  methods := #[k7m0, k7m1, k7m2, k7m3]
  instanceTypes := #[(.array .byte), .byte, .int, .boolean]
  staticTypes := #[.long, .boolean, (.array (.object "java/io/ObjectStreamField")), .char, (.object "java/util/Comparator"), .byte, .byte]
  resolved := Array.replicate 1451 none
  statics := some 0 }

def pool8 : Array CpInfo := pool [(2, .class_ 4), (1, u "java/lang/Enum"), (0, u "name"), (0, u "Ljava/lang/String;"), (2, u "ordinal"), (0, u "I"), (1, .class_ 14), (1, u "java/lang/Object"), (4, u "hash"), (86, .class_ 108), (1, u "java/lang/Enum$EnumDesc"), (2, .class_ 112), (0, u "java/lang/constant/Constable"), (0, .class_ 114), (0, u "java/lang/Comparable"), (0, .class_ 116), (0, u "java/io/Serializable")] 87

/-- java/lang/Enum -/
def k8 : Class := { plain "java/lang/Enum" (some 0) with
  accessFlags := 1057
  interfaces := #[5, 3, 2]
  cf := some (fileOf pool8 2 #[.nestMembers #[106]] #[] 1057 12 #[111, 113, 115] #[{ accessFlags := 18, nameIndex := 5, descriptorIndex := 6, attributes := #[] }, { accessFlags := 18, nameIndex := 9, descriptorIndex := 10, attributes := #[] }, { accessFlags := 2, nameIndex := 19, descriptorIndex := 10, attributes := #[] }])
  fields := #[{ name := "name", type := (.object "java/lang/String"), accessFlags := 18, slot := 0, constantValue := 0 }, { name := "ordinal", type := .int, accessFlags := 18, slot := 1, constantValue := 0 }, { name := "hash", type := .int, accessFlags := 2, slot := 2, constantValue := 0 }]
  methods := #[]
  instanceTypes := #[(.object "java/lang/String"), .int, .int]
  staticTypes := #[]
  resolved := Array.replicate 204 none
  statics := none }

def pool9 : Array CpInfo := pool [(1, .class_ 2), (0, u "com/example/claimwheel/claimwheel/engine/CronField"), (2, u "SECOND"), (0, u "Lcom/example/claimwheel/claimwheel/engine/CronField;"), (2, u "MINUTE"), (2, u "HOUR"), (2, u "DAY_OF_MONTH"), (2, u "MONTH"), (2, u "DAY_OF_WEEK"), (2, u "$VALUES"), (0, u "[Lcom/example/claimwheel/claimwheel/engine/CronField;"), (6, .class_ 34), (1, u "java/lang/Enum"), (8, u "label"), (0, u "Ljava/lang/String;"), (2, u "min"), (0, u "I"), (2, u "max"), (0, .string 53), (0, u "*"), (0, .methodref 55 56), (0, .class_ 57), (0, .nameAndType 58 59), (0, u "java/lang/String"), (0, u "equals"), (0, u "(Ljava/lang/Object;)Z"), (0, .string 61), (0, u "?"), (118, u "isUnrestricted"), (0, u "(Ljava/lang/String;)Z")] 44

def k9c0 : Code := { maxStack := 2, maxLocals := 1, code := prog_3_method_4_code, exceptionTable := #[], attributes := #[] }
def k9m0 : Method := { name := "isUnrestricted", desc := "(Ljava/lang/String;)Z", sig := { parameters := [(.object "java/lang/String")], returnType := some .boolean }, accessFlags := 8, code := some k9c0 }
/-- com/example/claimwheel/claimwheel/engine/CronField -/
def k9 : Class := { plain "com/example/claimwheel/claimwheel/engine/CronField" (some 8) with
  accessFlags := 16432
  interfaces := #[]
  cf := some (fileOf pool9 1 #[] #[{ accessFlags := 8, nameIndex := 180, descriptorIndex := 181, attributes := #[] }] 16432 32 #[] #[{ accessFlags := 16409, nameIndex := 5, descriptorIndex := 6, attributes := #[] }, { accessFlags := 16409, nameIndex := 9, descriptorIndex := 6, attributes := #[] }, { accessFlags := 16409, nameIndex := 12, descriptorIndex := 6, attributes := #[] }, { accessFlags := 16409, nameIndex := 15, descriptorIndex := 6, attributes := #[] }, { accessFlags := 16409, nameIndex := 18, descriptorIndex := 6, attributes := #[] }, { accessFlags := 16409, nameIndex := 21, descriptorIndex := 6, attributes := #[] }, { accessFlags := 16, nameIndex := 43, descriptorIndex := 44, attributes := #[] }, { accessFlags := 18, nameIndex := 47, descriptorIndex := 48, attributes := #[] }, { accessFlags := 18, nameIndex := 51, descriptorIndex := 48, attributes := #[] }, { accessFlags := 4122, nameIndex := 24, descriptorIndex := 25, attributes := #[] }])
  fields := #[{ name := "SECOND", type := (.object "com/example/claimwheel/claimwheel/engine/CronField"), accessFlags := 16409, slot := 0, constantValue := 0 }, { name := "MINUTE", type := (.object "com/example/claimwheel/claimwheel/engine/CronField"), accessFlags := 16409, slot := 1, constantValue := 0 }, { name := "HOUR", type := (.object "com/example/claimwheel/claimwheel/engine/CronField"), accessFlags := 16409, slot := 2, constantValue := 0 }, { name := "DAY_OF_MONTH", type := (.object "com/example/claimwheel/claimwheel/engine/CronField"), accessFlags := 16409, slot := 3, constantValue := 0 }, { name := "MONTH", type := (.object "com/example/claimwheel/claimwheel/engine/CronField"), accessFlags := 16409, slot := 4, constantValue := 0 }, { name := "DAY_OF_WEEK", type := (.object "com/example/claimwheel/claimwheel/engine/CronField"), accessFlags := 16409, slot := 5, constantValue := 0 }, { name := "label", type := (.object "java/lang/String"), accessFlags := 16, slot := 3, constantValue := 0 }, { name := "min", type := .int, accessFlags := 18, slot := 4, constantValue := 0 }, { name := "max", type := .int, accessFlags := 18, slot := 5, constantValue := 0 }, { name := "$VALUES", type := (.array (.object "com/example/claimwheel/claimwheel/engine/CronField")), accessFlags := 4122, slot := 6, constantValue := 0 }]
  methods := #[k9m0]
  instanceTypes := #[(.object "java/lang/String"), .int, .int, (.object "java/lang/String"), .int, .int]
  staticTypes := #[(.object "com/example/claimwheel/claimwheel/engine/CronField"), (.object "com/example/claimwheel/claimwheel/engine/CronField"), (.object "com/example/claimwheel/claimwheel/engine/CronField"), (.object "com/example/claimwheel/claimwheel/engine/CronField"), (.object "com/example/claimwheel/claimwheel/engine/CronField"), (.object "com/example/claimwheel/claimwheel/engine/CronField"), (.array (.object "com/example/claimwheel/claimwheel/engine/CronField"))]
  resolved := Array.replicate 226 none
  statics := none }

def pool10 : Array CpInfo := pool [(4, .class_ 6), (1, u "java/lang/Object"), (0, u "<init>"), (0, u "()V"), (5, .class_ 16), (1, u "java/lang/StringLatin1"), (104, u "$assertionsDisabled"), (0, u "Z"), (98, .class_ 223), (1, u "java/lang/StringLatin1$LinesSpliterator"), (57, u "equals"), (0, u "([B[B)Z"), (107, .class_ 391), (0, u "java/lang/StringLatin1$CharsSpliterator")] 3

def k10m0 : Method := { name := "<init>", desc := "()V", sig := { parameters := [], returnType := none }, accessFlags := 0, code := none }
def k10c1 : Code := { maxStack := 3, maxLocals := 3, code := jdk_43_method_13_code, exceptionTable := #[], attributes := #[] }
def k10m1 : Method := { name := "equals", desc := "([B[B)Z", sig := { parameters := [(.array .byte), (.array .byte)], returnType := some .boolean }, accessFlags := 9, code := some k10c1 }
/-- java/lang/StringLatin1 -/
def k10 : Class := { plain "java/lang/StringLatin1" (some 0) with
  accessFlags := 48
  interfaces := #[]
  cf := some (fileOf pool10 14 #[.nestMembers #[390, 221]] #[{ accessFlags := 0, nameIndex := 7, descriptorIndex := 8, attributes := #[] }, { accessFlags := 9, nameIndex := 281, descriptorIndex := 282, attributes := #[] }] 48 4 #[] #[{ accessFlags := 4120, nameIndex := 121, descriptorIndex := 122, attributes := #[] }])
  fields := #[{ name := "$assertionsDisabled", type := .boolean, accessFlags := 4120, slot := 0, constantValue := 0 }]
  methods := #[k10m0, k10m1]
  instanceTypes := #[]
  staticTypes := #[.boolean]
  resolved := Array.replicate 395 none
  statics := none }

def pool11 : Array CpInfo := pool [(6, .class_ 8), (1, u "java/lang/Object"), (0, u "<init>"), (0, u "()V"), (1, .class_ 14), (1, u "java/lang/StringUTF16"), (31, u "$assertionsDisabled"), (0, u "Z"), (13, u "HI_BYTE_SHIFT"), (0, u "I"), (2, u "LO_BYTE_SHIFT"), (49, .methodref 12 116), (0, .nameAndType 117 118), (0, u "compress"), (0, u "([CI[BII)I"), (3, u "([CII)[B"), (138, u "coderFromArrayLen"), (0, u "([BI)B"), (106, .class_ 371), (1, u "java/lang/StringUTF16$LinesSpliterator"), (58, u "MAX_LENGTH"), (196, .class_ 628), (0, u "java/lang/StringUTF16$CodePointsSpliterator"), (0, .class_ 630), (0, u "java/lang/StringUTF16$CharsSpliterator")] 4

def k11m0 : Method := { name := "<init>", desc := "()V", sig := { parameters := [], returnType := none }, accessFlags := 0, code := none }
def k11c1 : Code := { maxStack := 2, maxLocals := 2, code := jdk_52_method_15_code, exceptionTable := #[], attributes := #[] }
def k11m1 : Method := { name := "coderFromArrayLen", desc := "([BI)B", sig := { parameters := [(.array .byte), .int], returnType := some .byte }, accessFlags := 8, code := some k11c1 }
def k11c2 : Code := { maxStack := 5, maxLocals := 6, code := jdk_52_method_16_code, exceptionTable := #[], attributes := #[] }
def k11m2 : Method := { name := "compress", desc := "([CII)[B", sig := { parameters := [(.array .char), .int, .int], returnType := some (.array .byte) }, accessFlags := 9, code := some k11c2 }
def k11c3 : Code := { maxStack := 3, maxLocals := 7, code := jdk_52_method_21_code, exceptionTable := #[], attributes := #[] }
def k11m3 : Method := { name := "compress", desc := "([CI[BII)I", sig := { parameters := [(.array .char), .int, (.array .byte), .int, .int], returnType := some .int }, accessFlags := 9, code := some k11c3 }
/-- java/lang/StringUTF16 -/
def k11 : Class := { plain "java/lang/StringUTF16" (some 0) with
  accessFlags := 48
  interfaces := #[]
  cf := some (fileOf pool11 12 #[.nestMembers #[627, 629, 369]] #[{ accessFlags := 0, nameIndex := 9, descriptorIndex := 10, attributes := #[] }, { accessFlags := 8, nameIndex := 261, descriptorIndex := 262, attributes := #[] }, { accessFlags := 9, nameIndex := 117, descriptorIndex := 122, attributes := #[] }, { accessFlags := 9, nameIndex := 117, descriptorIndex := 118, attributes := #[] }] 48 6 #[] #[{ accessFlags := 26, nameIndex := 61, descriptorIndex := 62, attributes := #[] }, { accessFlags := 26, nameIndex := 65, descriptorIndex := 62, attributes := #[] }, { accessFlags := 24, nameIndex := 430, descriptorIndex := 62, attributes := #[] }, { accessFlags := 4120, nameIndex := 46, descriptorIndex := 47, attributes := #[] }])
  fields := #[{ name := "HI_BYTE_SHIFT", type := .int, accessFlags := 26, slot := 0, constantValue := 0 }, { name := "LO_BYTE_SHIFT", type := .int, accessFlags := 26, slot := 1, constantValue := 0 }, { name := "MAX_LENGTH", type := .int, accessFlags := 24, slot := 2, constantValue := 0 }, { name := "$assertionsDisabled", type := .boolean, accessFlags := 4120, slot := 3, constantValue := 0 }]
  methods := #[k11m0, k11m1, k11m2, k11m3]
  instanceTypes := #[]
  staticTypes := #[.int, .int, .int, .boolean]
  resolved := Array.replicate 635 none
  statics := none }

def pool12 : Array CpInfo := pool [(2, .class_ 4), (1, u "java/lang/Object"), (0, u "<init>"), (0, u "()V"), (17, .class_ 26), (1, u "jdk/internal/util/Preconditions"), (28, .class_ 56), (0, u "jdk/internal/util/Preconditions$4"), (57, .class_ 115), (0, u "jdk/internal/util/Preconditions$1"), (7, u "SIOOBE_FORMATTER"), (0, u "Ljava/util/function/BiFunction;"), (0, .class_ 126), (0, u "jdk/internal/util/Preconditions$2"), (3, u "AIOOBE_FORMATTER"), (0, .class_ 132), (0, u "jdk/internal/util/Preconditions$3"), (3, u "IOOBE_FORMATTER")] 57

def k12m0 : Method := { name := "<init>", desc := "()V", sig := { parameters := [], returnType := none }, accessFlags := 1, code := none }
/-- jdk/internal/util/Preconditions -/
def k12 : Class := { plain "jdk/internal/util/Preconditions" (some 0) with
  accessFlags := 33
  interfaces := #[]
  cf := some (fileOf pool12 24 #[.nestMembers #[55, 131, 125, 114]] #[{ accessFlags := 1, nameIndex := 5, descriptorIndex := 6, attributes := #[] }] 33 2 #[] #[{ accessFlags := 25, nameIndex := 123, descriptorIndex := 124, attributes := #[] }, { accessFlags := 25, nameIndex := 130, descriptorIndex := 124, attributes := #[] }, { accessFlags := 25, nameIndex := 136, descriptorIndex := 124, attributes := #[] }])
  fields := #[{ name := "SIOOBE_FORMATTER", type := (.object "java/util/function/BiFunction"), accessFlags := 25, slot := 0, constantValue := 0 }, { name := "AIOOBE_FORMATTER", type := (.object "java/util/function/BiFunction"), accessFlags := 25, slot := 1, constantValue := 0 }, { name := "IOOBE_FORMATTER", type := (.object "java/util/function/BiFunction"), accessFlags := 25, slot := 2, constantValue := 0 }]
  methods := #[k12m0]
  instanceTypes := #[]
  staticTypes := #[(.object "java/util/function/BiFunction"), (.object "java/util/function/BiFunction"), (.object "java/util/function/BiFunction")]
  resolved := Array.replicate 194 none
  statics := some 1 }

def pool13 : Array CpInfo := pool [(9, u "<init>"), (6, .class_ 18), (1, u "java/lang/Object"), (0, u "()V"), (1, .class_ 23), (1, u "jdk/internal/util/ArraysSupport"), (0, u "LOG2_ARRAY_LONG_INDEX_SCALE"), (0, u "I"), (2, u "U"), (0, u "Ljdk/internal/misc/Unsafe;"), (8, u "BIG_ENDIAN"), (0, u "Z"), (8, u "LOG2_BYTE_BIT_SIZE"), (4, u "LOG2_ARRAY_INT_INDEX_SCALE"), (54, u "JLA"), (0, u "Ljdk/internal/access/JavaLangAccess;"), (11, u "LOG2_ARRAY_BOOLEAN_INDEX_SCALE"), (9, u "LOG2_ARRAY_BYTE_INDEX_SCALE"), (5, u "LOG2_ARRAY_CHAR_INDEX_SCALE"), (5, u "LOG2_ARRAY_SHORT_INDEX_SCALE"), (18, u "LOG2_ARRAY_FLOAT_INDEX_SCALE"), (24, u "LOG2_ARRAY_DOUBLE_INDEX_SCALE"), (89, u "T_BOOLEAN"), (2, u "T_CHAR"), (1, u "T_FLOAT"), (1, u "T_DOUBLE"), (1, u "T_BYTE"), (1, u "T_SHORT"), (1, u "T_INT"), (1, u "T_LONG"), (1, u "SOFT_MAX_ARRAY_LENGTH")] 83

def k13m0 : Method := { name := "<init>", desc := "()V", sig := { parameters := [], returnType := none }, accessFlags := 2, code := none }
/-- jdk/internal/util/ArraysSupport -/
def k13 : Class := { plain "jdk/internal/util/ArraysSupport" (some 0) with
  accessFlags := 33
  interfaces := #[]
  cf := some (fileOf pool13 21 #[] #[{ accessFlags := 2, nameIndex := 9, descriptorIndex := 19, attributes := #[] }] 33 16 #[] #[{ accessFlags := 24, nameIndex := 28, descriptorIndex := 29, attributes := #[] }, { accessFlags := 26, nameIndex := 38, descriptorIndex := 39, attributes := #[] }, { accessFlags := 25, nameIndex := 121, descriptorIndex := 25, attributes := #[] }, { accessFlags := 25, nameIndex := 131, descriptorIndex := 25, attributes := #[] }, { accessFlags := 25, nameIndex := 137, descriptorIndex := 25, attributes := #[] }, { accessFlags := 25, nameIndex := 143, descriptorIndex := 25, attributes := #[] }, { accessFlags := 25, nameIndex := 53, descriptorIndex := 25, attributes := #[] }, { accessFlags := 25, nameIndex := 24, descriptorIndex := 25, attributes := #[] }, { accessFlags := 25, nameIndex := 162, descriptorIndex := 25, attributes := #[] }, { accessFlags := 25, nameIndex := 187, descriptorIndex := 25, attributes := #[] }, { accessFlags := 26, nameIndex := 48, descriptorIndex := 25, attributes := #[] }, { accessFlags := 25, nameIndex := 277, descriptorIndex := 25, attributes := #[] }, { accessFlags := 25, nameIndex := 280, descriptorIndex := 25, attributes := #[] }, { accessFlags := 25, nameIndex := 282, descriptorIndex := 25, attributes := #[] }, { accessFlags := 25, nameIndex := 284, descriptorIndex := 25, attributes := #[] }, { accessFlags := 25, nameIndex := 286, descriptorIndex := 25, attributes := #[] }, { accessFlags := 25, nameIndex := 288, descriptorIndex := 25, attributes := #[] }, { accessFlags := 25, nameIndex := 290, descriptorIndex := 25, attributes := #[] }, { accessFlags := 25, nameIndex := 292, descriptorIndex := 25, attributes := #[] }, { accessFlags := 26, nameIndex := 108, descriptorIndex := 109, attributes := #[] }, { accessFlags := 25, nameIndex := 294, descriptorIndex := 25, attributes := #[] }])
  fields := #[{ name := "U", type := (.object "jdk/internal/misc/Unsafe"), accessFlags := 24, slot := 0, constantValue := 0 }, { name := "BIG_ENDIAN", type := .boolean, accessFlags := 26, slot := 1, constantValue := 0 }, { name := "LOG2_ARRAY_BOOLEAN_INDEX_SCALE", type := .int, accessFlags := 25, slot := 2, constantValue := 0 }, { name := "LOG2_ARRAY_BYTE_INDEX_SCALE", type := .int, accessFlags := 25, slot := 3, constantValue := 0 }, { name := "LOG2_ARRAY_CHAR_INDEX_SCALE", type := .int, accessFlags := 25, slot := 4, constantValue := 0 }, { name := "LOG2_ARRAY_SHORT_INDEX_SCALE", type := .int, accessFlags := 25, slot := 5, constantValue := 0 }, { name := "LOG2_ARRAY_INT_INDEX_SCALE", type := .int, accessFlags := 25, slot := 6, constantValue := 0 }, { name := "LOG2_ARRAY_LONG_INDEX_SCALE", type := .int, accessFlags := 25, slot := 7, constantValue := 0 }, { name := "LOG2_ARRAY_FLOAT_INDEX_SCALE", type := .int, accessFlags := 25, slot := 8, constantValue := 0 }, { name := "LOG2_ARRAY_DOUBLE_INDEX_SCALE", type := .int, accessFlags := 25, slot := 9, constantValue := 0 }, { name := "LOG2_BYTE_BIT_SIZE", type := .int, accessFlags := 26, slot := 10, constantValue := 0 }, { name := "T_BOOLEAN", type := .int, accessFlags := 25, slot := 11, constantValue := 0 }, { name := "T_CHAR", type := .int, accessFlags := 25, slot := 12, constantValue := 0 }, { name := "T_FLOAT", type := .int, accessFlags := 25, slot := 13, constantValue := 0 }, { name := "T_DOUBLE", type := .int, accessFlags := 25, slot := 14, constantValue := 0 }, { name := "T_BYTE", type := .int, accessFlags := 25, slot := 15, constantValue := 0 }, { name := "T_SHORT", type := .int, accessFlags := 25, slot := 16, constantValue := 0 }, { name := "T_INT", type := .int, accessFlags := 25, slot := 17, constantValue := 0 }, { name := "T_LONG", type := .int, accessFlags := 25, slot := 18, constantValue := 0 }, { name := "JLA", type := (.object "jdk/internal/access/JavaLangAccess"), accessFlags := 26, slot := 19, constantValue := 0 }, { name := "SOFT_MAX_ARRAY_LENGTH", type := .int, accessFlags := 25, slot := 20, constantValue := 0 }]
  methods := #[k13m0]
  instanceTypes := #[]
  staticTypes := #[(.object "jdk/internal/misc/Unsafe"), .boolean, .int, .int, .int, .int, .int, .int, .int, .int, .int, .int, .int, .int, .int, .int, .int, .int, .int, (.object "jdk/internal/access/JavaLangAccess"), .int]
  resolved := Array.replicate 378 none
  statics := none }

def pool14 : Array CpInfo := pool [(1, u "java/lang/Cloneable"), (0, .class_ 1), (0, u "java/lang/Object"), (0, .class_ 3)] 3

/-- java/lang/Cloneable -/
def k14 : Class := { plain "java/lang/Cloneable" (some 0) with
  accessFlags := 1537
  interfaces := #[]
  cf := some (fileOf pool14 2 #[] #[] 1537 4 #[] #[])
  fields := #[]
  methods := #[]
  instanceTypes := #[]
  staticTypes := #[]
  resolved := Array.replicate 8 none
  statics := none }

/-- the primitive byte -/
def k15 : Class := { plain "byte" none with kind := .primitive 'B', accessFlags := 0x411 }
/-- [B -/
def k16 : Class := { plain "[B" (some 0) with kind := .array 15 .byte, interfaces := #[14, 2], accessFlags := 1041 }

/-- the primitive char -/
def k17 : Class := { plain "char" none with kind := .primitive 'C', accessFlags := 0x411 }
/-- [C -/
def k18 : Class := { plain "[C" (some 0) with kind := .array 17 .char, interfaces := #[14, 2], accessFlags := 1041 }

/-- the primitive int -/
def k19 : Class := { plain "int" none with kind := .primitive 'I', accessFlags := 0x411 }
/-- [I -/
def k20 : Class := { plain "[I" (some 0) with kind := .array 19 .int, interfaces := #[14, 2], accessFlags := 1041 }

def heap : Heap := #[{ cls := 7, slots := #[.long 0, .int 1, .null, .int 0, .null, .int 0, .int 0], vm := .statics 7 },
  { cls := 12, slots := #[.null, .null, .null], vm := .statics 12 }]
def classes : Array Class := #[k0, k1, k2, k3, k4, k5, k6, k7, k8, k9, k10, k11, k12, k13, k14, k15, k16, k17, k18, k19, k20]
def interned : List (Array UInt16 × Addr) := []
def slotsUsed : Nat := 10
def theMethod : MethodId := ⟨1, 2⟩
def args0 : Array Value := #[.int 1, .int 256, .int 5, .int 7]
def aboutOver (below : List Frame) : State where
  vm := { classes := classes, interned := interned.toArray }
  heap := heap
  slotsUsed := slotsUsed
  threads := #[{ frames := .invoking theMethod args0 :: below }]
def below0 : List Frame := [.native { method := ⟨0, 0⟩, args := #[] }]
def about1 : State := aboutOver below0
def p0 : Program := .bare "" "" ""
def e0 : Env := launch0.env 0 0 0
theorem w_frames : about1.frames = Frame.invoking theMethod args0 :: below0 := rfl
set_option maxRecDepth 65536 in
theorem w_args : argsFit about1.vm theMethod args0 = true := by decide +kernel
set_option maxRecDepth 65536 in
theorem w_heap : heapFits about1 = true := by decide +kernel
set_option maxRecDepth 65536 in
theorem w_runnable : about1.curStatus? = some .runnable := by decide +kernel
set_option maxRecDepth 65536 in
theorem w_alone : about1.alone = true := by decide +kernel
set_option maxRecDepth 65536 in
theorem w_named : about1.methodNamed? x = some theMethod := by decide +kernel
set_option maxRecDepth 65536 in
theorem w_hears : about1.hears theMethod below0 = true := by decide +kernel
set_option maxRecDepth 65536 in
theorem w_ripe : about1.ripe theMethod args0 below0 = true := by decide +kernel
theorem w_running : about1.status = .running := rfl
set_option maxRecDepth 65536 in
theorem w_room : about1.hasRoom e0.platform room_1 = true :=
  launch0.hasRoom_least _ room_1 (by decide +kernel) (by decide +kernel) (by decide +kernel) (by decide +kernel) (by decide +kernel) (by decide +kernel)
theorem allAtoms_all (ts : List Jvm.Cond) (a : Array Jvm.Value) (st : Jvm.State) : (allAtoms ts).before a st = ts.all (fun c => c.before a st) := by
  induction ts with
  | nil => rfl
  | cons c t ih =>
    show (Jvm.Cond.and c (allAtoms t)).before a st = _
    rw [Jvm.Cond.before_and, ih, List.all_cons]
def words1 : List Jvm.Cond := Jvm.Cond.code x code maxLocals ret :: tables_1
/-- a 'code' word, met by the world's own term for the bytes: nothing is compared byte by byte -/
theorem code_word {y : MethodName} {bytes : ByteArray} {mx : Nat} {rt : Option FieldType} {a : Array Value} {s : State} {m : MethodId} {meth : Method} {c : Code} (h1 : s.methodNamed? y = some m) (h2 : s.vm.method? m = some meth) (h3 : meth.code = some c) (h4 : c.code = bytes)
    (h5 : (c.maxLocals == mx && c.exceptionTable.isEmpty && decide (c.maxStack ≤ mostOperands) && decide (meth.sig.returnType = rt) && !meth.locks && decide (parseMethodDescriptor y.desc = some meth.sig)) = true) : (Jvm.Cond.code y bytes mx rt).before a s = true := by
  simp only [Bool.and_eq_true, beq_iff_eq, Bool.not_eq_true', decide_eq_true_eq] at h5
  obtain ⟨⟨⟨⟨⟨g1, g2⟩, g3⟩, g4⟩, g5⟩, g6⟩ := h5
  simp [Cond.before, Cond.holds, Cond.value, h1, h2, h3, h4, g1, g2, g3, g4, g5, g6]
def isCode : Jvm.Cond → Bool
  | .code _ _ _ _ => true
  | _ => false
theorem all_split {L : List Jvm.Cond} {P : Jvm.Cond → Bool} (h1 : L.all (fun c => isCode c || P c) = true) (h2 : ∀ c ∈ L.filter isCode, P c = true) : L.all P = true := by
  refine List.all_eq_true.mpr fun c hc => ?_
  have h := List.all_eq_true.mp h1 c hc
  rcases Bool.eq_false_or_eq_true (isCode c) with hi | hi
  · exact h2 c (List.mem_filter.mpr ⟨hc, hi⟩)
  · simpa [hi] using h
set_option maxRecDepth 65536 in
theorem w_c0 : (Jvm.Cond.code x code maxLocals ret).before args0 about1 = true := code_word (m := ⟨1, 2⟩) (meth := k1m2) (c := k1c2) (by decide +kernel) rfl rfl rfl (by decide +kernel)
set_option maxRecDepth 65536 in
theorem w_c1 : (Jvm.Cond.code ({ cls := "com/example/claimwheel/claimwheel/engine/CronFieldIsUnrestrictedPinLaw", name := "pick", desc := "(I)C" } : Jvm.MethodName) method_2_code (1 : Nat) (Option.some Jvm.ClassFile.FieldType.char)).before args0 about1 = true := code_word (m := ⟨1, 1⟩) (meth := k1m1) (c := k1c1) (by decide +kernel) rfl rfl rfl (by decide +kernel)
set_option maxRecDepth 65536 in
theorem w_c2 : (Jvm.Cond.code ({ cls := "java/lang/String", name := "<init>", desc := "([C)V" } : Jvm.MethodName) jdk_42_method_3_code (2 : Nat) (Option.none : Option Jvm.ClassFile.FieldType)).before args0 about1 = true := code_word (m := ⟨7, 1⟩) (meth := k7m1) (c := k7c1) (by decide +kernel) rfl rfl rfl (by decide +kernel)
set_option maxRecDepth 65536 in
theorem w_c3 : (Jvm.Cond.code ({ cls := "java/lang/String", name := "<init>", desc := "([CIILjava/lang/Void;)V" } : Jvm.MethodName) jdk_42_method_149_code (6 : Nat) (Option.none : Option Jvm.ClassFile.FieldType)).before args0 about1 = true := code_word (m := ⟨7, 3⟩) (meth := k7m3) (c := k7c3) (by decide +kernel) rfl rfl rfl (by decide +kernel)
set_option maxRecDepth 65536 in
theorem w_c4 : (Jvm.Cond.code ({ cls := "java/lang/Object", name := "<init>", desc := "()V" } : Jvm.MethodName) object_method_1_code (1 : Nat) (Option.none : Option Jvm.ClassFile.FieldType)).before args0 about1 = true := code_word (m := ⟨0, 0⟩) (meth := k0m0) (c := k0c0) (by decide +kernel) rfl rfl rfl (by decide +kernel)
set_option maxRecDepth 65536 in
theorem w_c5 : (Jvm.Cond.code ({ cls := "com/example/claimwheel/claimwheel/engine/CronField", name := "isUnrestricted", desc := "(Ljava/lang/String;)Z" } : Jvm.MethodName) prog_3_method_4_code (1 : Nat) (Option.some Jvm.ClassFile.FieldType.boolean)).before args0 about1 = true := code_word (m := ⟨9, 0⟩) (meth := k9m0) (c := k9c0) (by decide +kernel) rfl rfl rfl (by decide +kernel)
set_option maxRecDepth 65536 in
theorem w_c6 : (Jvm.Cond.code ({ cls := "java/lang/String", name := "equals", desc := "(Ljava/lang/Object;)Z" } : Jvm.MethodName) jdk_42_method_66_code (3 : Nat) (Option.some Jvm.ClassFile.FieldType.boolean)).before args0 about1 = true := code_word (m := ⟨7, 2⟩) (meth := k7m2) (c := k7c2) (by decide +kernel) rfl rfl rfl (by decide +kernel)
set_option maxRecDepth 65536 in
theorem w_c7 : (Jvm.Cond.code ({ cls := "java/lang/StringLatin1", name := "equals", desc := "([B[B)Z" } : Jvm.MethodName) jdk_43_method_13_code (3 : Nat) (Option.some Jvm.ClassFile.FieldType.boolean)).before args0 about1 = true := code_word (m := ⟨10, 1⟩) (meth := k10m1) (c := k10c1) (by decide +kernel) rfl rfl rfl (by decide +kernel)
set_option maxRecDepth 65536 in
theorem w_c8 : (Jvm.Cond.code ({ cls := "java/lang/StringUTF16", name := "compress", desc := "([CII)[B" } : Jvm.MethodName) jdk_52_method_16_code (6 : Nat) (Option.some (Jvm.ClassFile.FieldType.array Jvm.ClassFile.FieldType.byte))).before args0 about1 = true := code_word (m := ⟨11, 2⟩) (meth := k11m2) (c := k11c2) (by decide +kernel) rfl rfl rfl (by decide +kernel)
set_option maxRecDepth 65536 in
theorem w_c9 : (Jvm.Cond.code ({ cls := "java/lang/StringUTF16", name := "compress", desc := "([CI[BII)I" } : Jvm.MethodName) jdk_52_method_21_code (7 : Nat) (Option.some Jvm.ClassFile.FieldType.int)).before args0 about1 = true := code_word (m := ⟨11, 3⟩) (meth := k11m3) (c := k11c3) (by decide +kernel) rfl rfl rfl (by decide +kernel)
set_option maxRecDepth 65536 in
theorem w_c10 : (Jvm.Cond.code ({ cls := "java/lang/StringUTF16", name := "coderFromArrayLen", desc := "([BI)B" } : Jvm.MethodName) jdk_52_method_15_code (2 : Nat) (Option.some Jvm.ClassFile.FieldType.byte)).before args0 about1 = true := code_word (m := ⟨11, 1⟩) (meth := k11m1) (c := k11c1) (by decide +kernel) rfl rfl rfl (by decide +kernel)
def codes1 : List Jvm.Cond := [Jvm.Cond.code x code maxLocals ret, Jvm.Cond.code ({ cls := "com/example/claimwheel/claimwheel/engine/CronFieldIsUnrestrictedPinLaw", name := "pick", desc := "(I)C" } : Jvm.MethodName) method_2_code (1 : Nat) (Option.some Jvm.ClassFile.FieldType.char), Jvm.Cond.code ({ cls := "java/lang/String", name := "<init>", desc := "([C)V" } : Jvm.MethodName) jdk_42_method_3_code (2 : Nat) (Option.none : Option Jvm.ClassFile.FieldType), Jvm.Cond.code ({ cls := "java/lang/String", name := "<init>", desc := "([CIILjava/lang/Void;)V" } : Jvm.MethodName) jdk_42_method_149_code (6 : Nat) (Option.none : Option Jvm.ClassFile.FieldType), Jvm.Cond.code ({ cls := "java/lang/Object", name := "<init>", desc := "()V" } : Jvm.MethodName) object_method_1_code (1 : Nat) (Option.none : Option Jvm.ClassFile.FieldType), Jvm.Cond.code ({ cls := "com/example/claimwheel/claimwheel/engine/CronField", name := "isUnrestricted", desc := "(Ljava/lang/String;)Z" } : Jvm.MethodName) prog_3_method_4_code (1 : Nat) (Option.some Jvm.ClassFile.FieldType.boolean), Jvm.Cond.code ({ cls := "java/lang/String", name := "equals", desc := "(Ljava/lang/Object;)Z" } : Jvm.MethodName) jdk_42_method_66_code (3 : Nat) (Option.some Jvm.ClassFile.FieldType.boolean), Jvm.Cond.code ({ cls := "java/lang/StringLatin1", name := "equals", desc := "([B[B)Z" } : Jvm.MethodName) jdk_43_method_13_code (3 : Nat) (Option.some Jvm.ClassFile.FieldType.boolean), Jvm.Cond.code ({ cls := "java/lang/StringUTF16", name := "compress", desc := "([CII)[B" } : Jvm.MethodName) jdk_52_method_16_code (6 : Nat) (Option.some (Jvm.ClassFile.FieldType.array Jvm.ClassFile.FieldType.byte)), Jvm.Cond.code ({ cls := "java/lang/StringUTF16", name := "compress", desc := "([CI[BII)I" } : Jvm.MethodName) jdk_52_method_21_code (7 : Nat) (Option.some Jvm.ClassFile.FieldType.int), Jvm.Cond.code ({ cls := "java/lang/StringUTF16", name := "coderFromArrayLen", desc := "([BI)B" } : Jvm.MethodName) jdk_52_method_15_code (2 : Nat) (Option.some Jvm.ClassFile.FieldType.byte)]
set_option maxRecDepth 65536 in
theorem codes_eq : words1.filter isCode = codes1 := rfl
theorem w_codes : ∀ c ∈ words1.filter isCode, c.before args0 about1 = true := by
  rw [codes_eq]
  intro c hc
  simp only [codes1, List.mem_cons, List.not_mem_nil, or_false] at hc
  rcases hc with rfl | rfl | rfl | rfl | rfl | rfl | rfl | rfl | rfl | rfl | rfl
  · exact w_c0
  · exact w_c1
  · exact w_c2
  · exact w_c3
  · exact w_c4
  · exact w_c5
  · exact w_c6
  · exact w_c7
  · exact w_c8
  · exact w_c9
  · exact w_c10
set_option maxRecDepth 65536 in
theorem w_t1 : (words1.take 24).all (fun c => isCode c || c.before args0 about1) = true := by decide +kernel
set_option maxRecDepth 65536 in
theorem w_t2 : ((words1.drop 24).take 24).all (fun c => isCode c || c.before args0 about1) = true := by decide +kernel
set_option maxRecDepth 65536 in
theorem w_t3 : ((words1.drop 24).drop 24).all (fun c => isCode c || c.before args0 about1) = true := by decide +kernel
theorem w_tables : (allAtoms (Jvm.Cond.code x code maxLocals ret :: tables_1)).before args0 about1 = true := by
  rw [allAtoms_all]
  show words1.all (fun c => c.before args0 about1) = true
  refine all_split ?_ w_codes
  rw [← List.take_append_drop 24 words1, List.all_append, w_t1, ← List.take_append_drop 24 (words1.drop 24), List.all_append, w_t2, w_t3]
  rfl
set_option maxRecDepth 65536 in
theorem w_rest : rest_1_c.before args0 about1 = true := by decide +kernel
set_option maxRecDepth 65536 in
theorem w_case : (Jvm.Cond.and given_1 narrow_1).before args0 about1 = true := by decide +kernel
set_option maxRecDepth 65536 in
theorem w_consts : constsHeld consts_1 about1 := Jvm.Lit.constsHeldB_iff.mp (by decide +kernel)
theorem w_applies : (headSpec (Jvm.Cond.code x code maxLocals ret :: tables_1) room_1).applies x e0.platform about1 = true :=
  (Spec.applies_iff w_frames).mpr ⟨w_running, w_runnable, w_alone, w_named, w_hears, w_ripe, w_room, w_tables⟩
theorem atStart : AtStart classFile x code maxLocals ret World_1 tables_1 room_1 Calls_1 rest_1 Pre_1 launch0 p0 e0 about1 theMethod args0 below0 :=
  ⟨lists_1, trivial, launch0.admits_env _ _ _, launch0.least_env, fairChoices_fair.cas, fairChoices_fair.clock, w_frames, w_args, w_heap, w_applies, ⟨w_consts, trivial⟩, w_rest, w_case⟩
end start1
theorem witness_1 : WitnessClaimed_1 := ⟨start1.p0, start1.e0, start1.about1, start1.theMethod, start1.args0, start1.below0, start1.atStart⟩
end Jvm.Pilot.@@N@@
