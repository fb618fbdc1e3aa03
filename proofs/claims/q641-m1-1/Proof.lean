import JvmDerived
import JvmDerived.Pilot.@@N@@Statement
import JvmDerived.Pilot.@@N@@Code
set_option linter.unusedVariables false
set_option linter.unusedSimpArgs false
namespace Jvm.OwnWp
open Sem ClassFile Op Lib Bundle Jvm.Stand Jvm.Free Jvm.LawKit Jvm.RoadKit
abbrev GoT : Type := List Addr → Heap → Nat → Nat → Nat → Array Slot → List Value → Prop
abbrev QT : Type := Option Value → List Addr → Heap → Prop
abbrev ELT : Type := List (String × Nat)
/-- each address of M is new since the law's start, stands in the heap, and is no String constant's cell -/
def Saf (Z : State) (EL : ELT) (n0 : Nat) (vm : Vm) (h : Heap) (M : List Addr) : Prop := ∀ x ∈ M, n0 ≤ x ∧ x < h.size ∧ Safe Z EL vm h x
/-- where a walk stands: all that isn't the heap is hidden -/
def Inv (p : Program) (l : Launch) (e : Env) (R : Room) (s : State) (m : MethodId) (args : Array Value) (below : List Frame) (meth : Method) (c : Code) (Z : State) (own : String) (EL : ELT) (n0 : Nat) (M : List Addr) (T : State) (h : Heap) (k n : Nat) : Prop :=
  ∃ (vm0 : Vm) (locs : List Loc) (k0 : Nat), Stand p l e R (s.setVm vm0) m args below meth c T locs k n ∧ T.heap = h ∧ s.Since vm0 k0 ∧ k0 ≤ h.size ∧ Z.Warmed39 vm0 ∧ vm0.findClass own = some m.cls ∧ Fr n0 locs ∧ CHr Z EL s.vm s.heap vm0 h ∧ Saf Z EL n0 vm0 h M ∧ Old Z n0 h
/-- what the end of a body is to say -/
def Done (s : State) (Z : State) (EL : ELT) (n0 : Nat) (R : Room) (Q : QT) (o : Outcome) (U : State) : Prop :=
  ∃ (v : Option Value) (L : List Loc) (M' : List Addr), o = .returned v ∧ Q v M' U.heap ∧ Fr n0 L ∧ CHr Z EL s.vm s.heap U.vm U.heap ∧ Saf Z EL n0 U.vm U.heap M' ∧ Old Z n0 U.heap ∧ ReturnedEndW s o U L R.cells R.slots
def Ends (p : Program) (e : Env) (below : List Frame) (P : Outcome → State → Prop) (A : State) : Prop := ∃ s₂ o, Steps p.tables e below A s₂ ∧ s₂.status = .running ∧ Ended s₂ below o ∧ P o s₂
/-- G M h k n pc ls st: from this frame, with this heap, k cells and n slots made so far, the body comes to an end that says Q -/
def IsGo (G : GoT) (l : Launch) (Z : State) (a0 : Array Value) (EL : ELT) (n0 : Nat) (own name : String) (code : ByteArray) (maxL : Nat) (ret : Option FieldType) (R : Room) (Q : QT) : Prop :=
  ∃ (p : Program) (e : Env) (s : State) (m : MethodId) (args : Array Value) (below : List Frame) (meth : Method) (c : Code),
    p.tables.exec = Jvm.exec ∧ c.code = code ∧ c.maxLocals = maxL ∧ meth.name = name ∧ meth.sig.returnType = ret ∧ meth.locks = false ∧ EW Z a0 EL ∧
    G = fun M h k n pc ls st => ∀ T, Inv p l e R s m args below meth c Z own EL n0 M T h k n → Ends p e below (Done s Z EL n0 R Q) (T.setTop (mkF m pc ls st))
/-- a method's contract: called with these arguments at this heap, M being its to write, it returns and says Q -/
def Met (l : Launch) (Z : State) (EL : ELT) (n0 : Nat) (y : MethodName) (bytes : ByteArray) (maxL : Nat) (ret : Option FieldType) (ws : List Jvm.Cond) (rm : Room) (as' : List Value) (M : List Addr) (h : Heap) (Q : QT) : Prop :=
  MetFree l y (head1 (Jvm.Cond.code y bytes maxL ret :: ws) rm) (fun a U => a = as'.toArray ∧ Z.Warmed39 U.vm ∧ U.heap = h ∧ CHv Z EL U.vm h ∧ Saf Z EL n0 U.vm h M ∧ Old Z n0 h) (fun _ _ _ _ _ => True) (fun _ U o U' => Done U Z EL n0 rm Q o U')
variable {G : GoT} {l : Launch} {Z : State} {a0 : Array Value} {EL : ELT} {n0 : Nat} {own name : String} {code : ByteArray} {maxL : Nat} {ret : Option FieldType} {R : Room} {Q : QT}
variable {M M' : List Addr} {h h' : Heap} {k n k' n' pc pc' : Nat} {ls ls' : Array Slot} {st st' rest : List Value}
theorem Saf.chr {vm vm1 : Vm} (S : Saf Z EL n0 vm h M) (A : CHr Z EL vm h vm1 h') : Saf Z EL n0 vm1 h' M := fun x hx => ⟨(S x hx).1, Nat.lt_of_lt_of_le (S x hx).2.1 A.2.1, A.safe (S x hx).2.1 (S x hx).2.2⟩
theorem Saf.sub {vm : Vm} (S : Saf Z EL n0 vm h M) (q : ∀ x ∈ M', x ∈ M) : Saf Z EL n0 vm h M' := fun x hx => S x (q x hx)
theorem Saf.app {vm : Vm} (S : Saf Z EL n0 vm h M) (S' : Saf Z EL n0 vm h M') : Saf Z EL n0 vm h (M ++ M') := fun x hx => (List.mem_append.mp hx).elim (S x) (S' x)
theorem since0 (s : State) (k0 : Nat) : s.Since s.vm k0 := ⟨State.Warmed39.refl s, by
  first
    | exact State.Booked.refl _ _
    | (intro j q h1 h2; exact absurd (Array.getElem?_eq_some_iff.mp h2).1 (Nat.not_lt.mpr h1))
    | (refine ⟨?_, ?_⟩ <;> intro j q h1 h2 <;> exact absurd (Array.getElem?_eq_some_iff.mp h2).1 (Nat.not_lt.mpr h1))⟩
/-- the way in -/
theorem Met.intro {y : MethodName} {bytes : ByteArray} {ws : List Jvm.Cond} {rm : Room} {as' : List Value} (hp : plainFor y = true) (hef : ∀ m, entryFrame m as'.toArray maxL = mkF m 0 ls []) (hEL : EW Z a0 EL)
    (body : ∀ G, IsGo G l Z a0 EL n0 y.cls y.name bytes maxL ret rm Q → G M h 0 0 0 ls []) : Met l Z EL n0 y bytes maxL ret ws rm as' M h Q := by
  refine MetFree.of_bodySF hp hisR ?_
  intro p e s m args below meth c s₁ Bd hml0 hP hK
  obtain ⟨rfl, hZ, hh, hC, hS, hn0⟩ := hP
  have hown : s.vm.findClass y.cls = some m.cls := findClass_of_methodNamed Bd.named
  have hnm := (name_of_methodNamed Bd.named Bd.method).1
  have X0 : Stand p l e rm s m as'.toArray below meth c s₁ [] 0 0 := Stand.of_body Bd
  have e0 : s₁.heap = h := by rw [← hh, Bd.state]; rfl
  have hlk : meth.locks = false := Bd.notSynchronized
  have q := body _ ⟨p, e, s, m, as'.toArray, below, meth, c, Bd.exec, Bd.bytes, hml0, hnm, Bd.returns, hlk, hEL, rfl⟩ s₁ ⟨s.vm, [], h.size, X0, e0, since0 s _, Nat.le_refl _, hZ, hown, Fr.nil n0, by rw [hh]; exact CHr.refl hC, hS, hn0⟩
  obtain ⟨s₂, o, h1, h2, h3, h4⟩ := q
  rw [← hef] at h1
  exact ⟨s₂, o, h1, h2, h3, h4⟩
/-- a step that looks at no heap -/
theorem plain (hG : IsGo G l Z a0 EL n0 own name code maxL ret R Q) (f : ∀ (p : Program) (e : Env) (below : List Frame) (m : MethodId) (c : Code) (T target : State), At T m c below → p.tables.exec = Jvm.exec → c.code = code → Steps p.tables e below (T.setTop (mkF m pc' ls' st')) target → Steps p.tables e below (T.setTop (mkF m pc ls st)) target)
    (k1 : G M h k n pc' ls' st') : G M h k n pc ls st := by
  obtain ⟨p, e, s, m, args, below, meth, c, hx, hc, hml, hnm, hr, hlk, hEL, rfl⟩ := hG
  intro T I
  obtain ⟨s₂, o, h1, h2⟩ := k1 T I
  obtain ⟨vm0, locs, k0, X, -⟩ := I
  exact ⟨s₂, o, f p e below m c T s₂ X.here hx hc h1, h2⟩
/-- a step that leaves the heap as it is -/
theorem stepX (hG : IsGo G l Z a0 EL n0 own name code maxL ret R Q)
    (f : ∀ (p : Program) (e : Env) (s : State) (m : MethodId) (args : Array Value) (below : List Frame) (meth : Method) (c : Code) (T : State) (locs : List Loc), Stand p l e R s m args below meth c T locs k n → p.tables.exec = Jvm.exec → c.code = code → c.maxLocals = maxL → T.heap = h → Z.Warmed39 s.vm → s.vm.findClass own = some m.cls →
      ∃ T', Stand p l e R s m args below meth c T' locs k n ∧ T'.heap = h ∧ ∀ target, Steps p.tables e below (T'.setTop (mkF m pc' ls' st')) target → Steps p.tables e below (T.setTop (mkF m pc ls st)) target)
    (k1 : G M h k n pc' ls' st') : G M h k n pc ls st := by
  obtain ⟨p, e, s, m, args, below, meth, c, hx, hc, hml, hnm, hr, hlk, hEL, rfl⟩ := hG
  intro T I
  obtain ⟨vm0, locs, k0, X, eT, hS, hk, hZ, hown, N, H, S, hn0⟩ := I
  obtain ⟨T', X', e', st⟩ := f p e (s.setVm vm0) m args below meth c T locs X hx hc hml eT hZ hown
  obtain ⟨s₂, o, h1, h2⟩ := k1 T' ⟨vm0, locs, k0, X', e', hS, hk, hZ, hown, N, H, S, hn0⟩
  exact ⟨s₂, o, st _ h1, h2⟩
/-- a step that writes one place of an object that is ours -/
theorem stepW (hG : IsGo G l Z a0 EL n0 own name code maxL ret R Q) {a : Addr} {sl : Nat} {v : Value} (ha : a ∈ M)
    (f : ∀ (p : Program) (e : Env) (s : State) (m : MethodId) (args : Array Value) (below : List Frame) (meth : Method) (c : Code) (T : State) (locs : List Loc), Stand p l e R s m args below meth c T locs k n → p.tables.exec = Jvm.exec → c.code = code → meth.name = name → T.heap = h → Z.Warmed39 s.vm → s.vm.findClass own = some m.cls →
      ∃ T' h', Stand p l e R s m args below meth c T' (locs ++ [⟨a, sl⟩]) k n ∧ T'.heap = h' ∧ Wr h h' a sl v ∧ ∀ target, Steps p.tables e below (T'.setTop (mkF m pc' ls' st')) target → Steps p.tables e below (T.setTop (mkF m pc ls st)) target)
    (k1 : ∀ h', Wr h h' a sl v → G M h' k n pc' ls' st') : G M h k n pc ls st := by
  obtain ⟨p, e, s, m, args, below, meth, c, hx, hc, hml, hnm, hr, hlk, hEL, rfl⟩ := hG
  intro T I
  obtain ⟨vm0, locs, k0, X, eT, hS, hk, hZ, hown, N, H, S, hn0⟩ := I
  obtain ⟨T', h', X', e', W, st⟩ := f p e (s.setVm vm0) m args below meth c T locs X hx hc hnm eT hZ hown
  have A : CHr Z EL vm0 h vm0 h' := CHr.wr W (S a ha).2.2 H.1
  obtain ⟨s₂, o, h1, h2⟩ := k1 h' W T' ⟨vm0, _, k0, X', e', hS, Nat.le_trans hk A.2.1, hZ, hown, Fr.snoc X' N (S a ha).1, H.trans A, S.chr A, hn0.wr W (S a ha).1⟩
  exact ⟨s₂, o, st _ h1, h2⟩
/-- a step that makes one object -/
theorem stepN (hG : IsGo G l Z a0 EL n0 own name code maxL ret R Q) {P : Heap → Addr → Prop} (hP : ∀ h', P h' h.size → h.size < h'.size) {st' : Addr → List Value}
    (f : ∀ (p : Program) (e : Env) (s : State) (m : MethodId) (args : Array Value) (below : List Frame) (meth : Method) (c : Code) (T : State) (locs : List Loc), Stand p l e R s m args below meth c T locs k n → p.tables.exec = Jvm.exec → c.code = code → c.maxLocals = maxL → T.heap = h → Z.Warmed39 s.vm → s.vm.findClass own = some m.cls →
      ∃ T' h', Stand p l e R s m args below meth c T' locs k' n' ∧ T'.heap = h' ∧ Ext h h' ∧ P h' h.size ∧ ∀ target, Steps p.tables e below (T'.setTop (mkF m pc' ls' (st' h.size))) target → Steps p.tables e below (T.setTop (mkF m pc ls st)) target)
    (k1 : ∀ h' a, h.size ≤ a → Ext h h' → P h' a → G (a :: M) h' k' n' pc' ls' (st' a)) : G M h k n pc ls st := by
  obtain ⟨p, e, s, m, args, below, meth, c, hx, hc, hml, hnm, hr, hlk, hEL, rfl⟩ := hG
  intro T I
  obtain ⟨vm0, locs, k0, X, eT, hS, hk, hZ, hown, N, H, S, hn0⟩ := I
  obtain ⟨T', h', X', e', E, hp, st⟩ := f p e (s.setVm vm0) m args below meth c T locs X hx hc hml eT hZ hown
  have A : CHr Z EL vm0 h vm0 h' := CHr.ext E H.1
  obtain ⟨s₂, o, h1, h2⟩ := k1 h' h.size (Nat.le_refl _) E hp T' ⟨vm0, _, k0, X', e', hS, Nat.le_trans hk A.2.1, hZ, hown, N, H.trans A, fun x hx => by
    rcases List.mem_cons.mp hx with rfl | q
    · exact ⟨hn0.1 ▸ hn0.2.1, hP _ hp, Safe.ext E H.1 (Safe.new (Nat.le_refl _))⟩
    · exact S.chr A x q, hn0.ext E⟩
  exact ⟨s₂, o, st _ h1, h2⟩
/-- less is known, more is made -/
theorem weaken (hG : IsGo G l Z a0 EL n0 own name code maxL ret R Q) (hM : ∀ x ∈ M', x ∈ M) (hk : k ≤ k') (hn : n ≤ n') (k1 : G M' h k' n' pc ls st) : G M h k n pc ls st := by
  obtain ⟨p, e, s, m, args, below, meth, c, hx, hc, hml, hnm, hr, hlk, hEL, rfl⟩ := hG
  intro T I
  obtain ⟨vm0, locs, k0, X, eT, hS, hk0, hZ, hown, N, H, S, hn0⟩ := I
  exact k1 T ⟨vm0, locs, k0, X.more hk hn, eT, hS, hk0, hZ, hown, N, H, S.sub hM, hn0⟩
theorem facts (hG : IsGo G l Z a0 EL n0 own name code maxL ret R Q) (k1 : Old Z n0 h → (∀ x ∈ M, n0 ≤ x ∧ x < h.size) → G M h k n pc ls st) : G M h k n pc ls st := by
  obtain ⟨p, e, s, m, args, below, meth, c, hx, hc, hml, hnm, hr, hlk, hEL, rfl⟩ := hG
  intro T I
  obtain ⟨vm0, locs, k0, X, eT, hS, hk0, hZ, hown, N, H, S, hn0⟩ := id I
  exact k1 hn0 (fun x hx => ⟨(S x hx).1, (S x hx).2.1⟩) T I
/-- the way out -/
theorem leaves (hG : IsGo G l Z a0 EL n0 own name code maxL ret R Q) {v : Option Value} (hv : ret = none → v = none) (hq : Q v M' h) (hM : ∀ x ∈ M', x ∈ M) (hk : k ≤ R.cells) (hn : n ≤ R.slots)
    (f : ∀ (p : Program) (e : Env) (s : State) (m : MethodId) (args : Array Value) (below : List Frame) (meth : Method) (c : Code) (T : State) (locs : List Loc) (fs : List Frame), Stand p l e R s m args below meth c T locs k n → p.tables.exec = Jvm.exec → c.code = code → meth.sig.returnType = ret →
      (∀ (f : JFrame) (acts : List Action), f.method = m → f.locked = none → f.entered = [] → (doReturn e (T.setTop f) acts v).1 = T.setFrames fs) → Steps p.tables e below (T.setTop (mkF m pc ls st)) (T.setFrames fs)) : G M h k n pc ls st := by
  obtain ⟨p, e, s, m, args, below, meth, c, hx, hc, hml, hnm, hr, hlk, hEL, rfl⟩ := hG
  intro T I
  obtain ⟨vm0, locs, k0, X, eT, hS, hk0, hZ, hown, N, H, S, hn0⟩ := I
  obtain ⟨fs, h1, h2, h3, h4⟩ := X.leaveW (v := v) hS (by rw [eT]; exact hk0) (fun q => hv (hr ▸ q)) hlk
  have A := CHv.at X hZ hEL H.1
  have eh : (T.setFrames fs).heap = h := eT
  have ev : (T.setFrames fs).vm = T.vm := rfl
  refine ⟨_, _, f p e (s.setVm vm0) m args below meth c T locs fs X hx hc hr h1, h2, h3, v, locs, M', rfl, by rw [eh]; exact hq, N, by rw [eh, ev]; exact H.trans A, by rw [eh, ev]; exact (S.chr A).sub hM, by rw [eh]; exact hn0, h4.1, h4.2.1, h4.2.2.1, h4.2.2.2.mono hk hn⟩
end Jvm.OwnWp
namespace Jvm.OwnWp
open Sem ClassFile Op Lib Bundle Jvm.Stand Jvm.Free Jvm.LawKit Jvm.RoadKit
variable {G : GoT} {l : Launch} {Z : State} {a0 : Array Value} {EL : ELT} {n0 : Nat} {own name : String} {code : ByteArray} {maxL : Nat} {ret : Option FieldType} {R : Room} {Q : QT}
variable {M M' : List Addr} {h h' : Heap} {k n k' n' pc pc' : Nat} {ls ls' : Array Slot} {st st' rest : List Value}
theorem iloadN (hG : IsGo G l Z a0 EL n0 own name code maxL ret R Q) {j : Fin 4} {x : Int32} (hd : decode code pc = .ok (.iload_n j, 1)) (hl : ls[j.val]? = some (.val (.int x))) (k1 : G M h k n (pc + 1) ls (.int x :: st)) : G M h k n pc ls st :=
  plain hG (fun _ _ _ _ _ _ _ A hx hc r => XS.iloadN A hx rfl (hb hc hd) hl r) k1
theorem iload (hG : IsGo G l Z a0 EL n0 own name code maxL ret R Q) {j : Nat} {x : Int32} (hd : decode code pc = .ok (.iload j, 2)) (hl : ls[j]? = some (.val (.int x))) (k1 : G M h k n (pc + 2) ls (.int x :: st)) : G M h k n pc ls st :=
  plain hG (fun _ _ _ _ _ _ _ A hx hc r => XS.iload A hx rfl (hb hc hd) hl r) k1
theorem istoreN (hG : IsGo G l Z a0 EL n0 own name code maxL ret R Q) {j : Fin 4} {x : Int32} (hd : decode code pc = .ok (.istore_n j, 1))  (hl : storeLocals ls j.val (.int x) = some ls') (k1 : G M h k n (pc + 1) ls' st) : G M h k n pc ls (.int x :: st) :=
  plain hG (fun _ _ _ _ _ _ _ A hx hc r => XS.istoreN A hx rfl (hb hc hd) rfl hl r) k1
theorem istore (hG : IsGo G l Z a0 EL n0 own name code maxL ret R Q) {j : Nat} {x : Int32} (hd : decode code pc = .ok (.istore j, 2))  (hl : storeLocals ls j (.int x) = some ls') (k1 : G M h k n (pc + 2) ls' st) : G M h k n pc ls (.int x :: st) :=
  plain hG (fun _ _ _ _ _ _ _ A hx hc r => XS.istore A hx rfl (hb hc hd) rfl hl r) k1
theorem aloadN (hG : IsGo G l Z a0 EL n0 own name code maxL ret R Q) {j : Fin 4} {v : Value} (hd : decode code pc = .ok (.aload_n j, 1)) (hl : ls[j.val]? = some (.val (v))) (hv : v.isRef = true) (k1 : G M h k n (pc + 1) ls (v :: st)) : G M h k n pc ls st :=
  plain hG (fun _ _ _ _ _ _ _ A hx hc r => XS.aloadN A hx rfl (hb hc hd) hl hv r) k1
theorem aload (hG : IsGo G l Z a0 EL n0 own name code maxL ret R Q) {j : Nat} {v : Value} (hd : decode code pc = .ok (.aload j, 2)) (hl : ls[j]? = some (.val (v))) (hv : v.isRef = true) (k1 : G M h k n (pc + 2) ls (v :: st)) : G M h k n pc ls st :=
  plain hG (fun _ _ _ _ _ _ _ A hx hc r => XS.aload A hx rfl (hb hc hd) hl hv r) k1
theorem astoreN (hG : IsGo G l Z a0 EL n0 own name code maxL ret R Q) {j : Fin 4} {v : Value} (hd : decode code pc = .ok (.astore_n j, 1)) (hv : v.isRef = true) (hl : storeLocals ls j.val (v) = some ls') (k1 : G M h k n (pc + 1) ls' st) : G M h k n pc ls (v :: st) :=
  plain hG (fun _ _ _ _ _ _ _ A hx hc r => XS.astoreN A hx rfl (hb hc hd) rfl hv hl r) k1
theorem astore (hG : IsGo G l Z a0 EL n0 own name code maxL ret R Q) {j : Nat} {v : Value} (hd : decode code pc = .ok (.astore j, 2)) (hv : v.isRef = true) (hl : storeLocals ls j (v) = some ls') (k1 : G M h k n (pc + 2) ls' st) : G M h k n pc ls (v :: st) :=
  plain hG (fun _ _ _ _ _ _ _ A hx hc r => XS.astore A hx rfl (hb hc hd) rfl hv hl r) k1
theorem istoreS (hG : IsGo G l Z a0 EL n0 own name code maxL ret R Q) {j : Nat} {x : Int32} {o : Slot} (hd : decode code pc = .ok (.istore j, 2)) (hold : ls[j]? = some o) (ho : One o) (k1 : G M h k n (pc + 2) (ls.setIfInBounds j (.val (.int x))) st) : G M h k n pc ls (.int x :: st) :=
  plain hG (fun _ _ _ _ _ _ _ A hx hc r => XS.istoreS A hx rfl (hb hc hd) rfl hold ho r) k1
theorem istoreSN (hG : IsGo G l Z a0 EL n0 own name code maxL ret R Q) {j : Fin 4} {x : Int32} {o : Slot} (hd : decode code pc = .ok (.istore_n j, 1)) (hold : ls[j.val]? = some o) (ho : One o) (k1 : G M h k n (pc + 1) (ls.setIfInBounds j.val (.val (.int x))) st) : G M h k n pc ls (.int x :: st) :=
  plain hG (fun _ _ _ _ _ _ _ A hx hc r => XS.istoreNS A hx rfl (hb hc hd) rfl hold ho r) k1
theorem astoreS (hG : IsGo G l Z a0 EL n0 own name code maxL ret R Q) {j : Nat} {v : Value} {o : Slot} (hd : decode code pc = .ok (.astore j, 2)) (hv : v.isRef = true) (hc1 : v.category = 1) (hold : ls[j]? = some o) (ho : One o) (k1 : G M h k n (pc + 2) (ls.setIfInBounds j (.val (v))) st) : G M h k n pc ls (v :: st) :=
  plain hG (fun _ _ _ _ _ _ _ A hx hc r => XS.astoreS A hx rfl (hb hc hd) rfl hv hc1 hold ho r) k1
theorem astoreSN (hG : IsGo G l Z a0 EL n0 own name code maxL ret R Q) {j : Fin 4} {v : Value} {o : Slot} (hd : decode code pc = .ok (.astore_n j, 1)) (hv : v.isRef = true) (hc1 : v.category = 1) (hold : ls[j.val]? = some o) (ho : One o) (k1 : G M h k n (pc + 1) (ls.setIfInBounds j.val (.val (v))) st) : G M h k n pc ls (v :: st) :=
  plain hG (fun _ _ _ _ _ _ _ A hx hc r => XT.astoreNS A hx rfl (hb hc hd) rfl hv hc1 hold ho r) k1
theorem iconst (hG : IsGo G l Z a0 EL n0 own name code maxL ret R Q) {i : Int} (hd : decode code pc = .ok (.iconst i, 1)) (x : Int32) (hv : Int32.ofInt i = x) (k1 : G M h k n (pc + 1) ls (.int x :: st)) : G M h k n pc ls st :=
  plain hG (fun _ _ _ _ _ _ _ A hx hc r => XS.iconst A hx rfl (hb hc hd) (by rw [hv]; exact r)) k1
theorem bipush (hG : IsGo G l Z a0 EL n0 own name code maxL ret R Q) {i : Int} (hd : decode code pc = .ok (.bipush i, 2)) (x : Int32) (hv : (Int8.ofInt i).toInt32 = x) (k1 : G M h k n (pc + 2) ls (.int x :: st)) : G M h k n pc ls st :=
  plain hG (fun _ _ _ _ _ _ _ A hx hc r => XS.bipush A hx rfl (hb hc hd) (by rw [hv]; exact r)) k1
theorem sipush (hG : IsGo G l Z a0 EL n0 own name code maxL ret R Q) {i : Int} (hd : decode code pc = .ok (.sipush i, 3)) (x : Int32) (hv : (Int16.ofInt i).toInt32 = x) (k1 : G M h k n (pc + 3) ls (.int x :: st)) : G M h k n pc ls st :=
  plain hG (fun _ _ _ _ _ _ _ A hx hc r => XS.sipush A hx rfl (hb hc hd) (by rw [hv]; exact r)) k1
theorem aconst_null (hG : IsGo G l Z a0 EL n0 own name code maxL ret R Q)  (hd : decode code pc = .ok (.aconst_null, 1)) (k1 : G M h k n (pc + 1) ls (.null :: st)) : G M h k n pc ls st :=
  plain hG (fun _ _ _ _ _ _ _ A hx hc r => XS.aconstNull A hx rfl (hb hc hd) r) k1
theorem iadd (hG : IsGo G l Z a0 EL n0 own name code maxL ret R Q) {x y : Int32} (hd : decode code pc = .ok (.iadd, 1)) (k1 : G M h k n (pc + 1) ls (.int (x + y) :: st)) : G M h k n pc ls (.int y :: .int x :: st) :=
  plain hG (fun _ _ _ _ _ _ _ A hx hc r => XS.iadd A hx rfl (hb hc hd) rfl r) k1
theorem isub (hG : IsGo G l Z a0 EL n0 own name code maxL ret R Q) {x y : Int32} (hd : decode code pc = .ok (.isub, 1)) (k1 : G M h k n (pc + 1) ls (.int (x - y) :: st)) : G M h k n pc ls (.int y :: .int x :: st) :=
  plain hG (fun _ _ _ _ _ _ _ A hx hc r => XS.isub A hx rfl (hb hc hd) rfl r) k1
theorem iand (hG : IsGo G l Z a0 EL n0 own name code maxL ret R Q) {x y : Int32} (hd : decode code pc = .ok (.iand, 1)) (k1 : G M h k n (pc + 1) ls (.int (x &&& y) :: st)) : G M h k n pc ls (.int y :: .int x :: st) :=
  plain hG (fun _ _ _ _ _ _ _ A hx hc r => XS.iand A hx rfl (hb hc hd) rfl r) k1
theorem imul (hG : IsGo G l Z a0 EL n0 own name code maxL ret R Q) {x y : Int32} (hd : decode code pc = .ok (.imul, 1)) (k1 : G M h k n (pc + 1) ls (.int (x * y) :: st)) : G M h k n pc ls (.int y :: .int x :: st) :=
  plain hG (fun _ _ _ _ _ _ _ A hx hc r => XS.imul A hx rfl (hb hc hd) rfl r) k1
theorem ior (hG : IsGo G l Z a0 EL n0 own name code maxL ret R Q) {x y : Int32} (hd : decode code pc = .ok (.ior, 1)) (k1 : G M h k n (pc + 1) ls (.int (x ||| y) :: st)) : G M h k n pc ls (.int y :: .int x :: st) :=
  plain hG (fun _ _ _ _ _ _ _ A hx hc r => XS.ior A hx rfl (hb hc hd) rfl r) k1
theorem ixor (hG : IsGo G l Z a0 EL n0 own name code maxL ret R Q) {x y : Int32} (hd : decode code pc = .ok (.ixor, 1)) (k1 : G M h k n (pc + 1) ls (.int (x ^^^ y) :: st)) : G M h k n pc ls (.int y :: .int x :: st) :=
  plain hG (fun _ _ _ _ _ _ _ A hx hc r => XS.ixor A hx rfl (hb hc hd) rfl r) k1
theorem ishl (hG : IsGo G l Z a0 EL n0 own name code maxL ret R Q) {x y : Int32} (hd : decode code pc = .ok (.ishl, 1)) (k1 : G M h k n (pc + 1) ls (.int (x <<< (y &&& 31)) :: st)) : G M h k n pc ls (.int y :: .int x :: st) :=
  plain hG (fun _ _ _ _ _ _ _ A hx hc r => XS.ishl A hx rfl (hb hc hd) rfl r) k1
theorem ishr (hG : IsGo G l Z a0 EL n0 own name code maxL ret R Q) {x y : Int32} (hd : decode code pc = .ok (.ishr, 1)) (k1 : G M h k n (pc + 1) ls (.int (x >>> (y &&& 31)) :: st)) : G M h k n pc ls (.int y :: .int x :: st) :=
  plain hG (fun _ _ _ _ _ _ _ A hx hc r => XS.ishr A hx rfl (hb hc hd) rfl r) k1
theorem iushr (hG : IsGo G l Z a0 EL n0 own name code maxL ret R Q) {x y : Int32} (hd : decode code pc = .ok (.iushr, 1)) (k1 : G M h k n (pc + 1) ls (.int ((x.toUInt32 >>> (y &&& 31).toUInt32).toInt32) :: st)) : G M h k n pc ls (.int y :: .int x :: st) :=
  plain hG (fun _ _ _ _ _ _ _ A hx hc r => XS.iushr A hx rfl (hb hc hd) rfl r) k1
theorem ineg (hG : IsGo G l Z a0 EL n0 own name code maxL ret R Q) {x : Int32} (hd : decode code pc = .ok (.ineg, 1)) (k1 : G M h k n (pc + 1) ls (.int (-x) :: st)) : G M h k n pc ls (.int x :: st) :=
  plain hG (fun _ _ _ _ _ _ _ A hx hc r => XS.ineg A hx rfl (hb hc hd) rfl r) k1
theorem i2b (hG : IsGo G l Z a0 EL n0 own name code maxL ret R Q) {x : Int32} (hd : decode code pc = .ok (.i2b, 1)) (k1 : G M h k n (pc + 1) ls (.int x.toInt8.toInt32 :: st)) : G M h k n pc ls (.int x :: st) :=
  plain hG (fun _ _ _ _ _ _ _ A hx hc r => XS.i2b A hx rfl (hb hc hd) rfl r) k1
theorem i2c (hG : IsGo G l Z a0 EL n0 own name code maxL ret R Q) {x : Int32} (hd : decode code pc = .ok (.i2c, 1)) (k1 : G M h k n (pc + 1) ls (.int x.toUInt32.toUInt16.toUInt32.toInt32 :: st)) : G M h k n pc ls (.int x :: st) :=
  plain hG (fun _ _ _ _ _ _ _ A hx hc r => XS.i2c A hx rfl (hb hc hd) rfl r) k1
theorem idiv (hG : IsGo G l Z a0 EL n0 own name code maxL ret R Q) {x y : Int32} (hd : decode code pc = .ok (.idiv, 1)) (hy : y ≠ 0) (k1 : G M h k n (pc + 1) ls (.int (x / y) :: st)) : G M h k n pc ls (.int y :: .int x :: st) :=
  plain hG (fun _ _ _ _ _ _ _ A hx hc r => XS.idiv A hx rfl (hb hc hd) rfl hy r) k1
theorem dup (hG : IsGo G l Z a0 EL n0 own name code maxL ret R Q) {v : Value} (hd : decode code pc = .ok (.dup, 1)) (hc1 : v.category = 1) (k1 : G M h k n (pc + 1) ls (v :: v :: st)) : G M h k n pc ls (v :: st) :=
  plain hG (fun _ _ _ _ _ _ _ A hx hc r => XS.dup A hx rfl (hb hc hd) rfl hc1 r) k1
theorem pop (hG : IsGo G l Z a0 EL n0 own name code maxL ret R Q) {v : Value} (hd : decode code pc = .ok (.pop, 1)) (hc1 : v.category = 1) (k1 : G M h k n (pc + 1) ls st) : G M h k n pc ls (v :: st) :=
  plain hG (fun _ _ _ _ _ _ _ A hx hc r => XS.pop A hx rfl (hb hc hd) rfl hc1 r) k1
theorem dup_x1 (hG : IsGo G l Z a0 EL n0 own name code maxL ret R Q) {v w : Value} (hd : decode code pc = .ok (.dup_x1, 1)) (hc1 : v.category = 1) (hc2 : w.category = 1) (k1 : G M h k n (pc + 1) ls (v :: w :: v :: st)) : G M h k n pc ls (v :: w :: st) :=
  plain hG (fun _ _ _ _ _ _ _ A hx hc r => XS.dupX1 A hx rfl (hb hc hd) rfl hc1 hc2 r) k1
theorem iinc (hG : IsGo G l Z a0 EL n0 own name code maxL ret R Q) {j : Nat} {cst : Int} {x : Int32} (hd : decode code pc = .ok (.iinc j cst, 3)) (hl : ls[j]? = some (.val (.int x))) (y : Int32) (hv : x + Int32.ofInt cst = y) (hl' : storeLocals ls j (.int y) = some ls') (k1 : G M h k n (pc + 3) ls' st) : G M h k n pc ls st :=
  plain hG (fun _ _ _ _ _ _ _ A hx hc r => XS.iinc A hx rfl (hb hc hd) hl (by rw [hv]; exact hl') r) k1
theorem goto (hG : IsGo G l Z a0 EL n0 own name code maxL ret R Q) {o : Int} (hd : decode code pc = .ok (.goto o, 3)) (ho : 0 ≤ (pc : Int) + o) (hp : ((pc : Int) + o).toNat = pc') (k1 : G M h k n pc' ls st) : G M h k n pc ls st :=
  plain hG (fun _ _ _ _ _ _ _ A hx hc r => XS.goto A hx rfl rfl (hb hc hd) ho hp r) k1
theorem ifYes (hG : IsGo G l Z a0 EL n0 own name code maxL ret R Q) {o : Int} {cd : ClassFile.Cond} {x : Int32} (hd : decode code pc = .ok (.ifCond cd o, 3)) (hc1 : if_icmp.holds cd x 0 = true) (ho : 0 ≤ (pc : Int) + o) (hp : ((pc : Int) + o).toNat = pc') (k1 : G M h k n pc' ls st) : G M h k n pc ls (.int x :: st) :=
  plain hG (fun _ _ _ _ _ _ _ A hx hc r => XS.ifYes A hx rfl rfl (hb hc hd) rfl (by rw [if0]; exact hc1) ho hp r) k1
theorem ifNo (hG : IsGo G l Z a0 EL n0 own name code maxL ret R Q) {o : Int} {cd : ClassFile.Cond} {x : Int32} (hd : decode code pc = .ok (.ifCond cd o, 3)) (hc1 : if_icmp.holds cd x 0 = false) (k1 : G M h k n (pc + 3) ls st) : G M h k n pc ls (.int x :: st) :=
  plain hG (fun _ _ _ _ _ _ _ A hx hc r => XS.ifNo A hx rfl (hb hc hd) rfl (by rw [if0]; exact hc1) r) k1
theorem icmpYes (hG : IsGo G l Z a0 EL n0 own name code maxL ret R Q) {o : Int} {cd : ClassFile.Cond} {x y : Int32} (hd : decode code pc = .ok (.if_icmp cd o, 3)) (hc1 : if_icmp.holds cd x y = true) (ho : 0 ≤ (pc : Int) + o) (hp : ((pc : Int) + o).toNat = pc') (k1 : G M h k n pc' ls st) : G M h k n pc ls (.int y :: .int x :: st) :=
  plain hG (fun _ _ _ _ _ _ _ A hx hc r => XS.icmpYes A hx rfl rfl (hb hc hd) rfl hc1 ho hp r) k1
theorem icmpNo (hG : IsGo G l Z a0 EL n0 own name code maxL ret R Q) {o : Int} {cd : ClassFile.Cond} {x y : Int32} (hd : decode code pc = .ok (.if_icmp cd o, 3)) (hc1 : if_icmp.holds cd x y = false) (k1 : G M h k n (pc + 3) ls st) : G M h k n pc ls (.int y :: .int x :: st) :=
  plain hG (fun _ _ _ _ _ _ _ A hx hc r => XS.icmpNo A hx rfl (hb hc hd) rfl hc1 r) k1
theorem icmp_eq (hG : IsGo G l Z a0 EL n0 own name code maxL ret R Q) {o : Int} {x y : Int32} (hd : decode code pc = .ok (.if_icmp .eq o, 3)) (ho : 0 ≤ (pc : Int) + o) (hp : ((pc : Int) + o).toNat = pc') (k1 : x = y → G M h k n pc' ls st) (k2 : ¬ (x = y) → G M h k n (pc + 3) ls st) : G M h k n pc ls (.int y :: .int x :: st) := by
  by_cases q : x = y
  · exact icmpYes hG hd (teq q).1 ho hp (k1 q)
  · exact icmpNo hG hd (feq q).1 (k2 q)
theorem if_eq (hG : IsGo G l Z a0 EL n0 own name code maxL ret R Q) {o : Int} {x : Int32} (hd : decode code pc = .ok (.ifCond .eq o, 3)) (ho : 0 ≤ (pc : Int) + o) (hp : ((pc : Int) + o).toNat = pc') (k1 : x = 0 → G M h k n pc' ls st) (k2 : ¬ (x = 0) → G M h k n (pc + 3) ls st) : G M h k n pc ls (.int x :: st) := by
  by_cases q : x = 0
  · exact ifYes hG hd (teq q).1 ho hp (k1 q)
  · exact ifNo hG hd (feq q).1 (k2 q)
theorem icmp_ne (hG : IsGo G l Z a0 EL n0 own name code maxL ret R Q) {o : Int} {x y : Int32} (hd : decode code pc = .ok (.if_icmp .ne o, 3)) (ho : 0 ≤ (pc : Int) + o) (hp : ((pc : Int) + o).toNat = pc') (k1 : ¬ (x = y) → G M h k n pc' ls st) (k2 : x = y → G M h k n (pc + 3) ls st) : G M h k n pc ls (.int y :: .int x :: st) := by
  by_cases q : x = y
  · exact icmpNo hG hd (teq q).2 (k2 q)
  · exact icmpYes hG hd (feq q).2 ho hp (k1 q)
theorem if_ne (hG : IsGo G l Z a0 EL n0 own name code maxL ret R Q) {o : Int} {x : Int32} (hd : decode code pc = .ok (.ifCond .ne o, 3)) (ho : 0 ≤ (pc : Int) + o) (hp : ((pc : Int) + o).toNat = pc') (k1 : ¬ (x = 0) → G M h k n pc' ls st) (k2 : x = 0 → G M h k n (pc + 3) ls st) : G M h k n pc ls (.int x :: st) := by
  by_cases q : x = 0
  · exact ifNo hG hd (teq q).2 (k2 q)
  · exact ifYes hG hd (feq q).2 ho hp (k1 q)
theorem icmp_lt (hG : IsGo G l Z a0 EL n0 own name code maxL ret R Q) {o : Int} {x y : Int32} (hd : decode code pc = .ok (.if_icmp .lt o, 3)) (ho : 0 ≤ (pc : Int) + o) (hp : ((pc : Int) + o).toNat = pc') (k1 : x < y → G M h k n pc' ls st) (k2 : ¬ (x < y) → G M h k n (pc + 3) ls st) : G M h k n pc ls (.int y :: .int x :: st) := by
  by_cases q : x < y
  · exact icmpYes hG hd (tlt q).1 ho hp (k1 q)
  · exact icmpNo hG hd (flt q).1 (k2 q)
theorem if_lt (hG : IsGo G l Z a0 EL n0 own name code maxL ret R Q) {o : Int} {x : Int32} (hd : decode code pc = .ok (.ifCond .lt o, 3)) (ho : 0 ≤ (pc : Int) + o) (hp : ((pc : Int) + o).toNat = pc') (k1 : x < 0 → G M h k n pc' ls st) (k2 : ¬ (x < 0) → G M h k n (pc + 3) ls st) : G M h k n pc ls (.int x :: st) := by
  by_cases q : x < 0
  · exact ifYes hG hd (tlt q).1 ho hp (k1 q)
  · exact ifNo hG hd (flt q).1 (k2 q)
theorem icmp_ge (hG : IsGo G l Z a0 EL n0 own name code maxL ret R Q) {o : Int} {x y : Int32} (hd : decode code pc = .ok (.if_icmp .ge o, 3)) (ho : 0 ≤ (pc : Int) + o) (hp : ((pc : Int) + o).toNat = pc') (k1 : ¬ (x < y) → G M h k n pc' ls st) (k2 : x < y → G M h k n (pc + 3) ls st) : G M h k n pc ls (.int y :: .int x :: st) := by
  by_cases q : x < y
  · exact icmpNo hG hd (tlt q).2.1 (k2 q)
  · exact icmpYes hG hd (flt q).2.1 ho hp (k1 q)
theorem if_ge (hG : IsGo G l Z a0 EL n0 own name code maxL ret R Q) {o : Int} {x : Int32} (hd : decode code pc = .ok (.ifCond .ge o, 3)) (ho : 0 ≤ (pc : Int) + o) (hp : ((pc : Int) + o).toNat = pc') (k1 : ¬ (x < 0) → G M h k n pc' ls st) (k2 : x < 0 → G M h k n (pc + 3) ls st) : G M h k n pc ls (.int x :: st) := by
  by_cases q : x < 0
  · exact ifNo hG hd (tlt q).2.1 (k2 q)
  · exact ifYes hG hd (flt q).2.1 ho hp (k1 q)
theorem icmp_gt (hG : IsGo G l Z a0 EL n0 own name code maxL ret R Q) {o : Int} {x y : Int32} (hd : decode code pc = .ok (.if_icmp .gt o, 3)) (ho : 0 ≤ (pc : Int) + o) (hp : ((pc : Int) + o).toNat = pc') (k1 : y < x → G M h k n pc' ls st) (k2 : ¬ (y < x) → G M h k n (pc + 3) ls st) : G M h k n pc ls (.int y :: .int x :: st) := by
  by_cases q : y < x
  · exact icmpYes hG hd (tlt q).2.2.1 ho hp (k1 q)
  · exact icmpNo hG hd (flt q).2.2.1 (k2 q)
theorem if_gt (hG : IsGo G l Z a0 EL n0 own name code maxL ret R Q) {o : Int} {x : Int32} (hd : decode code pc = .ok (.ifCond .gt o, 3)) (ho : 0 ≤ (pc : Int) + o) (hp : ((pc : Int) + o).toNat = pc') (k1 : 0 < x → G M h k n pc' ls st) (k2 : ¬ (0 < x) → G M h k n (pc + 3) ls st) : G M h k n pc ls (.int x :: st) := by
  by_cases q : 0 < x
  · exact ifYes hG hd (tlt q).2.2.1 ho hp (k1 q)
  · exact ifNo hG hd (flt q).2.2.1 (k2 q)
theorem icmp_le (hG : IsGo G l Z a0 EL n0 own name code maxL ret R Q) {o : Int} {x y : Int32} (hd : decode code pc = .ok (.if_icmp .le o, 3)) (ho : 0 ≤ (pc : Int) + o) (hp : ((pc : Int) + o).toNat = pc') (k1 : ¬ (y < x) → G M h k n pc' ls st) (k2 : y < x → G M h k n (pc + 3) ls st) : G M h k n pc ls (.int y :: .int x :: st) := by
  by_cases q : y < x
  · exact icmpNo hG hd (tlt q).2.2.2 (k2 q)
  · exact icmpYes hG hd (flt q).2.2.2 ho hp (k1 q)
theorem if_le (hG : IsGo G l Z a0 EL n0 own name code maxL ret R Q) {o : Int} {x : Int32} (hd : decode code pc = .ok (.ifCond .le o, 3)) (ho : 0 ≤ (pc : Int) + o) (hp : ((pc : Int) + o).toNat = pc') (k1 : ¬ (0 < x) → G M h k n pc' ls st) (k2 : 0 < x → G M h k n (pc + 3) ls st) : G M h k n pc ls (.int x :: st) := by
  by_cases q : 0 < x
  · exact ifNo hG hd (tlt q).2.2.2 (k2 q)
  · exact ifYes hG hd (flt q).2.2.2 ho hp (k1 q)
theorem ifnullYes (hG : IsGo G l Z a0 EL n0 own name code maxL ret R Q) {o : Int} (hd : decode code pc = .ok (.ifnull o, 3)) (ho : 0 ≤ (pc : Int) + o) (hp : ((pc : Int) + o).toNat = pc') (k1 : G M h k n pc' ls st) : G M h k n pc ls (.null :: st) :=
  plain hG (fun _ _ _ _ _ _ _ A hx hc r => XS.ifnullYes A hx rfl rfl (hb hc hd) rfl ho hp r) k1
theorem ifnullNo (hG : IsGo G l Z a0 EL n0 own name code maxL ret R Q) {o : Int} {a : Addr} (hd : decode code pc = .ok (.ifnull o, 3)) (k1 : G M h k n (pc + 3) ls st) : G M h k n pc ls (.ref a :: st) :=
  plain hG (fun _ _ _ _ _ _ _ A hx hc r => XS.ifnullNo A hx rfl (hb hc hd) rfl r) k1
theorem ifnonnullYes (hG : IsGo G l Z a0 EL n0 own name code maxL ret R Q) {o : Int} {a : Addr} (hd : decode code pc = .ok (.ifnonnull o, 3)) (ho : 0 ≤ (pc : Int) + o) (hp : ((pc : Int) + o).toNat = pc') (k1 : G M h k n pc' ls st) : G M h k n pc ls (.ref a :: st) :=
  plain hG (fun _ _ _ _ _ _ _ A hx hc r => XS.ifnonnullYes A hx rfl rfl (hb hc hd) rfl ho hp r) k1
theorem ifnonnullNo (hG : IsGo G l Z a0 EL n0 own name code maxL ret R Q) {o : Int} (hd : decode code pc = .ok (.ifnonnull o, 3)) (k1 : G M h k n (pc + 3) ls st) : G M h k n pc ls (.null :: st) :=
  plain hG (fun _ _ _ _ _ _ _ A hx hc r => XS.ifnonnullNo A hx rfl (hb hc hd) rfl r) k1
theorem acmp_ne (hG : IsGo G l Z a0 EL n0 own name code maxL ret R Q) {o : Int} {x y : Value} (hd : decode code pc = .ok (.if_acmp .ne o, 3)) (hx1 : x.isRef = true) (hy1 : y.isRef = true) (ho : 0 ≤ (pc : Int) + o) (hp : ((pc : Int) + o).toNat = pc') (k1 : ¬ x = y → G M h k n pc' ls st) (k2 : x = y → G M h k n (pc + 3) ls st) : G M h k n pc ls (y :: x :: st) := by
  by_cases q : x = y
  · exact plain hG (fun _ _ _ _ _ _ _ A hx hc r => XT.acmpNo A hx rfl (hb hc hd) rfl hx1 hy1 (by simp [XT.acmp, q]) r) (k2 q)
  · exact plain hG (fun _ _ _ _ _ _ _ A hx hc r => XT.acmpYes A hx rfl rfl (hb hc hd) rfl hx1 hy1 (by simp [XT.acmp, q]) ho hp r) (k1 q)
theorem acmp_eq (hG : IsGo G l Z a0 EL n0 own name code maxL ret R Q) {o : Int} {x y : Value} (hd : decode code pc = .ok (.if_acmp .eq o, 3)) (hx1 : x.isRef = true) (hy1 : y.isRef = true) (ho : 0 ≤ (pc : Int) + o) (hp : ((pc : Int) + o).toNat = pc') (k1 : x = y → G M h k n pc' ls st) (k2 : ¬ x = y → G M h k n (pc + 3) ls st) : G M h k n pc ls (y :: x :: st) := by
  by_cases q : x = y
  · exact plain hG (fun _ _ _ _ _ _ _ A hx hc r => XT.acmpYes A hx rfl rfl (hb hc hd) rfl hx1 hy1 (by simp [XT.acmp, q]) ho hp r) (k1 q)
  · exact plain hG (fun _ _ _ _ _ _ _ A hx hc r => XT.acmpNo A hx rfl (hb hc hd) rfl hx1 hy1 (by simp [XT.acmp, q]) r) (k2 q)
theorem irem (hG : IsGo G l Z a0 EL n0 own name code maxL ret R Q) {x y : Int32} (hd : decode code pc = .ok (.irem, 1)) (hy : y ≠ 0) (k1 : G M h k n (pc + 1) ls (.int (x % y) :: st)) : G M h k n pc ls (.int y :: .int x :: st) :=
  stepX hG (fun _ _ _ _ _ _ _ _ T _ X hx hc _ eT _ _ => ⟨T, X, eT, fun _ r => iremM X hx (g := mkF _ pc ls _) rfl (hb hc hd) rfl hy r⟩) k1
theorem getfield (hG : IsGo G l Z a0 EL n0 own name code maxL ret R Q) {R0 O nm d : String} {index : Nat} (hd : decode code pc = .ok (.getfield index, 3)) (w : (Cond.fieldLink own index R0 nm d).before a0 Z = true) (via : Via Z R0 O nm d) {a : Addr} {v : Value} (F : Fld Z h a O nm d v) (k1 : G M h k n (pc + 3) ls (v :: st)) : G M h k n pc ls (.ref a :: st) :=
  stepX hG (fun _ _ _ m _ _ _ _ _ _ X hx hc _ eT hZ hown => getF X hx hZ hown (host := "") (Or.inl w) via eT F (g := mkF m pc ls (.ref a :: st)) rfl rfl (hb hc hd)) k1
theorem getfieldN (hG : IsGo G l Z a0 EL n0 own name code maxL ret R Q) {R0 O nm d host : String} {index : Nat} (hd : decode code pc = .ok (.getfield index, 3)) (w : (Cond.fieldLinkNest own index R0 nm d host).before a0 Z = true) (via : Via Z R0 O nm d) {a : Addr} {v : Value} (F : Fld Z h a O nm d v) (k1 : G M h k n (pc + 3) ls (v :: st)) : G M h k n pc ls (.ref a :: st) :=
  stepX hG (fun _ _ _ m _ _ _ _ _ _ X hx hc _ eT hZ hown => getF X hx hZ hown (Or.inr w) via eT F (g := mkF m pc ls (.ref a :: st)) rfl rfl (hb hc hd)) k1
theorem getstatic (hG : IsGo G l Z a0 EL n0 own name code maxL ret R Q) {R0 O nm d : String} {index : Nat} (hd : decode code pc = .ok (.getstatic index, 3)) (w : (Cond.fieldLink own index R0 nm d).before a0 Z = true) (via : Via Z R0 O nm d) {v : Value} (F : Sta Z Z.heap O nm d v) (k1 : G M h k n (pc + 3) ls (v :: st)) : G M h k n pc ls st :=
  facts hG fun O9 _ => stepX hG (fun _ _ _ m _ _ _ _ _ _ X hx hc _ eT hZ hown => getS (host := "") X hx hZ hown w via eT (F.ext O9.2) (g := mkF m pc ls st) rfl (hb hc hd)) k1
theorem getstaticN (hG : IsGo G l Z a0 EL n0 own name code maxL ret R Q) {R0 O nm d host : String} {index : Nat} (hd : decode code pc = .ok (.getstatic index, 3)) (w : (Cond.fieldLinkNest own index R0 nm d host).before a0 Z = true) (via : Via Z R0 O nm d) {v : Value} (F : Sta Z Z.heap O nm d v) (k1 : G M h k n (pc + 3) ls (v :: st)) : G M h k n pc ls st :=
  facts hG fun O9 _ => stepX hG (fun _ _ _ m _ _ _ _ _ _ X hx hc _ eT hZ hown => getS2 X hx hZ hown (Or.inr w) via eT (F.ext O9.2) (g := mkF m pc ls st) rfl (hb hc hd)) k1
theorem checkcast (hG : IsGo G l Z a0 EL n0 own name code maxL ret R Q) {K : String} {index : Nat} (hd : decode code pc = .ok (.checkcast index, 3)) (w : (Cond.classLink own index K).before a0 Z = true) {a : Addr} (F : Ins Z h a K true) (k1 : G M h k n (pc + 3) ls (.ref a :: st)) : G M h k n pc ls (.ref a :: st) :=
  stepX hG (fun _ _ _ m _ _ _ _ _ _ X hx hc _ eT hZ hown => castY X hx hZ hown w eT F (g := mkF m pc ls (.ref a :: st)) rfl rfl (hb hc hd)) k1
theorem instYes (hG : IsGo G l Z a0 EL n0 own name code maxL ret R Q) {K : String} {index : Nat} (hd : decode code pc = .ok (.instanceof index, 3)) (w : (Cond.classLink own index K).before a0 Z = true) {a : Addr} (F : Ins Z h a K true) (k1 : G M h k n (pc + 3) ls (.int 1 :: st)) : G M h k n pc ls (.ref a :: st) :=
  stepX hG (fun _ _ _ m _ _ _ _ _ _ X hx hc _ eT hZ hown => instY X hx hZ hown w eT F (g := mkF m pc ls (.ref a :: st)) rfl rfl (hb hc hd)) k1
theorem instNot (hG : IsGo G l Z a0 EL n0 own name code maxL ret R Q) {K C : String} {index : Nat} (hd : decode code pc = .ok (.instanceof index, 3)) (w : (Cond.classLink own index K).before a0 Z = true) {a : Addr} (E : Exa Z h a C) (F : ∃ c t, Z.vm.findClass C = some c ∧ Z.vm.findClass K = some t ∧ Z.vm.assignable c t = false) (k1 : G M h k n (pc + 3) ls (.int 0 :: st)) : G M h k n pc ls (.ref a :: st) :=
  stepX hG (fun _ _ _ m _ _ _ _ _ _ X hx hc _ eT hZ hown => instNo X hx hZ hown w eT E F (g := mkF m pc ls (.ref a :: st)) rfl rfl (hb hc hd)) k1
theorem objInit (hG : IsGo G l Z a0 EL n0 own name code maxL ret R Q) {index W : Nat} (hd : decode code pc = .ok (.invokespecial index, 3)) (w1 : (Cond.methodLink own index Lib.objectInit).before a0 Z = true) (w2 : (Cond.instanceMethod Lib.objectInit).before a0 Z = true) (w3 : (Cond.code Lib.objectInit ⟨#[0xb1]⟩ 1 none).before a0 Z = true) (hls : ls.size = maxL) (hf : 1 ≤ R.frames) {a : Addr} (hW : (st.map fun v => v.category).sum ≤ W) (hl : W + 12 ≤ R.locals) (k1 : G M h k n (pc + 3) ls st) : G M h k n pc ls (.ref a :: st) :=
  stepX hG (fun _ _ _ m _ _ _ _ _ _ X hx hc hml eT hZ hown => initO X hx hZ hown w1 w2 w3 eT (g := mkF m pc ls (.ref a :: st)) rfl (by rw [hml]; exact hls) rfl (hb hc hd) hf (W := W) (by show 2 * 0 + _ ≤ _; omega) hl) k1
theorem alen (hG : IsGo G l Z a0 EL n0 own name code maxL ret R Q) (hd : decode code pc = .ok (.arraylength, 1)) {a : Addr} {kk : ClassId} {ty : FieldType} {N : Int32} {vs : List Value} {d : Value} (V : Arv Z h a kk ty N vs d) (k1 : G M h k n (pc + 1) ls (.int N :: st)) : G M h k n pc ls (.ref a :: st) :=
  stepX hG (fun _ _ _ m _ _ _ _ T _ X hx hc _ eT hZ _ => ⟨T, X, eT, fun t r => by
    obtain ⟨cl, A, -, S, hN, -⟩ := V
    refine X.arraylength hx (by rw [eT]; exact A.1) (State.isArrayOf_alike hZ.alike A.2.1) (g := mkF m pc ls (.ref a :: st)) rfl rfl (hb hc hd) t ?_
    rw [len_of S hN]; exact r⟩) k1
theorem caload (hG : IsGo G l Z a0 EL n0 own name code maxL ret R Q) (hd : decode code pc = .ok (.caload, 1)) {a : Addr} {kk : ClassId} {N j : Int32} {vs : List Value} {d v : Value} (V : Arv Z h a kk .char N vs d) (hj : ¬ j < 0 ∧ j < N) (hv : vs.getD j.toNatClampNeg d = v) (k1 : G M h k n (pc + 1) ls (v :: st)) : G M h k n pc ls (.int j :: .ref a :: st) :=
  stepX hG (fun _ _ _ m _ _ _ _ T _ X hx hc _ eT hZ _ => ⟨T, X, eT, fun t r => by
    obtain ⟨cl, A, -, S, hN, H, -⟩ := V
    exact X.caload hx (by rw [eT]; exact A.1) (State.isArrayOf_alike hZ.alike A.2.1) A.2.2 (inb_of S hj) (Has.at H (inb_of S hj) hv) (g := mkF m pc ls (.int j :: .ref a :: st)) rfl rfl (hb hc hd) t r⟩) k1
theorem baload (hG : IsGo G l Z a0 EL n0 own name code maxL ret R Q) (hd : decode code pc = .ok (.baload, 1)) {a : Addr} {kk : ClassId} {N j : Int32} {vs : List Value} {d v : Value} (V : Arv Z h a kk .byte N vs d) (hj : ¬ j < 0 ∧ j < N) (hv : vs.getD j.toNatClampNeg d = v) (k1 : G M h k n (pc + 1) ls (v :: st)) : G M h k n pc ls (.int j :: .ref a :: st) :=
  stepX hG (fun _ _ _ m _ _ _ _ T _ X hx hc _ eT hZ _ => ⟨T, X, eT, fun t r => by
    obtain ⟨cl, A, -, S, hN, H, -⟩ := V
    exact X.baloadBytes hx (by rw [eT]; exact A.1) (State.isArrayOf_alike hZ.alike A.2.1) A.2.2 (inb_of S hj) (Has.at H (inb_of S hj) hv) (g := mkF m pc ls (.int j :: .ref a :: st)) rfl rfl (hb hc hd) t r⟩) k1
theorem iaload (hG : IsGo G l Z a0 EL n0 own name code maxL ret R Q) (hd : decode code pc = .ok (.iaload, 1)) {a : Addr} {kk : ClassId} {N j : Int32} {vs : List Value} {d v : Value} (V : Arv Z h a kk .int N vs d) (hj : ¬ j < 0 ∧ j < N) (hv : vs.getD j.toNatClampNeg d = v) (k1 : G M h k n (pc + 1) ls (v :: st)) : G M h k n pc ls (.int j :: .ref a :: st) :=
  stepX hG (fun _ _ _ m _ _ _ _ T _ X hx hc _ eT hZ _ => ⟨T, X, eT, fun t r => by
    obtain ⟨cl, A, -, S, hN, H, -⟩ := V
    exact X.iaload hx (by rw [eT]; exact A.1) (State.isArrayOf_alike hZ.alike A.2.1) A.2.2 (inb_of S hj) (Has.at H (inb_of S hj) hv) (g := mkF m pc ls (.int j :: .ref a :: st)) rfl rfl (hb hc hd) t r⟩) k1
theorem aaload (hG : IsGo G l Z a0 EL n0 own name code maxL ret R Q) (hd : decode code pc = .ok (.aaload, 1)) {a : Addr} {kk : ClassId} {ty : FieldType} (hty : ty.isReference = true) {N j : Int32} {vs : List Value} {d v : Value} (V : Arv Z h a kk ty N vs d) (hj : ¬ j < 0 ∧ j < N) (hv : vs.getD j.toNatClampNeg d = v) (k1 : G M h k n (pc + 1) ls (v :: st)) : G M h k n pc ls (.int j :: .ref a :: st) :=
  stepX hG (fun _ _ _ m _ _ _ _ T _ X hx hc _ eT hZ _ => ⟨T, X, eT, fun t r => by
    obtain ⟨cl, A, -, S, hN, H, -⟩ := V
    exact X.aaload hx (by rw [eT]; exact A.1) (State.isArrayOf_alike hZ.alike A.2.1) hty A.2.2 (inb_of S hj) (Has.at H (inb_of S hj) hv) (g := mkF m pc ls (.int j :: .ref a :: st)) rfl rfl (hb hc hd) t r⟩) k1
theorem checkcastNull (hG : IsGo G l Z a0 EL n0 own name code maxL ret R Q) {index : Nat} (hd : decode code pc = .ok (.checkcast index, 3)) (k1 : G M h k n (pc + 3) ls (.null :: st)) : G M h k n pc ls (.null :: st) :=
  stepX hG (fun _ _ _ m _ _ _ _ T _ X hx hc _ eT hZ hown => ⟨T, X, eT, fun t r => X.checkcastNull hx (g := mkF m pc ls (.null :: st)) rfl rfl (hb hc hd) t r⟩) k1
theorem cloneArr (hG : IsGo G l Z a0 EL n0 own name code maxL ret R Q) {ad : String} {index W : Nat} (hd : decode code pc = .ok (.invokevirtual index, 3)) (w1 : (Cond.methodLink own index ⟨ad, "clone", "()Ljava/lang/Object;"⟩).before a0 Z = true) (w2 : (Cond.sameMethod ad "java/lang/Object" "clone" "()Ljava/lang/Object;").before a0 Z = true) (w3 : (Cond.native ⟨"java/lang/Object", "clone", "()Ljava/lang/Object;"⟩).before a0 Z = true)
    (w4 : (Cond.instanceMethod ⟨"java/lang/Object", "clone", "()Ljava/lang/Object;"⟩).before a0 Z = true) (w5 : (Cond.selects ad ⟨ad, "clone", "()Ljava/lang/Object;"⟩ ⟨"java/lang/Object", "clone", "()Ljava/lang/Object;"⟩).before a0 Z = true) (w6 : (Cond.castable ad "java/lang/Cloneable").before a0 Z = true)
    {a : Addr} {kk : ClassId} {ty : FieldType} {N : Int32} {vs : List Value} {d : Value} (V : Arv Z h a kk ty N vs d) (E : Exa Z h a ad) (hls : ls.size = maxL) (hf : 1 ≤ R.frames) (hW : (st.map fun v => v.category).sum ≤ W) (hl : W + 14 ≤ R.locals) (cap : Nat) (hcap : N.toNatClampNeg ≤ cap) (hc : k + 1 ≤ R.cells) (hsl : n + cap ≤ R.slots)
    (k1 : ∀ h' b, h.size ≤ b → Ext h h' → Arv Z h' b kk ty N vs d → Exa Z h' b ad → G (b :: M) h' (k + 1) (n + cap) (pc + 3) ls (.ref b :: st)) : G M h k n pc ls (.ref a :: st) :=
  stepN hG (P := fun h' b => Arv Z h' b kk ty N vs d ∧ Exa Z h' b ad) (fun _ q => q.2.lt) (st' := fun b => .ref b :: st)
    (fun _ _ _ m _ _ _ _ _ _ X hx hc0 hml eT hZ hown => by
      obtain ⟨T', h', X', e', E', A, E2, st1⟩ := cloneH X hx hZ hown w1 w2 w3 w4 w5 w6 eT V.arh E (g := mkF m pc ls (.ref a :: st)) rfl (by rw [hml]; exact hls) rfl (hb hc0 hd) hf (W := W) (cap := cap) (by show 2 * 0 + _ ≤ _; omega) hl hcap hc hsl
      exact ⟨T', h', X', e', E', ⟨A, E2⟩, st1⟩) (fun h' b q E P => k1 h' b q E P.1 P.2)
theorem putfield (hG : IsGo G l Z a0 EL n0 own name code maxL ret R Q) {R0 O nm d C : String} {index kk : Nat} {ty : FieldType} (hd : decode code pc = .ok (.putfield index, 3)) (w : (Cond.fieldLink own index R0 nm d).before a0 Z = true) (via : Via Z R0 O nm d) {a : Addr} {v old : Value} (F : Fld Z h a O nm d old) (E : Exa Z h a C) (L : (Cond.lays C O nm d).before a0 Z = true ∨ ((Cond.laysFinal C O nm d).before a0 Z = true ∧ own = O ∧ name = "<init>")) (wi : (Cond.instantiable C kk).before a0 Z = true)
    (hty : parseFieldDescriptor d = some ty) (hn : narrow ty v = v) (hf : fits ty v = true) (ha : a ∈ M) (k1 : ∀ h', Wr h h' a (RoadKit.slotOf Z O nm d) v → G M h' k n (pc + 3) ls st) : G M h k n pc ls (v :: .ref a :: st) :=
  stepW hG ha (fun _ _ _ m _ _ _ _ _ _ X hx hc hnm eT hZ hown => putF X hx hZ hown (host := "") (Or.inl w) via eT F E (L.imp id fun q => ⟨q.1, q.2.1, hnm.trans q.2.2⟩) wi hty hn hf (g := mkF m pc ls (v :: .ref a :: st)) rfl rfl (hb hc hd)) k1
theorem castore (hG : IsGo G l Z a0 EL n0 own name code maxL ret R Q) (hd : decode code pc = .ok (.castore, 1)) {a : Addr} {kk : ClassId} {N j x : Int32} {vs : List Value} {d : Value} (V : Arv Z h a kk .char N vs d) (hj : ¬ j < 0 ∧ j < N) (i : Nat) (hji : j.toNatClampNeg = i) (hi : i < vs.length) (ha : a ∈ M) (k1 : ∀ h', Wr h h' a i (.int (nar .char x)) → Arv Z h' a kk .char N (vs.set i (.int (nar .char x))) d → G M h' k n (pc + 1) ls st) : G M h k n pc ls (.int x :: .int j :: .ref a :: st) := by
  subst hji
  obtain ⟨cl, A, q, S, hN, H, U⟩ := V
  exact stepW hG ha (fun _ _ _ m _ _ _ _ _ _ X hx hc _ eT hZ _ => stC X hx hZ eT A (inb_of S hj) (g := mkF m pc ls (.int x :: .int j :: .ref a :: st)) rfl rfl (hb hc hd)) (fun h' W => k1 h' W (Arv.set A q S hN H U (fits_nar_char x) W _ rfl hi))
theorem bastore (hG : IsGo G l Z a0 EL n0 own name code maxL ret R Q) (hd : decode code pc = .ok (.bastore, 1)) {a : Addr} {kk : ClassId} {N j x : Int32} {vs : List Value} {d : Value} (V : Arv Z h a kk .byte N vs d) (hj : ¬ j < 0 ∧ j < N) (i : Nat) (hji : j.toNatClampNeg = i) (hi : i < vs.length) (ha : a ∈ M) (k1 : ∀ h', Wr h h' a i (.int (nar .byte x)) → Arv Z h' a kk .byte N (vs.set i (.int (nar .byte x))) d → G M h' k n (pc + 1) ls st) : G M h k n pc ls (.int x :: .int j :: .ref a :: st) := by
  subst hji
  obtain ⟨cl, A, q, S, hN, H, U⟩ := V
  exact stepW hG ha (fun _ _ _ m _ _ _ _ _ _ X hx hc _ eT hZ _ => stB X hx hZ eT A (inb_of S hj) (g := mkF m pc ls (.int x :: .int j :: .ref a :: st)) rfl rfl (hb hc hd)) (fun h' W => k1 h' W (Arv.set A q S hN H U (fits_nar_byte x) W _ rfl hi))
theorem iastore (hG : IsGo G l Z a0 EL n0 own name code maxL ret R Q) (hd : decode code pc = .ok (.iastore, 1)) {a : Addr} {kk : ClassId} {N j x : Int32} {vs : List Value} {d : Value} (V : Arv Z h a kk .int N vs d) (hj : ¬ j < 0 ∧ j < N) (i : Nat) (hji : j.toNatClampNeg = i) (hi : i < vs.length) (ha : a ∈ M) (k1 : ∀ h', Wr h h' a i (.int x) → Arv Z h' a kk .int N (vs.set i (.int x)) d → G M h' k n (pc + 1) ls st) : G M h k n pc ls (.int x :: .int j :: .ref a :: st) := by
  subst hji
  obtain ⟨cl, A, q, S, hN, H, U⟩ := V
  exact stepW hG ha (fun _ _ _ m _ _ _ _ _ _ X hx hc _ eT hZ _ => stI X hx hZ eT A (inb_of S hj) (g := mkF m pc ls (.int x :: .int j :: .ref a :: st)) rfl rfl (hb hc hd)) (fun h' W => k1 h' W (Arv.set A q S hN H U (rfl) W _ rfl hi))
theorem aastore (hG : IsGo G l Z a0 EL n0 own name code maxL ret R Q) (hd : decode code pc = .ok (.aastore, 1)) {a : Addr} {kk : ClassId} {ty : FieldType} (hty : ty.isReference = true) {N j : Int32} {vs : List Value} {d v : Value} (V : Arv Z h a kk ty N vs d) (hj : ¬ j < 0 ∧ j < N) (i : Nat) (hji : j.toNatClampNeg = i) (hi : i < vs.length) (hsto : Sto Z h a v) (hfit : fits ty v = true) (ha : a ∈ M) (k1 : ∀ h', Wr h h' a i v → Arv Z h' a kk ty N (vs.set i v) d → G M h' k n (pc + 1) ls st) : G M h k n pc ls (v :: .int j :: .ref a :: st) := by
  subst hji
  obtain ⟨cl, A, q, S, hN, H, U⟩ := V
  exact stepW hG ha (fun _ _ _ m _ _ _ _ _ _ X hx hc _ eT hZ _ => stR X hx hZ eT A (inb_of S hj) hty hsto (g := mkF m pc ls (v :: .int j :: .ref a :: st)) rfl rfl (hb hc hd)) (fun h' W => k1 h' W (Arv.set A q S hN H U hfit W _ rfl hi))
theorem new (hG : IsGo G l Z a0 EL n0 own name code maxL ret R Q) {C : String} {index nn : Nat} (hd : decode code pc = .ok (.new index, 3)) (w : (Cond.classLink own index C).before a0 Z = true) (wi : (Cond.instantiable C nn).before a0 Z = true) (wz : (Cond.initialized C).before a0 Z = true) (hc : k + 1 ≤ R.cells) (hl : n + nn ≤ R.slots)
    (k1 : ∀ h' a, h.size ≤ a → Ext h h' → Exa Z h' a C → (∀ {O nm d : String} {ty : FieldType}, Laid Z a0 C O nm d → parseFieldDescriptor d = some ty → Fld Z h' a O nm d (defaultValue ty)) → G (a :: M) h' (k + 1) (n + nn) (pc + 3) ls (.ref a :: st)) : G M h k n pc ls st :=
  stepN hG (P := fun h' a => Exa Z h' a C ∧ ∀ {O nm d : String} {ty : FieldType}, Laid Z a0 C O nm d → parseFieldDescriptor d = some ty → Fld Z h' a O nm d (defaultValue ty)) (fun _ q => q.1.lt) (st' := fun a => .ref a :: st)
    (fun _ _ _ m _ _ _ _ _ _ X hx hb0 _ eT hZ hown => by
      obtain ⟨T', h', X', e', E, A, D, -, st1⟩ := newO X hx hZ hown w wi wz eT (g := mkF m pc ls st) rfl (hb hb0 hd) hc hl
      exact ⟨T', h', X', e', E, ⟨A, D⟩, st1⟩) (fun h' a q E P => k1 h' a q E P.1 P.2)
theorem newarray (hG : IsGo G l Z a0 EL n0 own name code maxL ret R Q) {aty : ArrayType} {ty : FieldType} (hd : decode code pc = .ok (.newarray aty, 2)) (hty : newarray.typeOf aty = ty) (w : (Cond.arrayClass ty).before a0 Z = true) {N : Int32} (hN : ¬ N < 0) (cap : Nat) (hcap : N.toNatClampNeg ≤ cap) (hb0 : cap * 8 ≤ 536870912) (hc : k + 1 ≤ R.cells) (hl : n + cap ≤ R.slots) (cnt : Nat) (vs : List Value) (hvs : vs = List.replicate cnt (defaultValue ty))
    (k1 : ∀ h' a kk, h.size ≤ a → Ext h h' → Arv Z h' a kk ty N vs (defaultValue ty) → G (a :: M) h' (k + 1) (n + cap) (pc + 2) ls (.ref a :: st)) : G M h k n pc ls (.int N :: st) := by
  subst hty
  exact stepN hG (P := fun h' a => ∃ kk, Arv Z h' a kk (newarray.typeOf aty) N vs (defaultValue (newarray.typeOf aty))) (fun _ q => q.elim fun _ q => q.lt) (st' := fun a => .ref a :: st)
    (fun _ _ _ m _ _ _ _ _ _ X hx hc0 _ eT hZ hown => by
      obtain ⟨T', h', cA, X', e', E, A, st1⟩ := newP X hx hZ w eT (g := mkF m pc ls (.int N :: st)) rfl (hb hc0 hd) rfl hN (cap := cap) hcap hb0 hc hl
      exact ⟨T', h', X', e', E, ⟨cA, (Arv.new A hN).pad (by subst hvs; exact pad_rep [] _ cnt)⟩, st1⟩) (fun h' a q E P => P.elim fun kk V => k1 h' a kk q E V)
theorem anewarray (hG : IsGo G l Z a0 EL n0 own name code maxL ret R Q) {C : String} {index : Nat} (hd : decode code pc = .ok (.anewarray index, 3)) (w1 : (Cond.classLink own index C).before a0 Z = true) (w2 : (Cond.arrayOver (.object C)).before a0 Z = true) {N : Int32} (hN : ¬ N < 0) (cap : Nat) (hcap : N.toNatClampNeg ≤ cap) (hb0 : cap * 8 ≤ 536870912) (hc : k + 1 ≤ R.cells) (hl : n + cap ≤ R.slots) (cnt : Nat) (vs : List Value) (hvs : vs = List.replicate cnt .null) {ad : String} (had : "[" ++ (FieldType.object C).toString = ad)
    (k1 : ∀ h' a kk, h.size ≤ a → Ext h h' → Arv Z h' a kk (.object C) N vs .null → Exa Z h' a ad → Ovr Z kk C → G (a :: M) h' (k + 1) (n + cap) (pc + 3) ls (.ref a :: st)) : G M h k n pc ls (.int N :: st) :=
  stepN hG (P := fun h' a => ∃ kk, Arv Z h' a kk (.object C) N vs .null ∧ Exa Z h' a ad ∧ Ovr Z kk C) (fun _ q => q.elim fun _ q => q.1.lt) (st' := fun a => .ref a :: st)
    (fun _ _ _ m _ _ _ _ _ _ X hx hc0 _ eT hZ hown => by
      obtain ⟨T', h', cA, X', e', E, A, A2, O, st1⟩ := newRE X hx hZ hown w1 w2 eT (g := mkF m pc ls (.int N :: st)) rfl (hb hc0 hd) rfl hN (cap := cap) hcap hb0 hc hl had
      exact ⟨T', h', X', e', E, ⟨cA, (Arv.new A hN).pad (by subst hvs; exact pad_rep [] _ cnt), A2, O⟩, st1⟩) (fun h' a q E P => P.elim fun kk V => k1 h' a kk q E V.1 V.2.1 V.2.2)
theorem ldcInt (hG : IsGo G l Z a0 EL n0 own name code maxL ret R Q) {index : Nat} {x : Int32} (hd : decode code pc = .ok (.ldc index, 2)) (w : (Cond.constant own index x).before a0 Z = true) (k1 : G M h k n (pc + 2) ls (.int x :: st)) : G M h k n pc ls st :=
  stepX hG (fun _ _ _ m _ _ _ _ T _ X hx hc _ eT hZ hown => ⟨T, X, eT, fun t r => X.ldcInt hx hown (mv hZ w) (g := mkF m pc ls st) rfl (hb hc hd) t r⟩) k1
theorem ldc (hG : IsGo G l Z a0 EL n0 own name code maxL ret R Q) {index : Nat} {text : String} (hd : decode code pc = .ok (.ldc index, 2)) (w : (Cond.stringLink own index text).before a0 Z = true) (wS : ∀ a ∈ Bundle.stringAtoms, a.before a0 Z = true) (hmem : (own, index) ∈ EL) {vs : List Value} {N : Int32}
    (ht : (∀ c ∈ text.toList, c.toNat < 256) ∧ text.toList.map (fun c => Value.int (Jvm.Lit.byteI c.toNat.toUInt16)) = vs) (hz : ¬ N < 0) (hl : N.toNatClampNeg = vs.length) {nn : Nat} (hn : 4 * text.toList.length ≤ nn) (hbig : nn ≤ 536870912) (hc : k + 2 ≤ R.cells) (hl' : n + (nn + 4) ≤ R.slots)
    (k1 : ∀ h' a b kk, Ext h h' → Exa Z h' a "java/lang/String" → Fld Z h' a "java/lang/String" "coder" "B" (.int 0) → Fld Z h' a "java/lang/String" "value" "[B" (.ref b) → Arv Z h' b kk .byte N vs (.int 0) → (∀ x ∈ M, x ≠ a ∧ x ≠ b) → G M h' (k + 2) (n + (nn + 4)) (pc + 2) ls (.ref a :: st)) : G M h k n pc ls st := by
  obtain ⟨p, e, s, m, args, below, meth, c, hx, hc0, hml, hnm, hr, hlk, hEL, rfl⟩ := hG
  intro T I
  obtain ⟨vm0, locs, k0, X, eT, hS, hk, hZ, hown, N0, H, S, hn0⟩ := I
  obtain ⟨a, T', h', k9, b, kk, X', e', E, hS', hk', hZ', hown', E1, F1, F2, V, la, lb, C, -, hne, st1⟩ := ldcCH X hx hZ hown w wS eT hS hk hEL hmem H.1 ht hz hl (g := mkF m pc ls st) rfl (hb hc0 hd) hn hbig hc hl'
  have S' := S.chr C
  obtain ⟨s₂, o, h1, h2⟩ := k1 h' a b kk E E1 F1 F2 V (fun x hx => hne x (S' x hx).2.2) T' ⟨T'.vm, locs, k9, X', e', hS', hk', hZ', hown', N0, H.trans C, S', hn0.ext E⟩
  exact ⟨s₂, o, st1 _ h1, h2⟩
theorem Met.back {y : MethodName} {bytes : ByteArray} {maxL' : Nat} {ret' : Option FieldType} {rm : Room} {as' : List Value} {M0 : List Addr} {Q' : QT} (hM : Met l Z EL n0 y bytes maxL' ret' [] rm as' M0 h Q') {p : Program} {e : Env} {below : List Frame} {s : State} {vm0 : Vm} {args : Array Value} {len W : Nat} (hZ : Z.Warmed39 vm0) (wc : (Cond.code y bytes maxL' ret').before a0 Z = true) (wz : (Cond.initialized y.cls).before a0 Z = true) (hf : rm.frames + 1 ≤ R.frames) (hl : W + (maxL' + 11) + rm.locals ≤ R.locals) (hEL : EW Z a0 EL) (H : CHv Z EL vm0 h) (S : Saf Z EL n0 vm0 h M0) (hn0 : Old Z n0 h) :
    BackS l R p e below (s.setVm vm0) args y len W (fun A a => a = as'.toArray ∧ A.U.heap = h ∧ A.cells + rm.cells ≤ R.cells ∧ A.slots + rm.slots ≤ R.slots)
      (fun A _ v B => ∃ (L : List Loc) (M' : List Addr), Q' v M' B.U.heap ∧ Fr n0 L ∧ B.locs = A.locs ++ L ∧ B.cells = A.cells + rm.cells ∧ B.slots = A.slots + rm.slots ∧ CHr Z EL vm0 h B.U.vm B.U.heap ∧ Saf Z EL n0 B.U.vm B.U.heap M' ∧ Old Z n0 B.U.heap) :=
  BackS.of_freeW (bytes := bytes) (maxL := maxL') (ret := ret') (E := fun _ first o t L k n => k = rm.cells ∧ n = rm.slots ∧ ∃ v M', o = .returned v ∧ Q' v M' t.heap ∧ Fr n0 L ∧ CHr Z EL first.vm first.heap t.vm t.heap ∧ Saf Z EL n0 t.vm t.heap M' ∧ Old Z n0 t.heap) hM hf hl
    (fun m meth c A a Y hp => have hU : Z.Warmed39 A.U.vm := wtrans (s := s.setVm vm0) hZ Y.warmed
      ⟨by show (Cond.and _ .tt).before a A.U = true; rw [Cond.before_and, mv hU wc]; rfl, mv hU wc, mv hU wz, hp.2.2.1, hp.2.2.2⟩)
    (fun m meth c A a g mk Y hp => by have q := CHv.at Y hZ hEL H; exact ⟨hp.1, wtrans (s := s.setVm vm0) hZ Y.warmed, hp.2.1, q.1, S.chr q, hn0⟩) (fun _ _ _ _ _ _ _ _ _ => trivial)
    (fun _ _ _ _ ⟨v, L, M', h1, h2, h3, h4, h5, h7, h6⟩ => ⟨L, _, _, h6, rfl, rfl, v, M', h1, h2, h3, h4, h5, h7⟩)
    (fun m meth c A a g mk v t L k n Y hp _ _ ⟨e1, e2, v', M', e3, e4, e5, e6, e7, e8⟩ => by
      cases e3; subst e1 e2
      refine ⟨L, M', e4, e5, rfl, rfl, rfl, (CHv.at Y hZ hEL H).trans ?_, e7, e8⟩
      rw [← hp.2.1]; exact e6)
theorem callStatic (hG : IsGo G l Z a0 EL n0 own name code maxL ret R Q) {y : MethodName} {bytes : ByteArray} {maxL' : Nat} {ret' : Option FieldType} {rm : Room} {as' : List Value} {M0 : List Addr} {Q' : QT} {index : Nat} {ps : List FieldType} {rt : Option FieldType} (hd : decode code pc = .ok (.invokestatic index, 3)) (w1 : (Cond.methodLink own index y).before a0 Z = true) (w2 : (Cond.static y).before a0 Z = true) (w3 : (Cond.initialized y.cls).before a0 Z = true) (w4 : (Cond.code y bytes maxL' ret').before a0 Z = true) (hy : y.cls ≠ "java/lang/invoke/MethodHandle" ∧ y.cls ≠ "java/lang/invoke/VarHandle") (hM : Met l Z EL n0 y bytes maxL' ret' [] rm as' M0 h Q') (hpd : parseMethodDescriptor y.desc = some ⟨ps, rt⟩) (hal : as'.length = ps.length) (hst : st = as'.reverse ++ rest)
    (hls : ls.size = maxL) (hM0 : ∀ x ∈ M0, x ∈ M) (hf : rm.frames + 1 ≤ R.frames) {W : Nat} (hW : (rest.map fun v => v.category).sum ≤ W) (hl : W + (maxL' + 11) + rm.locals ≤ R.locals) (hc : k + rm.cells ≤ R.cells) (hs : n + rm.slots ≤ R.slots)
    (k1 : ∀ v M' h', h.size ≤ h'.size → Q' v M' h' → G (M' ++ M) h' (k + rm.cells) (n + rm.slots) (pc + 3) ls (v.toList ++ rest)) : G M h k n pc ls st := by
  obtain ⟨p, e, s, m, args, below, meth, c, hx, hc0, hml, hnm, hr, hlk, hEL, rfl⟩ := hG
  intro T I
  obtain ⟨vm0, locs, k0, X, eT, hS, hk, hZ, hown, N0, H, S, hn0⟩ := I
  obtain ⟨v, vm₁, B, -, X2, hS2, hle, post, stp⟩ := callSS X hx hown (mvT hZ w1) (mvT hZ w2) (mvT hZ w3) (mvT hZ w4) hy (hM.back (W := W) hZ w4 w3 hf hl hEL H.1 (S.sub hM0) hn0) (g := mkF m pc ls st) rfl (by rw [hml]; exact hls) (argsL := as') (rest := rest) (lenOf hpd hal) hst (by show 2 * 0 + _ ≤ _; omega) (hb hc0 hd) (fun _ _ => ⟨rfl, eT, hc, hs⟩)
  obtain ⟨L, M', q1, q2, q3, q4, q5, q6, q7, q8⟩ := post
  obtain ⟨X3, hS3, hZ3, hown3⟩ := rebS hS hk X2 hS2 (by rw [← eT]; exact hle) hZ hown
  dsimp only [Pt.U, Pt.locs, Pt.cells, Pt.slots] at *
  obtain ⟨U, Lc, kc, sc⟩ := B
  dsimp only at *
  subst q3 q4 q5
  obtain ⟨s₂, o, h1, h2⟩ := k1 v M' U.heap (by rw [← eT]; exact hle) q1 U ⟨U.vm, locs ++ L, _, X3, rfl, hS3, Nat.le_refl _, hZ3, hown3, Fr.app N0 q2, H.trans q6, q7.app (S.chr q6), q8⟩
  exact ⟨s₂, o, stp.trans h1, h2⟩
theorem callInit (hG : IsGo G l Z a0 EL n0 own name code maxL ret R Q) {y : MethodName} {bytes : ByteArray} {maxL' : Nat} {rm : Room} {a : Addr} {as' : List Value} {M0 : List Addr} {Q' : QT} {index : Nat} {ps : List FieldType} {rt : Option FieldType} (hd : decode code pc = .ok (.invokespecial index, 3)) (hy1 : y.name = "<init>") (w1 : (Cond.methodLink own index y).before a0 Z = true) (w2 : (Cond.instanceMethod y).before a0 Z = true) (w3 : (Cond.initialized y.cls).before a0 Z = true) (w4 : (Cond.code y bytes maxL' none).before a0 Z = true) (hy : y.cls ≠ "java/lang/invoke/MethodHandle" ∧ y.cls ≠ "java/lang/invoke/VarHandle") (hM : Met l Z EL n0 y bytes maxL' none [] rm (.ref a :: as') M0 h Q') (hpd : parseMethodDescriptor y.desc = some ⟨ps, rt⟩) (hal : as'.length = ps.length) (hst : st = as'.reverse ++ .ref a :: rest)
    (hls : ls.size = maxL) (hM0 : ∀ x ∈ M0, x ∈ M) (hf : rm.frames + 1 ≤ R.frames) {W : Nat} (hW : (rest.map fun v => v.category).sum ≤ W) (hl : W + (maxL' + 11) + rm.locals ≤ R.locals) (hc : k + rm.cells ≤ R.cells) (hs : n + rm.slots ≤ R.slots)
    (k1 : ∀ v M' h', h.size ≤ h'.size → Q' v M' h' → G (M' ++ M) h' (k + rm.cells) (n + rm.slots) (pc + 3) ls (v.toList ++ rest)) : G M h k n pc ls st := by
  obtain ⟨p, e, s, m, args, below, meth, c, hx, hc0, hml, hnm, hr, hlk, hEL, rfl⟩ := hG
  intro T I
  obtain ⟨vm0, locs, k0, X, eT, hS, hk, hZ, hown, N0, H, S, hn0⟩ := I
  obtain ⟨v, vm₁, B, -, X2, hS2, hle, post, stp⟩ := X.specialBackS hx hy1 hown (mvT hZ w1) (mvT hZ w2) (mvT hZ w4) hy (hM.back (W := W) hZ w4 w3 hf hl hEL H.1 (S.sub hM0) hn0) (g := mkF m pc ls st) rfl (by rw [hml]; exact hls) (Steps.refl _) (a := a) (argsL := as') (rest := rest) (lenOf hpd hal) hst (by show 2 * 0 + _ ≤ _; omega) (hb hc0 hd) (fun _ _ => ⟨rfl, eT, hc, hs⟩)
  obtain ⟨L, M', q1, q2, q3, q4, q5, q6, q7, q8⟩ := post
  obtain ⟨X3, hS3, hZ3, hown3⟩ := rebS hS hk X2 hS2 (by rw [← eT]; exact hle) hZ hown
  dsimp only [Pt.U, Pt.locs, Pt.cells, Pt.slots] at *
  obtain ⟨U, Lc, kc, sc⟩ := B
  dsimp only at *
  subst q3 q4 q5
  obtain ⟨s₂, o, h1, h2⟩ := k1 v M' U.heap (by rw [← eT]; exact hle) q1 U ⟨U.vm, locs ++ L, _, X3, rfl, hS3, Nat.le_refl _, hZ3, hown3, Fr.app N0 q2, H.trans q6, q7.app (S.chr q6), q8⟩
  exact ⟨s₂, o, stp.trans h1, h2⟩
theorem callVirtual (hG : IsGo G l Z a0 EL n0 own name code maxL ret R Q) {y z : MethodName} {bytes : ByteArray} {maxL' : Nat} {ret' : Option FieldType} {rm : Room} {a : Addr} {as' : List Value} {M0 : List Addr} {Q' : QT} {C : String} {index : Nat} {ps : List FieldType} {rt : Option FieldType} (hd : decode code pc = .ok (.invokevirtual index, 3)) (E : Exa Z h a C) (w1 : (Cond.methodLink own index y).before a0 Z = true) (wd : (Cond.declares y).before a0 Z = true) (nf : ∀ (s : State), Z.Warmed39 s.vm → NotFace s y) (ws : (Cond.selects C y z).before a0 Z = true) (w2 : (Cond.instanceMethod z).before a0 Z = true) (w3 : (Cond.initialized z.cls).before a0 Z = true) (w4 : (Cond.code z bytes maxL' ret').before a0 Z = true) (hy : y.cls ≠ "java/lang/invoke/MethodHandle" ∧ y.cls ≠ "java/lang/invoke/VarHandle") (hM : Met l Z EL n0 z bytes maxL' ret' [] rm (.ref a :: as') M0 h Q') (hpd : parseMethodDescriptor y.desc = some ⟨ps, rt⟩) (hal : as'.length = ps.length) (hst : st = as'.reverse ++ .ref a :: rest)
    (hls : ls.size = maxL) (hM0 : ∀ x ∈ M0, x ∈ M) (hf : rm.frames + 1 ≤ R.frames) {W : Nat} (hW : (rest.map fun v => v.category).sum ≤ W) (hl : W + (maxL' + 11) + rm.locals ≤ R.locals) (hc : k + rm.cells ≤ R.cells) (hs : n + rm.slots ≤ R.slots)
    (k1 : ∀ v M' h', h.size ≤ h'.size → Q' v M' h' → G (M' ++ M) h' (k + rm.cells) (n + rm.slots) (pc + 3) ls (v.toList ++ rest)) : G M h k n pc ls st := by
  obtain ⟨p, e, s, m, args, below, meth, c, hx, hc0, hml, hnm, hr, hlk, hEL, rfl⟩ := hG
  intro T I
  obtain ⟨vm0, locs, k0, X, eT, hS, hk, hZ, hown, N0, H, S, hn0⟩ := I
  obtain ⟨cB, kB, i1, i2, i3⟩ := isOf (s := s.setVm vm0) hZ eT E
  obtain ⟨v, vm₁, B, -, X2, hS2, hle, post, stp⟩ := X.virtualBackS hx hown (mvT hZ w1) (mvT hZ wd) (nf (s.setVm vm0) hZ) (mvT hZ ws) (mvT hZ w2) hy (hM.back (W := W) hZ w4 w3 hf hl hEL H.1 (S.sub hM0) hn0) i1 i3 (g := mkF m pc ls st) rfl (by rw [hml]; exact hls) (Steps.refl _) (argsL := as') (rest := rest) (lenOf hpd hal) hst (by show 2 * 0 + _ ≤ _; omega) (hb hc0 hd) (fun _ _ => ⟨rfl, eT, hc, hs⟩)
  obtain ⟨L, M', q1, q2, q3, q4, q5, q6, q7, q8⟩ := post
  obtain ⟨X3, hS3, hZ3, hown3⟩ := rebS hS hk X2 hS2 (by rw [← eT]; exact hle) hZ hown
  dsimp only [Pt.U, Pt.locs, Pt.cells, Pt.slots] at *
  obtain ⟨U, Lc, kc, sc⟩ := B
  dsimp only at *
  subst q3 q4 q5
  obtain ⟨s₂, o, h1, h2⟩ := k1 v M' U.heap (by rw [← eT]; exact hle) q1 U ⟨U.vm, locs ++ L, _, X3, rfl, hS3, Nat.le_refl _, hZ3, hown3, Fr.app N0 q2, H.trans q6, q7.app (S.chr q6), q8⟩
  exact ⟨s₂, o, stp.trans h1, h2⟩
theorem callVirtualUp (hG : IsGo G l Z a0 EL n0 own name code maxL ret R Q) {y z : MethodName} {bytes : ByteArray} {maxL' : Nat} {ret' : Option FieldType} {rm : Room} {a : Addr} {as' : List Value} {M0 : List Addr} {Q' : QT} {C owner : String} {index : Nat} {ps : List FieldType} {rt : Option FieldType} (hd : decode code pc = .ok (.invokevirtual index, 3)) (E : Exa Z h a C) (w1 : (Cond.methodLink own index y).before a0 Z = true) (wsm : (Cond.sameMethod y.cls owner y.name y.desc).before a0 Z = true) (wd : (Cond.declares ⟨owner, y.name, y.desc⟩).before a0 Z = true) (ws : (Cond.selects C y z).before a0 Z = true) (w2 : (Cond.instanceMethod z).before a0 Z = true) (w3 : (Cond.initialized z.cls).before a0 Z = true) (w4 : (Cond.code z bytes maxL' ret').before a0 Z = true) (hy : owner ≠ "java/lang/invoke/MethodHandle" ∧ owner ≠ "java/lang/invoke/VarHandle") (hM : Met l Z EL n0 z bytes maxL' ret' [] rm (.ref a :: as') M0 h Q') (hpd : parseMethodDescriptor y.desc = some ⟨ps, rt⟩) (hal : as'.length = ps.length) (hst : st = as'.reverse ++ .ref a :: rest)
    (hls : ls.size = maxL) (hM0 : ∀ x ∈ M0, x ∈ M) (hf : rm.frames + 1 ≤ R.frames) {W : Nat} (hW : (rest.map fun v => v.category).sum ≤ W) (hl : W + (maxL' + 11) + rm.locals ≤ R.locals) (hc : k + rm.cells ≤ R.cells) (hs : n + rm.slots ≤ R.slots)
    (k1 : ∀ v M' h', h.size ≤ h'.size → Q' v M' h' → G (M' ++ M) h' (k + rm.cells) (n + rm.slots) (pc + 3) ls (v.toList ++ rest)) : G M h k n pc ls st := by
  obtain ⟨p, e, s, m, args, below, meth, c, hx, hc0, hml, hnm, hr, hlk, hEL, rfl⟩ := hG
  intro T I
  obtain ⟨vm0, locs, k0, X, eT, hS, hk, hZ, hown, N0, H, S, hn0⟩ := I
  obtain ⟨cB, kB, i1, i2, i3⟩ := isOf (s := s.setVm vm0) hZ eT E
  obtain ⟨v, vm₁, B, -, X2, hS2, hle, post, stp⟩ := X.virtualBackUpS hx hown (mvT hZ w1) (mvT hZ wsm) (mvT hZ wd) hy (mvT hZ ws) (mvT hZ w2) (hM.back (W := W) hZ w4 w3 hf hl hEL H.1 (S.sub hM0) hn0) i1 i3 (g := mkF m pc ls st) rfl (by rw [hml]; exact hls) (Steps.refl _) (argsL := as') (rest := rest) (lenOf hpd hal) hst (by show 2 * 0 + _ ≤ _; omega) (hb hc0 hd) (fun _ _ => ⟨rfl, eT, hc, hs⟩)
  obtain ⟨L, M', q1, q2, q3, q4, q5, q6, q7, q8⟩ := post
  obtain ⟨X3, hS3, hZ3, hown3⟩ := rebS hS hk X2 hS2 (by rw [← eT]; exact hle) hZ hown
  dsimp only [Pt.U, Pt.locs, Pt.cells, Pt.slots] at *
  obtain ⟨U, Lc, kc, sc⟩ := B
  dsimp only at *
  subst q3 q4 q5
  obtain ⟨s₂, o, h1, h2⟩ := k1 v M' U.heap (by rw [← eT]; exact hle) q1 U ⟨U.vm, locs ++ L, _, X3, rfl, hS3, Nat.le_refl _, hZ3, hown3, Fr.app N0 q2, H.trans q6, q7.app (S.chr q6), q8⟩
  exact ⟨s₂, o, stp.trans h1, h2⟩
theorem callFace (hG : IsGo G l Z a0 EL n0 own name code maxL ret R Q) {y z : MethodName} {bytes : ByteArray} {maxL' : Nat} {ret' : Option FieldType} {rm : Room} {a : Addr} {as' : List Value} {M0 : List Addr} {Q' : QT} {C : String} {index count : Nat} {ps : List FieldType} {rt : Option FieldType} (hd : decode code pc = .ok (.invokeinterface index count, 5)) (E : Exa Z h a C) (w1 : (Cond.methodLink own index y).before a0 Z = true) (wd : (Cond.declares y).before a0 Z = true) (wf : ∀ (s : State) (args : Array Value), Z.Warmed39 s.vm → (Cond.interfaceMethod y.cls y.cls y.name y.desc).before args s = true) (ws : (Cond.selects C y z).before a0 Z = true) (w2 : (Cond.instanceMethod z).before a0 Z = true) (wp : (Cond.publicMethod z).before a0 Z = true) (wu : (Cond.unhidden C y.name y.desc).before a0 Z = true) (wk : (Cond.castable C y.cls).before a0 Z = true) (w3 : (Cond.initialized z.cls).before a0 Z = true) (w4 : (Cond.code z bytes maxL' ret').before a0 Z = true) (hy : y.cls ≠ "java/lang/invoke/MethodHandle" ∧ y.cls ≠ "java/lang/invoke/VarHandle") (hM : Met l Z EL n0 z bytes maxL' ret' [] rm (.ref a :: as') M0 h Q') (hpd : parseMethodDescriptor y.desc = some ⟨ps, rt⟩) (hal : as'.length = ps.length) (hst : st = as'.reverse ++ .ref a :: rest)
    (hls : ls.size = maxL) (hM0 : ∀ x ∈ M0, x ∈ M) (hf : rm.frames + 1 ≤ R.frames) {W : Nat} (hW : (rest.map fun v => v.category).sum ≤ W) (hl : W + (maxL' + 11) + rm.locals ≤ R.locals) (hc : k + rm.cells ≤ R.cells) (hs : n + rm.slots ≤ R.slots)
    (k1 : ∀ v M' h', h.size ≤ h'.size → Q' v M' h' → G (M' ++ M) h' (k + rm.cells) (n + rm.slots) (pc + 5) ls (v.toList ++ rest)) : G M h k n pc ls st := by
  obtain ⟨p, e, s, m, args, below, meth, c, hx, hc0, hml, hnm, hr, hlk, hEL, rfl⟩ := hG
  intro T I
  obtain ⟨vm0, locs, k0, X, eT, hS, hk, hZ, hown, N0, H, S, hn0⟩ := I
  obtain ⟨cB, kB, i1, i2, i3⟩ := isOf (s := s.setVm vm0) hZ eT E
  obtain ⟨v, vm₁, B, -, X2, hS2, hle, post, stp⟩ := X.interfaceBackS hx hown (mvT hZ w1) (mvT hZ wd) (wf _ _ hZ) (mvT hZ ws) (mvT hZ w2) (mvT hZ wp) (mvT hZ wu) (mvT hZ wk) hy (hM.back (W := W) hZ w4 w3 hf hl hEL H.1 (S.sub hM0) hn0) i1 i2 i3 (g := mkF m pc ls st) rfl (by rw [hml]; exact hls) (Steps.refl _) (argsL := as') (rest := rest) (lenOf hpd hal) hst (by show 2 * 0 + _ ≤ _; omega) (hb hc0 hd) (fun _ _ => ⟨rfl, eT, hc, hs⟩)
  obtain ⟨L, M', q1, q2, q3, q4, q5, q6, q7, q8⟩ := post
  obtain ⟨X3, hS3, hZ3, hown3⟩ := rebS hS hk X2 hS2 (by rw [← eT]; exact hle) hZ hown
  dsimp only [Pt.U, Pt.locs, Pt.cells, Pt.slots] at *
  obtain ⟨U, Lc, kc, sc⟩ := B
  dsimp only at *
  subst q3 q4 q5
  obtain ⟨s₂, o, h1, h2⟩ := k1 v M' U.heap (by rw [← eT]; exact hle) q1 U ⟨U.vm, locs ++ L, _, X3, rfl, hS3, Nat.le_refl _, hZ3, hown3, Fr.app N0 q2, H.trans q6, q7.app (S.chr q6), q8⟩
  exact ⟨s₂, o, stp.trans h1, h2⟩
theorem ireturn (hG : IsGo G l Z a0 EL n0 own name code maxL (some .int) R Q) {x : Int32} (hd : decode code pc = .ok (.ireturn, 1)) (hq : Q (some (.int x)) M' h) (hM : ∀ x ∈ M', x ∈ M) (hk : k ≤ R.cells) (hn : n ≤ R.slots) : G M h k n pc ls (.int x :: st) :=
  leaves hG (fun q => by cases q) hq hM hk hn (fun _ _ _ _ _ _ _ _ _ _ _ X hx hc hr hl => retOut X hx hr rfl (Or.inl ⟨rfl, Or.inl rfl, x, rfl⟩) (hb hc hd) hl)
theorem ireturnN {t : FieldType} (hG : IsGo G l Z a0 EL n0 own name code maxL (some t) R Q) {x : Int32} (ht : t = .boolean ∨ t = .byte ∨ t = .char ∨ t = .short) (hd : decode code pc = .ok (.ireturn, 1)) (hq : Q (some (.int (nar t x))) M' h) (hM : ∀ x ∈ M', x ∈ M) (hk : k ≤ R.cells) (hn : n ≤ R.slots) : G M h k n pc ls (.int x :: st) :=
  leaves hG (fun q => by cases q) hq hM hk hn (fun _ _ _ _ _ _ _ _ _ _ _ X hx hc hr hl => retN X hx hr ht (hb hc hd) hl)
theorem areturn {t : FieldType} (hG : IsGo G l Z a0 EL n0 own name code maxL (some t) R Q) {v : Value} (ht : t.isReference = true) (hnr : narrow t v = v) (hv : v.isRef = true) (hd : decode code pc = .ok (.areturn, 1)) (hq : Q (some v) M' h) (hM : ∀ x ∈ M', x ∈ M) (hk : k ≤ R.cells) (hn : n ≤ R.slots) : G M h k n pc ls (v :: st) :=
  leaves hG (fun q => by cases q) hq hM hk hn (fun _ _ _ _ _ _ _ _ _ _ _ X hx hc hr hl => retOut X hx hr hnr (Or.inr (Or.inr (Or.inr (Or.inr ⟨rfl, ht, hv⟩)))) (hb hc hd) hl)
theorem return0 (hG : IsGo G l Z a0 EL n0 own name code maxL none R Q) (hd : decode code pc = .ok (.return_, 1)) (hq : Q none M' h) (hM : ∀ x ∈ M', x ∈ M) (hk : k ≤ R.cells) (hn : n ≤ R.slots) : G M h k n pc ls [] :=
  leaves hG (fun _ => rfl) hq hM hk hn (fun _ _ _ _ _ _ _ _ _ _ _ X hx hc hr hl => X.returnOut hx hr (hb hc hd) hl)
end Jvm.OwnWp
namespace Jvm.OwnWp
open Sem ClassFile Op Lib Bundle Jvm.Stand Jvm.Free Jvm.LawKit Jvm.RoadKit
/-- a list of ints as an array's values -/
abbrev ints (xs : List Int32) : List Value := xs.map Value.int
theorem ofN_clamp {i : Nat} (h : i < 2 ^ 31) : (Int32.ofNat i).toNatClampNeg = i := clamp_of rfl h
theorem ofN_toInt {i : Nat} (h : i < 2 ^ 31) : (Int32.ofNat i).toInt = i := toInt_of rfl h
theorem ofN_succ (i : Nat) : Int32.ofNat i + Int32.ofInt 1 = Int32.ofNat (i + 1) := (inc_ofNat i).symm
theorem ofN_lt {i n : Nat} (h : i < n) (hn : n < 2 ^ 31) : Int32.ofNat i < Int32.ofNat n := by
  rw [Int32.lt_iff_toInt_lt, ofN_toInt (by omega), ofN_toInt hn]; omega
theorem ofN_nlt {i n : Nat} (h : n ≤ i) (hi : i < 2 ^ 31) : ¬ Int32.ofNat i < Int32.ofNat n := by
  rw [Int32.lt_iff_toInt_lt, ofN_toInt hi, ofN_toInt (by omega)]; omega
theorem ofN_nn {i : Nat} (h : i < 2 ^ 31) : ¬ Int32.ofNat i < 0 := by
  have e : (0 : Int32) = Int32.ofNat 0 := rfl
  rw [e]; exact ofN_nlt (Nat.zero_le _) h
theorem ofN_inj {i n : Nat} (hi : i < 2 ^ 31) (hn : n < 2 ^ 31) (h : Int32.ofNat i = Int32.ofNat n) : i = n := by
  have := congrArg Int32.toInt h
  rw [ofN_toInt hi, ofN_toInt hn] at this; omega
theorem ofN_in {i n : Nat} (h : i < n) (hn : n < 2 ^ 31) : ¬ Int32.ofNat i < 0 ∧ Int32.ofNat i < Int32.ofNat n := ⟨ofN_nn (by omega), ofN_lt h hn⟩
theorem ints_at {xs : List Int32} {i : Nat} (h : i < 2 ^ 31) : (ints xs).getD (Int32.ofNat i).toNatClampNeg (.int 0) = .int (xs.getD i 0) := by
  rw [ofN_clamp h]; simp only [ints, List.getD_eq_getElem?_getD, List.getElem?_map]
  cases xs[i]? <;> rfl
theorem ints_rep (n : Nat) : ints (List.replicate n 0) = List.replicate n (Value.int 0) := by simp [ints]
theorem set_ints {xs : List Int32} {i : Nat} {v w : Int32} (hv : v = w) : (ints xs).set i (.int v) = ints (xs.set i w) := by subst hv; exact (List.map_set).symm
theorem byte_idem (x : Int32) : nar .byte (nar .byte x) = nar .byte x := by
  show x.toInt8.toInt32.toInt8.toInt32 = x.toInt8.toInt32
  simp
theorem byte_idem2 (x : Int32) : nar .byte x.toInt8.toInt32 = nar .byte x := byte_idem x
theorem nar_char {x : Int32} (h0 : ¬ x < 0) (h1 : ¬ (65535 : Int32) < x) : nar .char x = x := by
  have e := c_i2c x
  have r : (nar .char x).toInt = x.toInt := by
    show (x.toUInt32.toUInt16.toUInt32.toInt32).toInt = x.toInt
    rw [Int32.lt_iff_toInt_lt] at h0 h1
    have e1 : (65535 : Int32).toInt = 65535 := rfl
    have e2 : (0 : Int32).toInt = 0 := rfl
    omega
  exact Int32.toInt_inj.mp r
theorem nar_bool1 : nar .boolean 1 = 1 := by decide
theorem nar_bool0 : nar .boolean 0 = 0 := by decide
theorem Arv.neTy {Z : State} {h : Heap} {a b : Addr} {k k' : ClassId} {t t' : FieldType} {z z' : Int32} {vs vs' : List Value} {d d' : Value} (F : Arv Z h a k t z vs d) (F' : Arv Z h b k' t' z' vs' d') (hne : t ≠ t') : a ≠ b := fun q => by
  subst q
  obtain ⟨c, A, -⟩ := F
  obtain ⟨c', A', -⟩ := F'
  cases A.1.symm.trans A'.1
  obtain ⟨-, k1, h1, comp, h2⟩ := A.2.1
  obtain ⟨-, k2, h3, comp', h4⟩ := A'.2.1
  cases h1.symm.trans h3
  rw [h2] at h4
  cases h4
  exact hne rfl
theorem Sto.ofArv {Z : State} {h : Heap} {a y : Addr} {k : ClassId} {t : FieldType} {z : Int32} {vs : List Value} {d : Value} {C : String} (F : Arv Z h a k t z vs d) (O : Ovr Z k C) (I : Ins Z h y C true) : Sto Z h a (.ref y) := by
  obtain ⟨c, A, q, -⟩ := F
  exact Sto.ofV A q O I
/-- 1 where the two lists are one, 0 else -/
def eqv (xs ys : List Int32) : Int32 := if xs = ys then 1 else 0
theorem eqv_yes {xs ys : List Int32} (h : xs = ys) : eqv xs ys = 1 := if_pos h
theorem eqv_no {xs ys : List Int32} (h : ¬ xs = ys) : eqv xs ys = 0 := if_neg h
theorem getD_in {xs : List Int32} {i : Nat} (h : i < xs.length) : xs.getD i 0 ∈ xs := by
  rw [List.getD_eq_getElem?_getD, List.getElem?_eq_getElem h]; exact List.getElem_mem h
theorem take_succ' {xs : List Int32} {i : Nat} (h : i < xs.length) : xs.take (i + 1) = xs.take i ++ [xs.getD i 0] := by
  rw [List.take_add_one, List.getElem?_eq_getElem h, List.getD_eq_getElem?_getD, List.getElem?_eq_getElem h]; rfl
end Jvm.OwnWp
namespace Jvm.OwnWp
open Sem ClassFile Op Lib Bundle Jvm.Stand Jvm.Free Jvm.LawKit Jvm.RoadKit
theorem forallS {P : Int32 → Prop} {y : Int32} {L : List Int32} (q : P y) (r : ∀ x ∈ L, P x) : ∀ x ∈ y :: L, P x := fun x z => (List.mem_cons.mp z).elim (fun u => u ▸ q) (r x)
theorem eqv_one {xs ys : List Int32} (h : ¬ eqv xs ys = 0) : eqv xs ys = 1 := by
  unfold eqv at h ⊢
  by_cases q : xs = ys
  · rw [if_pos q]
  · rw [if_neg q] at h; exact absurd rfl h
theorem fill_step {cs : List Int32} {i r : Nat} {v : Int32} (h : i + (r + 1) = cs.length) (f : Int32 → Int32) (hv : v = f (cs.getD i 0)) : (ints ((cs.take i).map f ++ List.replicate (r + 1) 0)).set i (.int v) = ints ((cs.take (i + 1)).map f ++ List.replicate r 0) := by
  subst hv
  have e : List.replicate (r + 1) (0 : Int32) = 0 :: List.replicate r 0 := rfl
  have l1 : ((cs.take i).map f).length = i := by simp; omega
  show List.set (List.map Value.int _) i _ = _
  rw [← List.map_set, take_succ' (by omega), List.map_append, e, List.set_append_right _ _ (by omega), l1, Nat.sub_self]
  simp
end Jvm.OwnWp
namespace Jvm.OwnWp
open Sem ClassFile Op Lib Bundle Jvm.Stand Jvm.Free Jvm.LawKit Jvm.RoadKit
theorem shr0 (x : Int32) : x >>> ((0 : Int32) &&& 31) = x := by
  have s := c_ishr x 0 0 (by decide)
  refine Int32.toInt_inj.mp ?_
  rw [s]; simp
theorem ints_at' {xs : List Int32} (i : Nat) : (ints xs).getD i (.int 0) = .int (xs.getD i 0) := by
  simp only [ints, List.getD_eq_getElem?_getD, List.getElem?_map]
  cases xs[i]? <;> rfl
/-- a char read of a byte -/
def chr8 (u : Int32) : Int32 := nar .char ((u &&& 255).toUInt32.toUInt16.toUInt32.toInt32)
theorem char_idem (x : Int32) : nar .char (nar .char x) = nar .char x := by
  have e := c_i2c x
  have e' : (nar .char x).toInt = x.toUInt32.toUInt16.toUInt32.toInt32.toInt := rfl
  refine nar_char ?_ ?_
  · rw [Int32.lt_iff_toInt_lt, e']; have e0 : (0 : Int32).toInt = 0 := rfl; omega
  · rw [Int32.lt_iff_toInt_lt, e']; have e0 : (65535 : Int32).toInt = 65535 := rfl; omega
theorem chr8_nar (u : Int32) : nar .char (chr8 u) = chr8 u := char_idem _
theorem chr8_lo {c : Int32} (h : ¬ c < 0 ∧ ¬ (255 : Int32) < c) : chr8 (nar .byte c) = c := by
  obtain ⟨h0, h1⟩ := h
  rw [Int32.lt_iff_toInt_lt] at h0 h1
  have e0 : (0 : Int32).toInt = 0 := rfl
  have e1 : (255 : Int32).toInt = 255 := rfl
  have b := c_i2b c
  have b' : ((nar .byte c).toInt - c.toInt) % 256 = 0 := b.1
  have m := c_mask (nar .byte c) 255 8 (by decide) (by decide)
  have m' : (nar .byte c &&& 255).toInt = (nar .byte c).toInt % 256 := m
  have v : nar .byte c &&& 255 = c := Int32.toInt_inj.mp (by omega)
  show nar .char (nar .char (nar .byte c &&& 255)) = c
  rw [v, char_idem]
  refine nar_char ?_ ?_
  · rw [Int32.lt_iff_toInt_lt]; omega
  · rw [Int32.lt_iff_toInt_lt]; have e2 : (65535 : Int32).toInt = 65535 := rfl; omega
end Jvm.OwnWp
namespace Jvm.OwnWp
open Sem ClassFile Op Lib Bundle Jvm.Stand Jvm.Free Jvm.LawKit Jvm.RoadKit
theorem ofN_lt' {i n : Nat} (h : Int32.ofNat i < Int32.ofNat n) (hi : i < 2 ^ 31) (hn : n < 2 ^ 31) : i < n := by
  rw [Int32.lt_iff_toInt_lt, ofN_toInt hi, ofN_toInt hn] at h; omega
theorem chr8_lat (u : Int32) : ¬ chr8 u < 0 ∧ ¬ (255 : Int32) < chr8 u := by
  have a := c_and u 255 (by decide)
  have e1 : (255 : Int32).toInt = 255 := rfl
  have e0 : (0 : Int32).toInt = 0 := rfl
  have n1 : nar .char (u &&& 255) = u &&& 255 := nar_char (by rw [Int32.lt_iff_toInt_lt]; omega) (by rw [Int32.lt_iff_toInt_lt]; have e2 : (65535 : Int32).toInt = 65535 := rfl; omega)
  have n2 : chr8 u = u &&& 255 := by
    show nar .char (nar .char (u &&& 255)) = _
    rw [n1, n1]
  rw [n2, Int32.lt_iff_toInt_lt, Int32.lt_iff_toInt_lt]; omega
theorem lat_set {cs : List Int32} {P : Int32 → Prop} (h : ∀ c ∈ cs, P c) (i : Nat) {r : Int32} (hr : P r) : ∀ c ∈ cs.set i r, P c := fun c hc => by
  rcases List.mem_or_eq_of_mem_set hc with q | q
  · exact h c q
  · exact q ▸ hr
theorem lat_rep (n : Nat) : ∀ c ∈ List.replicate n (0 : Int32), ¬ c < 0 ∧ ¬ (255 : Int32) < c := fun c hc => by
  rw [List.eq_of_mem_replicate hc]; decide
theorem up16 {c : Int32} (h : ¬ c < 0 ∧ ¬ (255 : Int32) < c) : ¬ c < 0 ∧ ¬ (65535 : Int32) < c := ⟨h.1, fun q => h.2 (by rw [Int32.lt_iff_toInt_lt] at q ⊢; have e1 : (65535 : Int32).toInt = 65535 := rfl; have e2 : (255 : Int32).toInt = 255 := rfl; omega)⟩
theorem lat_nar {c : Int32} (h : ¬ c < 0 ∧ ¬ (255 : Int32) < c) : nar .char c = c := nar_char (up16 h).1 (up16 h).2
theorem eqv_eq {xs ys : List Int32} (h : ¬ eqv xs ys = 0) : xs = ys := by
  by_cases q : xs = ys
  · exact q
  · exact absurd (eqv_no q) h
theorem eqv_ne {xs ys : List Int32} (h : eqv xs ys = 0) : ¬ xs = ys := fun q => by
  rw [eqv_yes q] at h; exact absurd h (by decide)
theorem eqv_ne0 {xs ys : List Int32} (h : xs = ys) : ¬ eqv xs ys = 0 := by rw [eqv_yes h]; decide
theorem fold_all (f : Nat → Option Bool) : ∀ (L : List Nat) (acc : Option Bool), L.foldl (fun acc i => match acc with | some true => f i | x => x) acc = some true → acc = some true ∧ ∀ i ∈ L, f i = some true
  | [], acc, h => ⟨h, fun _ q => nomatch q⟩
  | i :: L, acc, h => by
    obtain ⟨h1, h2⟩ := fold_all f L _ h
    match acc, h1 with
    | some true, h1 => exact ⟨rfl, fun j hj => (List.mem_cons.mp hj).elim (fun e => e ▸ h1) (h2 j)⟩
theorem all_e {args : Array Value} {first s : State} {o : Option Outcome} {idx : List Nat} {t : Term} {c : Jvm.Cond} {a : Addr} {cell : Cell} (h : (Jvm.Cond.all t c).value args first o s idx = some true) (ht : t.eval args first o idx s = some (.ref a)) (ha : s.arrayAt? a = some cell) : ∀ i, i < cell.slots.size → c.value args first o s (i :: idx) = some true := by
  have h' : (match t.eval args first o idx s with
    | some (.ref a) => match s.arrayAt? a with
      | some cell => (List.range cell.slots.size).foldl (init := some true) fun acc i => match acc with
        | some true => c.value args first o s (i :: idx)
        | x => x
      | none => none
    | _ => none) = some true := h
  rw [ht] at h'
  dsimp only at h'
  rw [ha] at h'
  dsimp only at h'
  exact fun i hi => (fold_all (fun i => c.value args first o s (i :: idx)) _ _ h').2 i (List.mem_range.mpr hi)
/-- an array of the start whose length is said -/
theorem arr_said {args : Array Value} {s : State} {t : Term} {ty : FieldType} {N : Int32} {n : Nat} (h1 : (Jvm.Cond.arrayOf t ty).value args s none s [] = some true) (h2 : (Jvm.Cond.eq (.length t) (.int N)).value args s none s [] = some true) (hN : N = Int32.ofNat n) (hn : n < 2 ^ 31) :
    ∃ (a : Addr) (cl : Cell), t.eval args s none [] s = some (.ref a) ∧ Arr s s.heap a cl ty ∧ s.arrayAt? a = some cl ∧ cl.slots.size = n := by
  have hlen := Cond.eq_int (Cond.before_iff.mpr h2) (Term.int_eval N)
  obtain ⟨dg, cl', ed, hat, -⟩ := Term.length_spec hlen
  obtain ⟨cl, A⟩ := Arr.start ed h1
  have hat2 : s.arrayAt? dg = some cl := Arr.fin (Vm.Alike.refl _) A
  cases hat.symm.trans hat2
  have h31 := Jvm.Free.SBG.length_lt ed hat hlen
  have hsz : cl'.slots.size = n := by
    have e := (len_f ed hat h31).symm.trans hlen
    have e' : cl'.slots.size.toInt32 = N := Value.int.inj (Option.some.inj e)
    have := congrArg Int32.toInt e'
    rw [len_toInt h31, hN, ofN_toInt hn] at this
    omega
  exact ⟨dg, cl', ed, A, hat, hsz⟩
/-- a String of the start whose text is said, byte by byte -/
theorem str_said {args : Array Value} {s : State} (hf : Fit s) {t : Term} {N : Int32} {ys : List Int32} (hN : N = Int32.ofNat ys.length) (hn : ys.length < 2 ^ 31)
    (h1 : (Jvm.Cond.exactly t "java/lang/String").value args s none s [] = some true) (h2 : (Jvm.Cond.eq (.field t "java/lang/String" "coder" "B") (.int 0)).value args s none s [] = some true)
    (h3 : (Jvm.Cond.arrayOf (.field t "java/lang/String" "value" "[B") .byte).value args s none s [] = some true) (h4 : (Jvm.Cond.eq (.length (.field t "java/lang/String" "value" "[B")) (.int N)).value args s none s [] = some true)
    (h5 : ∀ i, i < ys.length → (Jvm.Cond.eq (.elem (.field t "java/lang/String" "value" "[B") (.int (Int32.ofNat i))) (.int (ys.getD i 0))).value args s none s [] = some true) :
    ∃ (a b : Addr) (k : ClassId), t.eval args s none [] s = some (.ref a) ∧ Exa s s.heap a "java/lang/String" ∧ Fld s s.heap a "java/lang/String" "coder" "B" (.int 0) ∧ Fld s s.heap a "java/lang/String" "value" "[B" (.ref b) ∧ Arv s s.heap b k .byte N (ints ys) (.int 0) := by
  obtain ⟨a, ea⟩ := exa_v h1
  obtain ⟨b, cl, eb, A, hat, hsz⟩ := arr_said h3 h4 hN hn
  have key : ∀ i, i < ys.length → cl.slots[i]? = some (.int (ys.getD i 0)) := fun i hi => by
    have e := Cond.eq_int (Cond.before_iff.mpr (h5 i hi)) (Term.int_eval _)
    have hel := elem_f eb (Term.int_eval (Int32.ofNat i)) hat (ofN_nn (by omega))
    rw [ofN_clamp (by omega)] at hel
    exact hel.symm.trans e
  refine ⟨a, b, cl.cls, ea, Exa.start ea h1, Fld.start ((fld_at ea).symm.trans (Cond.eq_int (Cond.before_iff.mpr h2) (Term.int_eval 0))), Fld.start ((fld_at ea).symm.trans eb), cl, A, rfl, by rw [hsz, hN, ofN_clamp hn], by rw [hN]; exact ofN_nn hn, fun i hi => ?_, fun i hi => ?_⟩
  · rw [key i (by omega), ints_at']
  · rw [ints_at']
    exact elem_fits hf A (j := Int32.ofNat i) (by rw [ofN_clamp (by omega)]; exact fun q => q.elim (ofN_nn (by omega)) (by omega)) (by rw [ofN_clamp (by omega)]; exact key i (by omega))
end Jvm.OwnWp
namespace Jvm.Pilot.@@N@@
open Jvm Jvm.ClassFile Sem Op Lib Jvm.Free Jvm.Stand Jvm.LawKit Jvm.RoadKit Bundle Jvm.OwnWp Jvm.Pilot.@@N@@.Jvm.D
abbrev EL0 : ELT := [("com/example/uni_gate/unigate/policy/IntentFromPolicyNamePinLaw", (17 : Nat)), ("com/example/uni_gate/unigate/policy/IntentFromPolicyNamePinLaw", (19 : Nat)), ("com/example/uni_gate/unigate/policy/IntentFromPolicyNamePinLaw", (21 : Nat)), ("com/example/uni_gate/unigate/policy/IntentFromPolicyNamePinLaw", (23 : Nat)), ("java/lang/String", (7 : Nat))]
/-- what holds at the law's start -/
def Ctx (l : Launch) (Z : State) (a0 : Array Value) (n0 : Nat) (g0 : Int32) (gf : Value) (zva : Addr) (zkv : ClassId) (zoe : Addr) (zia : Addr) (zsa : Addr) (zta : Addr) (zka : ClassId) (zib : Addr) (zsb : Addr) (ztb : Addr) (zkb : ClassId) (zip : Addr) (zsp : Addr) (ztp : Addr) (zkp : ClassId) : Prop := (∀ d ∈ tables_1, d.before a0 Z = true) ∧ (∀ a ∈ Bundle.stringAtoms, a.before a0 Z = true) ∧ EW Z a0 EL0 ∧ (Sta Z Z.heap "java/lang/String" "COMPACT_STRINGS" "Z" (.int g0) ∧ ¬ g0 = 0) ∧ (Sta Z Z.heap "jdk/internal/util/Preconditions" "SIOOBE_FORMATTER" "Ljava/util/function/BiFunction;" gf ∧ gf.isRef = true ∧ Sta Z Z.heap "com/example/uni_gate/unigate/policy/Intent" "$VALUES" "[Lcom/example/uni_gate/unigate/policy/Intent;" (.ref zva) ∧ Exa Z Z.heap zva "[Lcom/example/uni_gate/unigate/policy/Intent;" ∧ Arv Z Z.heap zva zkv (.object "com/example/uni_gate/unigate/policy/Intent") (3 : Int32) [(.ref zia), (.ref zib), (.ref zip)] .null ∧ Sta Z Z.heap "java/util/Optional" "EMPTY" "Ljava/util/Optional;" (.ref zoe) ∧ Exa Z Z.heap zoe "java/util/Optional" ∧ Fld Z Z.heap zoe "java/util/Optional" "value" "Ljava/lang/Object;" .null ∧ Sta Z Z.heap "com/example/uni_gate/unigate/policy/Intent" "ALLOW" "Lcom/example/uni_gate/unigate/policy/Intent;" (.ref zia) ∧ Exa Z Z.heap zia "com/example/uni_gate/unigate/policy/Intent" ∧ Fld Z Z.heap zia "com/example/uni_gate/unigate/policy/Intent" "policyName" "Ljava/lang/String;" (.ref zsa) ∧ Exa Z Z.heap zsa "java/lang/String" ∧ Fld Z Z.heap zsa "java/lang/String" "coder" "B" (.int (0 : Int32)) ∧ Fld Z Z.heap zsa "java/lang/String" "value" "[B" (.ref zta) ∧ Arv Z Z.heap zta zka .byte (5 : Int32) [(.int (97 : Int32)), (.int (108 : Int32)), (.int (108 : Int32)), (.int (111 : Int32)), (.int (119 : Int32))] (.int 0) ∧ Sta Z Z.heap "com/example/uni_gate/unigate/policy/Intent" "CONDITIONAL" "Lcom/example/uni_gate/unigate/policy/Intent;" (.ref zib) ∧ Exa Z Z.heap zib "com/example/uni_gate/unigate/policy/Intent" ∧ Fld Z Z.heap zib "com/example/uni_gate/unigate/policy/Intent" "policyName" "Ljava/lang/String;" (.ref zsb) ∧ Exa Z Z.heap zsb "java/lang/String" ∧ Fld Z Z.heap zsb "java/lang/String" "coder" "B" (.int (0 : Int32)) ∧ Fld Z Z.heap zsb "java/lang/String" "value" "[B" (.ref ztb) ∧ Arv Z Z.heap ztb zkb .byte (11 : Int32) [(.int (99 : Int32)), (.int (111 : Int32)), (.int (110 : Int32)), (.int (100 : Int32)), (.int (105 : Int32)), (.int (116 : Int32)), (.int (105 : Int32)), (.int (111 : Int32)), (.int (110 : Int32)), (.int (97 : Int32)), (.int (108 : Int32))] (.int 0) ∧ Sta Z Z.heap "com/example/uni_gate/unigate/policy/Intent" "PROHIBIT" "Lcom/example/uni_gate/unigate/policy/Intent;" (.ref zip) ∧ Exa Z Z.heap zip "com/example/uni_gate/unigate/policy/Intent" ∧ Fld Z Z.heap zip "com/example/uni_gate/unigate/policy/Intent" "policyName" "Ljava/lang/String;" (.ref zsp) ∧ Exa Z Z.heap zsp "java/lang/String" ∧ Fld Z Z.heap zsp "java/lang/String" "coder" "B" (.int (0 : Int32)) ∧ Fld Z Z.heap zsp "java/lang/String" "value" "[B" (.ref ztp) ∧ Arv Z Z.heap ztp zkp .byte (8 : Int32) [(.int (112 : Int32)), (.int (114 : Int32)), (.int (111 : Int32)), (.int (104 : Int32)), (.int (105 : Int32)), (.int (98 : Int32)), (.int (105 : Int32)), (.int (116 : Int32))] (.int 0))
def mx (x y : Int32) : Int32 := if x < y then y else x
def ch8 (x : Int32) : Int32 := (x &&& (255 : Int32)).toUInt32.toUInt16.toUInt32.toInt32
theorem ch8_lat (x : Int32) : ¬ ch8 x < 0 ∧ ¬ (255 : Int32) < ch8 x := by
  have a := c_and x 255 (by decide)
  have e1 : (255 : Int32).toInt = 255 := rfl
  have e0 : (0 : Int32).toInt = 0 := rfl
  have n1 : nar .char (x &&& 255) = x &&& 255 := nar_char (by rw [Int32.lt_iff_toInt_lt]; omega) (by rw [Int32.lt_iff_toInt_lt]; have e2 : (65535 : Int32).toInt = 65535 := rfl; omega)
  have n2 : ch8 x = x &&& 255 := n1
  rw [n2, Int32.lt_iff_toInt_lt, Int32.lt_iff_toInt_lt]; omega
theorem own_mod13 (p : Int32) : ∃ nn : Nat, nn ≤ 12 ∧ (p.toUInt32 >>> ((8 : Int32) &&& 31).toUInt32).toInt32 % (13 : Int32) = Int32.ofNat nn := by
  have s := c_iushr p 8 8 (by decide) (by decide)
  have s' : ((p.toUInt32 >>> ((8 : Int32) &&& 31).toUInt32).toInt32).toInt = (p.toInt % 4294967296) / 256 := s
  have d := (c_irem (p.toUInt32 >>> ((8 : Int32) &&& 31).toUInt32).toInt32 13 13 rfl).1 (by omega)
  refine ⟨(((p.toUInt32 >>> ((8 : Int32) &&& 31).toUInt32).toInt32 % (13 : Int32)).toInt).toNat, by omega, Int32.toInt_inj.mp ?_⟩
  rw [ofN_toInt (by omega)]; omega
theorem own_elem {args : Array Value} {s : State} {t u : Term} {a x : Addr} {cl : Cell} (et : t.eval args s none [] s = some (.ref a)) (hat : s.arrayAt? a = some cl) {i : Nat} (hi : i < 2 ^ 31) (eu : u.eval args s none [] s = some (.ref x)) (h : (Jvm.Cond.eq (.elem t (.int (Int32.ofNat i))) u).value args s none s [] = some true) : cl.slots[i]? = some (.ref x) := by
  obtain ⟨v, w, e1, e2, k1, k2⟩ := cmp_v (Or.inl h)
  cases eu.symm.trans e2
  have hr : v.isRef = true := by cases v <;> simp_all [Kin, Value.isRef]
  have q := gotT (eq_R e1 eu hr rfl) h
  subst q
  have hel := elem_f et (Term.int_eval (Int32.ofNat i)) hat (ofN_nn hi)
  rw [ofN_clamp hi] at hel
  exact hel.symm.trans e1
theorem d_jdk_52_method_21_code_3 : decode jdk_52_method_21_code 3 = .ok (.iload 5, 2) := by decide +kernel
theorem d_jdk_52_method_21_code_5 : decode jdk_52_method_21_code 5 = .ok (.iload 4, 2) := by decide +kernel
theorem d_jdk_52_method_21_code_7 : decode jdk_52_method_21_code 7 = .ok (.if_icmp .ge 37, 3) := by decide +kernel
theorem d_jdk_52_method_21_code_44 : decode jdk_52_method_21_code 44 = .ok (.iload 4, 2) := by decide +kernel
theorem d_jdk_52_method_21_code_46 : decode jdk_52_method_21_code 46 = .ok (.ireturn, 1) := by decide +kernel
theorem d_jdk_52_method_21_code_10 : decode jdk_52_method_21_code 10 = .ok (.aload_n 0, 1) := by decide +kernel
theorem d_jdk_52_method_21_code_11 : decode jdk_52_method_21_code 11 = .ok (.iload_n 1, 1) := by decide +kernel
theorem d_jdk_52_method_21_code_12 : decode jdk_52_method_21_code 12 = .ok (.caload, 1) := by decide +kernel
theorem d_jdk_52_method_21_code_13 : decode jdk_52_method_21_code 13 = .ok (.istore 6, 2) := by decide +kernel
theorem d_jdk_52_method_21_code_15 : decode jdk_52_method_21_code 15 = .ok (.iload 6, 2) := by decide +kernel
theorem d_jdk_52_method_21_code_17 : decode jdk_52_method_21_code 17 = .ok (.sipush 255, 3) := by decide +kernel
theorem d_jdk_52_method_21_code_20 : decode jdk_52_method_21_code 20 = .ok (.if_icmp .le 6, 3) := by decide +kernel
theorem d_jdk_52_method_21_code_26 : decode jdk_52_method_21_code 26 = .ok (.aload_n 2, 1) := by decide +kernel
theorem d_jdk_52_method_21_code_27 : decode jdk_52_method_21_code 27 = .ok (.iload_n 3, 1) := by decide +kernel
theorem d_jdk_52_method_21_code_28 : decode jdk_52_method_21_code 28 = .ok (.iload 6, 2) := by decide +kernel
theorem d_jdk_52_method_21_code_30 : decode jdk_52_method_21_code 30 = .ok (.i2b, 1) := by decide +kernel
theorem d_jdk_52_method_21_code_31 : decode jdk_52_method_21_code 31 = .ok (.bastore, 1) := by decide +kernel
theorem d_jdk_52_method_21_code_32 : decode jdk_52_method_21_code 32 = .ok (.iinc 1 1, 3) := by decide +kernel
theorem d_jdk_52_method_21_code_35 : decode jdk_52_method_21_code 35 = .ok (.iinc 3 1, 3) := by decide +kernel
theorem d_jdk_52_method_21_code_38 : decode jdk_52_method_21_code 38 = .ok (.iinc 5 1, 3) := by decide +kernel
theorem d_jdk_52_method_21_code_41 : decode jdk_52_method_21_code 41 = .ok (.goto (-38), 3) := by decide +kernel
theorem d_jdk_52_method_21_code_0 : decode jdk_52_method_21_code 0 = .ok (.iconst 0, 1) := by decide +kernel
theorem d_jdk_52_method_21_code_1 : decode jdk_52_method_21_code 1 = .ok (.istore 5, 2) := by decide +kernel
theorem pl_0 : plainFor (⟨"java/lang/StringUTF16", "compress", "([CI[BII)I"⟩ : MethodName) = true := by first | exact plainFor_of_name (by first | (simp [plainName, overriddenIn]; done) | decide +kernel) | decide +kernel
theorem d_jdk_52_method_16_code_0 : decode jdk_52_method_16_code 0 = .ok (.iload_n 2, 1) := by decide +kernel
theorem d_jdk_52_method_16_code_1 : decode jdk_52_method_16_code 1 = .ok (.newarray .byte, 2) := by decide +kernel
theorem w3 {Z : State} {a0 : Array Value} (hw : ∀ d ∈ tables_1, d.before a0 Z = true) : (Jvm.Cond.arrayClass Jvm.ClassFile.FieldType.byte).before a0 Z = true := hw _ (List.mem_of_getElem? (i := 3) rfl)
theorem d_jdk_52_method_16_code_3 : decode jdk_52_method_16_code 3 = .ok (.astore_n 3, 1) := by decide +kernel
theorem d_jdk_52_method_16_code_4 : decode jdk_52_method_16_code 4 = .ok (.aload_n 0, 1) := by decide +kernel
theorem d_jdk_52_method_16_code_5 : decode jdk_52_method_16_code 5 = .ok (.iload_n 1, 1) := by decide +kernel
theorem d_jdk_52_method_16_code_6 : decode jdk_52_method_16_code 6 = .ok (.aload_n 3, 1) := by decide +kernel
theorem d_jdk_52_method_16_code_7 : decode jdk_52_method_16_code 7 = .ok (.iconst 0, 1) := by decide +kernel
theorem d_jdk_52_method_16_code_8 : decode jdk_52_method_16_code 8 = .ok (.iload_n 2, 1) := by decide +kernel
theorem d_jdk_52_method_16_code_9 : decode jdk_52_method_16_code 9 = .ok (.invokestatic 115, 3) := by decide +kernel
theorem w114 {Z : State} {a0 : Array Value} (hw : ∀ d ∈ tables_1, d.before a0 Z = true) : (Jvm.Cond.methodLink "java/lang/StringUTF16" (115 : Nat) ({ cls := "java/lang/StringUTF16", name := "compress", desc := "([CI[BII)I" } : Jvm.MethodName)).before a0 Z = true := hw _ (List.mem_of_getElem? (i := 114) rfl)
theorem w116 {Z : State} {a0 : Array Value} (hw : ∀ d ∈ tables_1, d.before a0 Z = true) : (Jvm.Cond.code ({ cls := "java/lang/StringUTF16", name := "compress", desc := "([CI[BII)I" } : Jvm.MethodName) jdk_52_method_21_code (7 : Nat) (Option.some Jvm.ClassFile.FieldType.int)).before a0 Z = true := hw _ (List.mem_of_getElem? (i := 116) rfl)
theorem w112 {Z : State} {a0 : Array Value} (hw : ∀ d ∈ tables_1, d.before a0 Z = true) : (Jvm.Cond.initialized "java/lang/StringUTF16").before a0 Z = true := hw _ (List.mem_of_getElem? (i := 112) rfl)
theorem w115 {Z : State} {a0 : Array Value} (hw : ∀ d ∈ tables_1, d.before a0 Z = true) : (Jvm.Cond.static ({ cls := "java/lang/StringUTF16", name := "compress", desc := "([CI[BII)I" } : Jvm.MethodName)).before a0 Z = true := hw _ (List.mem_of_getElem? (i := 115) rfl)
theorem pd_0 : parseMethodDescriptor "([CI[BII)I" = some ⟨[(.array .char), .int, (.array .byte), .int, .int], some .int⟩ := by decide +kernel
theorem d_jdk_52_method_16_code_12 : decode jdk_52_method_16_code 12 = .ok (.istore 4, 2) := by decide +kernel
theorem d_jdk_52_method_16_code_14 : decode jdk_52_method_16_code 14 = .ok (.iload 4, 2) := by decide +kernel
theorem d_jdk_52_method_16_code_16 : decode jdk_52_method_16_code 16 = .ok (.iload_n 2, 1) := by decide +kernel
theorem d_jdk_52_method_16_code_17 : decode jdk_52_method_16_code 17 = .ok (.if_icmp .eq 40, 3) := by decide +kernel
theorem d_jdk_52_method_16_code_57 : decode jdk_52_method_16_code 57 = .ok (.aload_n 3, 1) := by decide +kernel
theorem d_jdk_52_method_16_code_58 : decode jdk_52_method_16_code 58 = .ok (.areturn, 1) := by decide +kernel
theorem pl_1 : plainFor (⟨"java/lang/StringUTF16", "compress", "([CII)[B"⟩ : MethodName) = true := by first | exact plainFor_of_name (by first | (simp [plainName, overriddenIn]; done) | decide +kernel) | decide +kernel
theorem d_jdk_52_method_15_code_0 : decode jdk_52_method_15_code 0 = .ok (.iload_n 1, 1) := by decide +kernel
theorem d_jdk_52_method_15_code_1 : decode jdk_52_method_15_code 1 = .ok (.aload_n 0, 1) := by decide +kernel
theorem d_jdk_52_method_15_code_2 : decode jdk_52_method_15_code 2 = .ok (.arraylength, 1) := by decide +kernel
theorem d_jdk_52_method_15_code_3 : decode jdk_52_method_15_code 3 = .ok (.isub, 1) := by decide +kernel
theorem d_jdk_52_method_15_code_4 : decode jdk_52_method_15_code 4 = .ok (.bipush 31, 2) := by decide +kernel
theorem d_jdk_52_method_15_code_6 : decode jdk_52_method_15_code 6 = .ok (.iushr, 1) := by decide +kernel
theorem d_jdk_52_method_15_code_7 : decode jdk_52_method_15_code 7 = .ok (.i2b, 1) := by decide +kernel
theorem d_jdk_52_method_15_code_8 : decode jdk_52_method_15_code 8 = .ok (.ireturn, 1) := by decide +kernel
theorem pl_2 : plainFor (⟨"java/lang/StringUTF16", "coderFromArrayLen", "([BI)B"⟩ : MethodName) = true := by first | exact plainFor_of_name (by first | (simp [plainName, overriddenIn]; done) | decide +kernel) | decide +kernel
theorem d_jdk_42_method_149_code_0 : decode jdk_42_method_149_code 0 = .ok (.aload_n 0, 1) := by decide +kernel
theorem d_jdk_42_method_149_code_1 : decode jdk_42_method_149_code 1 = .ok (.invokespecial 1, 3) := by decide +kernel
theorem w31 {Z : State} {a0 : Array Value} (hw : ∀ d ∈ tables_1, d.before a0 Z = true) : (Jvm.Cond.methodLink "java/lang/String" (1 : Nat) ({ cls := "java/lang/Object", name := "<init>", desc := "()V" } : Jvm.MethodName)).before a0 Z = true := hw _ (List.mem_of_getElem? (i := 31) rfl)
theorem w32 {Z : State} {a0 : Array Value} (hw : ∀ d ∈ tables_1, d.before a0 Z = true) : (Jvm.Cond.instanceMethod ({ cls := "java/lang/Object", name := "<init>", desc := "()V" } : Jvm.MethodName)).before a0 Z = true := hw _ (List.mem_of_getElem? (i := 32) rfl)
theorem w33 {Z : State} {a0 : Array Value} (hw : ∀ d ∈ tables_1, d.before a0 Z = true) : (Jvm.Cond.code ({ cls := "java/lang/Object", name := "<init>", desc := "()V" } : Jvm.MethodName) object_method_1_code (1 : Nat) (Option.none : Option Jvm.ClassFile.FieldType)).before a0 Z = true := hw _ (List.mem_of_getElem? (i := 33) rfl)
theorem d_jdk_42_method_149_code_4 : decode jdk_42_method_149_code 4 = .ok (.iload_n 3, 1) := by decide +kernel
theorem d_jdk_42_method_149_code_5 : decode jdk_42_method_149_code 5 = .ok (.ifCond .ne 22, 3) := by decide +kernel
theorem d_jdk_42_method_149_code_8 : decode jdk_42_method_149_code 8 = .ok (.aload_n 0, 1) := by decide +kernel
theorem d_jdk_42_method_149_code_9 : decode jdk_42_method_149_code 9 = .ok (.ldc 7, 2) := by decide +kernel
theorem w34 {Z : State} {a0 : Array Value} (hw : ∀ d ∈ tables_1, d.before a0 Z = true) : (Jvm.Cond.stringLink "java/lang/String" (7 : Nat) "").before a0 Z = true := hw _ (List.mem_of_getElem? (i := 34) rfl)
theorem d_jdk_42_method_149_code_11 : decode jdk_42_method_149_code 11 = .ok (.getfield 9, 3) := by decide +kernel
theorem w13 {Z : State} {a0 : Array Value} (hw : ∀ d ∈ tables_1, d.before a0 Z = true) : (Jvm.Cond.fieldLink "java/lang/String" (9 : Nat) "java/lang/String" "value" "[B").before a0 Z = true := hw _ (List.mem_of_getElem? (i := 13) rfl)
theorem d_jdk_42_method_149_code_14 : decode jdk_42_method_149_code 14 = .ok (.putfield 9, 3) := by decide +kernel
theorem w4 {Z : State} {a0 : Array Value} (hw : ∀ d ∈ tables_1, d.before a0 Z = true) : (Jvm.Cond.laysFinal "java/lang/String" "java/lang/String" "value" "[B").before a0 Z = true := hw _ (List.mem_of_getElem? (i := 4) rfl)
theorem w2 {Z : State} {a0 : Array Value} (hw : ∀ d ∈ tables_1, d.before a0 Z = true) : (Jvm.Cond.instantiable "java/lang/String" (4 : Nat)).before a0 Z = true := hw _ (List.mem_of_getElem? (i := 2) rfl)
theorem pf__B : parseFieldDescriptor "[B" = some (.array .byte) := by decide +kernel
theorem d_jdk_42_method_149_code_17 : decode jdk_42_method_149_code 17 = .ok (.aload_n 0, 1) := by decide +kernel
theorem d_jdk_42_method_149_code_18 : decode jdk_42_method_149_code 18 = .ok (.ldc 7, 2) := by decide +kernel
theorem d_jdk_42_method_149_code_20 : decode jdk_42_method_149_code 20 = .ok (.getfield 15, 3) := by decide +kernel
theorem w20 {Z : State} {a0 : Array Value} (hw : ∀ d ∈ tables_1, d.before a0 Z = true) : (Jvm.Cond.fieldLink "java/lang/String" (15 : Nat) "java/lang/String" "coder" "B").before a0 Z = true := hw _ (List.mem_of_getElem? (i := 20) rfl)
theorem d_jdk_42_method_149_code_23 : decode jdk_42_method_149_code 23 = .ok (.putfield 15, 3) := by decide +kernel
theorem w5 {Z : State} {a0 : Array Value} (hw : ∀ d ∈ tables_1, d.before a0 Z = true) : (Jvm.Cond.laysFinal "java/lang/String" "java/lang/String" "coder" "B").before a0 Z = true := hw _ (List.mem_of_getElem? (i := 5) rfl)
theorem pf_B : parseFieldDescriptor "B" = some .byte := by decide +kernel
theorem d_jdk_42_method_149_code_26 : decode jdk_42_method_149_code 26 = .ok (.return_, 1) := by decide +kernel
theorem pl_3 : plainFor (⟨"java/lang/String", "<init>", "([CIILjava/lang/Void;)V"⟩ : MethodName) = true := by first | exact plainFor_of_name (by first | (simp [plainName, overriddenIn]; done) | decide +kernel) | decide +kernel
theorem d_jdk_42_method_149_code_27 : decode jdk_42_method_149_code 27 = .ok (.getstatic 38, 3) := by decide +kernel
theorem w19 {Z : State} {a0 : Array Value} (hw : ∀ d ∈ tables_1, d.before a0 Z = true) : (Jvm.Cond.fieldLink "java/lang/String" (38 : Nat) "java/lang/String" "COMPACT_STRINGS" "Z").before a0 Z = true := hw _ (List.mem_of_getElem? (i := 19) rfl)
theorem d_jdk_42_method_149_code_30 : decode jdk_42_method_149_code 30 = .ok (.ifCond .eq 28, 3) := by decide +kernel
theorem d_jdk_42_method_149_code_33 : decode jdk_42_method_149_code 33 = .ok (.aload_n 1, 1) := by decide +kernel
theorem d_jdk_42_method_149_code_34 : decode jdk_42_method_149_code 34 = .ok (.iload_n 2, 1) := by decide +kernel
theorem d_jdk_42_method_149_code_35 : decode jdk_42_method_149_code 35 = .ok (.iload_n 3, 1) := by decide +kernel
theorem d_jdk_42_method_149_code_36 : decode jdk_42_method_149_code 36 = .ok (.invokestatic 177, 3) := by decide +kernel
theorem w110 {Z : State} {a0 : Array Value} (hw : ∀ d ∈ tables_1, d.before a0 Z = true) : (Jvm.Cond.methodLink "java/lang/String" (177 : Nat) ({ cls := "java/lang/StringUTF16", name := "compress", desc := "([CII)[B" } : Jvm.MethodName)).before a0 Z = true := hw _ (List.mem_of_getElem? (i := 110) rfl)
theorem w113 {Z : State} {a0 : Array Value} (hw : ∀ d ∈ tables_1, d.before a0 Z = true) : (Jvm.Cond.code ({ cls := "java/lang/StringUTF16", name := "compress", desc := "([CII)[B" } : Jvm.MethodName) jdk_52_method_16_code (6 : Nat) (Option.some (Jvm.ClassFile.FieldType.array Jvm.ClassFile.FieldType.byte))).before a0 Z = true := hw _ (List.mem_of_getElem? (i := 113) rfl)
theorem w111 {Z : State} {a0 : Array Value} (hw : ∀ d ∈ tables_1, d.before a0 Z = true) : (Jvm.Cond.static ({ cls := "java/lang/StringUTF16", name := "compress", desc := "([CII)[B" } : Jvm.MethodName)).before a0 Z = true := hw _ (List.mem_of_getElem? (i := 111) rfl)
theorem pd_1 : parseMethodDescriptor "([CII)[B" = some ⟨[(.array .char), .int, .int], some (.array .byte)⟩ := by decide +kernel
theorem d_jdk_42_method_149_code_39 : decode jdk_42_method_149_code 39 = .ok (.astore 5, 2) := by decide +kernel
theorem d_jdk_42_method_149_code_41 : decode jdk_42_method_149_code 41 = .ok (.aload_n 0, 1) := by decide +kernel
theorem d_jdk_42_method_149_code_42 : decode jdk_42_method_149_code 42 = .ok (.aload 5, 2) := by decide +kernel
theorem d_jdk_42_method_149_code_44 : decode jdk_42_method_149_code 44 = .ok (.iload_n 3, 1) := by decide +kernel
theorem d_jdk_42_method_149_code_45 : decode jdk_42_method_149_code 45 = .ok (.invokestatic 47, 3) := by decide +kernel
theorem w117 {Z : State} {a0 : Array Value} (hw : ∀ d ∈ tables_1, d.before a0 Z = true) : (Jvm.Cond.methodLink "java/lang/String" (47 : Nat) ({ cls := "java/lang/StringUTF16", name := "coderFromArrayLen", desc := "([BI)B" } : Jvm.MethodName)).before a0 Z = true := hw _ (List.mem_of_getElem? (i := 117) rfl)
theorem w119 {Z : State} {a0 : Array Value} (hw : ∀ d ∈ tables_1, d.before a0 Z = true) : (Jvm.Cond.code ({ cls := "java/lang/StringUTF16", name := "coderFromArrayLen", desc := "([BI)B" } : Jvm.MethodName) jdk_52_method_15_code (2 : Nat) (Option.some Jvm.ClassFile.FieldType.byte)).before a0 Z = true := hw _ (List.mem_of_getElem? (i := 119) rfl)
theorem w118 {Z : State} {a0 : Array Value} (hw : ∀ d ∈ tables_1, d.before a0 Z = true) : (Jvm.Cond.static ({ cls := "java/lang/StringUTF16", name := "coderFromArrayLen", desc := "([BI)B" } : Jvm.MethodName)).before a0 Z = true := hw _ (List.mem_of_getElem? (i := 118) rfl)
theorem pd_2 : parseMethodDescriptor "([BI)B" = some ⟨[(.array .byte), .int], some .byte⟩ := by decide +kernel
theorem d_jdk_42_method_149_code_48 : decode jdk_42_method_149_code 48 = .ok (.putfield 15, 3) := by decide +kernel
theorem d_jdk_42_method_149_code_51 : decode jdk_42_method_149_code 51 = .ok (.aload_n 0, 1) := by decide +kernel
theorem d_jdk_42_method_149_code_52 : decode jdk_42_method_149_code 52 = .ok (.aload 5, 2) := by decide +kernel
theorem d_jdk_42_method_149_code_54 : decode jdk_42_method_149_code 54 = .ok (.putfield 9, 3) := by decide +kernel
theorem d_jdk_42_method_149_code_57 : decode jdk_42_method_149_code 57 = .ok (.return_, 1) := by decide +kernel
theorem d_jdk_42_method_3_code_0 : decode jdk_42_method_3_code 0 = .ok (.aload_n 0, 1) := by decide +kernel
theorem d_jdk_42_method_3_code_1 : decode jdk_42_method_3_code 1 = .ok (.aload_n 1, 1) := by decide +kernel
theorem d_jdk_42_method_3_code_2 : decode jdk_42_method_3_code 2 = .ok (.iconst 0, 1) := by decide +kernel
theorem d_jdk_42_method_3_code_3 : decode jdk_42_method_3_code 3 = .ok (.aload_n 1, 1) := by decide +kernel
theorem d_jdk_42_method_3_code_4 : decode jdk_42_method_3_code 4 = .ok (.arraylength, 1) := by decide +kernel
theorem d_jdk_42_method_3_code_5 : decode jdk_42_method_3_code 5 = .ok (.aconst_null, 1) := by decide +kernel
theorem d_jdk_42_method_3_code_6 : decode jdk_42_method_3_code 6 = .ok (.invokespecial 27, 3) := by decide +kernel
theorem w27 {Z : State} {a0 : Array Value} (hw : ∀ d ∈ tables_1, d.before a0 Z = true) : (Jvm.Cond.methodLink "java/lang/String" (27 : Nat) ({ cls := "java/lang/String", name := "<init>", desc := "([CIILjava/lang/Void;)V" } : Jvm.MethodName)).before a0 Z = true := hw _ (List.mem_of_getElem? (i := 27) rfl)
theorem w30 {Z : State} {a0 : Array Value} (hw : ∀ d ∈ tables_1, d.before a0 Z = true) : (Jvm.Cond.code ({ cls := "java/lang/String", name := "<init>", desc := "([CIILjava/lang/Void;)V" } : Jvm.MethodName) jdk_42_method_149_code (6 : Nat) (Option.none : Option Jvm.ClassFile.FieldType)).before a0 Z = true := hw _ (List.mem_of_getElem? (i := 30) rfl)
theorem w1 {Z : State} {a0 : Array Value} (hw : ∀ d ∈ tables_1, d.before a0 Z = true) : (Jvm.Cond.initialized "java/lang/String").before a0 Z = true := hw _ (List.mem_of_getElem? (i := 1) rfl)
theorem w28 {Z : State} {a0 : Array Value} (hw : ∀ d ∈ tables_1, d.before a0 Z = true) : (Jvm.Cond.instanceMethod ({ cls := "java/lang/String", name := "<init>", desc := "([CIILjava/lang/Void;)V" } : Jvm.MethodName)).before a0 Z = true := hw _ (List.mem_of_getElem? (i := 28) rfl)
theorem pd_3 : parseMethodDescriptor "([CIILjava/lang/Void;)V" = some ⟨[(.array .char), .int, .int, (.object "java/lang/Void")], none⟩ := by decide +kernel
theorem d_jdk_42_method_3_code_9 : decode jdk_42_method_3_code 9 = .ok (.return_, 1) := by decide +kernel
theorem pl_4 : plainFor (⟨"java/lang/String", "<init>", "([C)V"⟩ : MethodName) = true := by first | exact plainFor_of_name (by first | (simp [plainName, overriddenIn]; done) | decide +kernel) | decide +kernel
theorem d_jdk_43_method_13_code_9 : decode jdk_43_method_13_code 9 = .ok (.iload_n 2, 1) := by decide +kernel
theorem d_jdk_43_method_13_code_10 : decode jdk_43_method_13_code 10 = .ok (.aload_n 0, 1) := by decide +kernel
theorem d_jdk_43_method_13_code_11 : decode jdk_43_method_13_code 11 = .ok (.arraylength, 1) := by decide +kernel
theorem d_jdk_43_method_13_code_12 : decode jdk_43_method_13_code 12 = .ok (.if_icmp .ge 20, 3) := by decide +kernel
theorem d_jdk_43_method_13_code_32 : decode jdk_43_method_13_code 32 = .ok (.iconst 1, 1) := by decide +kernel
theorem d_jdk_43_method_13_code_33 : decode jdk_43_method_13_code 33 = .ok (.ireturn, 1) := by decide +kernel
theorem d_jdk_43_method_13_code_15 : decode jdk_43_method_13_code 15 = .ok (.aload_n 0, 1) := by decide +kernel
theorem d_jdk_43_method_13_code_16 : decode jdk_43_method_13_code 16 = .ok (.iload_n 2, 1) := by decide +kernel
theorem d_jdk_43_method_13_code_17 : decode jdk_43_method_13_code 17 = .ok (.baload, 1) := by decide +kernel
theorem d_jdk_43_method_13_code_18 : decode jdk_43_method_13_code 18 = .ok (.aload_n 1, 1) := by decide +kernel
theorem d_jdk_43_method_13_code_19 : decode jdk_43_method_13_code 19 = .ok (.iload_n 2, 1) := by decide +kernel
theorem d_jdk_43_method_13_code_20 : decode jdk_43_method_13_code 20 = .ok (.baload, 1) := by decide +kernel
theorem d_jdk_43_method_13_code_21 : decode jdk_43_method_13_code 21 = .ok (.if_icmp .eq 5, 3) := by decide +kernel
theorem d_jdk_43_method_13_code_26 : decode jdk_43_method_13_code 26 = .ok (.iinc 2 1, 3) := by decide +kernel
theorem d_jdk_43_method_13_code_29 : decode jdk_43_method_13_code 29 = .ok (.goto (-20), 3) := by decide +kernel
theorem d_jdk_43_method_13_code_24 : decode jdk_43_method_13_code 24 = .ok (.iconst 0, 1) := by decide +kernel
theorem d_jdk_43_method_13_code_25 : decode jdk_43_method_13_code 25 = .ok (.ireturn, 1) := by decide +kernel
theorem d_jdk_43_method_13_code_0 : decode jdk_43_method_13_code 0 = .ok (.aload_n 0, 1) := by decide +kernel
theorem d_jdk_43_method_13_code_1 : decode jdk_43_method_13_code 1 = .ok (.arraylength, 1) := by decide +kernel
theorem d_jdk_43_method_13_code_2 : decode jdk_43_method_13_code 2 = .ok (.aload_n 1, 1) := by decide +kernel
theorem d_jdk_43_method_13_code_3 : decode jdk_43_method_13_code 3 = .ok (.arraylength, 1) := by decide +kernel
theorem d_jdk_43_method_13_code_4 : decode jdk_43_method_13_code 4 = .ok (.if_icmp .ne 30, 3) := by decide +kernel
theorem d_jdk_43_method_13_code_34 : decode jdk_43_method_13_code 34 = .ok (.iconst 0, 1) := by decide +kernel
theorem d_jdk_43_method_13_code_35 : decode jdk_43_method_13_code 35 = .ok (.ireturn, 1) := by decide +kernel
theorem d_jdk_43_method_13_code_7 : decode jdk_43_method_13_code 7 = .ok (.iconst 0, 1) := by decide +kernel
theorem d_jdk_43_method_13_code_8 : decode jdk_43_method_13_code 8 = .ok (.istore_n 2, 1) := by decide +kernel
theorem pl_5 : plainFor (⟨"java/lang/StringLatin1", "equals", "([B[B)Z"⟩ : MethodName) = true := by first | exact plainFor_of_name (by first | (simp [plainName, overriddenIn]; done) | decide +kernel) | decide +kernel
theorem d_jdk_42_method_66_code_0 : decode jdk_42_method_66_code 0 = .ok (.aload_n 0, 1) := by decide +kernel
theorem d_jdk_42_method_66_code_1 : decode jdk_42_method_66_code 1 = .ok (.aload_n 1, 1) := by decide +kernel
theorem d_jdk_42_method_66_code_2 : decode jdk_42_method_66_code 2 = .ok (.if_acmp .ne 5, 3) := by decide +kernel
theorem d_jdk_42_method_66_code_7 : decode jdk_42_method_66_code 7 = .ok (.aload_n 1, 1) := by decide +kernel
theorem d_jdk_42_method_66_code_8 : decode jdk_42_method_66_code 8 = .ok (.instanceof 10, 3) := by decide +kernel
theorem w40 {Z : State} {a0 : Array Value} (hw : ∀ d ∈ tables_1, d.before a0 Z = true) : (Jvm.Cond.classLink "java/lang/String" (10 : Nat) "java/lang/String").before a0 Z = true := hw _ (List.mem_of_getElem? (i := 40) rfl)
theorem w29 {Z : State} {a0 : Array Value} (hw : ∀ d ∈ tables_1, d.before a0 Z = true) : (Jvm.Cond.castable "java/lang/String" "java/lang/String").before a0 Z = true := hw _ (List.mem_of_getElem? (i := 29) rfl)
theorem d_jdk_42_method_66_code_11 : decode jdk_42_method_66_code 11 = .ok (.ifCond .eq 43, 3) := by decide +kernel
theorem d_jdk_42_method_66_code_14 : decode jdk_42_method_66_code 14 = .ok (.aload_n 1, 1) := by decide +kernel
theorem d_jdk_42_method_66_code_15 : decode jdk_42_method_66_code 15 = .ok (.checkcast 10, 3) := by decide +kernel
theorem d_jdk_42_method_66_code_18 : decode jdk_42_method_66_code 18 = .ok (.astore_n 2, 1) := by decide +kernel
theorem d_jdk_42_method_66_code_19 : decode jdk_42_method_66_code 19 = .ok (.getstatic 38, 3) := by decide +kernel
theorem d_jdk_42_method_66_code_22 : decode jdk_42_method_66_code 22 = .ok (.ifCond .eq 14, 3) := by decide +kernel
theorem d_jdk_42_method_66_code_25 : decode jdk_42_method_66_code 25 = .ok (.aload_n 0, 1) := by decide +kernel
theorem d_jdk_42_method_66_code_26 : decode jdk_42_method_66_code 26 = .ok (.getfield 15, 3) := by decide +kernel
theorem d_jdk_42_method_66_code_29 : decode jdk_42_method_66_code 29 = .ok (.aload_n 2, 1) := by decide +kernel
theorem d_jdk_42_method_66_code_30 : decode jdk_42_method_66_code 30 = .ok (.getfield 15, 3) := by decide +kernel
theorem d_jdk_42_method_66_code_33 : decode jdk_42_method_66_code 33 = .ok (.if_icmp .ne 21, 3) := by decide +kernel
theorem d_jdk_42_method_66_code_36 : decode jdk_42_method_66_code 36 = .ok (.aload_n 0, 1) := by decide +kernel
theorem d_jdk_42_method_66_code_37 : decode jdk_42_method_66_code 37 = .ok (.getfield 9, 3) := by decide +kernel
theorem d_jdk_42_method_66_code_40 : decode jdk_42_method_66_code 40 = .ok (.aload_n 2, 1) := by decide +kernel
theorem d_jdk_42_method_66_code_41 : decode jdk_42_method_66_code 41 = .ok (.getfield 9, 3) := by decide +kernel
theorem d_jdk_42_method_66_code_44 : decode jdk_42_method_66_code 44 = .ok (.invokestatic 541, 3) := by decide +kernel
theorem w41 {Z : State} {a0 : Array Value} (hw : ∀ d ∈ tables_1, d.before a0 Z = true) : (Jvm.Cond.methodLink "java/lang/String" (541 : Nat) ({ cls := "java/lang/StringLatin1", name := "equals", desc := "([B[B)Z" } : Jvm.MethodName)).before a0 Z = true := hw _ (List.mem_of_getElem? (i := 41) rfl)
theorem w44 {Z : State} {a0 : Array Value} (hw : ∀ d ∈ tables_1, d.before a0 Z = true) : (Jvm.Cond.code ({ cls := "java/lang/StringLatin1", name := "equals", desc := "([B[B)Z" } : Jvm.MethodName) jdk_43_method_13_code (3 : Nat) (Option.some Jvm.ClassFile.FieldType.boolean)).before a0 Z = true := hw _ (List.mem_of_getElem? (i := 44) rfl)
theorem w43 {Z : State} {a0 : Array Value} (hw : ∀ d ∈ tables_1, d.before a0 Z = true) : (Jvm.Cond.initialized "java/lang/StringLatin1").before a0 Z = true := hw _ (List.mem_of_getElem? (i := 43) rfl)
theorem w42 {Z : State} {a0 : Array Value} (hw : ∀ d ∈ tables_1, d.before a0 Z = true) : (Jvm.Cond.static ({ cls := "java/lang/StringLatin1", name := "equals", desc := "([B[B)Z" } : Jvm.MethodName)).before a0 Z = true := hw _ (List.mem_of_getElem? (i := 42) rfl)
theorem pd_4 : parseMethodDescriptor "([B[B)Z" = some ⟨[(.array .byte), (.array .byte)], some .boolean⟩ := by decide +kernel
theorem d_jdk_42_method_66_code_47 : decode jdk_42_method_66_code 47 = .ok (.ifCond .eq 7, 3) := by decide +kernel
theorem d_jdk_42_method_66_code_54 : decode jdk_42_method_66_code 54 = .ok (.iconst 0, 1) := by decide +kernel
theorem d_jdk_42_method_66_code_55 : decode jdk_42_method_66_code 55 = .ok (.ireturn, 1) := by decide +kernel
theorem d_jdk_42_method_66_code_50 : decode jdk_42_method_66_code 50 = .ok (.iconst 1, 1) := by decide +kernel
theorem d_jdk_42_method_66_code_51 : decode jdk_42_method_66_code 51 = .ok (.goto 4, 3) := by decide +kernel
theorem pl_6 : plainFor (⟨"java/lang/String", "equals", "(Ljava/lang/Object;)Z"⟩ : MethodName) = true := by first | exact plainFor_of_name (by first | (simp [plainName, overriddenIn]; done) | decide +kernel) | decide +kernel
theorem d_jdk_42_method_152_code_0 : decode jdk_42_method_152_code 0 = .ok (.getstatic 38, 3) := by decide +kernel
theorem d_jdk_42_method_152_code_3 : decode jdk_42_method_152_code 3 = .ok (.ifCond .eq 10, 3) := by decide +kernel
theorem d_jdk_42_method_152_code_6 : decode jdk_42_method_152_code 6 = .ok (.aload_n 0, 1) := by decide +kernel
theorem d_jdk_42_method_152_code_7 : decode jdk_42_method_152_code 7 = .ok (.getfield 15, 3) := by decide +kernel
theorem d_jdk_42_method_152_code_10 : decode jdk_42_method_152_code 10 = .ok (.goto 4, 3) := by decide +kernel
theorem d_jdk_42_method_152_code_14 : decode jdk_42_method_152_code 14 = .ok (.ireturn, 1) := by decide +kernel
theorem pl_7 : plainFor (⟨"java/lang/String", "coder", "()B"⟩ : MethodName) = true := by first | exact plainFor_of_name (by first | (simp [plainName, overriddenIn]; done) | decide +kernel) | decide +kernel
theorem d_jdk_42_method_154_code_0 : decode jdk_42_method_154_code 0 = .ok (.getstatic 38, 3) := by decide +kernel
theorem d_jdk_42_method_154_code_3 : decode jdk_42_method_154_code 3 = .ok (.ifCond .eq 14, 3) := by decide +kernel
theorem d_jdk_42_method_154_code_6 : decode jdk_42_method_154_code 6 = .ok (.aload_n 0, 1) := by decide +kernel
theorem d_jdk_42_method_154_code_7 : decode jdk_42_method_154_code 7 = .ok (.getfield 15, 3) := by decide +kernel
theorem d_jdk_42_method_154_code_10 : decode jdk_42_method_154_code 10 = .ok (.ifCond .ne 7, 3) := by decide +kernel
theorem d_jdk_42_method_154_code_13 : decode jdk_42_method_154_code 13 = .ok (.iconst 1, 1) := by decide +kernel
theorem d_jdk_42_method_154_code_14 : decode jdk_42_method_154_code 14 = .ok (.goto 4, 3) := by decide +kernel
theorem d_jdk_42_method_154_code_18 : decode jdk_42_method_154_code 18 = .ok (.ireturn, 1) := by decide +kernel
theorem pl_8 : plainFor (⟨"java/lang/String", "isLatin1", "()Z"⟩ : MethodName) = true := by first | exact plainFor_of_name (by first | (simp [plainName, overriddenIn]; done) | decide +kernel) | decide +kernel
theorem d_jdk_42_method_54_code_0 : decode jdk_42_method_54_code 0 = .ok (.aload_n 0, 1) := by decide +kernel
theorem d_jdk_42_method_54_code_1 : decode jdk_42_method_54_code 1 = .ok (.getfield 9, 3) := by decide +kernel
theorem d_jdk_42_method_54_code_4 : decode jdk_42_method_54_code 4 = .ok (.arraylength, 1) := by decide +kernel
theorem d_jdk_42_method_54_code_5 : decode jdk_42_method_54_code 5 = .ok (.aload_n 0, 1) := by decide +kernel
theorem d_jdk_42_method_54_code_6 : decode jdk_42_method_54_code 6 = .ok (.invokevirtual 335, 3) := by decide +kernel
theorem w14 {Z : State} {a0 : Array Value} (hw : ∀ d ∈ tables_1, d.before a0 Z = true) : (Jvm.Cond.methodLink "java/lang/String" (335 : Nat) ({ cls := "java/lang/String", name := "coder", desc := "()B" } : Jvm.MethodName)).before a0 Z = true := hw _ (List.mem_of_getElem? (i := 14) rfl)
theorem w18 {Z : State} {a0 : Array Value} (hw : ∀ d ∈ tables_1, d.before a0 Z = true) : (Jvm.Cond.code ({ cls := "java/lang/String", name := "coder", desc := "()B" } : Jvm.MethodName) jdk_42_method_152_code (1 : Nat) (Option.some Jvm.ClassFile.FieldType.byte)).before a0 Z = true := hw _ (List.mem_of_getElem? (i := 18) rfl)
theorem w17 {Z : State} {a0 : Array Value} (hw : ∀ d ∈ tables_1, d.before a0 Z = true) : (Jvm.Cond.selects "java/lang/String" ({ cls := "java/lang/String", name := "coder", desc := "()B" } : Jvm.MethodName) ({ cls := "java/lang/String", name := "coder", desc := "()B" } : Jvm.MethodName)).before a0 Z = true := hw _ (List.mem_of_getElem? (i := 17) rfl)
theorem w15 {Z : State} {a0 : Array Value} (hw : ∀ d ∈ tables_1, d.before a0 Z = true) : (Jvm.Cond.declares ({ cls := "java/lang/String", name := "coder", desc := "()B" } : Jvm.MethodName)).before a0 Z = true := hw _ (List.mem_of_getElem? (i := 15) rfl)
theorem w16 {Z : State} {a0 : Array Value} (hw : ∀ d ∈ tables_1, d.before a0 Z = true) : (Jvm.Cond.instanceMethod ({ cls := "java/lang/String", name := "coder", desc := "()B" } : Jvm.MethodName)).before a0 Z = true := hw _ (List.mem_of_getElem? (i := 16) rfl)
theorem pd_5 : parseMethodDescriptor "()B" = some ⟨[], some .byte⟩ := by decide +kernel
theorem d_jdk_42_method_54_code_9 : decode jdk_42_method_54_code 9 = .ok (.ishr, 1) := by decide +kernel
theorem d_jdk_42_method_54_code_10 : decode jdk_42_method_54_code 10 = .ok (.ireturn, 1) := by decide +kernel
theorem pl_9 : plainFor (⟨"java/lang/String", "length", "()I"⟩ : MethodName) = true := by first | exact plainFor_of_name (by first | (simp [plainName, overriddenIn]; done) | decide +kernel) | decide +kernel
theorem d_jdk_41_method_11_code_0 : decode jdk_41_method_11_code 0 = .ok (.iload_n 0, 1) := by decide +kernel
theorem d_jdk_41_method_11_code_1 : decode jdk_41_method_11_code 1 = .ok (.ifCond .lt 8, 3) := by decide +kernel
theorem d_jdk_41_method_11_code_4 : decode jdk_41_method_11_code 4 = .ok (.iload_n 0, 1) := by decide +kernel
theorem d_jdk_41_method_11_code_5 : decode jdk_41_method_11_code 5 = .ok (.iload_n 1, 1) := by decide +kernel
theorem d_jdk_41_method_11_code_6 : decode jdk_41_method_11_code 6 = .ok (.if_icmp .lt 10, 3) := by decide +kernel
theorem d_jdk_41_method_11_code_16 : decode jdk_41_method_11_code 16 = .ok (.iload_n 0, 1) := by decide +kernel
theorem d_jdk_41_method_11_code_17 : decode jdk_41_method_11_code 17 = .ok (.ireturn, 1) := by decide +kernel
theorem pl_10 : plainFor (⟨"jdk/internal/util/Preconditions", "checkIndex", "(IILjava/util/function/BiFunction;)I"⟩ : MethodName) = true := by first | exact plainFor_of_name (by first | (simp [plainName, overriddenIn]; done) | decide +kernel) | decide +kernel
theorem d_jdk_42_method_155_code_0 : decode jdk_42_method_155_code 0 = .ok (.iload_n 0, 1) := by decide +kernel
theorem d_jdk_42_method_155_code_1 : decode jdk_42_method_155_code 1 = .ok (.iload_n 1, 1) := by decide +kernel
theorem d_jdk_42_method_155_code_2 : decode jdk_42_method_155_code 2 = .ok (.getstatic 1053, 3) := by decide +kernel
theorem w105 {Z : State} {a0 : Array Value} (hw : ∀ d ∈ tables_1, d.before a0 Z = true) : (Jvm.Cond.fieldLink "java/lang/String" (1053 : Nat) "jdk/internal/util/Preconditions" "SIOOBE_FORMATTER" "Ljava/util/function/BiFunction;").before a0 Z = true := hw _ (List.mem_of_getElem? (i := 105) rfl)
theorem d_jdk_42_method_155_code_5 : decode jdk_42_method_155_code 5 = .ok (.invokestatic 1059, 3) := by decide +kernel
theorem w107 {Z : State} {a0 : Array Value} (hw : ∀ d ∈ tables_1, d.before a0 Z = true) : (Jvm.Cond.methodLink "java/lang/String" (1059 : Nat) ({ cls := "jdk/internal/util/Preconditions", name := "checkIndex", desc := "(IILjava/util/function/BiFunction;)I" } : Jvm.MethodName)).before a0 Z = true := hw _ (List.mem_of_getElem? (i := 107) rfl)
theorem w109 {Z : State} {a0 : Array Value} (hw : ∀ d ∈ tables_1, d.before a0 Z = true) : (Jvm.Cond.code ({ cls := "jdk/internal/util/Preconditions", name := "checkIndex", desc := "(IILjava/util/function/BiFunction;)I" } : Jvm.MethodName) jdk_41_method_11_code (3 : Nat) (Option.some Jvm.ClassFile.FieldType.int)).before a0 Z = true := hw _ (List.mem_of_getElem? (i := 109) rfl)
theorem w106 {Z : State} {a0 : Array Value} (hw : ∀ d ∈ tables_1, d.before a0 Z = true) : (Jvm.Cond.initialized "jdk/internal/util/Preconditions").before a0 Z = true := hw _ (List.mem_of_getElem? (i := 106) rfl)
theorem w108 {Z : State} {a0 : Array Value} (hw : ∀ d ∈ tables_1, d.before a0 Z = true) : (Jvm.Cond.static ({ cls := "jdk/internal/util/Preconditions", name := "checkIndex", desc := "(IILjava/util/function/BiFunction;)I" } : Jvm.MethodName)).before a0 Z = true := hw _ (List.mem_of_getElem? (i := 108) rfl)
theorem pd_6 : parseMethodDescriptor "(IILjava/util/function/BiFunction;)I" = some ⟨[.int, .int, (.object "java/util/function/BiFunction")], some .int⟩ := by decide +kernel
theorem d_jdk_42_method_155_code_8 : decode jdk_42_method_155_code 8 = .ok (.pop, 1) := by decide +kernel
theorem d_jdk_42_method_155_code_9 : decode jdk_42_method_155_code 9 = .ok (.return_, 1) := by decide +kernel
theorem pl_11 : plainFor (⟨"java/lang/String", "checkIndex", "(II)V"⟩ : MethodName) = true := by first | exact plainFor_of_name (by first | (simp [plainName, overriddenIn]; done) | decide +kernel) | decide +kernel
theorem d_jdk_43_method_2_code_0 : decode jdk_43_method_2_code 0 = .ok (.iload_n 1, 1) := by decide +kernel
theorem d_jdk_43_method_2_code_1 : decode jdk_43_method_2_code 1 = .ok (.aload_n 0, 1) := by decide +kernel
theorem d_jdk_43_method_2_code_2 : decode jdk_43_method_2_code 2 = .ok (.arraylength, 1) := by decide +kernel
theorem d_jdk_43_method_2_code_3 : decode jdk_43_method_2_code 3 = .ok (.invokestatic 9, 3) := by decide +kernel
theorem w102 {Z : State} {a0 : Array Value} (hw : ∀ d ∈ tables_1, d.before a0 Z = true) : (Jvm.Cond.methodLink "java/lang/StringLatin1" (9 : Nat) ({ cls := "java/lang/String", name := "checkIndex", desc := "(II)V" } : Jvm.MethodName)).before a0 Z = true := hw _ (List.mem_of_getElem? (i := 102) rfl)
theorem w104 {Z : State} {a0 : Array Value} (hw : ∀ d ∈ tables_1, d.before a0 Z = true) : (Jvm.Cond.code ({ cls := "java/lang/String", name := "checkIndex", desc := "(II)V" } : Jvm.MethodName) jdk_42_method_155_code (2 : Nat) (Option.none : Option Jvm.ClassFile.FieldType)).before a0 Z = true := hw _ (List.mem_of_getElem? (i := 104) rfl)
theorem w103 {Z : State} {a0 : Array Value} (hw : ∀ d ∈ tables_1, d.before a0 Z = true) : (Jvm.Cond.static ({ cls := "java/lang/String", name := "checkIndex", desc := "(II)V" } : Jvm.MethodName)).before a0 Z = true := hw _ (List.mem_of_getElem? (i := 103) rfl)
theorem pd_7 : parseMethodDescriptor "(II)V" = some ⟨[.int, .int], none⟩ := by decide +kernel
theorem d_jdk_43_method_2_code_6 : decode jdk_43_method_2_code 6 = .ok (.aload_n 0, 1) := by decide +kernel
theorem d_jdk_43_method_2_code_7 : decode jdk_43_method_2_code 7 = .ok (.iload_n 1, 1) := by decide +kernel
theorem d_jdk_43_method_2_code_8 : decode jdk_43_method_2_code 8 = .ok (.baload, 1) := by decide +kernel
theorem d_jdk_43_method_2_code_9 : decode jdk_43_method_2_code 9 = .ok (.sipush 255, 3) := by decide +kernel
theorem d_jdk_43_method_2_code_12 : decode jdk_43_method_2_code 12 = .ok (.iand, 1) := by decide +kernel
theorem d_jdk_43_method_2_code_13 : decode jdk_43_method_2_code 13 = .ok (.i2c, 1) := by decide +kernel
theorem d_jdk_43_method_2_code_14 : decode jdk_43_method_2_code 14 = .ok (.ireturn, 1) := by decide +kernel
theorem pl_12 : plainFor (⟨"java/lang/StringLatin1", "charAt", "([BI)C"⟩ : MethodName) = true := by first | exact plainFor_of_name (by first | (simp [plainName, overriddenIn]; done) | decide +kernel) | decide +kernel
theorem d_jdk_42_method_56_code_0 : decode jdk_42_method_56_code 0 = .ok (.aload_n 0, 1) := by decide +kernel
theorem d_jdk_42_method_56_code_1 : decode jdk_42_method_56_code 1 = .ok (.invokevirtual 492, 3) := by decide +kernel
theorem w94 {Z : State} {a0 : Array Value} (hw : ∀ d ∈ tables_1, d.before a0 Z = true) : (Jvm.Cond.methodLink "java/lang/String" (492 : Nat) ({ cls := "java/lang/String", name := "isLatin1", desc := "()Z" } : Jvm.MethodName)).before a0 Z = true := hw _ (List.mem_of_getElem? (i := 94) rfl)
theorem w98 {Z : State} {a0 : Array Value} (hw : ∀ d ∈ tables_1, d.before a0 Z = true) : (Jvm.Cond.code ({ cls := "java/lang/String", name := "isLatin1", desc := "()Z" } : Jvm.MethodName) jdk_42_method_154_code (1 : Nat) (Option.some Jvm.ClassFile.FieldType.boolean)).before a0 Z = true := hw _ (List.mem_of_getElem? (i := 98) rfl)
theorem w97 {Z : State} {a0 : Array Value} (hw : ∀ d ∈ tables_1, d.before a0 Z = true) : (Jvm.Cond.selects "java/lang/String" ({ cls := "java/lang/String", name := "isLatin1", desc := "()Z" } : Jvm.MethodName) ({ cls := "java/lang/String", name := "isLatin1", desc := "()Z" } : Jvm.MethodName)).before a0 Z = true := hw _ (List.mem_of_getElem? (i := 97) rfl)
theorem w95 {Z : State} {a0 : Array Value} (hw : ∀ d ∈ tables_1, d.before a0 Z = true) : (Jvm.Cond.declares ({ cls := "java/lang/String", name := "isLatin1", desc := "()Z" } : Jvm.MethodName)).before a0 Z = true := hw _ (List.mem_of_getElem? (i := 95) rfl)
theorem w96 {Z : State} {a0 : Array Value} (hw : ∀ d ∈ tables_1, d.before a0 Z = true) : (Jvm.Cond.instanceMethod ({ cls := "java/lang/String", name := "isLatin1", desc := "()Z" } : Jvm.MethodName)).before a0 Z = true := hw _ (List.mem_of_getElem? (i := 96) rfl)
theorem pd_8 : parseMethodDescriptor "()Z" = some ⟨[], some .boolean⟩ := by decide +kernel
theorem d_jdk_42_method_56_code_4 : decode jdk_42_method_56_code 4 = .ok (.ifCond .eq 12, 3) := by decide +kernel
theorem d_jdk_42_method_56_code_7 : decode jdk_42_method_56_code 7 = .ok (.aload_n 0, 1) := by decide +kernel
theorem d_jdk_42_method_56_code_8 : decode jdk_42_method_56_code 8 = .ok (.getfield 9, 3) := by decide +kernel
theorem d_jdk_42_method_56_code_11 : decode jdk_42_method_56_code 11 = .ok (.iload_n 1, 1) := by decide +kernel
theorem d_jdk_42_method_56_code_12 : decode jdk_42_method_56_code 12 = .ok (.invokestatic 495, 3) := by decide +kernel
theorem w99 {Z : State} {a0 : Array Value} (hw : ∀ d ∈ tables_1, d.before a0 Z = true) : (Jvm.Cond.methodLink "java/lang/String" (495 : Nat) ({ cls := "java/lang/StringLatin1", name := "charAt", desc := "([BI)C" } : Jvm.MethodName)).before a0 Z = true := hw _ (List.mem_of_getElem? (i := 99) rfl)
theorem w101 {Z : State} {a0 : Array Value} (hw : ∀ d ∈ tables_1, d.before a0 Z = true) : (Jvm.Cond.code ({ cls := "java/lang/StringLatin1", name := "charAt", desc := "([BI)C" } : Jvm.MethodName) jdk_43_method_2_code (2 : Nat) (Option.some Jvm.ClassFile.FieldType.char)).before a0 Z = true := hw _ (List.mem_of_getElem? (i := 101) rfl)
theorem w100 {Z : State} {a0 : Array Value} (hw : ∀ d ∈ tables_1, d.before a0 Z = true) : (Jvm.Cond.static ({ cls := "java/lang/StringLatin1", name := "charAt", desc := "([BI)C" } : Jvm.MethodName)).before a0 Z = true := hw _ (List.mem_of_getElem? (i := 100) rfl)
theorem pd_9 : parseMethodDescriptor "([BI)C" = some ⟨[(.array .byte), .int], some .char⟩ := by decide +kernel
theorem d_jdk_42_method_56_code_15 : decode jdk_42_method_56_code 15 = .ok (.ireturn, 1) := by decide +kernel
theorem pl_13 : plainFor (⟨"java/lang/String", "charAt", "(I)C"⟩ : MethodName) = true := by first | exact plainFor_of_name (by first | (simp [plainName, overriddenIn]; done) | decide +kernel) | decide +kernel
theorem d_jdk_29_method_65_code_0 : decode jdk_29_method_65_code 0 = .ok (.iload_n 0, 1) := by decide +kernel
theorem d_jdk_29_method_65_code_1 : decode jdk_29_method_65_code 1 = .ok (.iload_n 1, 1) := by decide +kernel
theorem d_jdk_29_method_65_code_2 : decode jdk_29_method_65_code 2 = .ok (.if_icmp .lt 7, 3) := by decide +kernel
theorem d_jdk_29_method_65_code_9 : decode jdk_29_method_65_code 9 = .ok (.iload_n 1, 1) := by decide +kernel
theorem d_jdk_29_method_65_code_10 : decode jdk_29_method_65_code 10 = .ok (.ireturn, 1) := by decide +kernel
theorem d_jdk_29_method_65_code_5 : decode jdk_29_method_65_code 5 = .ok (.iload_n 0, 1) := by decide +kernel
theorem d_jdk_29_method_65_code_6 : decode jdk_29_method_65_code 6 = .ok (.goto 4, 3) := by decide +kernel
theorem pl_14 : plainFor (⟨"java/lang/Math", "max", "(II)I"⟩ : MethodName) = true := by first | exact plainFor_of_name (by first | (simp [plainName, overriddenIn]; done) | decide +kernel) | decide +kernel
theorem d_method_2_code_0 : decode method_2_code 0 = .ok (.iload_n 1, 1) := by decide +kernel
theorem d_method_2_code_1 : decode method_2_code 1 = .ok (.iload_n 2, 1) := by decide +kernel
theorem d_method_2_code_2 : decode method_2_code 2 = .ok (.if_icmp .ne 5, 3) := by decide +kernel
theorem d_method_2_code_7 : decode method_2_code 7 = .ok (.iload_n 1, 1) := by decide +kernel
theorem d_method_2_code_8 : decode method_2_code 8 = .ok (.aload_n 0, 1) := by decide +kernel
theorem d_method_2_code_9 : decode method_2_code 9 = .ok (.invokevirtual 7, 3) := by decide +kernel
theorem w8 {Z : State} {a0 : Array Value} (hw : ∀ d ∈ tables_1, d.before a0 Z = true) : (Jvm.Cond.methodLink "com/example/uni_gate/unigate/policy/IntentFromPolicyNamePinLaw" (7 : Nat) ({ cls := "java/lang/String", name := "length", desc := "()I" } : Jvm.MethodName)).before a0 Z = true := hw _ (List.mem_of_getElem? (i := 8) rfl)
theorem w12 {Z : State} {a0 : Array Value} (hw : ∀ d ∈ tables_1, d.before a0 Z = true) : (Jvm.Cond.code ({ cls := "java/lang/String", name := "length", desc := "()I" } : Jvm.MethodName) jdk_42_method_54_code (1 : Nat) (Option.some Jvm.ClassFile.FieldType.int)).before a0 Z = true := hw _ (List.mem_of_getElem? (i := 12) rfl)
theorem w11 {Z : State} {a0 : Array Value} (hw : ∀ d ∈ tables_1, d.before a0 Z = true) : (Jvm.Cond.selects "java/lang/String" ({ cls := "java/lang/String", name := "length", desc := "()I" } : Jvm.MethodName) ({ cls := "java/lang/String", name := "length", desc := "()I" } : Jvm.MethodName)).before a0 Z = true := hw _ (List.mem_of_getElem? (i := 11) rfl)
theorem w9 {Z : State} {a0 : Array Value} (hw : ∀ d ∈ tables_1, d.before a0 Z = true) : (Jvm.Cond.declares ({ cls := "java/lang/String", name := "length", desc := "()I" } : Jvm.MethodName)).before a0 Z = true := hw _ (List.mem_of_getElem? (i := 9) rfl)
theorem w10 {Z : State} {a0 : Array Value} (hw : ∀ d ∈ tables_1, d.before a0 Z = true) : (Jvm.Cond.instanceMethod ({ cls := "java/lang/String", name := "length", desc := "()I" } : Jvm.MethodName)).before a0 Z = true := hw _ (List.mem_of_getElem? (i := 10) rfl)
theorem pd_10 : parseMethodDescriptor "()I" = some ⟨[], some .int⟩ := by decide +kernel
theorem d_method_2_code_12 : decode method_2_code 12 = .ok (.if_icmp .ge 9, 3) := by decide +kernel
theorem d_method_2_code_21 : decode method_2_code 21 = .ok (.iload 4, 2) := by decide +kernel
theorem d_method_2_code_23 : decode method_2_code 23 = .ok (.ireturn, 1) := by decide +kernel
theorem d_method_2_code_15 : decode method_2_code 15 = .ok (.aload_n 0, 1) := by decide +kernel
theorem d_method_2_code_16 : decode method_2_code 16 = .ok (.iload_n 1, 1) := by decide +kernel
theorem d_method_2_code_17 : decode method_2_code 17 = .ok (.invokevirtual 13, 3) := by decide +kernel
theorem w89 {Z : State} {a0 : Array Value} (hw : ∀ d ∈ tables_1, d.before a0 Z = true) : (Jvm.Cond.methodLink "com/example/uni_gate/unigate/policy/IntentFromPolicyNamePinLaw" (13 : Nat) ({ cls := "java/lang/String", name := "charAt", desc := "(I)C" } : Jvm.MethodName)).before a0 Z = true := hw _ (List.mem_of_getElem? (i := 89) rfl)
theorem w93 {Z : State} {a0 : Array Value} (hw : ∀ d ∈ tables_1, d.before a0 Z = true) : (Jvm.Cond.code ({ cls := "java/lang/String", name := "charAt", desc := "(I)C" } : Jvm.MethodName) jdk_42_method_56_code (2 : Nat) (Option.some Jvm.ClassFile.FieldType.char)).before a0 Z = true := hw _ (List.mem_of_getElem? (i := 93) rfl)
theorem w92 {Z : State} {a0 : Array Value} (hw : ∀ d ∈ tables_1, d.before a0 Z = true) : (Jvm.Cond.selects "java/lang/String" ({ cls := "java/lang/String", name := "charAt", desc := "(I)C" } : Jvm.MethodName) ({ cls := "java/lang/String", name := "charAt", desc := "(I)C" } : Jvm.MethodName)).before a0 Z = true := hw _ (List.mem_of_getElem? (i := 92) rfl)
theorem w90 {Z : State} {a0 : Array Value} (hw : ∀ d ∈ tables_1, d.before a0 Z = true) : (Jvm.Cond.declares ({ cls := "java/lang/String", name := "charAt", desc := "(I)C" } : Jvm.MethodName)).before a0 Z = true := hw _ (List.mem_of_getElem? (i := 90) rfl)
theorem w91 {Z : State} {a0 : Array Value} (hw : ∀ d ∈ tables_1, d.before a0 Z = true) : (Jvm.Cond.instanceMethod ({ cls := "java/lang/String", name := "charAt", desc := "(I)C" } : Jvm.MethodName)).before a0 Z = true := hw _ (List.mem_of_getElem? (i := 91) rfl)
theorem pd_11 : parseMethodDescriptor "(I)C" = some ⟨[.int], some .char⟩ := by decide +kernel
theorem d_method_2_code_20 : decode method_2_code 20 = .ok (.ireturn, 1) := by decide +kernel
theorem d_method_2_code_5 : decode method_2_code 5 = .ok (.iload_n 3, 1) := by decide +kernel
theorem d_method_2_code_6 : decode method_2_code 6 = .ok (.ireturn, 1) := by decide +kernel
theorem pl_15 : plainFor (⟨"com/example/uni_gate/unigate/policy/IntentFromPolicyNamePinLaw", "at", "(Ljava/lang/String;IICC)C"⟩ : MethodName) = true := by first | exact plainFor_of_name (by first | (simp [plainName, overriddenIn]; done) | decide +kernel) | decide +kernel
theorem d_jdk_31_method_10_code_0 : decode jdk_31_method_10_code 0 = .ok (.aload_n 0, 1) := by decide +kernel
theorem d_jdk_31_method_10_code_1 : decode jdk_31_method_10_code 1 = .ok (.ifnonnull 11, 3) := by decide +kernel
theorem d_jdk_31_method_10_code_12 : decode jdk_31_method_10_code 12 = .ok (.aload_n 0, 1) := by decide +kernel
theorem d_jdk_31_method_10_code_13 : decode jdk_31_method_10_code 13 = .ok (.areturn, 1) := by decide +kernel
theorem pl_16 : plainFor (⟨"java/util/Objects", "requireNonNull", "(Ljava/lang/Object;)Ljava/lang/Object;"⟩ : MethodName) = true := by first | exact plainFor_of_name (by first | (simp [plainName, overriddenIn]; done) | decide +kernel) | decide +kernel
theorem d_jdk_32_method_2_code_0 : decode jdk_32_method_2_code 0 = .ok (.aload_n 0, 1) := by decide +kernel
theorem d_jdk_32_method_2_code_1 : decode jdk_32_method_2_code 1 = .ok (.invokespecial 7, 3) := by decide +kernel
theorem w134 {Z : State} {a0 : Array Value} (hw : ∀ d ∈ tables_1, d.before a0 Z = true) : (Jvm.Cond.methodLink "java/util/Optional" (7 : Nat) ({ cls := "java/lang/Object", name := "<init>", desc := "()V" } : Jvm.MethodName)).before a0 Z = true := hw _ (List.mem_of_getElem? (i := 134) rfl)
theorem d_jdk_32_method_2_code_4 : decode jdk_32_method_2_code 4 = .ok (.aload_n 0, 1) := by decide +kernel
theorem d_jdk_32_method_2_code_5 : decode jdk_32_method_2_code 5 = .ok (.aload_n 1, 1) := by decide +kernel
theorem d_jdk_32_method_2_code_6 : decode jdk_32_method_2_code 6 = .ok (.putfield 13, 3) := by decide +kernel
theorem w82 {Z : State} {a0 : Array Value} (hw : ∀ d ∈ tables_1, d.before a0 Z = true) : (Jvm.Cond.fieldLink "java/util/Optional" (13 : Nat) "java/util/Optional" "value" "Ljava/lang/Object;").before a0 Z = true := hw _ (List.mem_of_getElem? (i := 82) rfl)
theorem w83 {Z : State} {a0 : Array Value} (hw : ∀ d ∈ tables_1, d.before a0 Z = true) : (Jvm.Cond.laysFinal "java/util/Optional" "java/util/Optional" "value" "Ljava/lang/Object;").before a0 Z = true := hw _ (List.mem_of_getElem? (i := 83) rfl)
theorem w125 {Z : State} {a0 : Array Value} (hw : ∀ d ∈ tables_1, d.before a0 Z = true) : (Jvm.Cond.instantiable "java/util/Optional" (1 : Nat)).before a0 Z = true := hw _ (List.mem_of_getElem? (i := 125) rfl)
theorem pf_Ljava_lang_Object_ : parseFieldDescriptor "Ljava/lang/Object;" = some (.object "java/lang/Object") := by decide +kernel
theorem d_jdk_32_method_2_code_9 : decode jdk_32_method_2_code 9 = .ok (.return_, 1) := by decide +kernel
theorem pl_17 : plainFor (⟨"java/util/Optional", "<init>", "(Ljava/lang/Object;)V"⟩ : MethodName) = true := by first | exact plainFor_of_name (by first | (simp [plainName, overriddenIn]; done) | decide +kernel) | decide +kernel
theorem d_jdk_32_method_3_code_0 : decode jdk_32_method_3_code 0 = .ok (.new 2, 3) := by decide +kernel
theorem w124 {Z : State} {a0 : Array Value} (hw : ∀ d ∈ tables_1, d.before a0 Z = true) : (Jvm.Cond.classLink "java/util/Optional" (2 : Nat) "java/util/Optional").before a0 Z = true := hw _ (List.mem_of_getElem? (i := 124) rfl)
theorem w74 {Z : State} {a0 : Array Value} (hw : ∀ d ∈ tables_1, d.before a0 Z = true) : (Jvm.Cond.initialized "java/util/Optional").before a0 Z = true := hw _ (List.mem_of_getElem? (i := 74) rfl)
theorem d_jdk_32_method_3_code_3 : decode jdk_32_method_3_code 3 = .ok (.dup, 1) := by decide +kernel
theorem d_jdk_32_method_3_code_4 : decode jdk_32_method_3_code 4 = .ok (.aload_n 0, 1) := by decide +kernel
theorem d_jdk_32_method_3_code_5 : decode jdk_32_method_3_code 5 = .ok (.invokestatic 17, 3) := by decide +kernel
theorem w126 {Z : State} {a0 : Array Value} (hw : ∀ d ∈ tables_1, d.before a0 Z = true) : (Jvm.Cond.methodLink "java/util/Optional" (17 : Nat) ({ cls := "java/util/Objects", name := "requireNonNull", desc := "(Ljava/lang/Object;)Ljava/lang/Object;" } : Jvm.MethodName)).before a0 Z = true := hw _ (List.mem_of_getElem? (i := 126) rfl)
theorem w129 {Z : State} {a0 : Array Value} (hw : ∀ d ∈ tables_1, d.before a0 Z = true) : (Jvm.Cond.code ({ cls := "java/util/Objects", name := "requireNonNull", desc := "(Ljava/lang/Object;)Ljava/lang/Object;" } : Jvm.MethodName) jdk_31_method_10_code (1 : Nat) (Option.some (Jvm.ClassFile.FieldType.object "java/lang/Object"))).before a0 Z = true := hw _ (List.mem_of_getElem? (i := 129) rfl)
theorem w128 {Z : State} {a0 : Array Value} (hw : ∀ d ∈ tables_1, d.before a0 Z = true) : (Jvm.Cond.initialized "java/util/Objects").before a0 Z = true := hw _ (List.mem_of_getElem? (i := 128) rfl)
theorem w127 {Z : State} {a0 : Array Value} (hw : ∀ d ∈ tables_1, d.before a0 Z = true) : (Jvm.Cond.static ({ cls := "java/util/Objects", name := "requireNonNull", desc := "(Ljava/lang/Object;)Ljava/lang/Object;" } : Jvm.MethodName)).before a0 Z = true := hw _ (List.mem_of_getElem? (i := 127) rfl)
theorem pd_12 : parseMethodDescriptor "(Ljava/lang/Object;)Ljava/lang/Object;" = some ⟨[(.object "java/lang/Object")], some (.object "java/lang/Object")⟩ := by decide +kernel
theorem d_jdk_32_method_3_code_8 : decode jdk_32_method_3_code 8 = .ok (.invokespecial 23, 3) := by decide +kernel
theorem w130 {Z : State} {a0 : Array Value} (hw : ∀ d ∈ tables_1, d.before a0 Z = true) : (Jvm.Cond.methodLink "java/util/Optional" (23 : Nat) ({ cls := "java/util/Optional", name := "<init>", desc := "(Ljava/lang/Object;)V" } : Jvm.MethodName)).before a0 Z = true := hw _ (List.mem_of_getElem? (i := 130) rfl)
theorem w133 {Z : State} {a0 : Array Value} (hw : ∀ d ∈ tables_1, d.before a0 Z = true) : (Jvm.Cond.code ({ cls := "java/util/Optional", name := "<init>", desc := "(Ljava/lang/Object;)V" } : Jvm.MethodName) jdk_32_method_2_code (2 : Nat) (Option.none : Option Jvm.ClassFile.FieldType)).before a0 Z = true := hw _ (List.mem_of_getElem? (i := 133) rfl)
theorem w131 {Z : State} {a0 : Array Value} (hw : ∀ d ∈ tables_1, d.before a0 Z = true) : (Jvm.Cond.instanceMethod ({ cls := "java/util/Optional", name := "<init>", desc := "(Ljava/lang/Object;)V" } : Jvm.MethodName)).before a0 Z = true := hw _ (List.mem_of_getElem? (i := 131) rfl)
theorem pd_13 : parseMethodDescriptor "(Ljava/lang/Object;)V" = some ⟨[(.object "java/lang/Object")], none⟩ := by decide +kernel
theorem d_jdk_32_method_3_code_11 : decode jdk_32_method_3_code 11 = .ok (.areturn, 1) := by decide +kernel
theorem pl_18 : plainFor (⟨"java/util/Optional", "of", "(Ljava/lang/Object;)Ljava/util/Optional;"⟩ : MethodName) = true := by first | exact plainFor_of_name (by first | (simp [plainName, overriddenIn]; done) | decide +kernel) | decide +kernel
theorem d_jdk_32_method_1_code_0 : decode jdk_32_method_1_code 0 = .ok (.getstatic 1, 3) := by decide +kernel
theorem w76 {Z : State} {a0 : Array Value} (hw : ∀ d ∈ tables_1, d.before a0 Z = true) : (Jvm.Cond.fieldLink "java/util/Optional" (1 : Nat) "java/util/Optional" "EMPTY" "Ljava/util/Optional;").before a0 Z = true := hw _ (List.mem_of_getElem? (i := 76) rfl)
theorem d_jdk_32_method_1_code_3 : decode jdk_32_method_1_code 3 = .ok (.astore_n 0, 1) := by decide +kernel
theorem d_jdk_32_method_1_code_4 : decode jdk_32_method_1_code 4 = .ok (.aload_n 0, 1) := by decide +kernel
theorem d_jdk_32_method_1_code_5 : decode jdk_32_method_1_code 5 = .ok (.areturn, 1) := by decide +kernel
theorem pl_19 : plainFor (⟨"java/util/Optional", "empty", "()Ljava/util/Optional;"⟩ : MethodName) = true := by first | exact plainFor_of_name (by first | (simp [plainName, overriddenIn]; done) | decide +kernel) | decide +kernel
theorem d_jdk_32_method_15_code_0 : decode jdk_32_method_15_code 0 = .ok (.aload_n 0, 1) := by decide +kernel
theorem d_jdk_32_method_15_code_1 : decode jdk_32_method_15_code 1 = .ok (.getfield 13, 3) := by decide +kernel
theorem d_jdk_32_method_15_code_4 : decode jdk_32_method_15_code 4 = .ok (.ifnull 10, 3) := by decide +kernel
theorem d_jdk_32_method_15_code_7 : decode jdk_32_method_15_code 7 = .ok (.aload_n 0, 1) := by decide +kernel
theorem d_jdk_32_method_15_code_8 : decode jdk_32_method_15_code 8 = .ok (.getfield 13, 3) := by decide +kernel
theorem d_jdk_32_method_15_code_11 : decode jdk_32_method_15_code 11 = .ok (.goto 4, 3) := by decide +kernel
theorem d_jdk_32_method_15_code_15 : decode jdk_32_method_15_code 15 = .ok (.areturn, 1) := by decide +kernel
theorem pl_20 : plainFor (⟨"java/util/Optional", "orElse", "(Ljava/lang/Object;)Ljava/lang/Object;"⟩ : MethodName) = true := by first | exact plainFor_of_name (by first | (simp [plainName, overriddenIn]; done) | decide +kernel) | decide +kernel
theorem d_jdk_32_method_15_code_14 : decode jdk_32_method_15_code 14 = .ok (.aload_n 1, 1) := by decide +kernel
theorem d_prog_14_method_1_code_0 : decode prog_14_method_1_code 0 = .ok (.getstatic 13, 3) := by decide +kernel
theorem w54 {Z : State} {a0 : Array Value} (hw : ∀ d ∈ tables_1, d.before a0 Z = true) : (Jvm.Cond.fieldLink "com/example/uni_gate/unigate/policy/Intent" (13 : Nat) "com/example/uni_gate/unigate/policy/Intent" "$VALUES" "[Lcom/example/uni_gate/unigate/policy/Intent;").before a0 Z = true := hw _ (List.mem_of_getElem? (i := 54) rfl)
theorem d_prog_14_method_1_code_3 : decode prog_14_method_1_code 3 = .ok (.invokevirtual 17, 3) := by decide +kernel
theorem w56 {Z : State} {a0 : Array Value} (hw : ∀ d ∈ tables_1, d.before a0 Z = true) : (Jvm.Cond.methodLink "com/example/uni_gate/unigate/policy/Intent" (17 : Nat) ({ cls := "[Lcom/example/uni_gate/unigate/policy/Intent;", name := "clone", desc := "()Ljava/lang/Object;" } : Jvm.MethodName)).before a0 Z = true := hw _ (List.mem_of_getElem? (i := 56) rfl)
theorem w57 {Z : State} {a0 : Array Value} (hw : ∀ d ∈ tables_1, d.before a0 Z = true) : (Jvm.Cond.sameMethod "[Lcom/example/uni_gate/unigate/policy/Intent;" "java/lang/Object" "clone" "()Ljava/lang/Object;").before a0 Z = true := hw _ (List.mem_of_getElem? (i := 57) rfl)
theorem w61 {Z : State} {a0 : Array Value} (hw : ∀ d ∈ tables_1, d.before a0 Z = true) : (Jvm.Cond.native ({ cls := "java/lang/Object", name := "clone", desc := "()Ljava/lang/Object;" } : Jvm.MethodName)).before a0 Z = true := hw _ (List.mem_of_getElem? (i := 61) rfl)
theorem w59 {Z : State} {a0 : Array Value} (hw : ∀ d ∈ tables_1, d.before a0 Z = true) : (Jvm.Cond.instanceMethod ({ cls := "java/lang/Object", name := "clone", desc := "()Ljava/lang/Object;" } : Jvm.MethodName)).before a0 Z = true := hw _ (List.mem_of_getElem? (i := 59) rfl)
theorem w60 {Z : State} {a0 : Array Value} (hw : ∀ d ∈ tables_1, d.before a0 Z = true) : (Jvm.Cond.selects "[Lcom/example/uni_gate/unigate/policy/Intent;" ({ cls := "[Lcom/example/uni_gate/unigate/policy/Intent;", name := "clone", desc := "()Ljava/lang/Object;" } : Jvm.MethodName) ({ cls := "java/lang/Object", name := "clone", desc := "()Ljava/lang/Object;" } : Jvm.MethodName)).before a0 Z = true := hw _ (List.mem_of_getElem? (i := 60) rfl)
theorem w62 {Z : State} {a0 : Array Value} (hw : ∀ d ∈ tables_1, d.before a0 Z = true) : (Jvm.Cond.castable "[Lcom/example/uni_gate/unigate/policy/Intent;" "java/lang/Cloneable").before a0 Z = true := hw _ (List.mem_of_getElem? (i := 62) rfl)
theorem d_prog_14_method_1_code_6 : decode prog_14_method_1_code 6 = .ok (.checkcast 18, 3) := by decide +kernel
theorem w67 {Z : State} {a0 : Array Value} (hw : ∀ d ∈ tables_1, d.before a0 Z = true) : (Jvm.Cond.classLink "com/example/uni_gate/unigate/policy/Intent" (18 : Nat) "[Lcom/example/uni_gate/unigate/policy/Intent;").before a0 Z = true := hw _ (List.mem_of_getElem? (i := 67) rfl)
theorem w68 {Z : State} {a0 : Array Value} (hw : ∀ d ∈ tables_1, d.before a0 Z = true) : (Jvm.Cond.castable "[Lcom/example/uni_gate/unigate/policy/Intent;" "[Lcom/example/uni_gate/unigate/policy/Intent;").before a0 Z = true := hw _ (List.mem_of_getElem? (i := 68) rfl)
theorem d_prog_14_method_1_code_9 : decode prog_14_method_1_code 9 = .ok (.areturn, 1) := by decide +kernel
theorem pl_21 : plainFor (⟨"com/example/uni_gate/unigate/policy/Intent", "values", "()[Lcom/example/uni_gate/unigate/policy/Intent;"⟩ : MethodName) = true := by first | exact plainFor_of_name (by first | (simp [plainName, overriddenIn]; done) | decide +kernel) | decide +kernel
theorem d_prog_14_method_4_code_0 : decode prog_14_method_4_code 0 = .ok (.invokestatic 36, 3) := by decide +kernel
theorem w51 {Z : State} {a0 : Array Value} (hw : ∀ d ∈ tables_1, d.before a0 Z = true) : (Jvm.Cond.methodLink "com/example/uni_gate/unigate/policy/Intent" (36 : Nat) ({ cls := "com/example/uni_gate/unigate/policy/Intent", name := "values", desc := "()[Lcom/example/uni_gate/unigate/policy/Intent;" } : Jvm.MethodName)).before a0 Z = true := hw _ (List.mem_of_getElem? (i := 51) rfl)
theorem w53 {Z : State} {a0 : Array Value} (hw : ∀ d ∈ tables_1, d.before a0 Z = true) : (Jvm.Cond.code ({ cls := "com/example/uni_gate/unigate/policy/Intent", name := "values", desc := "()[Lcom/example/uni_gate/unigate/policy/Intent;" } : Jvm.MethodName) prog_14_method_1_code (0 : Nat) (Option.some (Jvm.ClassFile.FieldType.array (Jvm.ClassFile.FieldType.object "com/example/uni_gate/unigate/policy/Intent")))).before a0 Z = true := hw _ (List.mem_of_getElem? (i := 53) rfl)
theorem w49 {Z : State} {a0 : Array Value} (hw : ∀ d ∈ tables_1, d.before a0 Z = true) : (Jvm.Cond.initialized "com/example/uni_gate/unigate/policy/Intent").before a0 Z = true := hw _ (List.mem_of_getElem? (i := 49) rfl)
theorem w52 {Z : State} {a0 : Array Value} (hw : ∀ d ∈ tables_1, d.before a0 Z = true) : (Jvm.Cond.static ({ cls := "com/example/uni_gate/unigate/policy/Intent", name := "values", desc := "()[Lcom/example/uni_gate/unigate/policy/Intent;" } : Jvm.MethodName)).before a0 Z = true := hw _ (List.mem_of_getElem? (i := 52) rfl)
theorem pd_14 : parseMethodDescriptor "()[Lcom/example/uni_gate/unigate/policy/Intent;" = some ⟨[], some (.array (.object "com/example/uni_gate/unigate/policy/Intent"))⟩ := by decide +kernel
theorem d_prog_14_method_4_code_3 : decode prog_14_method_4_code 3 = .ok (.astore_n 1, 1) := by decide +kernel
theorem d_prog_14_method_4_code_4 : decode prog_14_method_4_code 4 = .ok (.aload_n 1, 1) := by decide +kernel
theorem d_prog_14_method_4_code_5 : decode prog_14_method_4_code 5 = .ok (.arraylength, 1) := by decide +kernel
theorem d_prog_14_method_4_code_6 : decode prog_14_method_4_code 6 = .ok (.istore_n 2, 1) := by decide +kernel
theorem d_prog_14_method_4_code_7 : decode prog_14_method_4_code 7 = .ok (.iconst 0, 1) := by decide +kernel
theorem d_prog_14_method_4_code_8 : decode prog_14_method_4_code 8 = .ok (.istore_n 3, 1) := by decide +kernel
theorem d_prog_14_method_4_code_9 : decode prog_14_method_4_code 9 = .ok (.iload_n 3, 1) := by decide +kernel
theorem d_prog_14_method_4_code_10 : decode prog_14_method_4_code 10 = .ok (.iload_n 2, 1) := by decide +kernel
theorem d_prog_14_method_4_code_11 : decode prog_14_method_4_code 11 = .ok (.if_icmp .ge 32, 3) := by decide +kernel
theorem d_prog_14_method_4_code_14 : decode prog_14_method_4_code 14 = .ok (.aload_n 1, 1) := by decide +kernel
theorem d_prog_14_method_4_code_15 : decode prog_14_method_4_code 15 = .ok (.iload_n 3, 1) := by decide +kernel
theorem d_prog_14_method_4_code_16 : decode prog_14_method_4_code 16 = .ok (.aaload, 1) := by decide +kernel
theorem d_prog_14_method_4_code_17 : decode prog_14_method_4_code 17 = .ok (.astore 4, 2) := by decide +kernel
theorem d_prog_14_method_4_code_19 : decode prog_14_method_4_code 19 = .ok (.aload 4, 2) := by decide +kernel
theorem d_prog_14_method_4_code_21 : decode prog_14_method_4_code 21 = .ok (.getfield 32, 3) := by decide +kernel
theorem w69 {Z : State} {a0 : Array Value} (hw : ∀ d ∈ tables_1, d.before a0 Z = true) : (Jvm.Cond.fieldLink "com/example/uni_gate/unigate/policy/Intent" (32 : Nat) "com/example/uni_gate/unigate/policy/Intent" "policyName" "Ljava/lang/String;").before a0 Z = true := hw _ (List.mem_of_getElem? (i := 69) rfl)
theorem d_prog_14_method_4_code_24 : decode prog_14_method_4_code 24 = .ok (.aload_n 0, 1) := by decide +kernel
theorem d_prog_14_method_4_code_25 : decode prog_14_method_4_code 25 = .ok (.invokevirtual 40, 3) := by decide +kernel
theorem w71 {Z : State} {a0 : Array Value} (hw : ∀ d ∈ tables_1, d.before a0 Z = true) : (Jvm.Cond.methodLink "com/example/uni_gate/unigate/policy/Intent" (40 : Nat) ({ cls := "java/lang/String", name := "equals", desc := "(Ljava/lang/Object;)Z" } : Jvm.MethodName)).before a0 Z = true := hw _ (List.mem_of_getElem? (i := 71) rfl)
theorem w39 {Z : State} {a0 : Array Value} (hw : ∀ d ∈ tables_1, d.before a0 Z = true) : (Jvm.Cond.code ({ cls := "java/lang/String", name := "equals", desc := "(Ljava/lang/Object;)Z" } : Jvm.MethodName) jdk_42_method_66_code (3 : Nat) (Option.some Jvm.ClassFile.FieldType.boolean)).before a0 Z = true := hw _ (List.mem_of_getElem? (i := 39) rfl)
theorem w38 {Z : State} {a0 : Array Value} (hw : ∀ d ∈ tables_1, d.before a0 Z = true) : (Jvm.Cond.selects "java/lang/String" ({ cls := "java/lang/String", name := "equals", desc := "(Ljava/lang/Object;)Z" } : Jvm.MethodName) ({ cls := "java/lang/String", name := "equals", desc := "(Ljava/lang/Object;)Z" } : Jvm.MethodName)).before a0 Z = true := hw _ (List.mem_of_getElem? (i := 38) rfl)
theorem w36 {Z : State} {a0 : Array Value} (hw : ∀ d ∈ tables_1, d.before a0 Z = true) : (Jvm.Cond.declares ({ cls := "java/lang/String", name := "equals", desc := "(Ljava/lang/Object;)Z" } : Jvm.MethodName)).before a0 Z = true := hw _ (List.mem_of_getElem? (i := 36) rfl)
theorem w37 {Z : State} {a0 : Array Value} (hw : ∀ d ∈ tables_1, d.before a0 Z = true) : (Jvm.Cond.instanceMethod ({ cls := "java/lang/String", name := "equals", desc := "(Ljava/lang/Object;)Z" } : Jvm.MethodName)).before a0 Z = true := hw _ (List.mem_of_getElem? (i := 37) rfl)
theorem pd_15 : parseMethodDescriptor "(Ljava/lang/Object;)Z" = some ⟨[(.object "java/lang/Object")], some .boolean⟩ := by decide +kernel
theorem d_prog_14_method_4_code_28 : decode prog_14_method_4_code 28 = .ok (.ifCond .eq 9, 3) := by decide +kernel
theorem d_prog_14_method_4_code_31 : decode prog_14_method_4_code 31 = .ok (.aload 4, 2) := by decide +kernel
theorem d_prog_14_method_4_code_33 : decode prog_14_method_4_code 33 = .ok (.invokestatic 46, 3) := by decide +kernel
theorem w121 {Z : State} {a0 : Array Value} (hw : ∀ d ∈ tables_1, d.before a0 Z = true) : (Jvm.Cond.methodLink "com/example/uni_gate/unigate/policy/Intent" (46 : Nat) ({ cls := "java/util/Optional", name := "of", desc := "(Ljava/lang/Object;)Ljava/util/Optional;" } : Jvm.MethodName)).before a0 Z = true := hw _ (List.mem_of_getElem? (i := 121) rfl)
theorem w123 {Z : State} {a0 : Array Value} (hw : ∀ d ∈ tables_1, d.before a0 Z = true) : (Jvm.Cond.code ({ cls := "java/util/Optional", name := "of", desc := "(Ljava/lang/Object;)Ljava/util/Optional;" } : Jvm.MethodName) jdk_32_method_3_code (1 : Nat) (Option.some (Jvm.ClassFile.FieldType.object "java/util/Optional"))).before a0 Z = true := hw _ (List.mem_of_getElem? (i := 123) rfl)
theorem w122 {Z : State} {a0 : Array Value} (hw : ∀ d ∈ tables_1, d.before a0 Z = true) : (Jvm.Cond.static ({ cls := "java/util/Optional", name := "of", desc := "(Ljava/lang/Object;)Ljava/util/Optional;" } : Jvm.MethodName)).before a0 Z = true := hw _ (List.mem_of_getElem? (i := 122) rfl)
theorem pd_16 : parseMethodDescriptor "(Ljava/lang/Object;)Ljava/util/Optional;" = some ⟨[(.object "java/lang/Object")], some (.object "java/util/Optional")⟩ := by decide +kernel
theorem d_prog_14_method_4_code_36 : decode prog_14_method_4_code 36 = .ok (.areturn, 1) := by decide +kernel
theorem pl_22 : plainFor (⟨"com/example/uni_gate/unigate/policy/Intent", "fromPolicyName", "(Ljava/lang/String;)Ljava/util/Optional;"⟩ : MethodName) = true := by first | exact plainFor_of_name (by first | (simp [plainName, overriddenIn]; done) | decide +kernel) | decide +kernel
theorem d_prog_14_method_4_code_37 : decode prog_14_method_4_code 37 = .ok (.iinc 3 1, 3) := by decide +kernel
theorem d_prog_14_method_4_code_40 : decode prog_14_method_4_code 40 = .ok (.goto (-31), 3) := by decide +kernel
theorem d_prog_14_method_4_code_43 : decode prog_14_method_4_code 43 = .ok (.invokestatic 52, 3) := by decide +kernel
theorem w72 {Z : State} {a0 : Array Value} (hw : ∀ d ∈ tables_1, d.before a0 Z = true) : (Jvm.Cond.methodLink "com/example/uni_gate/unigate/policy/Intent" (52 : Nat) ({ cls := "java/util/Optional", name := "empty", desc := "()Ljava/util/Optional;" } : Jvm.MethodName)).before a0 Z = true := hw _ (List.mem_of_getElem? (i := 72) rfl)
theorem w75 {Z : State} {a0 : Array Value} (hw : ∀ d ∈ tables_1, d.before a0 Z = true) : (Jvm.Cond.code ({ cls := "java/util/Optional", name := "empty", desc := "()Ljava/util/Optional;" } : Jvm.MethodName) jdk_32_method_1_code (1 : Nat) (Option.some (Jvm.ClassFile.FieldType.object "java/util/Optional"))).before a0 Z = true := hw _ (List.mem_of_getElem? (i := 75) rfl)
theorem w73 {Z : State} {a0 : Array Value} (hw : ∀ d ∈ tables_1, d.before a0 Z = true) : (Jvm.Cond.static ({ cls := "java/util/Optional", name := "empty", desc := "()Ljava/util/Optional;" } : Jvm.MethodName)).before a0 Z = true := hw _ (List.mem_of_getElem? (i := 73) rfl)
theorem pd_17 : parseMethodDescriptor "()Ljava/util/Optional;" = some ⟨[], some (.object "java/util/Optional")⟩ := by decide +kernel
theorem d_prog_14_method_4_code_46 : decode prog_14_method_4_code 46 = .ok (.areturn, 1) := by decide +kernel
theorem w22 {Z : State} {a0 : Array Value} (hw : ∀ d ∈ tables_1, d.before a0 Z = true) : (Jvm.Cond.arrayClass Jvm.ClassFile.FieldType.char).before a0 Z = true := hw _ (List.mem_of_getElem? (i := 22) rfl)
theorem w23 {Z : State} {a0 : Array Value} (hw : ∀ d ∈ tables_1, d.before a0 Z = true) : (Jvm.Cond.classLink "com/example/uni_gate/unigate/policy/IntentFromPolicyNamePinLaw" (8 : Nat) "java/lang/String").before a0 Z = true := hw _ (List.mem_of_getElem? (i := 23) rfl)
theorem w24 {Z : State} {a0 : Array Value} (hw : ∀ d ∈ tables_1, d.before a0 Z = true) : (Jvm.Cond.methodLink "com/example/uni_gate/unigate/policy/IntentFromPolicyNamePinLaw" (38 : Nat) ({ cls := "java/lang/String", name := "<init>", desc := "([C)V" } : Jvm.MethodName)).before a0 Z = true := hw _ (List.mem_of_getElem? (i := 24) rfl)
theorem w26 {Z : State} {a0 : Array Value} (hw : ∀ d ∈ tables_1, d.before a0 Z = true) : (Jvm.Cond.code ({ cls := "java/lang/String", name := "<init>", desc := "([C)V" } : Jvm.MethodName) jdk_42_method_3_code (2 : Nat) (Option.none : Option Jvm.ClassFile.FieldType)).before a0 Z = true := hw _ (List.mem_of_getElem? (i := 26) rfl)
theorem w25 {Z : State} {a0 : Array Value} (hw : ∀ d ∈ tables_1, d.before a0 Z = true) : (Jvm.Cond.instanceMethod ({ cls := "java/lang/String", name := "<init>", desc := "([C)V" } : Jvm.MethodName)).before a0 Z = true := hw _ (List.mem_of_getElem? (i := 25) rfl)
theorem pd_18 : parseMethodDescriptor "([C)V" = some ⟨[(.array .char)], none⟩ := by decide +kernel
theorem w0 {Z : State} {a0 : Array Value} (hw : ∀ d ∈ tables_1, d.before a0 Z = true) : (Jvm.Cond.stringLink "com/example/uni_gate/unigate/policy/IntentFromPolicyNamePinLaw" (17 : Nat) "allow").before a0 Z = true := hw _ (List.mem_of_getElem? (i := 0) rfl)
theorem w35 {Z : State} {a0 : Array Value} (hw : ∀ d ∈ tables_1, d.before a0 Z = true) : (Jvm.Cond.methodLink "com/example/uni_gate/unigate/policy/IntentFromPolicyNamePinLaw" (41 : Nat) ({ cls := "java/lang/String", name := "equals", desc := "(Ljava/lang/Object;)Z" } : Jvm.MethodName)).before a0 Z = true := hw _ (List.mem_of_getElem? (i := 35) rfl)
theorem w45 {Z : State} {a0 : Array Value} (hw : ∀ d ∈ tables_1, d.before a0 Z = true) : (Jvm.Cond.stringLink "com/example/uni_gate/unigate/policy/IntentFromPolicyNamePinLaw" (19 : Nat) "conditional").before a0 Z = true := hw _ (List.mem_of_getElem? (i := 45) rfl)
theorem w46 {Z : State} {a0 : Array Value} (hw : ∀ d ∈ tables_1, d.before a0 Z = true) : (Jvm.Cond.stringLink "com/example/uni_gate/unigate/policy/IntentFromPolicyNamePinLaw" (21 : Nat) "prohibit").before a0 Z = true := hw _ (List.mem_of_getElem? (i := 46) rfl)
theorem w47 {Z : State} {a0 : Array Value} (hw : ∀ d ∈ tables_1, d.before a0 Z = true) : (Jvm.Cond.methodLink "com/example/uni_gate/unigate/policy/IntentFromPolicyNamePinLaw" (57 : Nat) ({ cls := "com/example/uni_gate/unigate/policy/Intent", name := "fromPolicyName", desc := "(Ljava/lang/String;)Ljava/util/Optional;" } : Jvm.MethodName)).before a0 Z = true := hw _ (List.mem_of_getElem? (i := 47) rfl)
theorem w50 {Z : State} {a0 : Array Value} (hw : ∀ d ∈ tables_1, d.before a0 Z = true) : (Jvm.Cond.code ({ cls := "com/example/uni_gate/unigate/policy/Intent", name := "fromPolicyName", desc := "(Ljava/lang/String;)Ljava/util/Optional;" } : Jvm.MethodName) prog_14_method_4_code (5 : Nat) (Option.some (Jvm.ClassFile.FieldType.object "java/util/Optional"))).before a0 Z = true := hw _ (List.mem_of_getElem? (i := 50) rfl)
theorem w48 {Z : State} {a0 : Array Value} (hw : ∀ d ∈ tables_1, d.before a0 Z = true) : (Jvm.Cond.static ({ cls := "com/example/uni_gate/unigate/policy/Intent", name := "fromPolicyName", desc := "(Ljava/lang/String;)Ljava/util/Optional;" } : Jvm.MethodName)).before a0 Z = true := hw _ (List.mem_of_getElem? (i := 48) rfl)
theorem pd_19 : parseMethodDescriptor "(Ljava/lang/String;)Ljava/util/Optional;" = some ⟨[(.object "java/lang/String")], some (.object "java/util/Optional")⟩ := by decide +kernel
theorem w77 {Z : State} {a0 : Array Value} (hw : ∀ d ∈ tables_1, d.before a0 Z = true) : (Jvm.Cond.methodLink "com/example/uni_gate/unigate/policy/IntentFromPolicyNamePinLaw" (61 : Nat) ({ cls := "java/util/Optional", name := "orElse", desc := "(Ljava/lang/Object;)Ljava/lang/Object;" } : Jvm.MethodName)).before a0 Z = true := hw _ (List.mem_of_getElem? (i := 77) rfl)
theorem w81 {Z : State} {a0 : Array Value} (hw : ∀ d ∈ tables_1, d.before a0 Z = true) : (Jvm.Cond.code ({ cls := "java/util/Optional", name := "orElse", desc := "(Ljava/lang/Object;)Ljava/lang/Object;" } : Jvm.MethodName) jdk_32_method_15_code (2 : Nat) (Option.some (Jvm.ClassFile.FieldType.object "java/lang/Object"))).before a0 Z = true := hw _ (List.mem_of_getElem? (i := 81) rfl)
theorem w80 {Z : State} {a0 : Array Value} (hw : ∀ d ∈ tables_1, d.before a0 Z = true) : (Jvm.Cond.selects "java/util/Optional" ({ cls := "java/util/Optional", name := "orElse", desc := "(Ljava/lang/Object;)Ljava/lang/Object;" } : Jvm.MethodName) ({ cls := "java/util/Optional", name := "orElse", desc := "(Ljava/lang/Object;)Ljava/lang/Object;" } : Jvm.MethodName)).before a0 Z = true := hw _ (List.mem_of_getElem? (i := 80) rfl)
theorem w78 {Z : State} {a0 : Array Value} (hw : ∀ d ∈ tables_1, d.before a0 Z = true) : (Jvm.Cond.declares ({ cls := "java/util/Optional", name := "orElse", desc := "(Ljava/lang/Object;)Ljava/lang/Object;" } : Jvm.MethodName)).before a0 Z = true := hw _ (List.mem_of_getElem? (i := 78) rfl)
theorem w79 {Z : State} {a0 : Array Value} (hw : ∀ d ∈ tables_1, d.before a0 Z = true) : (Jvm.Cond.instanceMethod ({ cls := "java/util/Optional", name := "orElse", desc := "(Ljava/lang/Object;)Ljava/lang/Object;" } : Jvm.MethodName)).before a0 Z = true := hw _ (List.mem_of_getElem? (i := 79) rfl)
theorem w135 {Z : State} {a0 : Array Value} (hw : ∀ d ∈ tables_1, d.before a0 Z = true) : (Jvm.Cond.classLink "com/example/uni_gate/unigate/policy/IntentFromPolicyNamePinLaw" (46 : Nat) "com/example/uni_gate/unigate/policy/Intent").before a0 Z = true := hw _ (List.mem_of_getElem? (i := 135) rfl)
theorem w142 {Z : State} {a0 : Array Value} (hw : ∀ d ∈ tables_1, d.before a0 Z = true) : (Jvm.Cond.fieldLink "com/example/uni_gate/unigate/policy/IntentFromPolicyNamePinLaw" (54 : Nat) "com/example/uni_gate/unigate/policy/Intent" "PROHIBIT" "Lcom/example/uni_gate/unigate/policy/Intent;").before a0 Z = true := hw _ (List.mem_of_getElem? (i := 142) rfl)
theorem w136 {Z : State} {a0 : Array Value} (hw : ∀ d ∈ tables_1, d.before a0 Z = true) : (Jvm.Cond.castable "com/example/uni_gate/unigate/policy/Intent" "com/example/uni_gate/unigate/policy/Intent").before a0 Z = true := hw _ (List.mem_of_getElem? (i := 136) rfl)
theorem w120 {Z : State} {a0 : Array Value} (hw : ∀ d ∈ tables_1, d.before a0 Z = true) : (Jvm.Cond.fieldLink "com/example/uni_gate/unigate/policy/IntentFromPolicyNamePinLaw" (51 : Nat) "com/example/uni_gate/unigate/policy/Intent" "CONDITIONAL" "Lcom/example/uni_gate/unigate/policy/Intent;").before a0 Z = true := hw _ (List.mem_of_getElem? (i := 120) rfl)
theorem w141 {Z : State} {a0 : Array Value} (hw : ∀ d ∈ tables_1, d.before a0 Z = true) : (Jvm.Cond.fieldLink "com/example/uni_gate/unigate/policy/IntentFromPolicyNamePinLaw" (45 : Nat) "com/example/uni_gate/unigate/policy/Intent" "ALLOW" "Lcom/example/uni_gate/unigate/policy/Intent;").before a0 Z = true := hw _ (List.mem_of_getElem? (i := 141) rfl)
theorem w85 {Z : State} {a0 : Array Value} (hw : ∀ d ∈ tables_1, d.before a0 Z = true) : (Jvm.Cond.methodLink "com/example/uni_gate/unigate/policy/IntentFromPolicyNamePinLaw" (32 : Nat) ({ cls := "com/example/uni_gate/unigate/policy/IntentFromPolicyNamePinLaw", name := "at", desc := "(Ljava/lang/String;IICC)C" } : Jvm.MethodName)).before a0 Z = true := hw _ (List.mem_of_getElem? (i := 85) rfl)
theorem w88 {Z : State} {a0 : Array Value} (hw : ∀ d ∈ tables_1, d.before a0 Z = true) : (Jvm.Cond.code ({ cls := "com/example/uni_gate/unigate/policy/IntentFromPolicyNamePinLaw", name := "at", desc := "(Ljava/lang/String;IICC)C" } : Jvm.MethodName) method_2_code (5 : Nat) (Option.some Jvm.ClassFile.FieldType.char)).before a0 Z = true := hw _ (List.mem_of_getElem? (i := 88) rfl)
theorem w87 {Z : State} {a0 : Array Value} (hw : ∀ d ∈ tables_1, d.before a0 Z = true) : (Jvm.Cond.initialized "com/example/uni_gate/unigate/policy/IntentFromPolicyNamePinLaw").before a0 Z = true := hw _ (List.mem_of_getElem? (i := 87) rfl)
theorem w86 {Z : State} {a0 : Array Value} (hw : ∀ d ∈ tables_1, d.before a0 Z = true) : (Jvm.Cond.static ({ cls := "com/example/uni_gate/unigate/policy/IntentFromPolicyNamePinLaw", name := "at", desc := "(Ljava/lang/String;IICC)C" } : Jvm.MethodName)).before a0 Z = true := hw _ (List.mem_of_getElem? (i := 86) rfl)
theorem pd_20 : parseMethodDescriptor "(Ljava/lang/String;IICC)C" = some ⟨[(.object "java/lang/String"), .int, .int, .char, .char], some .char⟩ := by decide +kernel
theorem w84 {Z : State} {a0 : Array Value} (hw : ∀ d ∈ tables_1, d.before a0 Z = true) : (Jvm.Cond.stringLink "com/example/uni_gate/unigate/policy/IntentFromPolicyNamePinLaw" (23 : Nat) "").before a0 Z = true := hw _ (List.mem_of_getElem? (i := 84) rfl)
theorem w21 {Z : State} {a0 : Array Value} (hw : ∀ d ∈ tables_1, d.before a0 Z = true) : (Jvm.Cond.constant "com/example/uni_gate/unigate/policy/IntentFromPolicyNamePinLaw" (25 : Nat) (2147483647 : Int32)).before a0 Z = true := hw _ (List.mem_of_getElem? (i := 21) rfl)
theorem w137 {Z : State} {a0 : Array Value} (hw : ∀ d ∈ tables_1, d.before a0 Z = true) : (Jvm.Cond.methodLink "com/example/uni_gate/unigate/policy/IntentFromPolicyNamePinLaw" (26 : Nat) ({ cls := "java/lang/Math", name := "max", desc := "(II)I" } : Jvm.MethodName)).before a0 Z = true := hw _ (List.mem_of_getElem? (i := 137) rfl)
theorem w140 {Z : State} {a0 : Array Value} (hw : ∀ d ∈ tables_1, d.before a0 Z = true) : (Jvm.Cond.code ({ cls := "java/lang/Math", name := "max", desc := "(II)I" } : Jvm.MethodName) jdk_29_method_65_code (2 : Nat) (Option.some Jvm.ClassFile.FieldType.int)).before a0 Z = true := hw _ (List.mem_of_getElem? (i := 140) rfl)
theorem w139 {Z : State} {a0 : Array Value} (hw : ∀ d ∈ tables_1, d.before a0 Z = true) : (Jvm.Cond.initialized "java/lang/Math").before a0 Z = true := hw _ (List.mem_of_getElem? (i := 139) rfl)
theorem w138 {Z : State} {a0 : Array Value} (hw : ∀ d ∈ tables_1, d.before a0 Z = true) : (Jvm.Cond.static ({ cls := "java/lang/Math", name := "max", desc := "(II)I" } : Jvm.MethodName)).before a0 Z = true := hw _ (List.mem_of_getElem? (i := 138) rfl)
theorem pd_21 : parseMethodDescriptor "(II)I" = some ⟨[.int, .int], some .int⟩ := by decide +kernel
theorem pl_23 : plainFor (⟨"com/example/uni_gate/unigate/policy/IntentFromPolicyNamePinLaw", "law", "(IIII)Z"⟩ : MethodName) = true := by first | exact plainFor_of_name (by first | (simp [plainName, overriddenIn]; done) | decide +kernel) | decide +kernel
theorem w55 {Z : State} {a0 : Array Value} (hw : ∀ d ∈ tables_1, d.before a0 Z = true) : (Jvm.Cond.laysStatic "com/example/uni_gate/unigate/policy/Intent" "$VALUES" "[Lcom/example/uni_gate/unigate/policy/Intent;").before a0 Z = true := hw _ (List.mem_of_getElem? (i := 55) rfl)
theorem w63 {Z : State} {a0 : Array Value} (hw : ∀ d ∈ tables_1, d.before a0 Z = true) : (Jvm.Cond.laysStatic "com/example/uni_gate/unigate/policy/Intent" "ALLOW" "Lcom/example/uni_gate/unigate/policy/Intent;").before a0 Z = true := hw _ (List.mem_of_getElem? (i := 63) rfl)
theorem w64 {Z : State} {a0 : Array Value} (hw : ∀ d ∈ tables_1, d.before a0 Z = true) : (Jvm.Cond.laysStatic "com/example/uni_gate/unigate/policy/Intent" "CONDITIONAL" "Lcom/example/uni_gate/unigate/policy/Intent;").before a0 Z = true := hw _ (List.mem_of_getElem? (i := 64) rfl)
theorem w65 {Z : State} {a0 : Array Value} (hw : ∀ d ∈ tables_1, d.before a0 Z = true) : (Jvm.Cond.laysStatic "com/example/uni_gate/unigate/policy/Intent" "PROHIBIT" "Lcom/example/uni_gate/unigate/policy/Intent;").before a0 Z = true := hw _ (List.mem_of_getElem? (i := 65) rfl)
def Q_cmp5 (Z : State) (g0 : Int32) (gf : Value) (zva : Addr) (zkv : ClassId) (zoe : Addr) (zia : Addr) (zsa : Addr) (zta : Addr) (zka : ClassId) (zib : Addr) (zsb : Addr) (ztb : Addr) (zkb : ClassId) (zip : Addr) (zsp : Addr) (ztp : Addr) (zkp : ClassId) (b : Addr) (d : Addr) (kb : ClassId) (kd : ClassId) (N : Int32) (cs : List Int32) (h : Heap) : QT := fun v' M9 h9 => v' = some (.int N) ∧ M9 = [] ∧ Keep h h9 [d] ∧ Arv Z h9 d kd .byte N (ints (cs.map (nar .byte))) (.int 0)
theorem ef_cmp5 (m : MethodId) (b : Addr) (d : Addr) (kb : ClassId) (kd : ClassId) (N : Int32) (cs : List Int32) : entryFrame m [(.ref b), (.int (0 : Int32)), (.ref d), (.int (0 : Int32)), (.int N)].toArray 7 = mkF m 0 #[.val (.ref b), .val (.int (0 : Int32)), .val (.ref d), .val (.int (0 : Int32)), .val (.int N), .unset, .unset] [] := by first | rfl | (simp [entryFrame, mkF, argsToLocals, Value.category]; done)
set_option maxRecDepth 65536 in
set_option maxHeartbeats 4000000 in
theorem m_cmp5 {l : Launch} {Z : State} {a0 : Array Value} {n0 : Nat} {g0 : Int32} {gf : Value} {zva : Addr} {zkv : ClassId} {zoe : Addr} {zia : Addr} {zsa : Addr} {zta : Addr} {zka : ClassId} {zib : Addr} {zsb : Addr} {ztb : Addr} {zkb : ClassId} {zip : Addr} {zsp : Addr} {ztp : Addr} {zkp : ClassId} (hC : Ctx l Z a0 n0 g0 gf zva zkv zoe zia zsa zta zka zib zsb ztb zkb zip zsp ztp zkp) (b : Addr) (d : Addr) (kb : ClassId) (kd : ClassId) (N : Int32) (cs : List Int32) (h : Heap) (p0_arv : Arv Z h b kb .char N (ints cs) (.int 0)) (p1_arv : Arv Z h d kd .byte N (ints (List.replicate cs.length 0)) (.int 0)) (hN : N = Int32.ofNat cs.length) (hlen : cs.length ≤ 32) (hlat : ∀ c ∈ cs, ¬ c < 0 ∧ ¬ (255 : Int32) < c) :
    Met l Z EL0 n0 (⟨"java/lang/StringUTF16", "compress", "([CI[BII)I"⟩ : MethodName) jdk_52_method_21_code 7 (some .int) [] ({ frames := 0, cells := 0, slots := 0, locals := 0 } : Room) [(.ref b), (.int (0 : Int32)), (.ref d), (.int (0 : Int32)), (.int N)] [d] h (Q_cmp5 Z g0 gf zva zkv zoe zia zsa zta zka zib zsb ztb zkb zip zsp ztp zkp b d kb kd N cs h) := by
  obtain ⟨hw, hS, hE, hK, hX⟩ := id hC
  refine Met.intro pl_0 (fun m => ef_cmp5 m b d kb kd N cs) hE ?_
  intro G hG
  have loop : ∀ (r i : Nat) (h1 : Heap) (s6 : Slot), i + r = cs.length → One s6 → Keep h h1 [d] → Arv Z h1 d kd .byte N (ints ((cs.take i).map (nar .byte) ++ List.replicate r 0)) (.int 0) → Arv Z h1 b kb .char N (ints cs) (.int 0) → G [d] h1 0 0 3 #[.val (.ref b), .val (.int (Int32.ofNat i)), .val (.ref d), .val (.int (Int32.ofNat i)), .val (.int N), .val (.int (Int32.ofNat i)), s6] [] := by
    intro r; induction r with
    | zero =>
      intro i h1 s6 hi hs6 K V1 V2
      have e : i = cs.length := by omega
      have V3 : Arv Z h1 d kd .byte N (ints (cs.map (nar .byte))) (.int 0) := by subst e; simpa using V1
      refine iload hG d_jdk_52_method_21_code_3 rfl ?_
      refine iload hG d_jdk_52_method_21_code_5 rfl ?_
      refine icmpYes hG d_jdk_52_method_21_code_7 (flt (by rw [hN]; exact ofN_nlt (by omega) (by omega))).2.1 (by decide) (pc' := 44) rfl ?_
      refine iload hG d_jdk_52_method_21_code_44 rfl ?_
      have K1 : Keep h h1 [d] := ((Keep.refl _ _).trans K (allS (Or.inl (List.mem_of_getElem? (i := 0) rfl)) all0))
      exact ireturn hG d_jdk_52_method_21_code_46 (M' := []) ⟨rfl, rfl, K1, V3⟩ all0 (Nat.le_of_ble_eq_true rfl) (Nat.le_of_ble_eq_true rfl)
    | succ r ih =>
      intro i h1 s6 hi hs6 K V1 V2
      have hin := ofN_in (i := i) (n := cs.length) (by omega) (by omega)
      rw [← hN] at hin
      have hc := hlat _ (getD_in (xs := cs) (i := i) (by omega))
      refine iload hG d_jdk_52_method_21_code_3 rfl ?_
      refine iload hG d_jdk_52_method_21_code_5 rfl ?_
      refine icmpNo hG d_jdk_52_method_21_code_7 (tlt hin.2).2.1 ?_
      refine aloadN hG d_jdk_52_method_21_code_10 rfl rfl ?_
      refine iloadN hG d_jdk_52_method_21_code_11 rfl ?_
      refine caload hG d_jdk_52_method_21_code_12 V2 hin (v := (.int (cs.getD i 0))) (ints_at (by omega)) ?_
      refine istoreS hG d_jdk_52_method_21_code_13 (o := s6) rfl hs6 ?_
      show G [d] h1 (0) (0) 15 #[.val (.ref b), .val (.int (Int32.ofNat i)), .val (.ref d), .val (.int (Int32.ofNat i)), .val (.int N), .val (.int (Int32.ofNat i)), .val (.int (cs.getD i 0))] []
      refine iload hG d_jdk_52_method_21_code_15 rfl ?_
      refine sipush hG d_jdk_52_method_21_code_17 (255) rfl ?_
      refine icmpYes hG d_jdk_52_method_21_code_20 (flt hc.2).2.2.2 (by decide) (pc' := 26) rfl ?_
      refine aloadN hG d_jdk_52_method_21_code_26 rfl rfl ?_
      refine iloadN hG d_jdk_52_method_21_code_27 rfl ?_
      refine iload hG d_jdk_52_method_21_code_28 rfl ?_
      refine i2b hG d_jdk_52_method_21_code_30 ?_
      refine bastore hG d_jdk_52_method_21_code_31 V1 hin (i := i) (ofN_clamp (by omega)) (by simp; omega) (List.mem_of_getElem? (i := 0) rfl) (fun h2 W3 V4 => ?_)
      have V5 : Arv Z h2 d kd .byte N (ints ((cs.take (i + 1)).map (nar .byte) ++ List.replicate r 0)) (.int 0) := by rw [fill_step (by omega) (nar .byte) (byte_idem2 _)] at V4; assumption
      refine iinc hG d_jdk_52_method_21_code_32 rfl (Int32.ofNat (i + 1)) (ofN_succ i) rfl ?_
      refine iinc hG d_jdk_52_method_21_code_35 rfl (Int32.ofNat (i + 1)) (ofN_succ i) rfl ?_
      refine iinc hG d_jdk_52_method_21_code_38 rfl (Int32.ofNat (i + 1)) (ofN_succ i) rfl ?_
      refine goto hG d_jdk_52_method_21_code_41 (by decide) (pc' := 3) rfl ?_
      have ne6 : b ≠ d := (Arv.neTy V2 V1 (by decide))
      have V7 : Arv Z h2 b kb .char N (ints cs) (.int 0) := (V2.other W3 ne6)
      exact ih (i + 1) h2 _ (by omega) (One.val rfl) (((Keep.refl _ _).trans K (allS (Or.inl (List.mem_of_getElem? (i := 0) rfl)) all0)).wr W3 (Or.inl (List.mem_of_getElem? (i := 0) rfl))) V5 V7
  refine iconst hG d_jdk_52_method_21_code_0 (0) rfl ?_
  refine istore hG d_jdk_52_method_21_code_1 rfl ?_
  exact loop cs.length 0 h _ (by omega) One.u (Keep.refl _ _) (by simpa using p1_arv) p0_arv
def Q_cmp3 (Z : State) (g0 : Int32) (gf : Value) (zva : Addr) (zkv : ClassId) (zoe : Addr) (zia : Addr) (zsa : Addr) (zta : Addr) (zka : ClassId) (zib : Addr) (zsb : Addr) (ztb : Addr) (zkb : ClassId) (zip : Addr) (zsp : Addr) (ztp : Addr) (zkp : ClassId) (b : Addr) (kb : ClassId) (N : Int32) (cs : List Int32) (h : Heap) : QT := fun v' M9 h9 => ∃ (t : Addr), ∃ (kt : ClassId), v' = some (.ref t) ∧ M9 = [t] ∧ Keep h h9 [] ∧ h.size ≤ t ∧ Arv Z h9 t kt .byte N (ints (cs.map (nar .byte))) (.int 0)
theorem ef_cmp3 (m : MethodId) (b : Addr) (kb : ClassId) (N : Int32) (cs : List Int32) : entryFrame m [(.ref b), (.int (0 : Int32)), (.int N)].toArray 6 = mkF m 0 #[.val (.ref b), .val (.int (0 : Int32)), .val (.int N), .unset, .unset, .unset] [] := by first | rfl | (simp [entryFrame, mkF, argsToLocals, Value.category]; done)
set_option maxRecDepth 65536 in
set_option maxHeartbeats 4000000 in
theorem m_cmp3 {l : Launch} {Z : State} {a0 : Array Value} {n0 : Nat} {g0 : Int32} {gf : Value} {zva : Addr} {zkv : ClassId} {zoe : Addr} {zia : Addr} {zsa : Addr} {zta : Addr} {zka : ClassId} {zib : Addr} {zsb : Addr} {ztb : Addr} {zkb : ClassId} {zip : Addr} {zsp : Addr} {ztp : Addr} {zkp : ClassId} (hC : Ctx l Z a0 n0 g0 gf zva zkv zoe zia zsa zta zka zib zsb ztb zkb zip zsp ztp zkp) (b : Addr) (kb : ClassId) (N : Int32) (cs : List Int32) (h : Heap) (p0_arv : Arv Z h b kb .char N (ints cs) (.int 0)) (hN : N = Int32.ofNat cs.length) (hlen : cs.length ≤ 32) (hlat : ∀ c ∈ cs, ¬ c < 0 ∧ ¬ (255 : Int32) < c) :
    Met l Z EL0 n0 (⟨"java/lang/StringUTF16", "compress", "([CII)[B"⟩ : MethodName) jdk_52_method_16_code 6 (some (.array .byte)) [] ({ frames := 1, cells := 1, slots := 32, locals := 18 } : Room) [(.ref b), (.int (0 : Int32)), (.int N)] [] h (Q_cmp3 Z g0 gf zva zkv zoe zia zsa zta zka zib zsb ztb zkb zip zsp ztp zkp b kb N cs h) := by
  obtain ⟨hw, hS, hE, hK, hX⟩ := id hC
  refine Met.intro pl_1 (fun m => ef_cmp3 m b kb N cs) hE ?_
  intro G hG
  refine iloadN hG d_jdk_52_method_16_code_0 rfl ?_
  refine newarray hG d_jdk_52_method_16_code_1 rfl (w3 hw) (by rw [hN]; exact ofN_nn (by omega)) (cap := 32) (by rw [hN, ofN_clamp (by omega)]; exact hlen) (by decide) (Nat.le_of_ble_eq_true rfl) (Nat.le_of_ble_eq_true rfl) (cnt := cs.length) (vs := (ints (List.replicate cs.length 0))) (ints_rep _) (fun h8 a9 kk10 g11 E12 V13 => ?_)
  show G [a9] h8 (1) (32) 3 #[.val (.ref b), .val (.int (0 : Int32)), .val (.int N), .unset, .unset, .unset] [(.ref a9)]
  refine astoreN hG d_jdk_52_method_16_code_3 rfl rfl ?_
  refine aloadN hG d_jdk_52_method_16_code_4 rfl rfl ?_
  refine iloadN hG d_jdk_52_method_16_code_5 rfl ?_
  refine aloadN hG d_jdk_52_method_16_code_6 rfl rfl ?_
  refine iconst hG d_jdk_52_method_16_code_7 (0) rfl ?_
  refine iloadN hG d_jdk_52_method_16_code_8 rfl ?_
  have V14 : Arv Z h8 b kb .char N (ints cs) (.int 0) := (p0_arv.ext E12)
  refine callStatic hG d_jdk_52_method_16_code_9 (w114 hw) (w115 hw) (w112 hw) (w116 hw) (by decide) (m_cmp5 hC (b) (a9) (kb) (kk10) (N) (cs) h8 V14 V13 hN hlen hlat) pd_0 rfl (rest := []) rfl rfl (allS (List.mem_of_getElem? (i := 0) rfl) all0) (Nat.le_of_ble_eq_true rfl) (W := 0) (Nat.le_of_ble_eq_true rfl) (Nat.le_of_ble_eq_true rfl) (Nat.le_of_ble_eq_true rfl) (Nat.le_of_ble_eq_true rfl) (fun v15 M16 h17 le18 hq19 => ?_)
  obtain ⟨rfl, rfl, K20, f21⟩ := hq19
  show G [a9] h17 (1) (32) 12 #[.val (.ref b), .val (.int (0 : Int32)), .val (.int N), .val (.ref a9), .unset, .unset] [(.int N)]
  refine istore hG d_jdk_52_method_16_code_12 rfl ?_
  refine iload hG d_jdk_52_method_16_code_14 rfl ?_
  refine iloadN hG d_jdk_52_method_16_code_16 rfl ?_
  refine icmpYes hG d_jdk_52_method_16_code_17 (teq rfl).1 (by decide) (pc' := 57) rfl ?_
  refine aloadN hG d_jdk_52_method_16_code_57 rfl rfl ?_
  have K22 : Keep h h17 [] := (((Keep.refl _ _).ext E12).trans K20 (allS (Or.inr g11) all0))
  exact areturn hG rfl rfl rfl d_jdk_52_method_16_code_58 (M' := [a9]) ⟨a9, kk10, rfl, rfl, K22, g11, f21⟩ (allS (List.mem_of_getElem? (i := 0) rfl) all0) (Nat.le_of_ble_eq_true rfl) (Nat.le_of_ble_eq_true rfl)
def Q_codL (Z : State) (g0 : Int32) (gf : Value) (zva : Addr) (zkv : ClassId) (zoe : Addr) (zia : Addr) (zsa : Addr) (zta : Addr) (zka : ClassId) (zib : Addr) (zsb : Addr) (ztb : Addr) (zkb : ClassId) (zip : Addr) (zsp : Addr) (ztp : Addr) (zkp : ClassId) (t : Addr) (kt : ClassId) (N : Int32) (xs : List Int32) (h : Heap) : QT := fun v' M9 h9 => v' = some (.int (0 : Int32)) ∧ M9 = [] ∧ h = h9
theorem ef_codL (m : MethodId) (t : Addr) (kt : ClassId) (N : Int32) (xs : List Int32) : entryFrame m [(.ref t), (.int N)].toArray 2 = mkF m 0 #[.val (.ref t), .val (.int N)] [] := by first | rfl | (simp [entryFrame, mkF, argsToLocals, Value.category]; done)
set_option maxRecDepth 65536 in
set_option maxHeartbeats 4000000 in
theorem m_codL {l : Launch} {Z : State} {a0 : Array Value} {n0 : Nat} {g0 : Int32} {gf : Value} {zva : Addr} {zkv : ClassId} {zoe : Addr} {zia : Addr} {zsa : Addr} {zta : Addr} {zka : ClassId} {zib : Addr} {zsb : Addr} {ztb : Addr} {zkb : ClassId} {zip : Addr} {zsp : Addr} {ztp : Addr} {zkp : ClassId} (hC : Ctx l Z a0 n0 g0 gf zva zkv zoe zia zsa zta zka zib zsb ztb zkb zip zsp ztp zkp) (t : Addr) (kt : ClassId) (N : Int32) (xs : List Int32) (h : Heap) (p0_arv : Arv Z h t kt .byte N (ints xs) (.int 0)) :
    Met l Z EL0 n0 (⟨"java/lang/StringUTF16", "coderFromArrayLen", "([BI)B"⟩ : MethodName) jdk_52_method_15_code 2 (some .byte) [] ({ frames := 0, cells := 0, slots := 0, locals := 0 } : Room) [(.ref t), (.int N)] [] h (Q_codL Z g0 gf zva zkv zoe zia zsa zta zka zib zsb ztb zkb zip zsp ztp zkp t kt N xs h) := by
  obtain ⟨hw, hS, hE, hK, hX⟩ := id hC
  refine Met.intro pl_2 (fun m => ef_codL m t kt N xs) hE ?_
  intro G hG
  refine iloadN hG d_jdk_52_method_15_code_0 rfl ?_
  refine aloadN hG d_jdk_52_method_15_code_1 rfl rfl ?_
  refine alen hG d_jdk_52_method_15_code_2 p0_arv ?_
  refine isub hG d_jdk_52_method_15_code_3 ?_
  refine bipush hG d_jdk_52_method_15_code_4 (31) rfl ?_
  refine iushr hG d_jdk_52_method_15_code_6 ?_
  refine i2b hG d_jdk_52_method_15_code_7 ?_
  exact ireturnN hG (by simp) d_jdk_52_method_15_code_8 (M' := []) ⟨(by rw [Int32.sub_self]; decide), rfl, rfl⟩ all0 (Nat.le_of_ble_eq_true rfl) (Nat.le_of_ble_eq_true rfl)
def Q_initV0 (Z : State) (g0 : Int32) (gf : Value) (zva : Addr) (zkv : ClassId) (zoe : Addr) (zia : Addr) (zsa : Addr) (zta : Addr) (zka : ClassId) (zib : Addr) (zsb : Addr) (ztb : Addr) (zkb : ClassId) (zip : Addr) (zsp : Addr) (ztp : Addr) (zkp : ClassId) (a : Addr) (b : Addr) (h : Heap) : QT := fun v' M9 h9 => ∃ (t : Addr), ∃ (kt : ClassId), v' = none ∧ M9 = [] ∧ Keep h h9 [a] ∧ Exa Z h9 a "java/lang/String" ∧ Fld Z h9 a "java/lang/String" "coder" "B" (.int (0 : Int32)) ∧ Fld Z h9 a "java/lang/String" "value" "[B" (.ref t) ∧ Arv Z h9 t kt .byte (0 : Int32) (ints []) (.int 0) ∧ (a ≠ t)
theorem ef_initV0 (m : MethodId) (a : Addr) (b : Addr) : entryFrame m [(.ref a), (.ref b), (.int (0 : Int32)), (.int (0 : Int32)), .null].toArray 6 = mkF m 0 #[.val (.ref a), .val (.ref b), .val (.int (0 : Int32)), .val (.int (0 : Int32)), .val .null, .unset] [] := by first | rfl | (simp [entryFrame, mkF, argsToLocals, Value.category]; done)
set_option maxRecDepth 65536 in
set_option maxHeartbeats 4000000 in
theorem m_initV0 {l : Launch} {Z : State} {a0 : Array Value} {n0 : Nat} {g0 : Int32} {gf : Value} {zva : Addr} {zkv : ClassId} {zoe : Addr} {zia : Addr} {zsa : Addr} {zta : Addr} {zka : ClassId} {zib : Addr} {zsb : Addr} {ztb : Addr} {zkb : ClassId} {zip : Addr} {zsp : Addr} {ztp : Addr} {zkp : ClassId} (hC : Ctx l Z a0 n0 g0 gf zva zkv zoe zia zsa zta zka zib zsb ztb zkb zip zsp ztp zkp) (a : Addr) (b : Addr) (h : Heap) (p0_exa : Exa Z h a "java/lang/String") (p1_fld : Fld Z h a "java/lang/String" "value" "[B" .null) (p2_fld : Fld Z h a "java/lang/String" "coder" "B" (.int (0 : Int32))) :
    Met l Z EL0 n0 (⟨"java/lang/String", "<init>", "([CIILjava/lang/Void;)V"⟩ : MethodName) jdk_42_method_149_code 6 none [] ({ frames := 1, cells := 4, slots := 8, locals := 12 } : Room) [(.ref a), (.ref b), (.int (0 : Int32)), (.int (0 : Int32)), .null] [a] h (Q_initV0 Z g0 gf zva zkv zoe zia zsa zta zka zib zsb ztb zkb zip zsp ztp zkp a b h) := by
  obtain ⟨hw, hS, hE, hK, hX⟩ := id hC
  refine Met.intro pl_3 (fun m => ef_initV0 m a b) hE ?_
  intro G hG
  refine aloadN hG d_jdk_42_method_149_code_0 rfl rfl ?_
  refine objInit hG d_jdk_42_method_149_code_1 (w31 hw) (w32 hw) (w33 hw) rfl (Nat.le_of_ble_eq_true rfl) (W := 0) (Nat.le_of_ble_eq_true rfl) (Nat.le_of_ble_eq_true rfl) ?_
  refine iloadN hG d_jdk_42_method_149_code_4 rfl ?_
  refine ifNo hG d_jdk_42_method_149_code_5 (by decide) ?_
  refine aloadN hG d_jdk_42_method_149_code_8 rfl rfl ?_
  refine ldc hG d_jdk_42_method_149_code_9 (w34 hw) hS (by decide) (vs := []) (N := 0) ⟨by decide, by decide +kernel⟩ (by decide) (by decide) (nn := 0) (by decide) (by decide) (Nat.le_of_ble_eq_true rfl) (Nat.le_of_ble_eq_true rfl) (fun h23 a24 b25 kk26 E27 X28 F29 F30 V31 ne32 => ?_)
  show G [a] h23 (2) (4) 11 #[.val (.ref a), .val (.ref b), .val (.int (0 : Int32)), .val (.int (0 : Int32)), .val .null, .unset] [(.ref a24), (.ref a)]
  refine getfield hG d_jdk_42_method_149_code_11 (w13 hw) Via.refl F30 ?_
  have E33 : Exa Z h23 a "java/lang/String" := (p0_exa.ext E27)
  have F34 : Fld Z h23 a "java/lang/String" "value" "[B" .null := (p1_fld.ext E27)
  refine putfield hG d_jdk_42_method_149_code_14 (w13 hw) Via.refl F34 E33 (Or.inr ⟨(w4 hw), rfl, rfl⟩) (w2 hw) pf__B rfl rfl (List.mem_of_getElem? (i := 0) rfl) (fun h35 W36 => ?_)
  have F37 : Fld Z h35 a "java/lang/String" "value" "[B" (.ref b25) := F34.same W36
  refine aloadN hG d_jdk_42_method_149_code_17 rfl rfl ?_
  refine ldc hG d_jdk_42_method_149_code_18 (w34 hw) hS (by decide) (vs := []) (N := 0) ⟨by decide, by decide +kernel⟩ (by decide) (by decide) (nn := 0) (by decide) (by decide) (Nat.le_of_ble_eq_true rfl) (Nat.le_of_ble_eq_true rfl) (fun h38 a39 b40 kk41 E42 X43 F44 F45 V46 ne47 => ?_)
  show G [a] h38 (4) (8) 20 #[.val (.ref a), .val (.ref b), .val (.int (0 : Int32)), .val (.int (0 : Int32)), .val .null, .unset] [(.ref a39), (.ref a)]
  refine getfield hG d_jdk_42_method_149_code_20 (w20 hw) Via.refl F44 ?_
  have E48 : Exa Z h38 a "java/lang/String" := ((E33.wr W36).ext E42)
  have F49 : Fld Z h38 a "java/lang/String" "coder" "B" (.int (0 : Int32)) := (((p2_fld.ext E27).other W36 (Or.inr (RoadKit.slot_ne (Or.inr (w5 hw)) (Or.inr (w4 hw)) (by decide) pf_B pf__B))).ext E42)
  refine putfield hG d_jdk_42_method_149_code_23 (w20 hw) Via.refl F49 E48 (Or.inr ⟨(w5 hw), rfl, rfl⟩) (w2 hw) pf_B rfl rfl (List.mem_of_getElem? (i := 0) rfl) (fun h50 W51 => ?_)
  have F52 : Fld Z h50 a "java/lang/String" "coder" "B" (.int (0 : Int32)) := F49.same W51
  have E53 : Exa Z h50 a "java/lang/String" := (E48.wr W51)
  have F54 : Fld Z h50 a "java/lang/String" "value" "[B" (.ref b25) := ((F37.ext E42).other W51 (Or.inr (RoadKit.slot_ne (Or.inr (w4 hw)) (Or.inr (w5 hw)) (by decide) pf__B pf_B)))
  have V55 : Arv Z h50 b25 kk26 .byte (0 : Int32) [] (.int 0) := (((V31.other W36 (Ne.symm (ne32 _ (List.mem_of_getElem? (i := 0) rfl)).2)).ext E42).other W51 (Ne.symm (ne32 _ (List.mem_of_getElem? (i := 0) rfl)).2))
  have K56 : Keep h h50 [a] := (((((Keep.refl _ _).ext E27).wr W36 (Or.inl (List.mem_of_getElem? (i := 0) rfl))).ext E42).wr W51 (Or.inl (List.mem_of_getElem? (i := 0) rfl)))
  exact return0 hG d_jdk_42_method_149_code_26 (M' := []) ⟨b25, kk26, rfl, rfl, K56, E53, F52, F54, V55, (ne32 _ (List.mem_of_getElem? (i := 0) rfl)).2⟩ all0 (Nat.le_of_ble_eq_true rfl) (Nat.le_of_ble_eq_true rfl)
def Q_initV1 (Z : State) (g0 : Int32) (gf : Value) (zva : Addr) (zkv : ClassId) (zoe : Addr) (zia : Addr) (zsa : Addr) (zta : Addr) (zka : ClassId) (zib : Addr) (zsb : Addr) (ztb : Addr) (zkb : ClassId) (zip : Addr) (zsp : Addr) (ztp : Addr) (zkp : ClassId) (a : Addr) (b : Addr) (kb : ClassId) (N : Int32) (cs : List Int32) (h : Heap) : QT := fun v' M9 h9 => ∃ (t : Addr), ∃ (kt : ClassId), v' = none ∧ M9 = [t] ∧ Keep h h9 [a] ∧ h.size ≤ t ∧ Exa Z h9 a "java/lang/String" ∧ Fld Z h9 a "java/lang/String" "coder" "B" (.int (0 : Int32)) ∧ Fld Z h9 a "java/lang/String" "value" "[B" (.ref t) ∧ Arv Z h9 t kt .byte N (ints (cs.map (nar .byte))) (.int 0)
theorem ef_initV1 (m : MethodId) (a : Addr) (b : Addr) (kb : ClassId) (N : Int32) (cs : List Int32) : entryFrame m [(.ref a), (.ref b), (.int (0 : Int32)), (.int N), .null].toArray 6 = mkF m 0 #[.val (.ref a), .val (.ref b), .val (.int (0 : Int32)), .val (.int N), .val .null, .unset] [] := by first | rfl | (simp [entryFrame, mkF, argsToLocals, Value.category]; done)
set_option maxRecDepth 65536 in
set_option maxHeartbeats 4000000 in
theorem m_initV1 {l : Launch} {Z : State} {a0 : Array Value} {n0 : Nat} {g0 : Int32} {gf : Value} {zva : Addr} {zkv : ClassId} {zoe : Addr} {zia : Addr} {zsa : Addr} {zta : Addr} {zka : ClassId} {zib : Addr} {zsb : Addr} {ztb : Addr} {zkb : ClassId} {zip : Addr} {zsp : Addr} {ztp : Addr} {zkp : ClassId} (hC : Ctx l Z a0 n0 g0 gf zva zkv zoe zia zsa zta zka zib zsb ztb zkb zip zsp ztp zkp) (a : Addr) (b : Addr) (kb : ClassId) (N : Int32) (cs : List Int32) (h : Heap) (p0_exa : Exa Z h a "java/lang/String") (p1_fld : Fld Z h a "java/lang/String" "value" "[B" .null) (p2_fld : Fld Z h a "java/lang/String" "coder" "B" (.int (0 : Int32))) (p3_arv : Arv Z h b kb .char N (ints cs) (.int 0)) (hN : N = Int32.ofNat cs.length) (hlen : cs.length ≤ 32) (hlat : ∀ c ∈ cs, ¬ c < 0 ∧ ¬ (255 : Int32) < c) (hpos : ¬ N = 0) :
    Met l Z EL0 n0 (⟨"java/lang/String", "<init>", "([CIILjava/lang/Void;)V"⟩ : MethodName) jdk_42_method_149_code 6 none [] ({ frames := 2, cells := 1, slots := 32, locals := 35 } : Room) [(.ref a), (.ref b), (.int (0 : Int32)), (.int N), .null] [a] h (Q_initV1 Z g0 gf zva zkv zoe zia zsa zta zka zib zsb ztb zkb zip zsp ztp zkp a b kb N cs h) := by
  obtain ⟨hw, hS, hE, hK, hX⟩ := id hC
  refine Met.intro pl_3 (fun m => ef_initV1 m a b kb N cs) hE ?_
  intro G hG
  refine aloadN hG d_jdk_42_method_149_code_0 rfl rfl ?_
  refine objInit hG d_jdk_42_method_149_code_1 (w31 hw) (w32 hw) (w33 hw) rfl (Nat.le_of_ble_eq_true rfl) (W := 0) (Nat.le_of_ble_eq_true rfl) (Nat.le_of_ble_eq_true rfl) ?_
  refine iloadN hG d_jdk_42_method_149_code_4 rfl ?_
  refine ifYes hG d_jdk_42_method_149_code_5 (feq hpos).2 (by decide) (pc' := 27) rfl ?_
  refine getstatic hG d_jdk_42_method_149_code_27 (w19 hw) Via.refl hK.1 ?_
  refine ifNo hG d_jdk_42_method_149_code_30 (feq hK.2).1 ?_
  refine aloadN hG d_jdk_42_method_149_code_33 rfl rfl ?_
  refine iloadN hG d_jdk_42_method_149_code_34 rfl ?_
  refine iloadN hG d_jdk_42_method_149_code_35 rfl ?_
  refine callStatic hG d_jdk_42_method_149_code_36 (w110 hw) (w111 hw) (w112 hw) (w113 hw) (by decide) (m_cmp3 hC (b) (kb) (N) (cs) h p3_arv hN hlen hlat) pd_1 rfl (rest := []) rfl rfl all0 (Nat.le_of_ble_eq_true rfl) (W := 0) (Nat.le_of_ble_eq_true rfl) (Nat.le_of_ble_eq_true rfl) (Nat.le_of_ble_eq_true rfl) (Nat.le_of_ble_eq_true rfl) (fun v57 M58 h59 le60 hq61 => ?_)
  obtain ⟨t62, kt63, rfl, rfl, K64, g65, f66⟩ := hq61
  show G [t62, a] h59 (1) (32) 39 #[.val (.ref a), .val (.ref b), .val (.int (0 : Int32)), .val (.int N), .val .null, .unset] [(.ref t62)]
  refine astore hG d_jdk_42_method_149_code_39 rfl rfl ?_
  refine aloadN hG d_jdk_42_method_149_code_41 rfl rfl ?_
  refine aload hG d_jdk_42_method_149_code_42 rfl rfl ?_
  refine iloadN hG d_jdk_42_method_149_code_44 rfl ?_
  refine callStatic hG d_jdk_42_method_149_code_45 (w117 hw) (w118 hw) (w112 hw) (w119 hw) (by decide) (m_codL hC (t62) (kt63) (N) ((cs.map (nar .byte))) h59 f66) pd_2 rfl (rest := [(.ref a)]) rfl rfl all0 (Nat.le_of_ble_eq_true rfl) (W := 1) (Nat.le_of_ble_eq_true rfl) (Nat.le_of_ble_eq_true rfl) (Nat.le_of_ble_eq_true rfl) (Nat.le_of_ble_eq_true rfl) (fun v67 M68 h69 le70 hq71 => ?_)
  obtain ⟨rfl, rfl, rfl⟩ := hq71
  show G [t62, a] h59 (1) (32) 48 #[.val (.ref a), .val (.ref b), .val (.int (0 : Int32)), .val (.int N), .val .null, .val (.ref t62)] [(.int (0 : Int32)), (.ref a)]
  have E72 : Exa Z h59 a "java/lang/String" := (p0_exa.keep K64)
  have F73 : Fld Z h59 a "java/lang/String" "coder" "B" (.int (0 : Int32)) := (p2_fld.keep K64 nin0)
  refine putfield hG d_jdk_42_method_149_code_48 (w20 hw) Via.refl F73 E72 (Or.inr ⟨(w5 hw), rfl, rfl⟩) (w2 hw) pf_B rfl rfl (List.mem_of_getElem? (i := 1) rfl) (fun h74 W75 => ?_)
  have F76 : Fld Z h74 a "java/lang/String" "coder" "B" (.int (0 : Int32)) := F73.same W75
  refine aloadN hG d_jdk_42_method_149_code_51 rfl rfl ?_
  refine aload hG d_jdk_42_method_149_code_52 rfl rfl ?_
  have E77 : Exa Z h74 a "java/lang/String" := (E72.wr W75)
  have F78 : Fld Z h74 a "java/lang/String" "value" "[B" .null := ((p1_fld.keep K64 nin0).other W75 (Or.inr (RoadKit.slot_ne (Or.inr (w4 hw)) (Or.inr (w5 hw)) (by decide) pf__B pf_B)))
  refine putfield hG d_jdk_42_method_149_code_54 (w13 hw) Via.refl F78 E77 (Or.inr ⟨(w4 hw), rfl, rfl⟩) (w2 hw) pf__B rfl rfl (List.mem_of_getElem? (i := 1) rfl) (fun h79 W80 => ?_)
  have F81 : Fld Z h79 a "java/lang/String" "value" "[B" (.ref t62) := F78.same W80
  have E82 : Exa Z h79 a "java/lang/String" := (E77.wr W80)
  have F83 : Fld Z h79 a "java/lang/String" "coder" "B" (.int (0 : Int32)) := (F76.other W80 (Or.inr (RoadKit.slot_ne (Or.inr (w5 hw)) (Or.inr (w4 hw)) (by decide) pf_B pf__B)))
  have ne84 : t62 ≠ a := (Nat.ne_of_gt (Nat.lt_of_lt_of_le p0_exa.lt g65))
  have V85 : Arv Z h79 t62 kt63 .byte N (ints (cs.map (nar .byte))) (.int 0) := ((f66.other W75 ne84).other W80 ne84)
  have K86 : Keep h h79 [a] := ((((Keep.refl _ _).trans K64 all0).wr W75 (Or.inl (List.mem_of_getElem? (i := 0) rfl))).wr W80 (Or.inl (List.mem_of_getElem? (i := 0) rfl)))
  exact return0 hG d_jdk_42_method_149_code_57 (M' := [t62]) ⟨t62, kt63, rfl, rfl, K86, g65, E82, F83, F81, V85⟩ (allS (List.mem_of_getElem? (i := 0) rfl) all0) (Nat.le_of_ble_eq_true rfl) (Nat.le_of_ble_eq_true rfl)
def Q_initCA (Z : State) (g0 : Int32) (gf : Value) (zva : Addr) (zkv : ClassId) (zoe : Addr) (zia : Addr) (zsa : Addr) (zta : Addr) (zka : ClassId) (zib : Addr) (zsb : Addr) (ztb : Addr) (zkb : ClassId) (zip : Addr) (zsp : Addr) (ztp : Addr) (zkp : ClassId) (a : Addr) (b : Addr) (kb : ClassId) (N : Int32) (cs : List Int32) (h : Heap) : QT := fun v' M9 h9 => ∃ (t : Addr), ∃ (kt : ClassId), v' = none ∧ M9 = [] ∧ Keep h h9 [a] ∧ Exa Z h9 a "java/lang/String" ∧ Fld Z h9 a "java/lang/String" "coder" "B" (.int (0 : Int32)) ∧ Fld Z h9 a "java/lang/String" "value" "[B" (.ref t) ∧ Arv Z h9 t kt .byte N (ints (cs.map (nar .byte))) (.int 0) ∧ (a ≠ t)
theorem ef_initCA (m : MethodId) (a : Addr) (b : Addr) (kb : ClassId) (N : Int32) (cs : List Int32) : entryFrame m [(.ref a), (.ref b)].toArray 2 = mkF m 0 #[.val (.ref a), .val (.ref b)] [] := by first | rfl | (simp [entryFrame, mkF, argsToLocals, Value.category]; done)
set_option maxRecDepth 65536 in
set_option maxHeartbeats 4000000 in
theorem m_initCA {l : Launch} {Z : State} {a0 : Array Value} {n0 : Nat} {g0 : Int32} {gf : Value} {zva : Addr} {zkv : ClassId} {zoe : Addr} {zia : Addr} {zsa : Addr} {zta : Addr} {zka : ClassId} {zib : Addr} {zsb : Addr} {ztb : Addr} {zkb : ClassId} {zip : Addr} {zsp : Addr} {ztp : Addr} {zkp : ClassId} (hC : Ctx l Z a0 n0 g0 gf zva zkv zoe zia zsa zta zka zib zsb ztb zkb zip zsp ztp zkp) (a : Addr) (b : Addr) (kb : ClassId) (N : Int32) (cs : List Int32) (h : Heap) (p0_exa : Exa Z h a "java/lang/String") (p1_fld : Fld Z h a "java/lang/String" "value" "[B" .null) (p2_fld : Fld Z h a "java/lang/String" "coder" "B" (.int (0 : Int32))) (p3_arv : Arv Z h b kb .char N (ints cs) (.int 0)) (hN : N = Int32.ofNat cs.length) (hlen : cs.length ≤ 32) (hlat : ∀ c ∈ cs, ¬ c < 0 ∧ ¬ (255 : Int32) < c) :
    Met l Z EL0 n0 (⟨"java/lang/String", "<init>", "([C)V"⟩ : MethodName) jdk_42_method_3_code 2 none [] ({ frames := 3, cells := 4, slots := 32, locals := 52 } : Room) [(.ref a), (.ref b)] [a] h (Q_initCA Z g0 gf zva zkv zoe zia zsa zta zka zib zsb ztb zkb zip zsp ztp zkp a b kb N cs h) := by
  obtain ⟨hw, hS, hE, hK, hX⟩ := id hC
  refine Met.intro pl_4 (fun m => ef_initCA m a b kb N cs) hE ?_
  intro G hG
  by_cases hz : cs = []
  · subst hz
    have hN0 : N = 0 := hN
    subst hN0
    refine aloadN hG d_jdk_42_method_3_code_0 rfl rfl ?_
    refine aloadN hG d_jdk_42_method_3_code_1 rfl rfl ?_
    refine iconst hG d_jdk_42_method_3_code_2 (0) rfl ?_
    refine aloadN hG d_jdk_42_method_3_code_3 rfl rfl ?_
    refine alen hG d_jdk_42_method_3_code_4 p3_arv ?_
    refine aconst_null hG d_jdk_42_method_3_code_5 ?_
    refine callInit hG d_jdk_42_method_3_code_6 rfl (w27 hw) (w28 hw) (w1 hw) (w30 hw) (by decide) (m_initV0 hC (a) (b) h p0_exa p1_fld p2_fld) pd_3 rfl (rest := []) rfl rfl (allS (List.mem_of_getElem? (i := 0) rfl) all0) (Nat.le_of_ble_eq_true rfl) (W := 0) (Nat.le_of_ble_eq_true rfl) (Nat.le_of_ble_eq_true rfl) (Nat.le_of_ble_eq_true rfl) (Nat.le_of_ble_eq_true rfl) (fun v87 M88 h89 le90 hq91 => ?_)
    obtain ⟨t92, kt93, rfl, rfl, K94, f95, f96, f97, f98, hat99⟩ := hq91
    show G [a] h89 (4) (8) 9 #[.val (.ref a), .val (.ref b)] []
    have K100 : Keep h h89 [a] := ((Keep.refl _ _).trans K94 (allS (Or.inl (List.mem_of_getElem? (i := 0) rfl)) all0))
    exact return0 hG d_jdk_42_method_3_code_9 (M' := []) ⟨t92, kt93, rfl, rfl, K100, f95, f96, f97, f98, hat99⟩ all0 (Nat.le_of_ble_eq_true rfl) (Nat.le_of_ble_eq_true rfl)
  · have hpos : ¬ N = 0 := fun q => hz (List.eq_nil_of_length_eq_zero (ofN_inj (n := 0) (by omega) (by omega) (by rw [← hN]; exact q)))
    refine aloadN hG d_jdk_42_method_3_code_0 rfl rfl ?_
    refine aloadN hG d_jdk_42_method_3_code_1 rfl rfl ?_
    refine iconst hG d_jdk_42_method_3_code_2 (0) rfl ?_
    refine aloadN hG d_jdk_42_method_3_code_3 rfl rfl ?_
    refine alen hG d_jdk_42_method_3_code_4 p3_arv ?_
    refine aconst_null hG d_jdk_42_method_3_code_5 ?_
    refine callInit hG d_jdk_42_method_3_code_6 rfl (w27 hw) (w28 hw) (w1 hw) (w30 hw) (by decide) (m_initV1 hC (a) (b) (kb) (N) (cs) h p0_exa p1_fld p2_fld p3_arv hN hlen hlat hpos) pd_3 rfl (rest := []) rfl rfl (allS (List.mem_of_getElem? (i := 0) rfl) all0) (Nat.le_of_ble_eq_true rfl) (W := 0) (Nat.le_of_ble_eq_true rfl) (Nat.le_of_ble_eq_true rfl) (Nat.le_of_ble_eq_true rfl) (Nat.le_of_ble_eq_true rfl) (fun v101 M102 h103 le104 hq105 => ?_)
    obtain ⟨t106, kt107, rfl, rfl, K108, g109, f110, f111, f112, f113⟩ := hq105
    show G [t106, a] h103 (1) (32) 9 #[.val (.ref a), .val (.ref b)] []
    have ne114 : a ≠ t106 := (Nat.ne_of_lt (Nat.lt_of_lt_of_le p0_exa.lt g109))
    have K115 : Keep h h103 [a] := ((Keep.refl _ _).trans K108 (allS (Or.inl (List.mem_of_getElem? (i := 0) rfl)) all0))
    exact return0 hG d_jdk_42_method_3_code_9 (M' := []) ⟨t106, kt107, rfl, rfl, K115, f110, f111, f112, f113, ne114⟩ all0 (Nat.le_of_ble_eq_true rfl) (Nat.le_of_ble_eq_true rfl)
def Q_eqL1 (Z : State) (g0 : Int32) (gf : Value) (zva : Addr) (zkv : ClassId) (zoe : Addr) (zia : Addr) (zsa : Addr) (zta : Addr) (zka : ClassId) (zib : Addr) (zsb : Addr) (ztb : Addr) (zkb : ClassId) (zip : Addr) (zsp : Addr) (ztp : Addr) (zkp : ClassId) (a : Addr) (b : Addr) (ka : ClassId) (kb : ClassId) (Na : Int32) (Nb : Int32) (xs : List Int32) (ys : List Int32) (h : Heap) : QT := fun v' M9 h9 => v' = some (.int (eqv xs ys)) ∧ M9 = [] ∧ h = h9
theorem ef_eqL1 (m : MethodId) (a : Addr) (b : Addr) (ka : ClassId) (kb : ClassId) (Na : Int32) (Nb : Int32) (xs : List Int32) (ys : List Int32) : entryFrame m [(.ref a), (.ref b)].toArray 3 = mkF m 0 #[.val (.ref a), .val (.ref b), .unset] [] := by first | rfl | (simp [entryFrame, mkF, argsToLocals, Value.category]; done)
set_option maxRecDepth 65536 in
set_option maxHeartbeats 4000000 in
theorem m_eqL1 {l : Launch} {Z : State} {a0 : Array Value} {n0 : Nat} {g0 : Int32} {gf : Value} {zva : Addr} {zkv : ClassId} {zoe : Addr} {zia : Addr} {zsa : Addr} {zta : Addr} {zka : ClassId} {zib : Addr} {zsb : Addr} {ztb : Addr} {zkb : ClassId} {zip : Addr} {zsp : Addr} {ztp : Addr} {zkp : ClassId} (hC : Ctx l Z a0 n0 g0 gf zva zkv zoe zia zsa zta zka zib zsb ztb zkb zip zsp ztp zkp) (a : Addr) (b : Addr) (ka : ClassId) (kb : ClassId) (Na : Int32) (Nb : Int32) (xs : List Int32) (ys : List Int32) (h : Heap) (p0_arv : Arv Z h a ka .byte Na (ints xs) (.int 0)) (p1_arv : Arv Z h b kb .byte Nb (ints ys) (.int 0)) (hNa : Na = Int32.ofNat xs.length) (hNb : Nb = Int32.ofNat ys.length) (hla : xs.length ≤ 2000) (hlb : ys.length ≤ 2000) :
    Met l Z EL0 n0 (⟨"java/lang/StringLatin1", "equals", "([B[B)Z"⟩ : MethodName) jdk_43_method_13_code 3 (some .boolean) [] ({ frames := 0, cells := 0, slots := 0, locals := 0 } : Room) [(.ref a), (.ref b)] [] h (Q_eqL1 Z g0 gf zva zkv zoe zia zsa zta zka zib zsb ztb zkb zip zsp ztp zkp a b ka kb Na Nb xs ys h) := by
  obtain ⟨hw, hS, hE, hK, hX⟩ := id hC
  refine Met.intro pl_5 (fun m => ef_eqL1 m a b ka kb Na Nb xs ys) hE ?_
  intro G hG
  have loop : xs.length = ys.length → ∀ (r i : Nat), i + r = xs.length → xs.take i = ys.take i → G [] h 0 0 9 #[.val (.ref a), .val (.ref b), .val (.int (Int32.ofNat i))] [] := by
    intro hl r; induction r with
    | zero =>
      intro i hi ht
      have e : xs = ys := by rw [List.take_of_length_le (by omega), List.take_of_length_le (by omega)] at ht; exact ht
      refine iloadN hG d_jdk_43_method_13_code_9 rfl ?_
      refine aloadN hG d_jdk_43_method_13_code_10 rfl rfl ?_
      refine alen hG d_jdk_43_method_13_code_11 p0_arv ?_
      refine icmpYes hG d_jdk_43_method_13_code_12 (flt (by rw [hNa]; exact ofN_nlt (by omega) (by omega))).2.1 (by decide) (pc' := 32) rfl ?_
      refine iconst hG d_jdk_43_method_13_code_32 (1) rfl ?_
      exact ireturnN hG (by simp) d_jdk_43_method_13_code_33 (M' := []) ⟨(by rw [eqv_yes e]; rfl), rfl, rfl⟩ all0 (Nat.le_of_ble_eq_true rfl) (Nat.le_of_ble_eq_true rfl)
    | succ r ih =>
      intro i hi ht
      have hina := ofN_in (i := i) (n := xs.length) (by omega) (by omega)
      have hinb := ofN_in (i := i) (n := ys.length) (by omega) (by omega)
      rw [← hNa] at hina
      rw [← hNb] at hinb
      refine iloadN hG d_jdk_43_method_13_code_9 rfl ?_
      refine aloadN hG d_jdk_43_method_13_code_10 rfl rfl ?_
      refine alen hG d_jdk_43_method_13_code_11 p0_arv ?_
      refine icmpNo hG d_jdk_43_method_13_code_12 (tlt hina.2).2.1 ?_
      refine aloadN hG d_jdk_43_method_13_code_15 rfl rfl ?_
      refine iloadN hG d_jdk_43_method_13_code_16 rfl ?_
      refine baload hG d_jdk_43_method_13_code_17 p0_arv hina (v := (.int (xs.getD i 0))) (ints_at (by omega)) ?_
      refine aloadN hG d_jdk_43_method_13_code_18 rfl rfl ?_
      refine iloadN hG d_jdk_43_method_13_code_19 rfl ?_
      refine baload hG d_jdk_43_method_13_code_20 p1_arv hinb (v := (.int (ys.getD i 0))) (ints_at (by omega)) ?_
      refine icmp_eq hG d_jdk_43_method_13_code_21 (by decide) (pc' := 26) rfl (fun q116 => ?_) (fun q116 => ?_)
      · skip
        refine iinc hG d_jdk_43_method_13_code_26 rfl (Int32.ofNat (i + 1)) (ofN_succ i) rfl ?_
        refine goto hG d_jdk_43_method_13_code_29 (by decide) (pc' := 9) rfl ?_
        exact ih (i + 1) (by omega) (by rw [take_succ' (by omega), take_succ' (by omega), ht, q116])
      · skip
        refine iconst hG d_jdk_43_method_13_code_24 (0) rfl ?_
        exact ireturnN hG (by simp) d_jdk_43_method_13_code_25 (M' := []) ⟨(by rw [eqv_no (fun e => q116 (by rw [e]))]; rfl), rfl, rfl⟩ all0 (Nat.le_of_ble_eq_true rfl) (Nat.le_of_ble_eq_true rfl)
  refine aloadN hG d_jdk_43_method_13_code_0 rfl rfl ?_
  refine alen hG d_jdk_43_method_13_code_1 p0_arv ?_
  refine aloadN hG d_jdk_43_method_13_code_2 rfl rfl ?_
  refine alen hG d_jdk_43_method_13_code_3 p1_arv ?_
  refine icmp_ne hG d_jdk_43_method_13_code_4 (by decide) (pc' := 34) rfl (fun q117 => ?_) (fun q117 => ?_)
  · skip
    refine iconst hG d_jdk_43_method_13_code_34 (0) rfl ?_
    exact ireturnN hG (by simp) d_jdk_43_method_13_code_35 (M' := []) ⟨(by rw [eqv_no (fun e => q117 (by rw [hNa, hNb, e]))]; rfl), rfl, rfl⟩ all0 (Nat.le_of_ble_eq_true rfl) (Nat.le_of_ble_eq_true rfl)
  · skip
    refine iconst hG d_jdk_43_method_13_code_7 (0) rfl ?_
    refine istoreN hG d_jdk_43_method_13_code_8 rfl ?_
    exact loop (ofN_inj (by omega) (by omega) (by rw [← hNa, ← hNb]; exact q117)) xs.length 0 (by omega) rfl
def Q_eqS (Z : State) (g0 : Int32) (gf : Value) (zva : Addr) (zkv : ClassId) (zoe : Addr) (zia : Addr) (zsa : Addr) (zta : Addr) (zka : ClassId) (zib : Addr) (zsb : Addr) (ztb : Addr) (zkb : ClassId) (zip : Addr) (zsp : Addr) (ztp : Addr) (zkp : ClassId) (a : Addr) (b : Addr) (ta : Addr) (tb : Addr) (ka : ClassId) (kb : ClassId) (Na : Int32) (Nb : Int32) (xs : List Int32) (ys : List Int32) (h : Heap) : QT := fun v' M9 h9 => v' = some (.int (eqv xs ys)) ∧ M9 = [] ∧ h = h9
theorem ef_eqS (m : MethodId) (a : Addr) (b : Addr) (ta : Addr) (tb : Addr) (ka : ClassId) (kb : ClassId) (Na : Int32) (Nb : Int32) (xs : List Int32) (ys : List Int32) : entryFrame m [(.ref a), (.ref b)].toArray 3 = mkF m 0 #[.val (.ref a), .val (.ref b), .unset] [] := by first | rfl | (simp [entryFrame, mkF, argsToLocals, Value.category]; done)
set_option maxRecDepth 65536 in
set_option maxHeartbeats 4000000 in
theorem m_eqS {l : Launch} {Z : State} {a0 : Array Value} {n0 : Nat} {g0 : Int32} {gf : Value} {zva : Addr} {zkv : ClassId} {zoe : Addr} {zia : Addr} {zsa : Addr} {zta : Addr} {zka : ClassId} {zib : Addr} {zsb : Addr} {ztb : Addr} {zkb : ClassId} {zip : Addr} {zsp : Addr} {ztp : Addr} {zkp : ClassId} (hC : Ctx l Z a0 n0 g0 gf zva zkv zoe zia zsa zta zka zib zsb ztb zkb zip zsp ztp zkp) (a : Addr) (b : Addr) (ta : Addr) (tb : Addr) (ka : ClassId) (kb : ClassId) (Na : Int32) (Nb : Int32) (xs : List Int32) (ys : List Int32) (h : Heap) (p0_exa : Exa Z h a "java/lang/String") (p1_exa : Exa Z h b "java/lang/String") (p2_fld : Fld Z h a "java/lang/String" "coder" "B" (.int (0 : Int32))) (p3_fld : Fld Z h b "java/lang/String" "coder" "B" (.int (0 : Int32))) (p4_fld : Fld Z h a "java/lang/String" "value" "[B" (.ref ta)) (p5_fld : Fld Z h b "java/lang/String" "value" "[B" (.ref tb)) (p6_arv : Arv Z h ta ka .byte Na (ints xs) (.int 0)) (p7_arv : Arv Z h tb kb .byte Nb (ints ys) (.int 0)) (hNa : Na = Int32.ofNat xs.length) (hNb : Nb = Int32.ofNat ys.length) (hla : xs.length ≤ 2000) (hlb : ys.length ≤ 2000) (hab : a ≠ b) :
    Met l Z EL0 n0 (⟨"java/lang/String", "equals", "(Ljava/lang/Object;)Z"⟩ : MethodName) jdk_42_method_66_code 3 (some .boolean) [] ({ frames := 1, cells := 0, slots := 0, locals := 14 } : Room) [(.ref a), (.ref b)] [] h (Q_eqS Z g0 gf zva zkv zoe zia zsa zta zka zib zsb ztb zkb zip zsp ztp zkp a b ta tb ka kb Na Nb xs ys h) := by
  obtain ⟨hw, hS, hE, hK, hX⟩ := id hC
  refine Met.intro pl_6 (fun m => ef_eqS m a b ta tb ka kb Na Nb xs ys) hE ?_
  intro G hG
  refine aloadN hG d_jdk_42_method_66_code_0 rfl rfl ?_
  refine aloadN hG d_jdk_42_method_66_code_1 rfl rfl ?_
  refine acmp_ne hG d_jdk_42_method_66_code_2 rfl rfl (by decide) (pc' := 7) rfl (fun _ => ?_) (fun q => absurd q (fun q => hab (Value.ref.inj q)))
  refine aloadN hG d_jdk_42_method_66_code_7 rfl rfl ?_
  refine instYes hG d_jdk_42_method_66_code_8 (w40 hw) (Ins.of_exa p1_exa (w29 hw)) ?_
  refine ifNo hG d_jdk_42_method_66_code_11 (by decide) ?_
  refine aloadN hG d_jdk_42_method_66_code_14 rfl rfl ?_
  refine checkcast hG d_jdk_42_method_66_code_15 (w40 hw) (Ins.of_exa p1_exa (w29 hw)) ?_
  refine astoreN hG d_jdk_42_method_66_code_18 rfl rfl ?_
  refine getstatic hG d_jdk_42_method_66_code_19 (w19 hw) Via.refl hK.1 ?_
  refine ifNo hG d_jdk_42_method_66_code_22 (feq hK.2).1 ?_
  refine aloadN hG d_jdk_42_method_66_code_25 rfl rfl ?_
  refine getfield hG d_jdk_42_method_66_code_26 (w20 hw) Via.refl p2_fld ?_
  refine aloadN hG d_jdk_42_method_66_code_29 rfl rfl ?_
  refine getfield hG d_jdk_42_method_66_code_30 (w20 hw) Via.refl p3_fld ?_
  refine icmpNo hG d_jdk_42_method_66_code_33 (by decide) ?_
  refine aloadN hG d_jdk_42_method_66_code_36 rfl rfl ?_
  refine getfield hG d_jdk_42_method_66_code_37 (w13 hw) Via.refl p4_fld ?_
  refine aloadN hG d_jdk_42_method_66_code_40 rfl rfl ?_
  refine getfield hG d_jdk_42_method_66_code_41 (w13 hw) Via.refl p5_fld ?_
  refine callStatic hG d_jdk_42_method_66_code_44 (w41 hw) (w42 hw) (w43 hw) (w44 hw) (by decide) (m_eqL1 hC (ta) (tb) (ka) (kb) (Na) (Nb) (xs) (ys) h p6_arv p7_arv hNa hNb hla hlb) pd_4 rfl (rest := []) rfl rfl all0 (Nat.le_of_ble_eq_true rfl) (W := 0) (Nat.le_of_ble_eq_true rfl) (Nat.le_of_ble_eq_true rfl) (Nat.le_of_ble_eq_true rfl) (Nat.le_of_ble_eq_true rfl) (fun v118 M119 h120 le121 hq122 => ?_)
  obtain ⟨rfl, rfl, rfl⟩ := hq122
  show G [] h (0) (0) 47 #[.val (.ref a), .val (.ref b), .val (.ref b)] [(.int (eqv xs ys))]
  refine if_eq hG d_jdk_42_method_66_code_47 (by decide) (pc' := 54) rfl (fun q123 => ?_) (fun q123 => ?_)
  · skip
    refine iconst hG d_jdk_42_method_66_code_54 (0) rfl ?_
    exact ireturnN hG (by simp) d_jdk_42_method_66_code_55 (M' := []) ⟨(by rw [q123]; rfl), rfl, rfl⟩ all0 (Nat.le_of_ble_eq_true rfl) (Nat.le_of_ble_eq_true rfl)
  · skip
    refine iconst hG d_jdk_42_method_66_code_50 (1) rfl ?_
    refine goto hG d_jdk_42_method_66_code_51 (by decide) (pc' := 55) rfl ?_
    exact ireturnN hG (by simp) d_jdk_42_method_66_code_55 (M' := []) ⟨(by rw [eqv_one q123]; rfl), rfl, rfl⟩ all0 (Nat.le_of_ble_eq_true rfl) (Nat.le_of_ble_eq_true rfl)
def Q_coder (Z : State) (g0 : Int32) (gf : Value) (zva : Addr) (zkv : ClassId) (zoe : Addr) (zia : Addr) (zsa : Addr) (zta : Addr) (zka : ClassId) (zib : Addr) (zsb : Addr) (ztb : Addr) (zkb : ClassId) (zip : Addr) (zsp : Addr) (ztp : Addr) (zkp : ClassId) (a : Addr) (cd : Int32) (h : Heap) : QT := fun v' M9 h9 => v' = some (.int cd) ∧ M9 = [] ∧ h = h9
theorem ef_coder (m : MethodId) (a : Addr) (cd : Int32) : entryFrame m [(.ref a)].toArray 1 = mkF m 0 #[.val (.ref a)] [] := by first | rfl | (simp [entryFrame, mkF, argsToLocals, Value.category]; done)
set_option maxRecDepth 65536 in
set_option maxHeartbeats 4000000 in
theorem m_coder {l : Launch} {Z : State} {a0 : Array Value} {n0 : Nat} {g0 : Int32} {gf : Value} {zva : Addr} {zkv : ClassId} {zoe : Addr} {zia : Addr} {zsa : Addr} {zta : Addr} {zka : ClassId} {zib : Addr} {zsb : Addr} {ztb : Addr} {zkb : ClassId} {zip : Addr} {zsp : Addr} {ztp : Addr} {zkp : ClassId} (hC : Ctx l Z a0 n0 g0 gf zva zkv zoe zia zsa zta zka zib zsb ztb zkb zip zsp ztp zkp) (a : Addr) (cd : Int32) (h : Heap) (p0_fld : Fld Z h a "java/lang/String" "coder" "B" (.int cd)) (hcd : nar .byte cd = cd) :
    Met l Z EL0 n0 (⟨"java/lang/String", "coder", "()B"⟩ : MethodName) jdk_42_method_152_code 1 (some .byte) [] ({ frames := 0, cells := 0, slots := 0, locals := 0 } : Room) [(.ref a)] [] h (Q_coder Z g0 gf zva zkv zoe zia zsa zta zka zib zsb ztb zkb zip zsp ztp zkp a cd h) := by
  obtain ⟨hw, hS, hE, hK, hX⟩ := id hC
  refine Met.intro pl_7 (fun m => ef_coder m a cd) hE ?_
  intro G hG
  refine getstatic hG d_jdk_42_method_152_code_0 (w19 hw) Via.refl hK.1 ?_
  refine ifNo hG d_jdk_42_method_152_code_3 (feq hK.2).1 ?_
  refine aloadN hG d_jdk_42_method_152_code_6 rfl rfl ?_
  refine getfield hG d_jdk_42_method_152_code_7 (w20 hw) Via.refl p0_fld ?_
  refine goto hG d_jdk_42_method_152_code_10 (by decide) (pc' := 14) rfl ?_
  exact ireturnN hG (by simp) d_jdk_42_method_152_code_14 (M' := []) ⟨(by rw [hcd]), rfl, rfl⟩ all0 (Nat.le_of_ble_eq_true rfl) (Nat.le_of_ble_eq_true rfl)
def Q_isl (Z : State) (g0 : Int32) (gf : Value) (zva : Addr) (zkv : ClassId) (zoe : Addr) (zia : Addr) (zsa : Addr) (zta : Addr) (zka : ClassId) (zib : Addr) (zsb : Addr) (ztb : Addr) (zkb : ClassId) (zip : Addr) (zsp : Addr) (ztp : Addr) (zkp : ClassId) (a : Addr) (h : Heap) : QT := fun v' M9 h9 => v' = some (.int (1 : Int32)) ∧ M9 = [] ∧ h = h9
theorem ef_isl (m : MethodId) (a : Addr) : entryFrame m [(.ref a)].toArray 1 = mkF m 0 #[.val (.ref a)] [] := by first | rfl | (simp [entryFrame, mkF, argsToLocals, Value.category]; done)
set_option maxRecDepth 65536 in
set_option maxHeartbeats 4000000 in
theorem m_isl {l : Launch} {Z : State} {a0 : Array Value} {n0 : Nat} {g0 : Int32} {gf : Value} {zva : Addr} {zkv : ClassId} {zoe : Addr} {zia : Addr} {zsa : Addr} {zta : Addr} {zka : ClassId} {zib : Addr} {zsb : Addr} {ztb : Addr} {zkb : ClassId} {zip : Addr} {zsp : Addr} {ztp : Addr} {zkp : ClassId} (hC : Ctx l Z a0 n0 g0 gf zva zkv zoe zia zsa zta zka zib zsb ztb zkb zip zsp ztp zkp) (a : Addr) (h : Heap) (p0_fld : Fld Z h a "java/lang/String" "coder" "B" (.int (0 : Int32))) :
    Met l Z EL0 n0 (⟨"java/lang/String", "isLatin1", "()Z"⟩ : MethodName) jdk_42_method_154_code 1 (some .boolean) [] ({ frames := 0, cells := 0, slots := 0, locals := 0 } : Room) [(.ref a)] [] h (Q_isl Z g0 gf zva zkv zoe zia zsa zta zka zib zsb ztb zkb zip zsp ztp zkp a h) := by
  obtain ⟨hw, hS, hE, hK, hX⟩ := id hC
  refine Met.intro pl_8 (fun m => ef_isl m a) hE ?_
  intro G hG
  refine getstatic hG d_jdk_42_method_154_code_0 (w19 hw) Via.refl hK.1 ?_
  refine ifNo hG d_jdk_42_method_154_code_3 (feq hK.2).1 ?_
  refine aloadN hG d_jdk_42_method_154_code_6 rfl rfl ?_
  refine getfield hG d_jdk_42_method_154_code_7 (w20 hw) Via.refl p0_fld ?_
  refine ifNo hG d_jdk_42_method_154_code_10 (by decide) ?_
  refine iconst hG d_jdk_42_method_154_code_13 (1) rfl ?_
  refine goto hG d_jdk_42_method_154_code_14 (by decide) (pc' := 18) rfl ?_
  exact ireturnN hG (by simp) d_jdk_42_method_154_code_18 (M' := []) ⟨rfl, rfl, rfl⟩ all0 (Nat.le_of_ble_eq_true rfl) (Nat.le_of_ble_eq_true rfl)
def Q_len (Z : State) (g0 : Int32) (gf : Value) (zva : Addr) (zkv : ClassId) (zoe : Addr) (zia : Addr) (zsa : Addr) (zta : Addr) (zka : ClassId) (zib : Addr) (zsb : Addr) (ztb : Addr) (zkb : ClassId) (zip : Addr) (zsp : Addr) (ztp : Addr) (zkp : ClassId) (a : Addr) (ta : Addr) (ka : ClassId) (Na : Int32) (xs : List Int32) (h : Heap) : QT := fun v' M9 h9 => v' = some (.int Na) ∧ M9 = [] ∧ h = h9
theorem ef_len (m : MethodId) (a : Addr) (ta : Addr) (ka : ClassId) (Na : Int32) (xs : List Int32) : entryFrame m [(.ref a)].toArray 1 = mkF m 0 #[.val (.ref a)] [] := by first | rfl | (simp [entryFrame, mkF, argsToLocals, Value.category]; done)
set_option maxRecDepth 65536 in
set_option maxHeartbeats 4000000 in
theorem m_len {l : Launch} {Z : State} {a0 : Array Value} {n0 : Nat} {g0 : Int32} {gf : Value} {zva : Addr} {zkv : ClassId} {zoe : Addr} {zia : Addr} {zsa : Addr} {zta : Addr} {zka : ClassId} {zib : Addr} {zsb : Addr} {ztb : Addr} {zkb : ClassId} {zip : Addr} {zsp : Addr} {ztp : Addr} {zkp : ClassId} (hC : Ctx l Z a0 n0 g0 gf zva zkv zoe zia zsa zta zka zib zsb ztb zkb zip zsp ztp zkp) (a : Addr) (ta : Addr) (ka : ClassId) (Na : Int32) (xs : List Int32) (h : Heap) (p0_exa : Exa Z h a "java/lang/String") (p1_fld : Fld Z h a "java/lang/String" "coder" "B" (.int (0 : Int32))) (p2_fld : Fld Z h a "java/lang/String" "value" "[B" (.ref ta)) (p3_arv : Arv Z h ta ka .byte Na (ints xs) (.int 0)) :
    Met l Z EL0 n0 (⟨"java/lang/String", "length", "()I"⟩ : MethodName) jdk_42_method_54_code 1 (some .int) [] ({ frames := 1, cells := 0, slots := 0, locals := 13 } : Room) [(.ref a)] [] h (Q_len Z g0 gf zva zkv zoe zia zsa zta zka zib zsb ztb zkb zip zsp ztp zkp a ta ka Na xs h) := by
  obtain ⟨hw, hS, hE, hK, hX⟩ := id hC
  refine Met.intro pl_9 (fun m => ef_len m a ta ka Na xs) hE ?_
  intro G hG
  refine aloadN hG d_jdk_42_method_54_code_0 rfl rfl ?_
  refine getfield hG d_jdk_42_method_54_code_1 (w13 hw) Via.refl p2_fld ?_
  refine alen hG d_jdk_42_method_54_code_4 p3_arv ?_
  refine aloadN hG d_jdk_42_method_54_code_5 rfl rfl ?_
  refine callVirtual hG d_jdk_42_method_54_code_6 p0_exa (w14 hw) (w15 hw) (fun _ hz => notFace_of_selects (args := #[]) (mvT hz (w17 hw))) (w17 hw) (w16 hw) (w1 hw) (w18 hw) (by decide) (m_coder hC (a) ((0 : Int32)) h p1_fld rfl) pd_5 rfl (rest := [(.int Na)]) rfl rfl all0 (Nat.le_of_ble_eq_true rfl) (W := 1) (Nat.le_of_ble_eq_true rfl) (Nat.le_of_ble_eq_true rfl) (Nat.le_of_ble_eq_true rfl) (Nat.le_of_ble_eq_true rfl) (fun v124 M125 h126 le127 hq128 => ?_)
  obtain ⟨rfl, rfl, rfl⟩ := hq128
  show G [] h (0) (0) 9 #[.val (.ref a)] [(.int (0 : Int32)), (.int Na)]
  refine ishr hG d_jdk_42_method_54_code_9 ?_
  exact ireturn hG d_jdk_42_method_54_code_10 (M' := []) ⟨(by rw [shr0]), rfl, rfl⟩ all0 (Nat.le_of_ble_eq_true rfl) (Nat.le_of_ble_eq_true rfl)
def Q_pck (Z : State) (g0 : Int32) (gf : Value) (zva : Addr) (zkv : ClassId) (zoe : Addr) (zia : Addr) (zsa : Addr) (zta : Addr) (zka : ClassId) (zib : Addr) (zsb : Addr) (ztb : Addr) (zkb : ClassId) (zip : Addr) (zsp : Addr) (ztp : Addr) (zkp : ClassId) (J : Int32) (N : Int32) (gf : Value) (h : Heap) : QT := fun v' M9 h9 => v' = some (.int J) ∧ M9 = [] ∧ h = h9
theorem ef_pck (m : MethodId) (J : Int32) (N : Int32) (gf : Value) (hgf : gf.isRef = true) : entryFrame m [(.int J), (.int N), gf].toArray 3 = mkF m 0 #[.val (.int J), .val (.int N), .val gf] [] := by rcases ref_cases hgf with rfl | ⟨_, rfl⟩ <;> first | rfl | (simp [entryFrame, mkF, argsToLocals, Value.category]; done)
set_option maxRecDepth 65536 in
set_option maxHeartbeats 4000000 in
theorem m_pck {l : Launch} {Z : State} {a0 : Array Value} {n0 : Nat} {g0 : Int32} {gf : Value} {zva : Addr} {zkv : ClassId} {zoe : Addr} {zia : Addr} {zsa : Addr} {zta : Addr} {zka : ClassId} {zib : Addr} {zsb : Addr} {ztb : Addr} {zkb : ClassId} {zip : Addr} {zsp : Addr} {ztp : Addr} {zkp : ClassId} (hC : Ctx l Z a0 n0 g0 gf zva zkv zoe zia zsa zta zka zib zsb ztb zkb zip zsp ztp zkp) (J : Int32) (N : Int32) (gf : Value) (h : Heap) (hin : ¬ J < 0 ∧ J < N) (hgf : gf.isRef = true) :
    Met l Z EL0 n0 (⟨"jdk/internal/util/Preconditions", "checkIndex", "(IILjava/util/function/BiFunction;)I"⟩ : MethodName) jdk_41_method_11_code 3 (some .int) [] ({ frames := 0, cells := 0, slots := 0, locals := 0 } : Room) [(.int J), (.int N), gf] [] h (Q_pck Z g0 gf zva zkv zoe zia zsa zta zka zib zsb ztb zkb zip zsp ztp zkp J N gf h) := by
  obtain ⟨hw, hS, hE, hK, hX⟩ := id hC
  refine Met.intro pl_10 (fun m => ef_pck m J N gf hgf) hE ?_
  intro G hG
  refine iloadN hG d_jdk_41_method_11_code_0 rfl ?_
  refine ifNo hG d_jdk_41_method_11_code_1 (flt hin.1).1 ?_
  refine iloadN hG d_jdk_41_method_11_code_4 rfl ?_
  refine iloadN hG d_jdk_41_method_11_code_5 rfl ?_
  refine icmpYes hG d_jdk_41_method_11_code_6 (tlt hin.2).1 (by decide) (pc' := 16) rfl ?_
  refine iloadN hG d_jdk_41_method_11_code_16 rfl ?_
  exact ireturn hG d_jdk_41_method_11_code_17 (M' := []) ⟨rfl, rfl, rfl⟩ all0 (Nat.le_of_ble_eq_true rfl) (Nat.le_of_ble_eq_true rfl)
def Q_ckx (Z : State) (g0 : Int32) (gf : Value) (zva : Addr) (zkv : ClassId) (zoe : Addr) (zia : Addr) (zsa : Addr) (zta : Addr) (zka : ClassId) (zib : Addr) (zsb : Addr) (ztb : Addr) (zkb : ClassId) (zip : Addr) (zsp : Addr) (ztp : Addr) (zkp : ClassId) (J : Int32) (N : Int32) (h : Heap) : QT := fun v' M9 h9 => v' = none ∧ M9 = [] ∧ h = h9
theorem ef_ckx (m : MethodId) (J : Int32) (N : Int32) : entryFrame m [(.int J), (.int N)].toArray 2 = mkF m 0 #[.val (.int J), .val (.int N)] [] := by first | rfl | (simp [entryFrame, mkF, argsToLocals, Value.category]; done)
set_option maxRecDepth 65536 in
set_option maxHeartbeats 4000000 in
theorem m_ckx {l : Launch} {Z : State} {a0 : Array Value} {n0 : Nat} {g0 : Int32} {gf : Value} {zva : Addr} {zkv : ClassId} {zoe : Addr} {zia : Addr} {zsa : Addr} {zta : Addr} {zka : ClassId} {zib : Addr} {zsb : Addr} {ztb : Addr} {zkb : ClassId} {zip : Addr} {zsp : Addr} {ztp : Addr} {zkp : ClassId} (hC : Ctx l Z a0 n0 g0 gf zva zkv zoe zia zsa zta zka zib zsb ztb zkb zip zsp ztp zkp) (J : Int32) (N : Int32) (h : Heap) (hin : ¬ J < 0 ∧ J < N) :
    Met l Z EL0 n0 (⟨"java/lang/String", "checkIndex", "(II)V"⟩ : MethodName) jdk_42_method_155_code 2 none [] ({ frames := 1, cells := 0, slots := 0, locals := 14 } : Room) [(.int J), (.int N)] [] h (Q_ckx Z g0 gf zva zkv zoe zia zsa zta zka zib zsb ztb zkb zip zsp ztp zkp J N h) := by
  obtain ⟨hw, hS, hE, hK, hX⟩ := id hC
  refine Met.intro pl_11 (fun m => ef_ckx m J N) hE ?_
  intro G hG
  refine iloadN hG d_jdk_42_method_155_code_0 rfl ?_
  refine iloadN hG d_jdk_42_method_155_code_1 rfl ?_
  refine getstatic hG d_jdk_42_method_155_code_2 (w105 hw) Via.refl hX.1 ?_
  refine callStatic hG d_jdk_42_method_155_code_5 (w107 hw) (w108 hw) (w106 hw) (w109 hw) (by decide) (m_pck hC (J) (N) (gf) h hin hX.2.1) pd_6 rfl (rest := []) rfl rfl all0 (Nat.le_of_ble_eq_true rfl) (W := 0) (Nat.le_of_ble_eq_true rfl) (Nat.le_of_ble_eq_true rfl) (Nat.le_of_ble_eq_true rfl) (Nat.le_of_ble_eq_true rfl) (fun v129 M130 h131 le132 hq133 => ?_)
  obtain ⟨rfl, rfl, rfl⟩ := hq133
  show G [] h (0) (0) 8 #[.val (.int J), .val (.int N)] [(.int J)]
  refine OwnWp.pop hG d_jdk_42_method_155_code_8 rfl ?_
  exact return0 hG d_jdk_42_method_155_code_9 (M' := []) ⟨rfl, rfl, rfl⟩ all0 (Nat.le_of_ble_eq_true rfl) (Nat.le_of_ble_eq_true rfl)
def Q_chl (Z : State) (g0 : Int32) (gf : Value) (zva : Addr) (zkv : ClassId) (zoe : Addr) (zia : Addr) (zsa : Addr) (zta : Addr) (zka : ClassId) (zib : Addr) (zsb : Addr) (ztb : Addr) (zkb : ClassId) (zip : Addr) (zsp : Addr) (ztp : Addr) (zkp : ClassId) (t : Addr) (kt : ClassId) (N : Int32) (xs : List Int32) (J : Int32) (h : Heap) : QT := fun v' M9 h9 => v' = some (.int (chr8 (xs.getD J.toNatClampNeg 0))) ∧ M9 = [] ∧ h = h9
theorem ef_chl (m : MethodId) (t : Addr) (kt : ClassId) (N : Int32) (xs : List Int32) (J : Int32) : entryFrame m [(.ref t), (.int J)].toArray 2 = mkF m 0 #[.val (.ref t), .val (.int J)] [] := by first | rfl | (simp [entryFrame, mkF, argsToLocals, Value.category]; done)
set_option maxRecDepth 65536 in
set_option maxHeartbeats 4000000 in
theorem m_chl {l : Launch} {Z : State} {a0 : Array Value} {n0 : Nat} {g0 : Int32} {gf : Value} {zva : Addr} {zkv : ClassId} {zoe : Addr} {zia : Addr} {zsa : Addr} {zta : Addr} {zka : ClassId} {zib : Addr} {zsb : Addr} {ztb : Addr} {zkb : ClassId} {zip : Addr} {zsp : Addr} {ztp : Addr} {zkp : ClassId} (hC : Ctx l Z a0 n0 g0 gf zva zkv zoe zia zsa zta zka zib zsb ztb zkb zip zsp ztp zkp) (t : Addr) (kt : ClassId) (N : Int32) (xs : List Int32) (J : Int32) (h : Heap) (p0_arv : Arv Z h t kt .byte N (ints xs) (.int 0)) (hin : ¬ J < 0 ∧ J < N) :
    Met l Z EL0 n0 (⟨"java/lang/StringLatin1", "charAt", "([BI)C"⟩ : MethodName) jdk_43_method_2_code 2 (some .char) [] ({ frames := 2, cells := 0, slots := 0, locals := 27 } : Room) [(.ref t), (.int J)] [] h (Q_chl Z g0 gf zva zkv zoe zia zsa zta zka zib zsb ztb zkb zip zsp ztp zkp t kt N xs J h) := by
  obtain ⟨hw, hS, hE, hK, hX⟩ := id hC
  refine Met.intro pl_12 (fun m => ef_chl m t kt N xs J) hE ?_
  intro G hG
  refine iloadN hG d_jdk_43_method_2_code_0 rfl ?_
  refine aloadN hG d_jdk_43_method_2_code_1 rfl rfl ?_
  refine alen hG d_jdk_43_method_2_code_2 p0_arv ?_
  refine callStatic hG d_jdk_43_method_2_code_3 (w102 hw) (w103 hw) (w1 hw) (w104 hw) (by decide) (m_ckx hC (J) (N) h hin) pd_7 rfl (rest := []) rfl rfl all0 (Nat.le_of_ble_eq_true rfl) (W := 0) (Nat.le_of_ble_eq_true rfl) (Nat.le_of_ble_eq_true rfl) (Nat.le_of_ble_eq_true rfl) (Nat.le_of_ble_eq_true rfl) (fun v134 M135 h136 le137 hq138 => ?_)
  obtain ⟨rfl, rfl, rfl⟩ := hq138
  show G [] h (0) (0) 6 #[.val (.ref t), .val (.int J)] []
  refine aloadN hG d_jdk_43_method_2_code_6 rfl rfl ?_
  refine iloadN hG d_jdk_43_method_2_code_7 rfl ?_
  refine baload hG d_jdk_43_method_2_code_8 p0_arv hin (v := (.int (xs.getD J.toNatClampNeg 0))) (ints_at' _) ?_
  refine sipush hG d_jdk_43_method_2_code_9 (255) rfl ?_
  refine iand hG d_jdk_43_method_2_code_12 ?_
  refine i2c hG d_jdk_43_method_2_code_13 ?_
  exact ireturnN hG (by simp) d_jdk_43_method_2_code_14 (M' := []) ⟨rfl, rfl, rfl⟩ all0 (Nat.le_of_ble_eq_true rfl) (Nat.le_of_ble_eq_true rfl)
def Q_cha (Z : State) (g0 : Int32) (gf : Value) (zva : Addr) (zkv : ClassId) (zoe : Addr) (zia : Addr) (zsa : Addr) (zta : Addr) (zka : ClassId) (zib : Addr) (zsb : Addr) (ztb : Addr) (zkb : ClassId) (zip : Addr) (zsp : Addr) (ztp : Addr) (zkp : ClassId) (a : Addr) (ta : Addr) (ka : ClassId) (Na : Int32) (xs : List Int32) (J : Int32) (h : Heap) : QT := fun v' M9 h9 => v' = some (.int (chr8 (xs.getD J.toNatClampNeg 0))) ∧ M9 = [] ∧ h = h9
theorem ef_cha (m : MethodId) (a : Addr) (ta : Addr) (ka : ClassId) (Na : Int32) (xs : List Int32) (J : Int32) : entryFrame m [(.ref a), (.int J)].toArray 2 = mkF m 0 #[.val (.ref a), .val (.int J)] [] := by first | rfl | (simp [entryFrame, mkF, argsToLocals, Value.category]; done)
set_option maxRecDepth 65536 in
set_option maxHeartbeats 4000000 in
theorem m_cha {l : Launch} {Z : State} {a0 : Array Value} {n0 : Nat} {g0 : Int32} {gf : Value} {zva : Addr} {zkv : ClassId} {zoe : Addr} {zia : Addr} {zsa : Addr} {zta : Addr} {zka : ClassId} {zib : Addr} {zsb : Addr} {ztb : Addr} {zkb : ClassId} {zip : Addr} {zsp : Addr} {ztp : Addr} {zkp : ClassId} (hC : Ctx l Z a0 n0 g0 gf zva zkv zoe zia zsa zta zka zib zsb ztb zkb zip zsp ztp zkp) (a : Addr) (ta : Addr) (ka : ClassId) (Na : Int32) (xs : List Int32) (J : Int32) (h : Heap) (p0_exa : Exa Z h a "java/lang/String") (p1_fld : Fld Z h a "java/lang/String" "coder" "B" (.int (0 : Int32))) (p2_fld : Fld Z h a "java/lang/String" "value" "[B" (.ref ta)) (p3_arv : Arv Z h ta ka .byte Na (ints xs) (.int 0)) (hin : ¬ J < 0 ∧ J < Na) :
    Met l Z EL0 n0 (⟨"java/lang/String", "charAt", "(I)C"⟩ : MethodName) jdk_42_method_56_code 2 (some .char) [] ({ frames := 3, cells := 0, slots := 0, locals := 40 } : Room) [(.ref a), (.int J)] [] h (Q_cha Z g0 gf zva zkv zoe zia zsa zta zka zib zsb ztb zkb zip zsp ztp zkp a ta ka Na xs J h) := by
  obtain ⟨hw, hS, hE, hK, hX⟩ := id hC
  refine Met.intro pl_13 (fun m => ef_cha m a ta ka Na xs J) hE ?_
  intro G hG
  refine aloadN hG d_jdk_42_method_56_code_0 rfl rfl ?_
  refine callVirtual hG d_jdk_42_method_56_code_1 p0_exa (w94 hw) (w95 hw) (fun _ hz => notFace_of_selects (args := #[]) (mvT hz (w97 hw))) (w97 hw) (w96 hw) (w1 hw) (w98 hw) (by decide) (m_isl hC (a) h p1_fld) pd_8 rfl (rest := []) rfl rfl all0 (Nat.le_of_ble_eq_true rfl) (W := 0) (Nat.le_of_ble_eq_true rfl) (Nat.le_of_ble_eq_true rfl) (Nat.le_of_ble_eq_true rfl) (Nat.le_of_ble_eq_true rfl) (fun v139 M140 h141 le142 hq143 => ?_)
  obtain ⟨rfl, rfl, rfl⟩ := hq143
  show G [] h (0) (0) 4 #[.val (.ref a), .val (.int J)] [(.int (1 : Int32))]
  refine ifNo hG d_jdk_42_method_56_code_4 (by decide) ?_
  refine aloadN hG d_jdk_42_method_56_code_7 rfl rfl ?_
  refine getfield hG d_jdk_42_method_56_code_8 (w13 hw) Via.refl p2_fld ?_
  refine iloadN hG d_jdk_42_method_56_code_11 rfl ?_
  refine callStatic hG d_jdk_42_method_56_code_12 (w99 hw) (w100 hw) (w43 hw) (w101 hw) (by decide) (m_chl hC (ta) (ka) (Na) (xs) (J) h p3_arv hin) pd_9 rfl (rest := []) rfl rfl all0 (Nat.le_of_ble_eq_true rfl) (W := 0) (Nat.le_of_ble_eq_true rfl) (Nat.le_of_ble_eq_true rfl) (Nat.le_of_ble_eq_true rfl) (Nat.le_of_ble_eq_true rfl) (fun v144 M145 h146 le147 hq148 => ?_)
  obtain ⟨rfl, rfl, rfl⟩ := hq148
  show G [] h (0) (0) 15 #[.val (.ref a), .val (.int J)] [(.int (chr8 (xs.getD J.toNatClampNeg 0)))]
  exact ireturnN hG (by simp) d_jdk_42_method_56_code_15 (M' := []) ⟨(by rw [chr8_nar]), rfl, rfl⟩ all0 (Nat.le_of_ble_eq_true rfl) (Nat.le_of_ble_eq_true rfl)
def Q_mx (Z : State) (g0 : Int32) (gf : Value) (zva : Addr) (zkv : ClassId) (zoe : Addr) (zia : Addr) (zsa : Addr) (zta : Addr) (zka : ClassId) (zib : Addr) (zsb : Addr) (ztb : Addr) (zkb : ClassId) (zip : Addr) (zsp : Addr) (ztp : Addr) (zkp : ClassId) (x : Int32) (y : Int32) (h : Heap) : QT := fun v' M9 h9 => v' = some (.int (mx x y)) ∧ M9 = [] ∧ h = h9
theorem ef_mx (m : MethodId) (x : Int32) (y : Int32) : entryFrame m [(.int x), (.int y)].toArray 2 = mkF m 0 #[.val (.int x), .val (.int y)] [] := by first | rfl | (simp [entryFrame, mkF, argsToLocals, Value.category]; done)
set_option maxRecDepth 65536 in
set_option maxHeartbeats 4000000 in
theorem m_mx {l : Launch} {Z : State} {a0 : Array Value} {n0 : Nat} {g0 : Int32} {gf : Value} {zva : Addr} {zkv : ClassId} {zoe : Addr} {zia : Addr} {zsa : Addr} {zta : Addr} {zka : ClassId} {zib : Addr} {zsb : Addr} {ztb : Addr} {zkb : ClassId} {zip : Addr} {zsp : Addr} {ztp : Addr} {zkp : ClassId} (hC : Ctx l Z a0 n0 g0 gf zva zkv zoe zia zsa zta zka zib zsb ztb zkb zip zsp ztp zkp) (x : Int32) (y : Int32) (h : Heap) :
    Met l Z EL0 n0 (⟨"java/lang/Math", "max", "(II)I"⟩ : MethodName) jdk_29_method_65_code 2 (some .int) [] ({ frames := 0, cells := 0, slots := 0, locals := 0 } : Room) [(.int x), (.int y)] [] h (Q_mx Z g0 gf zva zkv zoe zia zsa zta zka zib zsb ztb zkb zip zsp ztp zkp x y h) := by
  obtain ⟨hw, hS, hE, hK, hX⟩ := id hC
  refine Met.intro pl_14 (fun m => ef_mx m x y) hE ?_
  intro G hG
  refine iloadN hG d_jdk_29_method_65_code_0 rfl ?_
  refine iloadN hG d_jdk_29_method_65_code_1 rfl ?_
  refine icmp_lt hG d_jdk_29_method_65_code_2 (by decide) (pc' := 9) rfl (fun q149 => ?_) (fun q149 => ?_)
  · skip
    refine iloadN hG d_jdk_29_method_65_code_9 rfl ?_
    exact ireturn hG d_jdk_29_method_65_code_10 (M' := []) ⟨(by rw [mx, if_pos q149]), rfl, rfl⟩ all0 (Nat.le_of_ble_eq_true rfl) (Nat.le_of_ble_eq_true rfl)
  · skip
    refine iloadN hG d_jdk_29_method_65_code_5 rfl ?_
    refine goto hG d_jdk_29_method_65_code_6 (by decide) (pc' := 10) rfl ?_
    exact ireturn hG d_jdk_29_method_65_code_10 (M' := []) ⟨(by rw [mx, if_neg q149]), rfl, rfl⟩ all0 (Nat.le_of_ble_eq_true rfl) (Nat.le_of_ble_eq_true rfl)
def Q_at (Z : State) (g0 : Int32) (gf : Value) (zva : Addr) (zkv : ClassId) (zoe : Addr) (zia : Addr) (zsa : Addr) (zta : Addr) (zka : ClassId) (zib : Addr) (zsb : Addr) (ztb : Addr) (zkb : ClassId) (zip : Addr) (zsp : Addr) (ztp : Addr) (zkp : ClassId) (a : Addr) (ta : Addr) (ka : ClassId) (Na : Int32) (xs : List Int32) (i : Int32) (pp : Int32) (c : Int32) (f : Int32) (h : Heap) : QT := fun v' M9 h9 => ∃ (r : Int32), v' = some (.int r) ∧ M9 = [] ∧ h = h9 ∧ (¬ r < 0 ∧ ¬ (255 : Int32) < r)
theorem ef_at (m : MethodId) (a : Addr) (ta : Addr) (ka : ClassId) (Na : Int32) (xs : List Int32) (i : Int32) (pp : Int32) (c : Int32) (f : Int32) : entryFrame m [(.ref a), (.int i), (.int pp), (.int c), (.int f)].toArray 5 = mkF m 0 #[.val (.ref a), .val (.int i), .val (.int pp), .val (.int c), .val (.int f)] [] := by first | rfl | (simp [entryFrame, mkF, argsToLocals, Value.category]; done)
set_option maxRecDepth 65536 in
set_option maxHeartbeats 4000000 in
theorem m_at {l : Launch} {Z : State} {a0 : Array Value} {n0 : Nat} {g0 : Int32} {gf : Value} {zva : Addr} {zkv : ClassId} {zoe : Addr} {zia : Addr} {zsa : Addr} {zta : Addr} {zka : ClassId} {zib : Addr} {zsb : Addr} {ztb : Addr} {zkb : ClassId} {zip : Addr} {zsp : Addr} {ztp : Addr} {zkp : ClassId} (hC : Ctx l Z a0 n0 g0 gf zva zkv zoe zia zsa zta zka zib zsb ztb zkb zip zsp ztp zkp) (a : Addr) (ta : Addr) (ka : ClassId) (Na : Int32) (xs : List Int32) (i : Int32) (pp : Int32) (c : Int32) (f : Int32) (h : Heap) (p0_exa : Exa Z h a "java/lang/String") (p1_fld : Fld Z h a "java/lang/String" "coder" "B" (.int (0 : Int32))) (p2_fld : Fld Z h a "java/lang/String" "value" "[B" (.ref ta)) (p3_arv : Arv Z h ta ka .byte Na (ints xs) (.int 0)) (hi : ¬ i < 0) (hc : ¬ c < 0 ∧ ¬ (255 : Int32) < c) (hf : ¬ f < 0 ∧ ¬ (255 : Int32) < f) :
    Met l Z EL0 n0 (⟨"com/example/uni_gate/unigate/policy/IntentFromPolicyNamePinLaw", "at", "(Ljava/lang/String;IICC)C"⟩ : MethodName) method_2_code 5 (some .char) [] ({ frames := 4, cells := 0, slots := 0, locals := 53 } : Room) [(.ref a), (.int i), (.int pp), (.int c), (.int f)] [] h (Q_at Z g0 gf zva zkv zoe zia zsa zta zka zib zsb ztb zkb zip zsp ztp zkp a ta ka Na xs i pp c f h) := by
  obtain ⟨hw, hS, hE, hK, hX⟩ := id hC
  refine Met.intro pl_15 (fun m => ef_at m a ta ka Na xs i pp c f) hE ?_
  intro G hG
  refine iloadN hG d_method_2_code_0 rfl ?_
  refine iloadN hG d_method_2_code_1 rfl ?_
  refine icmp_ne hG d_method_2_code_2 (by decide) (pc' := 7) rfl (fun q150 => ?_) (fun q150 => ?_)
  · skip
    refine iloadN hG d_method_2_code_7 rfl ?_
    refine aloadN hG d_method_2_code_8 rfl rfl ?_
    refine callVirtual hG d_method_2_code_9 p0_exa (w8 hw) (w9 hw) (fun _ hz => notFace_of_selects (args := #[]) (mvT hz (w11 hw))) (w11 hw) (w10 hw) (w1 hw) (w12 hw) (by decide) (m_len hC (a) (ta) (ka) (Na) (xs) h p0_exa p1_fld p2_fld p3_arv) pd_10 rfl (rest := [(.int i)]) rfl rfl all0 (Nat.le_of_ble_eq_true rfl) (W := 1) (Nat.le_of_ble_eq_true rfl) (Nat.le_of_ble_eq_true rfl) (Nat.le_of_ble_eq_true rfl) (Nat.le_of_ble_eq_true rfl) (fun v151 M152 h153 le154 hq155 => ?_)
    obtain ⟨rfl, rfl, rfl⟩ := hq155
    show G [] h (0) (0) 12 #[.val (.ref a), .val (.int i), .val (.int pp), .val (.int c), .val (.int f)] [(.int Na), (.int i)]
    refine icmp_ge hG d_method_2_code_12 (by decide) (pc' := 21) rfl (fun q156 => ?_) (fun q156 => ?_)
    · skip
      refine iload hG d_method_2_code_21 rfl ?_
      exact ireturnN hG (by simp) d_method_2_code_23 (M' := []) ⟨f, (by rw [lat_nar hf]), rfl, rfl, hf⟩ all0 (Nat.le_of_ble_eq_true rfl) (Nat.le_of_ble_eq_true rfl)
    · skip
      refine aloadN hG d_method_2_code_15 rfl rfl ?_
      refine iloadN hG d_method_2_code_16 rfl ?_
      refine callVirtual hG d_method_2_code_17 p0_exa (w89 hw) (w90 hw) (fun _ hz => notFace_of_selects (args := #[]) (mvT hz (w92 hw))) (w92 hw) (w91 hw) (w1 hw) (w93 hw) (by decide) (m_cha hC (a) (ta) (ka) (Na) (xs) (i) h p0_exa p1_fld p2_fld p3_arv ⟨hi, q156⟩) pd_11 rfl (rest := []) rfl rfl all0 (Nat.le_of_ble_eq_true rfl) (W := 0) (Nat.le_of_ble_eq_true rfl) (Nat.le_of_ble_eq_true rfl) (Nat.le_of_ble_eq_true rfl) (Nat.le_of_ble_eq_true rfl) (fun v157 M158 h159 le160 hq161 => ?_)
      obtain ⟨rfl, rfl, rfl⟩ := hq161
      show G [] h (0) (0) 20 #[.val (.ref a), .val (.int i), .val (.int pp), .val (.int c), .val (.int f)] [(.int (chr8 (xs.getD i.toNatClampNeg 0)))]
      exact ireturnN hG (by simp) d_method_2_code_20 (M' := []) ⟨(chr8 (xs.getD i.toNatClampNeg 0)), (by rw [chr8_nar]), rfl, rfl, (chr8_lat _)⟩ all0 (Nat.le_of_ble_eq_true rfl) (Nat.le_of_ble_eq_true rfl)
  · skip
    refine iloadN hG d_method_2_code_5 rfl ?_
    exact ireturnN hG (by simp) d_method_2_code_6 (M' := []) ⟨c, (by rw [lat_nar hc]), rfl, rfl, hc⟩ all0 (Nat.le_of_ble_eq_true rfl) (Nat.le_of_ble_eq_true rfl)
def Q_rnn (Z : State) (g0 : Int32) (gf : Value) (zva : Addr) (zkv : ClassId) (zoe : Addr) (zia : Addr) (zsa : Addr) (zta : Addr) (zka : ClassId) (zib : Addr) (zsb : Addr) (ztb : Addr) (zkb : ClassId) (zip : Addr) (zsp : Addr) (ztp : Addr) (zkp : ClassId) (a : Addr) (h : Heap) : QT := fun v' M9 h9 => v' = some (.ref a) ∧ M9 = [] ∧ h = h9
theorem ef_rnn (m : MethodId) (a : Addr) : entryFrame m [(.ref a)].toArray 1 = mkF m 0 #[.val (.ref a)] [] := by first | rfl | (simp [entryFrame, mkF, argsToLocals, Value.category]; done)
set_option maxRecDepth 65536 in
set_option maxHeartbeats 4000000 in
theorem m_rnn {l : Launch} {Z : State} {a0 : Array Value} {n0 : Nat} {g0 : Int32} {gf : Value} {zva : Addr} {zkv : ClassId} {zoe : Addr} {zia : Addr} {zsa : Addr} {zta : Addr} {zka : ClassId} {zib : Addr} {zsb : Addr} {ztb : Addr} {zkb : ClassId} {zip : Addr} {zsp : Addr} {ztp : Addr} {zkp : ClassId} (hC : Ctx l Z a0 n0 g0 gf zva zkv zoe zia zsa zta zka zib zsb ztb zkb zip zsp ztp zkp) (a : Addr) (h : Heap) :
    Met l Z EL0 n0 (⟨"java/util/Objects", "requireNonNull", "(Ljava/lang/Object;)Ljava/lang/Object;"⟩ : MethodName) jdk_31_method_10_code 1 (some (.object "java/lang/Object")) [] ({ frames := 0, cells := 0, slots := 0, locals := 0 } : Room) [(.ref a)] [] h (Q_rnn Z g0 gf zva zkv zoe zia zsa zta zka zib zsb ztb zkb zip zsp ztp zkp a h) := by
  obtain ⟨hw, hS, hE, hK, hX⟩ := id hC
  refine Met.intro pl_16 (fun m => ef_rnn m a) hE ?_
  intro G hG
  refine aloadN hG d_jdk_31_method_10_code_0 rfl rfl ?_
  refine ifnonnullYes hG d_jdk_31_method_10_code_1 (by decide) (pc' := 12) rfl ?_
  refine aloadN hG d_jdk_31_method_10_code_12 rfl rfl ?_
  exact areturn hG rfl rfl rfl d_jdk_31_method_10_code_13 (M' := []) ⟨rfl, rfl, rfl⟩ all0 (Nat.le_of_ble_eq_true rfl) (Nat.le_of_ble_eq_true rfl)
def Q_oin (Z : State) (g0 : Int32) (gf : Value) (zva : Addr) (zkv : ClassId) (zoe : Addr) (zia : Addr) (zsa : Addr) (zta : Addr) (zka : ClassId) (zib : Addr) (zsb : Addr) (ztb : Addr) (zkb : ClassId) (zip : Addr) (zsp : Addr) (ztp : Addr) (zkp : ClassId) (a : Addr) (x : Addr) (h : Heap) : QT := fun v' M9 h9 => v' = none ∧ M9 = [] ∧ Keep h h9 [a] ∧ Exa Z h9 a "java/util/Optional" ∧ Fld Z h9 a "java/util/Optional" "value" "Ljava/lang/Object;" (.ref x)
theorem ef_oin (m : MethodId) (a : Addr) (x : Addr) : entryFrame m [(.ref a), (.ref x)].toArray 2 = mkF m 0 #[.val (.ref a), .val (.ref x)] [] := by first | rfl | (simp [entryFrame, mkF, argsToLocals, Value.category]; done)
set_option maxRecDepth 65536 in
set_option maxHeartbeats 4000000 in
theorem m_oin {l : Launch} {Z : State} {a0 : Array Value} {n0 : Nat} {g0 : Int32} {gf : Value} {zva : Addr} {zkv : ClassId} {zoe : Addr} {zia : Addr} {zsa : Addr} {zta : Addr} {zka : ClassId} {zib : Addr} {zsb : Addr} {ztb : Addr} {zkb : ClassId} {zip : Addr} {zsp : Addr} {ztp : Addr} {zkp : ClassId} (hC : Ctx l Z a0 n0 g0 gf zva zkv zoe zia zsa zta zka zib zsb ztb zkb zip zsp ztp zkp) (a : Addr) (x : Addr) (h : Heap) (p0_exa : Exa Z h a "java/util/Optional") (p1_fld : Fld Z h a "java/util/Optional" "value" "Ljava/lang/Object;" .null) :
    Met l Z EL0 n0 (⟨"java/util/Optional", "<init>", "(Ljava/lang/Object;)V"⟩ : MethodName) jdk_32_method_2_code 2 none [] ({ frames := 1, cells := 0, slots := 0, locals := 12 } : Room) [(.ref a), (.ref x)] [a] h (Q_oin Z g0 gf zva zkv zoe zia zsa zta zka zib zsb ztb zkb zip zsp ztp zkp a x h) := by
  obtain ⟨hw, hS, hE, hK, hX⟩ := id hC
  refine Met.intro pl_17 (fun m => ef_oin m a x) hE ?_
  intro G hG
  refine aloadN hG d_jdk_32_method_2_code_0 rfl rfl ?_
  refine objInit hG d_jdk_32_method_2_code_1 (w134 hw) (w32 hw) (w33 hw) rfl (Nat.le_of_ble_eq_true rfl) (W := 0) (Nat.le_of_ble_eq_true rfl) (Nat.le_of_ble_eq_true rfl) ?_
  refine aloadN hG d_jdk_32_method_2_code_4 rfl rfl ?_
  refine aloadN hG d_jdk_32_method_2_code_5 rfl rfl ?_
  refine putfield hG d_jdk_32_method_2_code_6 (w82 hw) Via.refl p1_fld p0_exa (Or.inr ⟨(w83 hw), rfl, rfl⟩) (w125 hw) pf_Ljava_lang_Object_ rfl rfl (List.mem_of_getElem? (i := 0) rfl) (fun h162 W163 => ?_)
  have F164 : Fld Z h162 a "java/util/Optional" "value" "Ljava/lang/Object;" (.ref x) := p1_fld.same W163
  have E165 : Exa Z h162 a "java/util/Optional" := (p0_exa.wr W163)
  have K166 : Keep h h162 [a] := ((Keep.refl _ _).wr W163 (Or.inl (List.mem_of_getElem? (i := 0) rfl)))
  exact return0 hG d_jdk_32_method_2_code_9 (M' := []) ⟨rfl, rfl, K166, E165, F164⟩ all0 (Nat.le_of_ble_eq_true rfl) (Nat.le_of_ble_eq_true rfl)
def Q_oof (Z : State) (g0 : Int32) (gf : Value) (zva : Addr) (zkv : ClassId) (zoe : Addr) (zia : Addr) (zsa : Addr) (zta : Addr) (zka : ClassId) (zib : Addr) (zsb : Addr) (ztb : Addr) (zkb : ClassId) (zip : Addr) (zsp : Addr) (ztp : Addr) (zkp : ClassId) (x : Addr) (h : Heap) : QT := fun v' M9 h9 => ∃ (a : Addr), v' = some (.ref a) ∧ M9 = [] ∧ Keep h h9 [] ∧ h.size ≤ a ∧ Exa Z h9 a "java/util/Optional" ∧ Fld Z h9 a "java/util/Optional" "value" "Ljava/lang/Object;" (.ref x)
theorem ef_oof (m : MethodId) (x : Addr) : entryFrame m [(.ref x)].toArray 1 = mkF m 0 #[.val (.ref x)] [] := by first | rfl | (simp [entryFrame, mkF, argsToLocals, Value.category]; done)
set_option maxRecDepth 65536 in
set_option maxHeartbeats 4000000 in
theorem m_oof {l : Launch} {Z : State} {a0 : Array Value} {n0 : Nat} {g0 : Int32} {gf : Value} {zva : Addr} {zkv : ClassId} {zoe : Addr} {zia : Addr} {zsa : Addr} {zta : Addr} {zka : ClassId} {zib : Addr} {zsb : Addr} {ztb : Addr} {zkb : ClassId} {zip : Addr} {zsp : Addr} {ztp : Addr} {zkp : ClassId} (hC : Ctx l Z a0 n0 g0 gf zva zkv zoe zia zsa zta zka zib zsb ztb zkb zip zsp ztp zkp) (x : Addr) (h : Heap) :
    Met l Z EL0 n0 (⟨"java/util/Optional", "of", "(Ljava/lang/Object;)Ljava/util/Optional;"⟩ : MethodName) jdk_32_method_3_code 1 (some (.object "java/util/Optional")) [] ({ frames := 2, cells := 1, slots := 1, locals := 26 } : Room) [(.ref x)] [] h (Q_oof Z g0 gf zva zkv zoe zia zsa zta zka zib zsb ztb zkb zip zsp ztp zkp x h) := by
  obtain ⟨hw, hS, hE, hK, hX⟩ := id hC
  refine Met.intro pl_18 (fun m => ef_oof m x) hE ?_
  intro G hG
  refine new hG d_jdk_32_method_3_code_0 (w124 hw) (w125 hw) (w74 hw) (Nat.le_of_ble_eq_true rfl) (Nat.le_of_ble_eq_true rfl) (fun h167 a168 g169 E170 X171 D172 => ?_)
  show G [a168] h167 (1) (1) 3 #[.val (.ref x)] [(.ref a168)]
  refine dup hG d_jdk_32_method_3_code_3 rfl ?_
  refine aloadN hG d_jdk_32_method_3_code_4 rfl rfl ?_
  refine callStatic hG d_jdk_32_method_3_code_5 (w126 hw) (w127 hw) (w128 hw) (w129 hw) (by decide) (m_rnn hC (x) h167) pd_12 rfl (rest := [(.ref a168), (.ref a168)]) rfl rfl all0 (Nat.le_of_ble_eq_true rfl) (W := 2) (Nat.le_of_ble_eq_true rfl) (Nat.le_of_ble_eq_true rfl) (Nat.le_of_ble_eq_true rfl) (Nat.le_of_ble_eq_true rfl) (fun v173 M174 h175 le176 hq177 => ?_)
  obtain ⟨rfl, rfl, rfl⟩ := hq177
  show G [a168] h167 (1) (1) 8 #[.val (.ref x)] [(.ref x), (.ref a168), (.ref a168)]
  have F178 : Fld Z h167 a168 "java/util/Optional" "value" "Ljava/lang/Object;" .null := D172 (Or.inr (w83 hw)) pf_Ljava_lang_Object_
  refine callInit hG d_jdk_32_method_3_code_8 rfl (w130 hw) (w131 hw) (w74 hw) (w133 hw) (by decide) (m_oin hC (a168) (x) h167 X171 F178) pd_13 rfl (rest := [(.ref a168)]) rfl rfl (allS (List.mem_of_getElem? (i := 0) rfl) all0) (Nat.le_of_ble_eq_true rfl) (W := 1) (Nat.le_of_ble_eq_true rfl) (Nat.le_of_ble_eq_true rfl) (Nat.le_of_ble_eq_true rfl) (Nat.le_of_ble_eq_true rfl) (fun v179 M180 h181 le182 hq183 => ?_)
  obtain ⟨rfl, rfl, K184, f185, f186⟩ := hq183
  show G [a168] h181 (1) (1) 11 #[.val (.ref x)] [(.ref a168)]
  have K187 : Keep h h181 [] := (((Keep.refl _ _).ext E170).trans K184 (allS (Or.inr g169) all0))
  exact areturn hG rfl rfl rfl d_jdk_32_method_3_code_11 (M' := []) ⟨a168, rfl, rfl, K187, g169, f185, f186⟩ all0 (Nat.le_of_ble_eq_true rfl) (Nat.le_of_ble_eq_true rfl)
def Q_oem (Z : State) (g0 : Int32) (gf : Value) (zva : Addr) (zkv : ClassId) (zoe : Addr) (zia : Addr) (zsa : Addr) (zta : Addr) (zka : ClassId) (zib : Addr) (zsb : Addr) (ztb : Addr) (zkb : ClassId) (zip : Addr) (zsp : Addr) (ztp : Addr) (zkp : ClassId) (h : Heap) : QT := fun v' M9 h9 => v' = some (.ref zoe) ∧ M9 = [] ∧ h = h9
theorem ef_oem (m : MethodId) : entryFrame m [].toArray 1 = mkF m 0 #[.unset] [] := by first | rfl | (simp [entryFrame, mkF, argsToLocals, Value.category]; done)
set_option maxRecDepth 65536 in
set_option maxHeartbeats 4000000 in
theorem m_oem {l : Launch} {Z : State} {a0 : Array Value} {n0 : Nat} {g0 : Int32} {gf : Value} {zva : Addr} {zkv : ClassId} {zoe : Addr} {zia : Addr} {zsa : Addr} {zta : Addr} {zka : ClassId} {zib : Addr} {zsb : Addr} {ztb : Addr} {zkb : ClassId} {zip : Addr} {zsp : Addr} {ztp : Addr} {zkp : ClassId} (hC : Ctx l Z a0 n0 g0 gf zva zkv zoe zia zsa zta zka zib zsb ztb zkb zip zsp ztp zkp) (h : Heap) :
    Met l Z EL0 n0 (⟨"java/util/Optional", "empty", "()Ljava/util/Optional;"⟩ : MethodName) jdk_32_method_1_code 1 (some (.object "java/util/Optional")) [] ({ frames := 0, cells := 0, slots := 0, locals := 0 } : Room) [] [] h (Q_oem Z g0 gf zva zkv zoe zia zsa zta zka zib zsb ztb zkb zip zsp ztp zkp h) := by
  obtain ⟨hw, hS, hE, hK, hX⟩ := id hC
  refine Met.intro pl_19 (fun m => ef_oem m) hE ?_
  intro G hG
  refine getstatic hG d_jdk_32_method_1_code_0 (w76 hw) Via.refl hX.2.2.2.2.2.1 ?_
  refine astoreN hG d_jdk_32_method_1_code_3 rfl rfl ?_
  refine aloadN hG d_jdk_32_method_1_code_4 rfl rfl ?_
  exact areturn hG rfl rfl rfl d_jdk_32_method_1_code_5 (M' := []) ⟨rfl, rfl, rfl⟩ all0 (Nat.le_of_ble_eq_true rfl) (Nat.le_of_ble_eq_true rfl)
def Q_oor1 (Z : State) (g0 : Int32) (gf : Value) (zva : Addr) (zkv : ClassId) (zoe : Addr) (zia : Addr) (zsa : Addr) (zta : Addr) (zka : ClassId) (zib : Addr) (zsb : Addr) (ztb : Addr) (zkb : ClassId) (zip : Addr) (zsp : Addr) (ztp : Addr) (zkp : ClassId) (a : Addr) (x : Addr) (h : Heap) : QT := fun v' M9 h9 => v' = some (.ref x) ∧ M9 = [] ∧ h = h9
theorem ef_oor1 (m : MethodId) (a : Addr) (x : Addr) : entryFrame m [(.ref a), .null].toArray 2 = mkF m 0 #[.val (.ref a), .val .null] [] := by first | rfl | (simp [entryFrame, mkF, argsToLocals, Value.category]; done)
set_option maxRecDepth 65536 in
set_option maxHeartbeats 4000000 in
theorem m_oor1 {l : Launch} {Z : State} {a0 : Array Value} {n0 : Nat} {g0 : Int32} {gf : Value} {zva : Addr} {zkv : ClassId} {zoe : Addr} {zia : Addr} {zsa : Addr} {zta : Addr} {zka : ClassId} {zib : Addr} {zsb : Addr} {ztb : Addr} {zkb : ClassId} {zip : Addr} {zsp : Addr} {ztp : Addr} {zkp : ClassId} (hC : Ctx l Z a0 n0 g0 gf zva zkv zoe zia zsa zta zka zib zsb ztb zkb zip zsp ztp zkp) (a : Addr) (x : Addr) (h : Heap) (p0_fld : Fld Z h a "java/util/Optional" "value" "Ljava/lang/Object;" (.ref x)) :
    Met l Z EL0 n0 (⟨"java/util/Optional", "orElse", "(Ljava/lang/Object;)Ljava/lang/Object;"⟩ : MethodName) jdk_32_method_15_code 2 (some (.object "java/lang/Object")) [] ({ frames := 0, cells := 0, slots := 0, locals := 0 } : Room) [(.ref a), .null] [] h (Q_oor1 Z g0 gf zva zkv zoe zia zsa zta zka zib zsb ztb zkb zip zsp ztp zkp a x h) := by
  obtain ⟨hw, hS, hE, hK, hX⟩ := id hC
  refine Met.intro pl_20 (fun m => ef_oor1 m a x) hE ?_
  intro G hG
  refine aloadN hG d_jdk_32_method_15_code_0 rfl rfl ?_
  refine getfield hG d_jdk_32_method_15_code_1 (w82 hw) Via.refl p0_fld ?_
  refine ifnullNo hG d_jdk_32_method_15_code_4 ?_
  refine aloadN hG d_jdk_32_method_15_code_7 rfl rfl ?_
  refine getfield hG d_jdk_32_method_15_code_8 (w82 hw) Via.refl p0_fld ?_
  refine goto hG d_jdk_32_method_15_code_11 (by decide) (pc' := 15) rfl ?_
  exact areturn hG rfl rfl rfl d_jdk_32_method_15_code_15 (M' := []) ⟨rfl, rfl, rfl⟩ all0 (Nat.le_of_ble_eq_true rfl) (Nat.le_of_ble_eq_true rfl)
def Q_oor0 (Z : State) (g0 : Int32) (gf : Value) (zva : Addr) (zkv : ClassId) (zoe : Addr) (zia : Addr) (zsa : Addr) (zta : Addr) (zka : ClassId) (zib : Addr) (zsb : Addr) (ztb : Addr) (zkb : ClassId) (zip : Addr) (zsp : Addr) (ztp : Addr) (zkp : ClassId) (a : Addr) (h : Heap) : QT := fun v' M9 h9 => v' = some .null ∧ M9 = [] ∧ h = h9
theorem ef_oor0 (m : MethodId) (a : Addr) : entryFrame m [(.ref a), .null].toArray 2 = mkF m 0 #[.val (.ref a), .val .null] [] := by first | rfl | (simp [entryFrame, mkF, argsToLocals, Value.category]; done)
set_option maxRecDepth 65536 in
set_option maxHeartbeats 4000000 in
theorem m_oor0 {l : Launch} {Z : State} {a0 : Array Value} {n0 : Nat} {g0 : Int32} {gf : Value} {zva : Addr} {zkv : ClassId} {zoe : Addr} {zia : Addr} {zsa : Addr} {zta : Addr} {zka : ClassId} {zib : Addr} {zsb : Addr} {ztb : Addr} {zkb : ClassId} {zip : Addr} {zsp : Addr} {ztp : Addr} {zkp : ClassId} (hC : Ctx l Z a0 n0 g0 gf zva zkv zoe zia zsa zta zka zib zsb ztb zkb zip zsp ztp zkp) (a : Addr) (h : Heap) (p0_fld : Fld Z h a "java/util/Optional" "value" "Ljava/lang/Object;" .null) :
    Met l Z EL0 n0 (⟨"java/util/Optional", "orElse", "(Ljava/lang/Object;)Ljava/lang/Object;"⟩ : MethodName) jdk_32_method_15_code 2 (some (.object "java/lang/Object")) [] ({ frames := 0, cells := 0, slots := 0, locals := 0 } : Room) [(.ref a), .null] [] h (Q_oor0 Z g0 gf zva zkv zoe zia zsa zta zka zib zsb ztb zkb zip zsp ztp zkp a h) := by
  obtain ⟨hw, hS, hE, hK, hX⟩ := id hC
  refine Met.intro pl_20 (fun m => ef_oor0 m a) hE ?_
  intro G hG
  refine aloadN hG d_jdk_32_method_15_code_0 rfl rfl ?_
  refine getfield hG d_jdk_32_method_15_code_1 (w82 hw) Via.refl p0_fld ?_
  refine ifnullYes hG d_jdk_32_method_15_code_4 (by decide) (pc' := 14) rfl ?_
  refine aloadN hG d_jdk_32_method_15_code_14 rfl rfl ?_
  exact areturn hG rfl rfl rfl d_jdk_32_method_15_code_15 (M' := []) ⟨rfl, rfl, rfl⟩ all0 (Nat.le_of_ble_eq_true rfl) (Nat.le_of_ble_eq_true rfl)
def Q_vals (Z : State) (g0 : Int32) (gf : Value) (zva : Addr) (zkv : ClassId) (zoe : Addr) (zia : Addr) (zsa : Addr) (zta : Addr) (zka : ClassId) (zib : Addr) (zsb : Addr) (ztb : Addr) (zkb : ClassId) (zip : Addr) (zsp : Addr) (ztp : Addr) (zkp : ClassId) (h : Heap) : QT := fun v' M9 h9 => ∃ (b : Addr), v' = some (.ref b) ∧ M9 = [] ∧ Keep h h9 [] ∧ h.size ≤ b ∧ Exa Z h9 b "[Lcom/example/uni_gate/unigate/policy/Intent;" ∧ Arv Z h9 b zkv (.object "com/example/uni_gate/unigate/policy/Intent") (3 : Int32) [(.ref zia), (.ref zib), (.ref zip)] .null
theorem ef_vals (m : MethodId) : entryFrame m [].toArray 0 = mkF m 0 #[] [] := by first | rfl | (simp [entryFrame, mkF, argsToLocals, Value.category]; done)
set_option maxRecDepth 65536 in
set_option maxHeartbeats 4000000 in
theorem m_vals {l : Launch} {Z : State} {a0 : Array Value} {n0 : Nat} {g0 : Int32} {gf : Value} {zva : Addr} {zkv : ClassId} {zoe : Addr} {zia : Addr} {zsa : Addr} {zta : Addr} {zka : ClassId} {zib : Addr} {zsb : Addr} {ztb : Addr} {zkb : ClassId} {zip : Addr} {zsp : Addr} {ztp : Addr} {zkp : ClassId} (hC : Ctx l Z a0 n0 g0 gf zva zkv zoe zia zsa zta zka zib zsb ztb zkb zip zsp ztp zkp) (h : Heap) :
    Met l Z EL0 n0 (⟨"com/example/uni_gate/unigate/policy/Intent", "values", "()[Lcom/example/uni_gate/unigate/policy/Intent;"⟩ : MethodName) prog_14_method_1_code 0 (some (.array (.object "com/example/uni_gate/unigate/policy/Intent"))) [] ({ frames := 1, cells := 1, slots := 3, locals := 14 } : Room) [] [] h (Q_vals Z g0 gf zva zkv zoe zia zsa zta zka zib zsb ztb zkb zip zsp ztp zkp h) := by
  obtain ⟨hw, hS, hE, hK, hX⟩ := id hC
  refine Met.intro pl_21 (fun m => ef_vals m) hE ?_
  intro G hG
  refine getstatic hG d_prog_14_method_1_code_0 (w54 hw) Via.refl hX.2.2.1 ?_
  refine facts hG (fun O188 _ => ?_)
  have o189 : Arv Z h zva zkv (.object "com/example/uni_gate/unigate/policy/Intent") (3 : Int32) [(.ref zia), (.ref zib), (.ref zip)] .null := hX.2.2.2.2.1.ext O188.2
  refine facts hG (fun O190 _ => ?_)
  have o191 : Exa Z h zva "[Lcom/example/uni_gate/unigate/policy/Intent;" := hX.2.2.2.1.ext O190.2
  refine cloneArr hG d_prog_14_method_1_code_3 (w56 hw) (w57 hw) (w61 hw) (w59 hw) (w60 hw) (w62 hw) o189 o191 rfl (Nat.le_of_ble_eq_true rfl) (W := 0) (Nat.le_of_ble_eq_true rfl) (Nat.le_of_ble_eq_true rfl) (cap := 3) (by decide) (Nat.le_of_ble_eq_true rfl) (Nat.le_of_ble_eq_true rfl) (fun h192 a193 g194 E195 V196 X197 => ?_)
  show G [a193] h192 (1) (3) 6 #[] [(.ref a193)]
  refine checkcast hG d_prog_14_method_1_code_6 (w67 hw) (Ins.of_exa X197 (w68 hw)) ?_
  have K198 : Keep h h192 [] := ((Keep.refl _ _).ext E195)
  exact areturn hG rfl rfl rfl d_prog_14_method_1_code_9 (M' := []) ⟨a193, rfl, rfl, K198, g194, X197, V196⟩ all0 (Nat.le_of_ble_eq_true rfl) (Nat.le_of_ble_eq_true rfl)
def Q_fp0 (Z : State) (g0 : Int32) (gf : Value) (zva : Addr) (zkv : ClassId) (zoe : Addr) (zia : Addr) (zsa : Addr) (zta : Addr) (zka : ClassId) (zib : Addr) (zsb : Addr) (ztb : Addr) (zkb : ClassId) (zip : Addr) (zsp : Addr) (ztp : Addr) (zkp : ClassId) (a : Addr) (ta : Addr) (ka : ClassId) (Na : Int32) (xs : List Int32) (h : Heap) : QT := fun v' M9 h9 => ∃ (o : Addr), v' = some (.ref o) ∧ M9 = [] ∧ Keep h h9 [] ∧ h.size ≤ o ∧ Exa Z h9 o "java/util/Optional" ∧ Fld Z h9 o "java/util/Optional" "value" "Ljava/lang/Object;" (.ref zia)
theorem ef_fp0 (m : MethodId) (a : Addr) (ta : Addr) (ka : ClassId) (Na : Int32) (xs : List Int32) : entryFrame m [(.ref a)].toArray 5 = mkF m 0 #[.val (.ref a), .unset, .unset, .unset, .unset] [] := by first | rfl | (simp [entryFrame, mkF, argsToLocals, Value.category]; done)
set_option maxRecDepth 65536 in
set_option maxHeartbeats 4000000 in
theorem m_fp0 {l : Launch} {Z : State} {a0 : Array Value} {n0 : Nat} {g0 : Int32} {gf : Value} {zva : Addr} {zkv : ClassId} {zoe : Addr} {zia : Addr} {zsa : Addr} {zta : Addr} {zka : ClassId} {zib : Addr} {zsb : Addr} {ztb : Addr} {zkb : ClassId} {zip : Addr} {zsp : Addr} {ztp : Addr} {zkp : ClassId} (hC : Ctx l Z a0 n0 g0 gf zva zkv zoe zia zsa zta zka zib zsb ztb zkb zip zsp ztp zkp) (a : Addr) (ta : Addr) (ka : ClassId) (Na : Int32) (xs : List Int32) (h : Heap) (p0_exa : Exa Z h a "java/lang/String") (p1_fld : Fld Z h a "java/lang/String" "coder" "B" (.int (0 : Int32))) (p2_fld : Fld Z h a "java/lang/String" "value" "[B" (.ref ta)) (p3_arv : Arv Z h ta ka .byte Na (ints xs) (.int 0)) (hNa : Na = Int32.ofNat xs.length) (hla : xs.length ≤ 2000) (hsa : zsa ≠ a) (hsb : zsb ≠ a) (hsp : zsp ≠ a) (hqa : xs = [(97 : Int32), (108 : Int32), (108 : Int32), (111 : Int32), (119 : Int32)]) :
    Met l Z EL0 n0 (⟨"com/example/uni_gate/unigate/policy/Intent", "fromPolicyName", "(Ljava/lang/String;)Ljava/util/Optional;"⟩ : MethodName) prog_14_method_4_code 5 (some (.object "java/util/Optional")) [] ({ frames := 3, cells := 2, slots := 4, locals := 38 } : Room) [(.ref a)] [] h (Q_fp0 Z g0 gf zva zkv zoe zia zsa zta zka zib zsb ztb zkb zip zsp ztp zkp a ta ka Na xs h) := by
  obtain ⟨hw, hS, hE, hK, hX⟩ := id hC
  refine Met.intro pl_22 (fun m => ef_fp0 m a ta ka Na xs) hE ?_
  intro G hG
  refine callStatic hG d_prog_14_method_4_code_0 (w51 hw) (w52 hw) (w49 hw) (w53 hw) (by decide) (m_vals hC h) pd_14 rfl (rest := []) rfl rfl all0 (Nat.le_of_ble_eq_true rfl) (W := 0) (Nat.le_of_ble_eq_true rfl) (Nat.le_of_ble_eq_true rfl) (Nat.le_of_ble_eq_true rfl) (Nat.le_of_ble_eq_true rfl) (fun v199 M200 h201 le202 hq203 => ?_)
  obtain ⟨b204, rfl, rfl, K205, g206, f207, f208⟩ := hq203
  show G [] h201 (1) (3) 3 #[.val (.ref a), .unset, .unset, .unset, .unset] [(.ref b204)]
  refine astoreN hG d_prog_14_method_4_code_3 rfl rfl ?_
  refine aloadN hG d_prog_14_method_4_code_4 rfl rfl ?_
  refine alen hG d_prog_14_method_4_code_5 f208 ?_
  refine istoreN hG d_prog_14_method_4_code_6 rfl ?_
  refine iconst hG d_prog_14_method_4_code_7 (0) rfl ?_
  refine istoreN hG d_prog_14_method_4_code_8 rfl ?_
  refine iloadN hG d_prog_14_method_4_code_9 rfl ?_
  refine iloadN hG d_prog_14_method_4_code_10 rfl ?_
  refine icmpNo hG d_prog_14_method_4_code_11 (by decide) ?_
  refine aloadN hG d_prog_14_method_4_code_14 rfl rfl ?_
  refine iloadN hG d_prog_14_method_4_code_15 rfl ?_
  refine aaload hG d_prog_14_method_4_code_16 rfl f208 ⟨by decide, by decide⟩ (v := (.ref zia)) rfl ?_
  refine astore hG d_prog_14_method_4_code_17 rfl rfl ?_
  refine aload hG d_prog_14_method_4_code_19 rfl rfl ?_
  refine facts hG (fun O209 _ => ?_)
  have o210 : Fld Z h201 zia "com/example/uni_gate/unigate/policy/Intent" "policyName" "Ljava/lang/String;" (.ref zsa) := hX.2.2.2.2.2.2.2.2.2.2.1.ext O209.2
  refine getfield hG d_prog_14_method_4_code_21 (w69 hw) Via.refl o210 ?_
  refine aloadN hG d_prog_14_method_4_code_24 rfl rfl ?_
  refine facts hG (fun O211 _ => ?_)
  have o212 : Exa Z h201 zsa "java/lang/String" := hX.2.2.2.2.2.2.2.2.2.2.2.1.ext O211.2
  have E213 : Exa Z h201 a "java/lang/String" := (p0_exa.keep K205)
  refine facts hG (fun O214 _ => ?_)
  have o215 : Fld Z h201 zsa "java/lang/String" "coder" "B" (.int (0 : Int32)) := hX.2.2.2.2.2.2.2.2.2.2.2.2.1.ext O214.2
  have F216 : Fld Z h201 a "java/lang/String" "coder" "B" (.int (0 : Int32)) := (p1_fld.keep K205 nin0)
  refine facts hG (fun O217 _ => ?_)
  have o218 : Fld Z h201 zsa "java/lang/String" "value" "[B" (.ref zta) := hX.2.2.2.2.2.2.2.2.2.2.2.2.2.1.ext O217.2
  have F219 : Fld Z h201 a "java/lang/String" "value" "[B" (.ref ta) := (p2_fld.keep K205 nin0)
  refine facts hG (fun O220 _ => ?_)
  have o221 : Arv Z h201 zta zka .byte (5 : Int32) [(.int (97 : Int32)), (.int (108 : Int32)), (.int (108 : Int32)), (.int (111 : Int32)), (.int (119 : Int32))] (.int 0) := hX.2.2.2.2.2.2.2.2.2.2.2.2.2.2.1.ext O220.2
  have V222 : Arv Z h201 ta ka .byte Na (ints xs) (.int 0) := (p3_arv.keep K205 nin0)
  refine callVirtual hG d_prog_14_method_4_code_25 o212 (w71 hw) (w36 hw) (fun _ hz => notFace_of_selects (args := #[]) (mvT hz (w38 hw))) (w38 hw) (w37 hw) (w1 hw) (w39 hw) (by decide) (m_eqS hC (zsa) (a) (zta) (ta) (zka) (ka) ((5 : Int32)) (Na) ([(97 : Int32), (108 : Int32), (108 : Int32), (111 : Int32), (119 : Int32)]) (xs) h201 o212 E213 o215 F216 o218 F219 o221 V222 rfl hNa (by first | exact Nat.le_of_ble_eq_true rfl | (simp; done) | (simp; omega)) hla hsa) pd_15 rfl (rest := []) rfl rfl all0 (Nat.le_of_ble_eq_true rfl) (W := 0) (Nat.le_of_ble_eq_true rfl) (Nat.le_of_ble_eq_true rfl) (Nat.le_of_ble_eq_true rfl) (Nat.le_of_ble_eq_true rfl) (fun v223 M224 h225 le226 hq227 => ?_)
  obtain ⟨rfl, rfl, rfl⟩ := hq227
  show G [] h201 (1) (3) 28 #[.val (.ref a), .val (.ref b204), .val (.int (3 : Int32)), .val (.int (0 : Int32)), .val (.ref zia)] [(.int (eqv [(97 : Int32), (108 : Int32), (108 : Int32), (111 : Int32), (119 : Int32)] xs))]
  refine ifNo hG d_prog_14_method_4_code_28 (feq (eqv_ne0 hqa.symm)).1 ?_
  refine aload hG d_prog_14_method_4_code_31 rfl rfl ?_
  refine callStatic hG d_prog_14_method_4_code_33 (w121 hw) (w122 hw) (w74 hw) (w123 hw) (by decide) (m_oof hC (zia) h201) pd_16 rfl (rest := []) rfl rfl all0 (Nat.le_of_ble_eq_true rfl) (W := 0) (Nat.le_of_ble_eq_true rfl) (Nat.le_of_ble_eq_true rfl) (Nat.le_of_ble_eq_true rfl) (Nat.le_of_ble_eq_true rfl) (fun v228 M229 h230 le231 hq232 => ?_)
  obtain ⟨a233, rfl, rfl, K234, g235, f236, f237⟩ := hq232
  show G [] h230 (2) (4) 36 #[.val (.ref a), .val (.ref b204), .val (.int (3 : Int32)), .val (.int (0 : Int32)), .val (.ref zia)] [(.ref a233)]
  have K238 : Keep h h230 [] := (((Keep.refl _ _).trans K205 all0).trans K234 all0)
  exact areturn hG rfl rfl rfl d_prog_14_method_4_code_36 (M' := []) ⟨a233, rfl, rfl, K238, (Nat.le_trans le202 g235), f236, f237⟩ all0 (Nat.le_of_ble_eq_true rfl) (Nat.le_of_ble_eq_true rfl)
def Q_fp1 (Z : State) (g0 : Int32) (gf : Value) (zva : Addr) (zkv : ClassId) (zoe : Addr) (zia : Addr) (zsa : Addr) (zta : Addr) (zka : ClassId) (zib : Addr) (zsb : Addr) (ztb : Addr) (zkb : ClassId) (zip : Addr) (zsp : Addr) (ztp : Addr) (zkp : ClassId) (a : Addr) (ta : Addr) (ka : ClassId) (Na : Int32) (xs : List Int32) (h : Heap) : QT := fun v' M9 h9 => ∃ (o : Addr), v' = some (.ref o) ∧ M9 = [] ∧ Keep h h9 [] ∧ h.size ≤ o ∧ Exa Z h9 o "java/util/Optional" ∧ Fld Z h9 o "java/util/Optional" "value" "Ljava/lang/Object;" (.ref zib)
theorem ef_fp1 (m : MethodId) (a : Addr) (ta : Addr) (ka : ClassId) (Na : Int32) (xs : List Int32) : entryFrame m [(.ref a)].toArray 5 = mkF m 0 #[.val (.ref a), .unset, .unset, .unset, .unset] [] := by first | rfl | (simp [entryFrame, mkF, argsToLocals, Value.category]; done)
set_option maxRecDepth 65536 in
set_option maxHeartbeats 4000000 in
theorem m_fp1 {l : Launch} {Z : State} {a0 : Array Value} {n0 : Nat} {g0 : Int32} {gf : Value} {zva : Addr} {zkv : ClassId} {zoe : Addr} {zia : Addr} {zsa : Addr} {zta : Addr} {zka : ClassId} {zib : Addr} {zsb : Addr} {ztb : Addr} {zkb : ClassId} {zip : Addr} {zsp : Addr} {ztp : Addr} {zkp : ClassId} (hC : Ctx l Z a0 n0 g0 gf zva zkv zoe zia zsa zta zka zib zsb ztb zkb zip zsp ztp zkp) (a : Addr) (ta : Addr) (ka : ClassId) (Na : Int32) (xs : List Int32) (h : Heap) (p0_exa : Exa Z h a "java/lang/String") (p1_fld : Fld Z h a "java/lang/String" "coder" "B" (.int (0 : Int32))) (p2_fld : Fld Z h a "java/lang/String" "value" "[B" (.ref ta)) (p3_arv : Arv Z h ta ka .byte Na (ints xs) (.int 0)) (hNa : Na = Int32.ofNat xs.length) (hla : xs.length ≤ 2000) (hsa : zsa ≠ a) (hsb : zsb ≠ a) (hsp : zsp ≠ a) (hqa : ¬ (xs = [(97 : Int32), (108 : Int32), (108 : Int32), (111 : Int32), (119 : Int32)])) (hqb : xs = [(99 : Int32), (111 : Int32), (110 : Int32), (100 : Int32), (105 : Int32), (116 : Int32), (105 : Int32), (111 : Int32), (110 : Int32), (97 : Int32), (108 : Int32)]) :
    Met l Z EL0 n0 (⟨"com/example/uni_gate/unigate/policy/Intent", "fromPolicyName", "(Ljava/lang/String;)Ljava/util/Optional;"⟩ : MethodName) prog_14_method_4_code 5 (some (.object "java/util/Optional")) [] ({ frames := 3, cells := 2, slots := 4, locals := 38 } : Room) [(.ref a)] [] h (Q_fp1 Z g0 gf zva zkv zoe zia zsa zta zka zib zsb ztb zkb zip zsp ztp zkp a ta ka Na xs h) := by
  obtain ⟨hw, hS, hE, hK, hX⟩ := id hC
  refine Met.intro pl_22 (fun m => ef_fp1 m a ta ka Na xs) hE ?_
  intro G hG
  refine callStatic hG d_prog_14_method_4_code_0 (w51 hw) (w52 hw) (w49 hw) (w53 hw) (by decide) (m_vals hC h) pd_14 rfl (rest := []) rfl rfl all0 (Nat.le_of_ble_eq_true rfl) (W := 0) (Nat.le_of_ble_eq_true rfl) (Nat.le_of_ble_eq_true rfl) (Nat.le_of_ble_eq_true rfl) (Nat.le_of_ble_eq_true rfl) (fun v239 M240 h241 le242 hq243 => ?_)
  obtain ⟨b244, rfl, rfl, K245, g246, f247, f248⟩ := hq243
  show G [] h241 (1) (3) 3 #[.val (.ref a), .unset, .unset, .unset, .unset] [(.ref b244)]
  refine astoreN hG d_prog_14_method_4_code_3 rfl rfl ?_
  refine aloadN hG d_prog_14_method_4_code_4 rfl rfl ?_
  refine alen hG d_prog_14_method_4_code_5 f248 ?_
  refine istoreN hG d_prog_14_method_4_code_6 rfl ?_
  refine iconst hG d_prog_14_method_4_code_7 (0) rfl ?_
  refine istoreN hG d_prog_14_method_4_code_8 rfl ?_
  refine iloadN hG d_prog_14_method_4_code_9 rfl ?_
  refine iloadN hG d_prog_14_method_4_code_10 rfl ?_
  refine icmpNo hG d_prog_14_method_4_code_11 (by decide) ?_
  refine aloadN hG d_prog_14_method_4_code_14 rfl rfl ?_
  refine iloadN hG d_prog_14_method_4_code_15 rfl ?_
  refine aaload hG d_prog_14_method_4_code_16 rfl f248 ⟨by decide, by decide⟩ (v := (.ref zia)) rfl ?_
  refine astore hG d_prog_14_method_4_code_17 rfl rfl ?_
  refine aload hG d_prog_14_method_4_code_19 rfl rfl ?_
  refine facts hG (fun O249 _ => ?_)
  have o250 : Fld Z h241 zia "com/example/uni_gate/unigate/policy/Intent" "policyName" "Ljava/lang/String;" (.ref zsa) := hX.2.2.2.2.2.2.2.2.2.2.1.ext O249.2
  refine getfield hG d_prog_14_method_4_code_21 (w69 hw) Via.refl o250 ?_
  refine aloadN hG d_prog_14_method_4_code_24 rfl rfl ?_
  refine facts hG (fun O251 _ => ?_)
  have o252 : Exa Z h241 zsa "java/lang/String" := hX.2.2.2.2.2.2.2.2.2.2.2.1.ext O251.2
  have E253 : Exa Z h241 a "java/lang/String" := (p0_exa.keep K245)
  refine facts hG (fun O254 _ => ?_)
  have o255 : Fld Z h241 zsa "java/lang/String" "coder" "B" (.int (0 : Int32)) := hX.2.2.2.2.2.2.2.2.2.2.2.2.1.ext O254.2
  have F256 : Fld Z h241 a "java/lang/String" "coder" "B" (.int (0 : Int32)) := (p1_fld.keep K245 nin0)
  refine facts hG (fun O257 _ => ?_)
  have o258 : Fld Z h241 zsa "java/lang/String" "value" "[B" (.ref zta) := hX.2.2.2.2.2.2.2.2.2.2.2.2.2.1.ext O257.2
  have F259 : Fld Z h241 a "java/lang/String" "value" "[B" (.ref ta) := (p2_fld.keep K245 nin0)
  refine facts hG (fun O260 _ => ?_)
  have o261 : Arv Z h241 zta zka .byte (5 : Int32) [(.int (97 : Int32)), (.int (108 : Int32)), (.int (108 : Int32)), (.int (111 : Int32)), (.int (119 : Int32))] (.int 0) := hX.2.2.2.2.2.2.2.2.2.2.2.2.2.2.1.ext O260.2
  have V262 : Arv Z h241 ta ka .byte Na (ints xs) (.int 0) := (p3_arv.keep K245 nin0)
  refine callVirtual hG d_prog_14_method_4_code_25 o252 (w71 hw) (w36 hw) (fun _ hz => notFace_of_selects (args := #[]) (mvT hz (w38 hw))) (w38 hw) (w37 hw) (w1 hw) (w39 hw) (by decide) (m_eqS hC (zsa) (a) (zta) (ta) (zka) (ka) ((5 : Int32)) (Na) ([(97 : Int32), (108 : Int32), (108 : Int32), (111 : Int32), (119 : Int32)]) (xs) h241 o252 E253 o255 F256 o258 F259 o261 V262 rfl hNa (by first | exact Nat.le_of_ble_eq_true rfl | (simp; done) | (simp; omega)) hla hsa) pd_15 rfl (rest := []) rfl rfl all0 (Nat.le_of_ble_eq_true rfl) (W := 0) (Nat.le_of_ble_eq_true rfl) (Nat.le_of_ble_eq_true rfl) (Nat.le_of_ble_eq_true rfl) (Nat.le_of_ble_eq_true rfl) (fun v263 M264 h265 le266 hq267 => ?_)
  obtain ⟨rfl, rfl, rfl⟩ := hq267
  show G [] h241 (1) (3) 28 #[.val (.ref a), .val (.ref b244), .val (.int (3 : Int32)), .val (.int (0 : Int32)), .val (.ref zia)] [(.int (eqv [(97 : Int32), (108 : Int32), (108 : Int32), (111 : Int32), (119 : Int32)] xs))]
  refine ifYes hG d_prog_14_method_4_code_28 (teq (eqv_no (fun e => hqa e.symm))).1 (by decide) (pc' := 37) rfl ?_
  refine iinc hG d_prog_14_method_4_code_37 rfl (1) rfl rfl ?_
  refine goto hG d_prog_14_method_4_code_40 (by decide) (pc' := 9) rfl ?_
  refine iloadN hG d_prog_14_method_4_code_9 rfl ?_
  refine iloadN hG d_prog_14_method_4_code_10 rfl ?_
  refine icmpNo hG d_prog_14_method_4_code_11 (by decide) ?_
  refine aloadN hG d_prog_14_method_4_code_14 rfl rfl ?_
  refine iloadN hG d_prog_14_method_4_code_15 rfl ?_
  refine aaload hG d_prog_14_method_4_code_16 rfl f248 ⟨by decide, by decide⟩ (v := (.ref zib)) rfl ?_
  refine astore hG d_prog_14_method_4_code_17 rfl rfl ?_
  refine aload hG d_prog_14_method_4_code_19 rfl rfl ?_
  refine facts hG (fun O268 _ => ?_)
  have o269 : Fld Z h241 zib "com/example/uni_gate/unigate/policy/Intent" "policyName" "Ljava/lang/String;" (.ref zsb) := hX.2.2.2.2.2.2.2.2.2.2.2.2.2.2.2.2.2.1.ext O268.2
  refine getfield hG d_prog_14_method_4_code_21 (w69 hw) Via.refl o269 ?_
  refine aloadN hG d_prog_14_method_4_code_24 rfl rfl ?_
  refine facts hG (fun O270 _ => ?_)
  have o271 : Exa Z h241 zsb "java/lang/String" := hX.2.2.2.2.2.2.2.2.2.2.2.2.2.2.2.2.2.2.1.ext O270.2
  refine facts hG (fun O272 _ => ?_)
  have o273 : Fld Z h241 zsb "java/lang/String" "coder" "B" (.int (0 : Int32)) := hX.2.2.2.2.2.2.2.2.2.2.2.2.2.2.2.2.2.2.2.1.ext O272.2
  refine facts hG (fun O274 _ => ?_)
  have o275 : Fld Z h241 zsb "java/lang/String" "value" "[B" (.ref ztb) := hX.2.2.2.2.2.2.2.2.2.2.2.2.2.2.2.2.2.2.2.2.1.ext O274.2
  refine facts hG (fun O276 _ => ?_)
  have o277 : Arv Z h241 ztb zkb .byte (11 : Int32) [(.int (99 : Int32)), (.int (111 : Int32)), (.int (110 : Int32)), (.int (100 : Int32)), (.int (105 : Int32)), (.int (116 : Int32)), (.int (105 : Int32)), (.int (111 : Int32)), (.int (110 : Int32)), (.int (97 : Int32)), (.int (108 : Int32))] (.int 0) := hX.2.2.2.2.2.2.2.2.2.2.2.2.2.2.2.2.2.2.2.2.2.1.ext O276.2
  refine callVirtual hG d_prog_14_method_4_code_25 o271 (w71 hw) (w36 hw) (fun _ hz => notFace_of_selects (args := #[]) (mvT hz (w38 hw))) (w38 hw) (w37 hw) (w1 hw) (w39 hw) (by decide) (m_eqS hC (zsb) (a) (ztb) (ta) (zkb) (ka) ((11 : Int32)) (Na) ([(99 : Int32), (111 : Int32), (110 : Int32), (100 : Int32), (105 : Int32), (116 : Int32), (105 : Int32), (111 : Int32), (110 : Int32), (97 : Int32), (108 : Int32)]) (xs) h241 o271 E253 o273 F256 o275 F259 o277 V262 rfl hNa (by first | exact Nat.le_of_ble_eq_true rfl | (simp; done) | (simp; omega)) hla hsb) pd_15 rfl (rest := []) rfl rfl all0 (Nat.le_of_ble_eq_true rfl) (W := 0) (Nat.le_of_ble_eq_true rfl) (Nat.le_of_ble_eq_true rfl) (Nat.le_of_ble_eq_true rfl) (Nat.le_of_ble_eq_true rfl) (fun v278 M279 h280 le281 hq282 => ?_)
  obtain ⟨rfl, rfl, rfl⟩ := hq282
  show G [] h241 (1) (3) 28 #[.val (.ref a), .val (.ref b244), .val (.int (3 : Int32)), .val (.int (1 : Int32)), .val (.ref zib)] [(.int (eqv [(99 : Int32), (111 : Int32), (110 : Int32), (100 : Int32), (105 : Int32), (116 : Int32), (105 : Int32), (111 : Int32), (110 : Int32), (97 : Int32), (108 : Int32)] xs))]
  refine ifNo hG d_prog_14_method_4_code_28 (feq (eqv_ne0 hqb.symm)).1 ?_
  refine aload hG d_prog_14_method_4_code_31 rfl rfl ?_
  refine callStatic hG d_prog_14_method_4_code_33 (w121 hw) (w122 hw) (w74 hw) (w123 hw) (by decide) (m_oof hC (zib) h241) pd_16 rfl (rest := []) rfl rfl all0 (Nat.le_of_ble_eq_true rfl) (W := 0) (Nat.le_of_ble_eq_true rfl) (Nat.le_of_ble_eq_true rfl) (Nat.le_of_ble_eq_true rfl) (Nat.le_of_ble_eq_true rfl) (fun v283 M284 h285 le286 hq287 => ?_)
  obtain ⟨a288, rfl, rfl, K289, g290, f291, f292⟩ := hq287
  show G [] h285 (2) (4) 36 #[.val (.ref a), .val (.ref b244), .val (.int (3 : Int32)), .val (.int (1 : Int32)), .val (.ref zib)] [(.ref a288)]
  have K293 : Keep h h285 [] := (((Keep.refl _ _).trans K245 all0).trans K289 all0)
  exact areturn hG rfl rfl rfl d_prog_14_method_4_code_36 (M' := []) ⟨a288, rfl, rfl, K293, (Nat.le_trans le242 g290), f291, f292⟩ all0 (Nat.le_of_ble_eq_true rfl) (Nat.le_of_ble_eq_true rfl)
def Q_fp2 (Z : State) (g0 : Int32) (gf : Value) (zva : Addr) (zkv : ClassId) (zoe : Addr) (zia : Addr) (zsa : Addr) (zta : Addr) (zka : ClassId) (zib : Addr) (zsb : Addr) (ztb : Addr) (zkb : ClassId) (zip : Addr) (zsp : Addr) (ztp : Addr) (zkp : ClassId) (a : Addr) (ta : Addr) (ka : ClassId) (Na : Int32) (xs : List Int32) (h : Heap) : QT := fun v' M9 h9 => ∃ (o : Addr), v' = some (.ref o) ∧ M9 = [] ∧ Keep h h9 [] ∧ h.size ≤ o ∧ Exa Z h9 o "java/util/Optional" ∧ Fld Z h9 o "java/util/Optional" "value" "Ljava/lang/Object;" (.ref zip)
theorem ef_fp2 (m : MethodId) (a : Addr) (ta : Addr) (ka : ClassId) (Na : Int32) (xs : List Int32) : entryFrame m [(.ref a)].toArray 5 = mkF m 0 #[.val (.ref a), .unset, .unset, .unset, .unset] [] := by first | rfl | (simp [entryFrame, mkF, argsToLocals, Value.category]; done)
set_option maxRecDepth 65536 in
set_option maxHeartbeats 4000000 in
theorem m_fp2 {l : Launch} {Z : State} {a0 : Array Value} {n0 : Nat} {g0 : Int32} {gf : Value} {zva : Addr} {zkv : ClassId} {zoe : Addr} {zia : Addr} {zsa : Addr} {zta : Addr} {zka : ClassId} {zib : Addr} {zsb : Addr} {ztb : Addr} {zkb : ClassId} {zip : Addr} {zsp : Addr} {ztp : Addr} {zkp : ClassId} (hC : Ctx l Z a0 n0 g0 gf zva zkv zoe zia zsa zta zka zib zsb ztb zkb zip zsp ztp zkp) (a : Addr) (ta : Addr) (ka : ClassId) (Na : Int32) (xs : List Int32) (h : Heap) (p0_exa : Exa Z h a "java/lang/String") (p1_fld : Fld Z h a "java/lang/String" "coder" "B" (.int (0 : Int32))) (p2_fld : Fld Z h a "java/lang/String" "value" "[B" (.ref ta)) (p3_arv : Arv Z h ta ka .byte Na (ints xs) (.int 0)) (hNa : Na = Int32.ofNat xs.length) (hla : xs.length ≤ 2000) (hsa : zsa ≠ a) (hsb : zsb ≠ a) (hsp : zsp ≠ a) (hqa : ¬ (xs = [(97 : Int32), (108 : Int32), (108 : Int32), (111 : Int32), (119 : Int32)])) (hqb : ¬ (xs = [(99 : Int32), (111 : Int32), (110 : Int32), (100 : Int32), (105 : Int32), (116 : Int32), (105 : Int32), (111 : Int32), (110 : Int32), (97 : Int32), (108 : Int32)])) (hqp : xs = [(112 : Int32), (114 : Int32), (111 : Int32), (104 : Int32), (105 : Int32), (98 : Int32), (105 : Int32), (116 : Int32)]) :
    Met l Z EL0 n0 (⟨"com/example/uni_gate/unigate/policy/Intent", "fromPolicyName", "(Ljava/lang/String;)Ljava/util/Optional;"⟩ : MethodName) prog_14_method_4_code 5 (some (.object "java/util/Optional")) [] ({ frames := 3, cells := 2, slots := 4, locals := 38 } : Room) [(.ref a)] [] h (Q_fp2 Z g0 gf zva zkv zoe zia zsa zta zka zib zsb ztb zkb zip zsp ztp zkp a ta ka Na xs h) := by
  obtain ⟨hw, hS, hE, hK, hX⟩ := id hC
  refine Met.intro pl_22 (fun m => ef_fp2 m a ta ka Na xs) hE ?_
  intro G hG
  refine callStatic hG d_prog_14_method_4_code_0 (w51 hw) (w52 hw) (w49 hw) (w53 hw) (by decide) (m_vals hC h) pd_14 rfl (rest := []) rfl rfl all0 (Nat.le_of_ble_eq_true rfl) (W := 0) (Nat.le_of_ble_eq_true rfl) (Nat.le_of_ble_eq_true rfl) (Nat.le_of_ble_eq_true rfl) (Nat.le_of_ble_eq_true rfl) (fun v294 M295 h296 le297 hq298 => ?_)
  obtain ⟨b299, rfl, rfl, K300, g301, f302, f303⟩ := hq298
  show G [] h296 (1) (3) 3 #[.val (.ref a), .unset, .unset, .unset, .unset] [(.ref b299)]
  refine astoreN hG d_prog_14_method_4_code_3 rfl rfl ?_
  refine aloadN hG d_prog_14_method_4_code_4 rfl rfl ?_
  refine alen hG d_prog_14_method_4_code_5 f303 ?_
  refine istoreN hG d_prog_14_method_4_code_6 rfl ?_
  refine iconst hG d_prog_14_method_4_code_7 (0) rfl ?_
  refine istoreN hG d_prog_14_method_4_code_8 rfl ?_
  refine iloadN hG d_prog_14_method_4_code_9 rfl ?_
  refine iloadN hG d_prog_14_method_4_code_10 rfl ?_
  refine icmpNo hG d_prog_14_method_4_code_11 (by decide) ?_
  refine aloadN hG d_prog_14_method_4_code_14 rfl rfl ?_
  refine iloadN hG d_prog_14_method_4_code_15 rfl ?_
  refine aaload hG d_prog_14_method_4_code_16 rfl f303 ⟨by decide, by decide⟩ (v := (.ref zia)) rfl ?_
  refine astore hG d_prog_14_method_4_code_17 rfl rfl ?_
  refine aload hG d_prog_14_method_4_code_19 rfl rfl ?_
  refine facts hG (fun O304 _ => ?_)
  have o305 : Fld Z h296 zia "com/example/uni_gate/unigate/policy/Intent" "policyName" "Ljava/lang/String;" (.ref zsa) := hX.2.2.2.2.2.2.2.2.2.2.1.ext O304.2
  refine getfield hG d_prog_14_method_4_code_21 (w69 hw) Via.refl o305 ?_
  refine aloadN hG d_prog_14_method_4_code_24 rfl rfl ?_
  refine facts hG (fun O306 _ => ?_)
  have o307 : Exa Z h296 zsa "java/lang/String" := hX.2.2.2.2.2.2.2.2.2.2.2.1.ext O306.2
  have E308 : Exa Z h296 a "java/lang/String" := (p0_exa.keep K300)
  refine facts hG (fun O309 _ => ?_)
  have o310 : Fld Z h296 zsa "java/lang/String" "coder" "B" (.int (0 : Int32)) := hX.2.2.2.2.2.2.2.2.2.2.2.2.1.ext O309.2
  have F311 : Fld Z h296 a "java/lang/String" "coder" "B" (.int (0 : Int32)) := (p1_fld.keep K300 nin0)
  refine facts hG (fun O312 _ => ?_)
  have o313 : Fld Z h296 zsa "java/lang/String" "value" "[B" (.ref zta) := hX.2.2.2.2.2.2.2.2.2.2.2.2.2.1.ext O312.2
  have F314 : Fld Z h296 a "java/lang/String" "value" "[B" (.ref ta) := (p2_fld.keep K300 nin0)
  refine facts hG (fun O315 _ => ?_)
  have o316 : Arv Z h296 zta zka .byte (5 : Int32) [(.int (97 : Int32)), (.int (108 : Int32)), (.int (108 : Int32)), (.int (111 : Int32)), (.int (119 : Int32))] (.int 0) := hX.2.2.2.2.2.2.2.2.2.2.2.2.2.2.1.ext O315.2
  have V317 : Arv Z h296 ta ka .byte Na (ints xs) (.int 0) := (p3_arv.keep K300 nin0)
  refine callVirtual hG d_prog_14_method_4_code_25 o307 (w71 hw) (w36 hw) (fun _ hz => notFace_of_selects (args := #[]) (mvT hz (w38 hw))) (w38 hw) (w37 hw) (w1 hw) (w39 hw) (by decide) (m_eqS hC (zsa) (a) (zta) (ta) (zka) (ka) ((5 : Int32)) (Na) ([(97 : Int32), (108 : Int32), (108 : Int32), (111 : Int32), (119 : Int32)]) (xs) h296 o307 E308 o310 F311 o313 F314 o316 V317 rfl hNa (by first | exact Nat.le_of_ble_eq_true rfl | (simp; done) | (simp; omega)) hla hsa) pd_15 rfl (rest := []) rfl rfl all0 (Nat.le_of_ble_eq_true rfl) (W := 0) (Nat.le_of_ble_eq_true rfl) (Nat.le_of_ble_eq_true rfl) (Nat.le_of_ble_eq_true rfl) (Nat.le_of_ble_eq_true rfl) (fun v318 M319 h320 le321 hq322 => ?_)
  obtain ⟨rfl, rfl, rfl⟩ := hq322
  show G [] h296 (1) (3) 28 #[.val (.ref a), .val (.ref b299), .val (.int (3 : Int32)), .val (.int (0 : Int32)), .val (.ref zia)] [(.int (eqv [(97 : Int32), (108 : Int32), (108 : Int32), (111 : Int32), (119 : Int32)] xs))]
  refine ifYes hG d_prog_14_method_4_code_28 (teq (eqv_no (fun e => hqa e.symm))).1 (by decide) (pc' := 37) rfl ?_
  refine iinc hG d_prog_14_method_4_code_37 rfl (1) rfl rfl ?_
  refine goto hG d_prog_14_method_4_code_40 (by decide) (pc' := 9) rfl ?_
  refine iloadN hG d_prog_14_method_4_code_9 rfl ?_
  refine iloadN hG d_prog_14_method_4_code_10 rfl ?_
  refine icmpNo hG d_prog_14_method_4_code_11 (by decide) ?_
  refine aloadN hG d_prog_14_method_4_code_14 rfl rfl ?_
  refine iloadN hG d_prog_14_method_4_code_15 rfl ?_
  refine aaload hG d_prog_14_method_4_code_16 rfl f303 ⟨by decide, by decide⟩ (v := (.ref zib)) rfl ?_
  refine astore hG d_prog_14_method_4_code_17 rfl rfl ?_
  refine aload hG d_prog_14_method_4_code_19 rfl rfl ?_
  refine facts hG (fun O323 _ => ?_)
  have o324 : Fld Z h296 zib "com/example/uni_gate/unigate/policy/Intent" "policyName" "Ljava/lang/String;" (.ref zsb) := hX.2.2.2.2.2.2.2.2.2.2.2.2.2.2.2.2.2.1.ext O323.2
  refine getfield hG d_prog_14_method_4_code_21 (w69 hw) Via.refl o324 ?_
  refine aloadN hG d_prog_14_method_4_code_24 rfl rfl ?_
  refine facts hG (fun O325 _ => ?_)
  have o326 : Exa Z h296 zsb "java/lang/String" := hX.2.2.2.2.2.2.2.2.2.2.2.2.2.2.2.2.2.2.1.ext O325.2
  refine facts hG (fun O327 _ => ?_)
  have o328 : Fld Z h296 zsb "java/lang/String" "coder" "B" (.int (0 : Int32)) := hX.2.2.2.2.2.2.2.2.2.2.2.2.2.2.2.2.2.2.2.1.ext O327.2
  refine facts hG (fun O329 _ => ?_)
  have o330 : Fld Z h296 zsb "java/lang/String" "value" "[B" (.ref ztb) := hX.2.2.2.2.2.2.2.2.2.2.2.2.2.2.2.2.2.2.2.2.1.ext O329.2
  refine facts hG (fun O331 _ => ?_)
  have o332 : Arv Z h296 ztb zkb .byte (11 : Int32) [(.int (99 : Int32)), (.int (111 : Int32)), (.int (110 : Int32)), (.int (100 : Int32)), (.int (105 : Int32)), (.int (116 : Int32)), (.int (105 : Int32)), (.int (111 : Int32)), (.int (110 : Int32)), (.int (97 : Int32)), (.int (108 : Int32))] (.int 0) := hX.2.2.2.2.2.2.2.2.2.2.2.2.2.2.2.2.2.2.2.2.2.1.ext O331.2
  refine callVirtual hG d_prog_14_method_4_code_25 o326 (w71 hw) (w36 hw) (fun _ hz => notFace_of_selects (args := #[]) (mvT hz (w38 hw))) (w38 hw) (w37 hw) (w1 hw) (w39 hw) (by decide) (m_eqS hC (zsb) (a) (ztb) (ta) (zkb) (ka) ((11 : Int32)) (Na) ([(99 : Int32), (111 : Int32), (110 : Int32), (100 : Int32), (105 : Int32), (116 : Int32), (105 : Int32), (111 : Int32), (110 : Int32), (97 : Int32), (108 : Int32)]) (xs) h296 o326 E308 o328 F311 o330 F314 o332 V317 rfl hNa (by first | exact Nat.le_of_ble_eq_true rfl | (simp; done) | (simp; omega)) hla hsb) pd_15 rfl (rest := []) rfl rfl all0 (Nat.le_of_ble_eq_true rfl) (W := 0) (Nat.le_of_ble_eq_true rfl) (Nat.le_of_ble_eq_true rfl) (Nat.le_of_ble_eq_true rfl) (Nat.le_of_ble_eq_true rfl) (fun v333 M334 h335 le336 hq337 => ?_)
  obtain ⟨rfl, rfl, rfl⟩ := hq337
  show G [] h296 (1) (3) 28 #[.val (.ref a), .val (.ref b299), .val (.int (3 : Int32)), .val (.int (1 : Int32)), .val (.ref zib)] [(.int (eqv [(99 : Int32), (111 : Int32), (110 : Int32), (100 : Int32), (105 : Int32), (116 : Int32), (105 : Int32), (111 : Int32), (110 : Int32), (97 : Int32), (108 : Int32)] xs))]
  refine ifYes hG d_prog_14_method_4_code_28 (teq (eqv_no (fun e => hqb e.symm))).1 (by decide) (pc' := 37) rfl ?_
  refine iinc hG d_prog_14_method_4_code_37 rfl (2) rfl rfl ?_
  refine goto hG d_prog_14_method_4_code_40 (by decide) (pc' := 9) rfl ?_
  refine iloadN hG d_prog_14_method_4_code_9 rfl ?_
  refine iloadN hG d_prog_14_method_4_code_10 rfl ?_
  refine icmpNo hG d_prog_14_method_4_code_11 (by decide) ?_
  refine aloadN hG d_prog_14_method_4_code_14 rfl rfl ?_
  refine iloadN hG d_prog_14_method_4_code_15 rfl ?_
  refine aaload hG d_prog_14_method_4_code_16 rfl f303 ⟨by decide, by decide⟩ (v := (.ref zip)) rfl ?_
  refine astore hG d_prog_14_method_4_code_17 rfl rfl ?_
  refine aload hG d_prog_14_method_4_code_19 rfl rfl ?_
  refine facts hG (fun O338 _ => ?_)
  have o339 : Fld Z h296 zip "com/example/uni_gate/unigate/policy/Intent" "policyName" "Ljava/lang/String;" (.ref zsp) := hX.2.2.2.2.2.2.2.2.2.2.2.2.2.2.2.2.2.2.2.2.2.2.2.2.1.ext O338.2
  refine getfield hG d_prog_14_method_4_code_21 (w69 hw) Via.refl o339 ?_
  refine aloadN hG d_prog_14_method_4_code_24 rfl rfl ?_
  refine facts hG (fun O340 _ => ?_)
  have o341 : Exa Z h296 zsp "java/lang/String" := hX.2.2.2.2.2.2.2.2.2.2.2.2.2.2.2.2.2.2.2.2.2.2.2.2.2.1.ext O340.2
  refine facts hG (fun O342 _ => ?_)
  have o343 : Fld Z h296 zsp "java/lang/String" "coder" "B" (.int (0 : Int32)) := hX.2.2.2.2.2.2.2.2.2.2.2.2.2.2.2.2.2.2.2.2.2.2.2.2.2.2.1.ext O342.2
  refine facts hG (fun O344 _ => ?_)
  have o345 : Fld Z h296 zsp "java/lang/String" "value" "[B" (.ref ztp) := hX.2.2.2.2.2.2.2.2.2.2.2.2.2.2.2.2.2.2.2.2.2.2.2.2.2.2.2.1.ext O344.2
  refine facts hG (fun O346 _ => ?_)
  have o347 : Arv Z h296 ztp zkp .byte (8 : Int32) [(.int (112 : Int32)), (.int (114 : Int32)), (.int (111 : Int32)), (.int (104 : Int32)), (.int (105 : Int32)), (.int (98 : Int32)), (.int (105 : Int32)), (.int (116 : Int32))] (.int 0) := hX.2.2.2.2.2.2.2.2.2.2.2.2.2.2.2.2.2.2.2.2.2.2.2.2.2.2.2.2.ext O346.2
  refine callVirtual hG d_prog_14_method_4_code_25 o341 (w71 hw) (w36 hw) (fun _ hz => notFace_of_selects (args := #[]) (mvT hz (w38 hw))) (w38 hw) (w37 hw) (w1 hw) (w39 hw) (by decide) (m_eqS hC (zsp) (a) (ztp) (ta) (zkp) (ka) ((8 : Int32)) (Na) ([(112 : Int32), (114 : Int32), (111 : Int32), (104 : Int32), (105 : Int32), (98 : Int32), (105 : Int32), (116 : Int32)]) (xs) h296 o341 E308 o343 F311 o345 F314 o347 V317 rfl hNa (by first | exact Nat.le_of_ble_eq_true rfl | (simp; done) | (simp; omega)) hla hsp) pd_15 rfl (rest := []) rfl rfl all0 (Nat.le_of_ble_eq_true rfl) (W := 0) (Nat.le_of_ble_eq_true rfl) (Nat.le_of_ble_eq_true rfl) (Nat.le_of_ble_eq_true rfl) (Nat.le_of_ble_eq_true rfl) (fun v348 M349 h350 le351 hq352 => ?_)
  obtain ⟨rfl, rfl, rfl⟩ := hq352
  show G [] h296 (1) (3) 28 #[.val (.ref a), .val (.ref b299), .val (.int (3 : Int32)), .val (.int (2 : Int32)), .val (.ref zip)] [(.int (eqv [(112 : Int32), (114 : Int32), (111 : Int32), (104 : Int32), (105 : Int32), (98 : Int32), (105 : Int32), (116 : Int32)] xs))]
  refine ifNo hG d_prog_14_method_4_code_28 (feq (eqv_ne0 hqp.symm)).1 ?_
  refine aload hG d_prog_14_method_4_code_31 rfl rfl ?_
  refine callStatic hG d_prog_14_method_4_code_33 (w121 hw) (w122 hw) (w74 hw) (w123 hw) (by decide) (m_oof hC (zip) h296) pd_16 rfl (rest := []) rfl rfl all0 (Nat.le_of_ble_eq_true rfl) (W := 0) (Nat.le_of_ble_eq_true rfl) (Nat.le_of_ble_eq_true rfl) (Nat.le_of_ble_eq_true rfl) (Nat.le_of_ble_eq_true rfl) (fun v353 M354 h355 le356 hq357 => ?_)
  obtain ⟨a358, rfl, rfl, K359, g360, f361, f362⟩ := hq357
  show G [] h355 (2) (4) 36 #[.val (.ref a), .val (.ref b299), .val (.int (3 : Int32)), .val (.int (2 : Int32)), .val (.ref zip)] [(.ref a358)]
  have K363 : Keep h h355 [] := (((Keep.refl _ _).trans K300 all0).trans K359 all0)
  exact areturn hG rfl rfl rfl d_prog_14_method_4_code_36 (M' := []) ⟨a358, rfl, rfl, K363, (Nat.le_trans le297 g360), f361, f362⟩ all0 (Nat.le_of_ble_eq_true rfl) (Nat.le_of_ble_eq_true rfl)
def Q_fp3 (Z : State) (g0 : Int32) (gf : Value) (zva : Addr) (zkv : ClassId) (zoe : Addr) (zia : Addr) (zsa : Addr) (zta : Addr) (zka : ClassId) (zib : Addr) (zsb : Addr) (ztb : Addr) (zkb : ClassId) (zip : Addr) (zsp : Addr) (ztp : Addr) (zkp : ClassId) (a : Addr) (ta : Addr) (ka : ClassId) (Na : Int32) (xs : List Int32) (h : Heap) : QT := fun v' M9 h9 => v' = some (.ref zoe) ∧ M9 = [] ∧ Keep h h9 []
theorem ef_fp3 (m : MethodId) (a : Addr) (ta : Addr) (ka : ClassId) (Na : Int32) (xs : List Int32) : entryFrame m [(.ref a)].toArray 5 = mkF m 0 #[.val (.ref a), .unset, .unset, .unset, .unset] [] := by first | rfl | (simp [entryFrame, mkF, argsToLocals, Value.category]; done)
set_option maxRecDepth 65536 in
set_option maxHeartbeats 4000000 in
theorem m_fp3 {l : Launch} {Z : State} {a0 : Array Value} {n0 : Nat} {g0 : Int32} {gf : Value} {zva : Addr} {zkv : ClassId} {zoe : Addr} {zia : Addr} {zsa : Addr} {zta : Addr} {zka : ClassId} {zib : Addr} {zsb : Addr} {ztb : Addr} {zkb : ClassId} {zip : Addr} {zsp : Addr} {ztp : Addr} {zkp : ClassId} (hC : Ctx l Z a0 n0 g0 gf zva zkv zoe zia zsa zta zka zib zsb ztb zkb zip zsp ztp zkp) (a : Addr) (ta : Addr) (ka : ClassId) (Na : Int32) (xs : List Int32) (h : Heap) (p0_exa : Exa Z h a "java/lang/String") (p1_fld : Fld Z h a "java/lang/String" "coder" "B" (.int (0 : Int32))) (p2_fld : Fld Z h a "java/lang/String" "value" "[B" (.ref ta)) (p3_arv : Arv Z h ta ka .byte Na (ints xs) (.int 0)) (hNa : Na = Int32.ofNat xs.length) (hla : xs.length ≤ 2000) (hsa : zsa ≠ a) (hsb : zsb ≠ a) (hsp : zsp ≠ a) (hqa : ¬ (xs = [(97 : Int32), (108 : Int32), (108 : Int32), (111 : Int32), (119 : Int32)])) (hqb : ¬ (xs = [(99 : Int32), (111 : Int32), (110 : Int32), (100 : Int32), (105 : Int32), (116 : Int32), (105 : Int32), (111 : Int32), (110 : Int32), (97 : Int32), (108 : Int32)])) (hqp : ¬ (xs = [(112 : Int32), (114 : Int32), (111 : Int32), (104 : Int32), (105 : Int32), (98 : Int32), (105 : Int32), (116 : Int32)])) :
    Met l Z EL0 n0 (⟨"com/example/uni_gate/unigate/policy/Intent", "fromPolicyName", "(Ljava/lang/String;)Ljava/util/Optional;"⟩ : MethodName) prog_14_method_4_code 5 (some (.object "java/util/Optional")) [] ({ frames := 2, cells := 1, slots := 3, locals := 28 } : Room) [(.ref a)] [] h (Q_fp3 Z g0 gf zva zkv zoe zia zsa zta zka zib zsb ztb zkb zip zsp ztp zkp a ta ka Na xs h) := by
  obtain ⟨hw, hS, hE, hK, hX⟩ := id hC
  refine Met.intro pl_22 (fun m => ef_fp3 m a ta ka Na xs) hE ?_
  intro G hG
  refine callStatic hG d_prog_14_method_4_code_0 (w51 hw) (w52 hw) (w49 hw) (w53 hw) (by decide) (m_vals hC h) pd_14 rfl (rest := []) rfl rfl all0 (Nat.le_of_ble_eq_true rfl) (W := 0) (Nat.le_of_ble_eq_true rfl) (Nat.le_of_ble_eq_true rfl) (Nat.le_of_ble_eq_true rfl) (Nat.le_of_ble_eq_true rfl) (fun v364 M365 h366 le367 hq368 => ?_)
  obtain ⟨b369, rfl, rfl, K370, g371, f372, f373⟩ := hq368
  show G [] h366 (1) (3) 3 #[.val (.ref a), .unset, .unset, .unset, .unset] [(.ref b369)]
  refine astoreN hG d_prog_14_method_4_code_3 rfl rfl ?_
  refine aloadN hG d_prog_14_method_4_code_4 rfl rfl ?_
  refine alen hG d_prog_14_method_4_code_5 f373 ?_
  refine istoreN hG d_prog_14_method_4_code_6 rfl ?_
  refine iconst hG d_prog_14_method_4_code_7 (0) rfl ?_
  refine istoreN hG d_prog_14_method_4_code_8 rfl ?_
  refine iloadN hG d_prog_14_method_4_code_9 rfl ?_
  refine iloadN hG d_prog_14_method_4_code_10 rfl ?_
  refine icmpNo hG d_prog_14_method_4_code_11 (by decide) ?_
  refine aloadN hG d_prog_14_method_4_code_14 rfl rfl ?_
  refine iloadN hG d_prog_14_method_4_code_15 rfl ?_
  refine aaload hG d_prog_14_method_4_code_16 rfl f373 ⟨by decide, by decide⟩ (v := (.ref zia)) rfl ?_
  refine astore hG d_prog_14_method_4_code_17 rfl rfl ?_
  refine aload hG d_prog_14_method_4_code_19 rfl rfl ?_
  refine facts hG (fun O374 _ => ?_)
  have o375 : Fld Z h366 zia "com/example/uni_gate/unigate/policy/Intent" "policyName" "Ljava/lang/String;" (.ref zsa) := hX.2.2.2.2.2.2.2.2.2.2.1.ext O374.2
  refine getfield hG d_prog_14_method_4_code_21 (w69 hw) Via.refl o375 ?_
  refine aloadN hG d_prog_14_method_4_code_24 rfl rfl ?_
  refine facts hG (fun O376 _ => ?_)
  have o377 : Exa Z h366 zsa "java/lang/String" := hX.2.2.2.2.2.2.2.2.2.2.2.1.ext O376.2
  have E378 : Exa Z h366 a "java/lang/String" := (p0_exa.keep K370)
  refine facts hG (fun O379 _ => ?_)
  have o380 : Fld Z h366 zsa "java/lang/String" "coder" "B" (.int (0 : Int32)) := hX.2.2.2.2.2.2.2.2.2.2.2.2.1.ext O379.2
  have F381 : Fld Z h366 a "java/lang/String" "coder" "B" (.int (0 : Int32)) := (p1_fld.keep K370 nin0)
  refine facts hG (fun O382 _ => ?_)
  have o383 : Fld Z h366 zsa "java/lang/String" "value" "[B" (.ref zta) := hX.2.2.2.2.2.2.2.2.2.2.2.2.2.1.ext O382.2
  have F384 : Fld Z h366 a "java/lang/String" "value" "[B" (.ref ta) := (p2_fld.keep K370 nin0)
  refine facts hG (fun O385 _ => ?_)
  have o386 : Arv Z h366 zta zka .byte (5 : Int32) [(.int (97 : Int32)), (.int (108 : Int32)), (.int (108 : Int32)), (.int (111 : Int32)), (.int (119 : Int32))] (.int 0) := hX.2.2.2.2.2.2.2.2.2.2.2.2.2.2.1.ext O385.2
  have V387 : Arv Z h366 ta ka .byte Na (ints xs) (.int 0) := (p3_arv.keep K370 nin0)
  refine callVirtual hG d_prog_14_method_4_code_25 o377 (w71 hw) (w36 hw) (fun _ hz => notFace_of_selects (args := #[]) (mvT hz (w38 hw))) (w38 hw) (w37 hw) (w1 hw) (w39 hw) (by decide) (m_eqS hC (zsa) (a) (zta) (ta) (zka) (ka) ((5 : Int32)) (Na) ([(97 : Int32), (108 : Int32), (108 : Int32), (111 : Int32), (119 : Int32)]) (xs) h366 o377 E378 o380 F381 o383 F384 o386 V387 rfl hNa (by first | exact Nat.le_of_ble_eq_true rfl | (simp; done) | (simp; omega)) hla hsa) pd_15 rfl (rest := []) rfl rfl all0 (Nat.le_of_ble_eq_true rfl) (W := 0) (Nat.le_of_ble_eq_true rfl) (Nat.le_of_ble_eq_true rfl) (Nat.le_of_ble_eq_true rfl) (Nat.le_of_ble_eq_true rfl) (fun v388 M389 h390 le391 hq392 => ?_)
  obtain ⟨rfl, rfl, rfl⟩ := hq392
  show G [] h366 (1) (3) 28 #[.val (.ref a), .val (.ref b369), .val (.int (3 : Int32)), .val (.int (0 : Int32)), .val (.ref zia)] [(.int (eqv [(97 : Int32), (108 : Int32), (108 : Int32), (111 : Int32), (119 : Int32)] xs))]
  refine ifYes hG d_prog_14_method_4_code_28 (teq (eqv_no (fun e => hqa e.symm))).1 (by decide) (pc' := 37) rfl ?_
  refine iinc hG d_prog_14_method_4_code_37 rfl (1) rfl rfl ?_
  refine goto hG d_prog_14_method_4_code_40 (by decide) (pc' := 9) rfl ?_
  refine iloadN hG d_prog_14_method_4_code_9 rfl ?_
  refine iloadN hG d_prog_14_method_4_code_10 rfl ?_
  refine icmpNo hG d_prog_14_method_4_code_11 (by decide) ?_
  refine aloadN hG d_prog_14_method_4_code_14 rfl rfl ?_
  refine iloadN hG d_prog_14_method_4_code_15 rfl ?_
  refine aaload hG d_prog_14_method_4_code_16 rfl f373 ⟨by decide, by decide⟩ (v := (.ref zib)) rfl ?_
  refine astore hG d_prog_14_method_4_code_17 rfl rfl ?_
  refine aload hG d_prog_14_method_4_code_19 rfl rfl ?_
  refine facts hG (fun O393 _ => ?_)
  have o394 : Fld Z h366 zib "com/example/uni_gate/unigate/policy/Intent" "policyName" "Ljava/lang/String;" (.ref zsb) := hX.2.2.2.2.2.2.2.2.2.2.2.2.2.2.2.2.2.1.ext O393.2
  refine getfield hG d_prog_14_method_4_code_21 (w69 hw) Via.refl o394 ?_
  refine aloadN hG d_prog_14_method_4_code_24 rfl rfl ?_
  refine facts hG (fun O395 _ => ?_)
  have o396 : Exa Z h366 zsb "java/lang/String" := hX.2.2.2.2.2.2.2.2.2.2.2.2.2.2.2.2.2.2.1.ext O395.2
  refine facts hG (fun O397 _ => ?_)
  have o398 : Fld Z h366 zsb "java/lang/String" "coder" "B" (.int (0 : Int32)) := hX.2.2.2.2.2.2.2.2.2.2.2.2.2.2.2.2.2.2.2.1.ext O397.2
  refine facts hG (fun O399 _ => ?_)
  have o400 : Fld Z h366 zsb "java/lang/String" "value" "[B" (.ref ztb) := hX.2.2.2.2.2.2.2.2.2.2.2.2.2.2.2.2.2.2.2.2.1.ext O399.2
  refine facts hG (fun O401 _ => ?_)
  have o402 : Arv Z h366 ztb zkb .byte (11 : Int32) [(.int (99 : Int32)), (.int (111 : Int32)), (.int (110 : Int32)), (.int (100 : Int32)), (.int (105 : Int32)), (.int (116 : Int32)), (.int (105 : Int32)), (.int (111 : Int32)), (.int (110 : Int32)), (.int (97 : Int32)), (.int (108 : Int32))] (.int 0) := hX.2.2.2.2.2.2.2.2.2.2.2.2.2.2.2.2.2.2.2.2.2.1.ext O401.2
  refine callVirtual hG d_prog_14_method_4_code_25 o396 (w71 hw) (w36 hw) (fun _ hz => notFace_of_selects (args := #[]) (mvT hz (w38 hw))) (w38 hw) (w37 hw) (w1 hw) (w39 hw) (by decide) (m_eqS hC (zsb) (a) (ztb) (ta) (zkb) (ka) ((11 : Int32)) (Na) ([(99 : Int32), (111 : Int32), (110 : Int32), (100 : Int32), (105 : Int32), (116 : Int32), (105 : Int32), (111 : Int32), (110 : Int32), (97 : Int32), (108 : Int32)]) (xs) h366 o396 E378 o398 F381 o400 F384 o402 V387 rfl hNa (by first | exact Nat.le_of_ble_eq_true rfl | (simp; done) | (simp; omega)) hla hsb) pd_15 rfl (rest := []) rfl rfl all0 (Nat.le_of_ble_eq_true rfl) (W := 0) (Nat.le_of_ble_eq_true rfl) (Nat.le_of_ble_eq_true rfl) (Nat.le_of_ble_eq_true rfl) (Nat.le_of_ble_eq_true rfl) (fun v403 M404 h405 le406 hq407 => ?_)
  obtain ⟨rfl, rfl, rfl⟩ := hq407
  show G [] h366 (1) (3) 28 #[.val (.ref a), .val (.ref b369), .val (.int (3 : Int32)), .val (.int (1 : Int32)), .val (.ref zib)] [(.int (eqv [(99 : Int32), (111 : Int32), (110 : Int32), (100 : Int32), (105 : Int32), (116 : Int32), (105 : Int32), (111 : Int32), (110 : Int32), (97 : Int32), (108 : Int32)] xs))]
  refine ifYes hG d_prog_14_method_4_code_28 (teq (eqv_no (fun e => hqb e.symm))).1 (by decide) (pc' := 37) rfl ?_
  refine iinc hG d_prog_14_method_4_code_37 rfl (2) rfl rfl ?_
  refine goto hG d_prog_14_method_4_code_40 (by decide) (pc' := 9) rfl ?_
  refine iloadN hG d_prog_14_method_4_code_9 rfl ?_
  refine iloadN hG d_prog_14_method_4_code_10 rfl ?_
  refine icmpNo hG d_prog_14_method_4_code_11 (by decide) ?_
  refine aloadN hG d_prog_14_method_4_code_14 rfl rfl ?_
  refine iloadN hG d_prog_14_method_4_code_15 rfl ?_
  refine aaload hG d_prog_14_method_4_code_16 rfl f373 ⟨by decide, by decide⟩ (v := (.ref zip)) rfl ?_
  refine astore hG d_prog_14_method_4_code_17 rfl rfl ?_
  refine aload hG d_prog_14_method_4_code_19 rfl rfl ?_
  refine facts hG (fun O408 _ => ?_)
  have o409 : Fld Z h366 zip "com/example/uni_gate/unigate/policy/Intent" "policyName" "Ljava/lang/String;" (.ref zsp) := hX.2.2.2.2.2.2.2.2.2.2.2.2.2.2.2.2.2.2.2.2.2.2.2.2.1.ext O408.2
  refine getfield hG d_prog_14_method_4_code_21 (w69 hw) Via.refl o409 ?_
  refine aloadN hG d_prog_14_method_4_code_24 rfl rfl ?_
  refine facts hG (fun O410 _ => ?_)
  have o411 : Exa Z h366 zsp "java/lang/String" := hX.2.2.2.2.2.2.2.2.2.2.2.2.2.2.2.2.2.2.2.2.2.2.2.2.2.1.ext O410.2
  refine facts hG (fun O412 _ => ?_)
  have o413 : Fld Z h366 zsp "java/lang/String" "coder" "B" (.int (0 : Int32)) := hX.2.2.2.2.2.2.2.2.2.2.2.2.2.2.2.2.2.2.2.2.2.2.2.2.2.2.1.ext O412.2
  refine facts hG (fun O414 _ => ?_)
  have o415 : Fld Z h366 zsp "java/lang/String" "value" "[B" (.ref ztp) := hX.2.2.2.2.2.2.2.2.2.2.2.2.2.2.2.2.2.2.2.2.2.2.2.2.2.2.2.1.ext O414.2
  refine facts hG (fun O416 _ => ?_)
  have o417 : Arv Z h366 ztp zkp .byte (8 : Int32) [(.int (112 : Int32)), (.int (114 : Int32)), (.int (111 : Int32)), (.int (104 : Int32)), (.int (105 : Int32)), (.int (98 : Int32)), (.int (105 : Int32)), (.int (116 : Int32))] (.int 0) := hX.2.2.2.2.2.2.2.2.2.2.2.2.2.2.2.2.2.2.2.2.2.2.2.2.2.2.2.2.ext O416.2
  refine callVirtual hG d_prog_14_method_4_code_25 o411 (w71 hw) (w36 hw) (fun _ hz => notFace_of_selects (args := #[]) (mvT hz (w38 hw))) (w38 hw) (w37 hw) (w1 hw) (w39 hw) (by decide) (m_eqS hC (zsp) (a) (ztp) (ta) (zkp) (ka) ((8 : Int32)) (Na) ([(112 : Int32), (114 : Int32), (111 : Int32), (104 : Int32), (105 : Int32), (98 : Int32), (105 : Int32), (116 : Int32)]) (xs) h366 o411 E378 o413 F381 o415 F384 o417 V387 rfl hNa (by first | exact Nat.le_of_ble_eq_true rfl | (simp; done) | (simp; omega)) hla hsp) pd_15 rfl (rest := []) rfl rfl all0 (Nat.le_of_ble_eq_true rfl) (W := 0) (Nat.le_of_ble_eq_true rfl) (Nat.le_of_ble_eq_true rfl) (Nat.le_of_ble_eq_true rfl) (Nat.le_of_ble_eq_true rfl) (fun v418 M419 h420 le421 hq422 => ?_)
  obtain ⟨rfl, rfl, rfl⟩ := hq422
  show G [] h366 (1) (3) 28 #[.val (.ref a), .val (.ref b369), .val (.int (3 : Int32)), .val (.int (2 : Int32)), .val (.ref zip)] [(.int (eqv [(112 : Int32), (114 : Int32), (111 : Int32), (104 : Int32), (105 : Int32), (98 : Int32), (105 : Int32), (116 : Int32)] xs))]
  refine ifYes hG d_prog_14_method_4_code_28 (teq (eqv_no (fun e => hqp e.symm))).1 (by decide) (pc' := 37) rfl ?_
  refine iinc hG d_prog_14_method_4_code_37 rfl (3) rfl rfl ?_
  refine goto hG d_prog_14_method_4_code_40 (by decide) (pc' := 9) rfl ?_
  refine iloadN hG d_prog_14_method_4_code_9 rfl ?_
  refine iloadN hG d_prog_14_method_4_code_10 rfl ?_
  refine icmpYes hG d_prog_14_method_4_code_11 (by decide) (by decide) (pc' := 43) rfl ?_
  refine callStatic hG d_prog_14_method_4_code_43 (w72 hw) (w73 hw) (w74 hw) (w75 hw) (by decide) (m_oem hC h366) pd_17 rfl (rest := []) rfl rfl all0 (Nat.le_of_ble_eq_true rfl) (W := 0) (Nat.le_of_ble_eq_true rfl) (Nat.le_of_ble_eq_true rfl) (Nat.le_of_ble_eq_true rfl) (Nat.le_of_ble_eq_true rfl) (fun v423 M424 h425 le426 hq427 => ?_)
  obtain ⟨rfl, rfl, rfl⟩ := hq427
  show G [] h366 (1) (3) 46 #[.val (.ref a), .val (.ref b369), .val (.int (3 : Int32)), .val (.int (3 : Int32)), .val (.ref zip)] [(.ref zoe)]
  have K428 : Keep h h366 [] := ((Keep.refl _ _).trans K370 all0)
  exact areturn hG rfl rfl rfl d_prog_14_method_4_code_46 (M' := []) ⟨rfl, rfl, K428⟩ all0 (Nat.le_of_ble_eq_true rfl) (Nat.le_of_ble_eq_true rfl)
def Q_law (Z : State) (g0 : Int32) (gf : Value) (zva : Addr) (zkv : ClassId) (zoe : Addr) (zia : Addr) (zsa : Addr) (zta : Addr) (zka : ClassId) (zib : Addr) (zsb : Addr) (ztb : Addr) (zkb : ClassId) (zip : Addr) (zsp : Addr) (ztp : Addr) (zkp : ClassId) (p0 : Int32) (p1 : Int32) (p2 : Int32) (p3 : Int32) (h : Heap) : QT := fun v' M9 h9 => v' = some (.int (1 : Int32)) ∧ M9 = [] ∧ True
theorem ef_law (m : MethodId) (p0 : Int32) (p1 : Int32) (p2 : Int32) (p3 : Int32) : entryFrame m [(.int p0), (.int p1), (.int p2), (.int p3)].toArray maxLocals = mkF m 0 #[.val (.int p0), .val (.int p1), .val (.int p2), .val (.int p3), .unset, .unset, .unset, .unset, .unset, .unset, .unset, .unset, .unset, .unset, .unset, .unset] [] := by first | (simp [entryFrame, mkF, argsToLocals, Value.category, maxLocals]; done) | rfl
set_option maxRecDepth 65536 in
set_option maxHeartbeats 4000000 in
theorem m_law {l : Launch} {Z : State} {a0 : Array Value} {n0 : Nat} {g0 : Int32} {gf : Value} {zva : Addr} {zkv : ClassId} {zoe : Addr} {zia : Addr} {zsa : Addr} {zta : Addr} {zka : ClassId} {zib : Addr} {zsb : Addr} {ztb : Addr} {zkb : ClassId} {zip : Addr} {zsp : Addr} {ztp : Addr} {zkp : ClassId} (hC : Ctx l Z a0 n0 g0 gf zva zkv zoe zia zsa zta zka zib zsb ztb zkb zip zsp ztp zkp) (p0 : Int32) (p1 : Int32) (p2 : Int32) (p3 : Int32) (h : Heap) :
    Met l Z EL0 n0 x code maxLocals ret tables_1 room_1 [(.int p0), (.int p1), (.int p2), (.int p3)] [] h (Q_law Z g0 gf zva zkv zoe zia zsa zta zka zib zsb ztb zkb zip zsp ztp zkp p0 p1 p2 p3 h) := by
  obtain ⟨hw, hS, hE, hK, hX⟩ := id hC
  refine Met.intro pl_23 (fun m => ef_law m p0 p1 p2 p3) hE ?_
  intro G hG
  have seg117 : ∀ (h1 : Heap) (a5 t5 : Addr) (k5 : ClassId) (N5 : Int32) (bs : List Int32) (v4 v6 v7 nv : Int32) (nn : Nat), nv = Int32.ofNat nn → nn ≤ 12 → Exa Z h1 a5 "java/lang/String" → Fld Z h1 a5 "java/lang/String" "coder" "B" (.int (0 : Int32)) → Fld Z h1 a5 "java/lang/String" "value" "[B" (.ref t5) → Arv Z h1 t5 k5 .byte N5 (ints bs) (.int 0) → G [] h1 2 48 117 #[.val (.int p0), .val (.int p1), .val (.int p2), .val (.int p3), .val (.int v4), .val (.ref a5), .val (.int v6), .val (.int v7), .val (.int nv), .unset, .unset, .unset, .unset, .unset, .unset, .unset] [] := by
    intro h1 a5 t5 k5 N5 bs v4 v6 v7 nv nn hnv hnn x5 c5 f5 V5
    have seg137 : ∀ (v9 : Int32), G [] h1 2 48 137 #[.val (.int p0), .val (.int p1), .val (.int p2), .val (.int p3), .val (.int v4), .val (.ref a5), .val (.int v6), .val (.int v7), .val (.int nv), .val (.int v9), .unset, .unset, .unset, .unset, .unset, .unset] [] := by
      intro v9
      refine iloadN hG at_137 rfl ?_
      refine sipush hG at_138 (255) rfl ?_
      refine iand hG at_141 ?_
      refine i2c hG at_142 ?_
      change G _ _ _ _ _ _ (.int (ch8 p3) :: _)
      refine istore hG at_143 rfl ?_
      refine iloadN hG at_145 rfl ?_
      refine bipush hG at_146 (8) rfl ?_
      refine iushr hG at_148 ?_
      refine sipush hG at_149 (255) rfl ?_
      refine iand hG at_152 ?_
      refine i2c hG at_153 ?_
      change G _ _ _ _ _ _ (.int (ch8 (p3.toUInt32 >>> ((8 : Int32) &&& 31).toUInt32).toInt32) :: _)
      refine istore hG at_154 rfl ?_
      refine iload hG at_156 rfl ?_
      refine newarray hG at_158 rfl (w22 hw) (by rw [hnv]; exact ofN_nn (by omega)) (cap := 12) (by rw [hnv, ofN_clamp (by omega)]; exact hnn) (by decide) (Nat.le_of_ble_eq_true rfl) (Nat.le_of_ble_eq_true rfl) (cnt := nn) (vs := (ints (List.replicate nn 0))) (ints_rep _) (fun h429 a430 kk431 g432 E433 V434 => ?_)
      show G [a430] h429 (3) (60) 160 #[.val (.int p0), .val (.int p1), .val (.int p2), .val (.int p3), .val (.int v4), .val (.ref a5), .val (.int v6), .val (.int v7), .val (.int nv), .val (.int v9), .val (.int (ch8 p3)), .val (.int (ch8 (p3.toUInt32 >>> ((8 : Int32) &&& 31).toUInt32).toInt32)), .unset, .unset, .unset, .unset] [(.ref a430)]
      refine astore hG at_160 rfl rfl ?_
      have blk12 : ∀ (h2 : Heap) (cs : List Int32), cs.length = nn → (∀ c ∈ cs, ¬ c < 0 ∧ ¬ (255 : Int32) < c) → Exa Z h2 a5 "java/lang/String" → Fld Z h2 a5 "java/lang/String" "coder" "B" (.int (0 : Int32)) → Fld Z h2 a5 "java/lang/String" "value" "[B" (.ref t5) → Arv Z h2 t5 k5 .byte N5 (ints bs) (.int 0) → Arv Z h2 a430 kk431 .char nv (ints cs) (.int 0) → G [a430] h2 3 60 443 #[.val (.int p0), .val (.int p1), .val (.int p2), .val (.int p3), .val (.int v4), .val (.ref a5), .val (.int v6), .val (.int v7), .val (.int nv), .val (.int v9), .val (.int (ch8 p3)), .val (.int (ch8 (p3.toUInt32 >>> ((8 : Int32) &&& 31).toUInt32).toInt32)), .val (.ref a430), .unset, .unset, .unset] [] := by
        intro h2 cs hl hlat x5 c5 f5 V5 V12
        refine new hG at_443 (w23 hw) (w2 hw) (w1 hw) (Nat.le_of_ble_eq_true rfl) (Nat.le_of_ble_eq_true rfl) (fun h435 a436 g437 E438 X439 D440 => ?_)
        show G [a436, a430] h435 (4) (64) 446 #[.val (.int p0), .val (.int p1), .val (.int p2), .val (.int p3), .val (.int v4), .val (.ref a5), .val (.int v6), .val (.int v7), .val (.int nv), .val (.int v9), .val (.int (ch8 p3)), .val (.int (ch8 (p3.toUInt32 >>> ((8 : Int32) &&& 31).toUInt32).toInt32)), .val (.ref a430), .unset, .unset, .unset] [(.ref a436)]
        refine dup hG at_446 rfl ?_
        refine aload hG at_447 rfl rfl ?_
        have F441 : Fld Z h435 a436 "java/lang/String" "value" "[B" .null := D440 (Or.inr (w4 hw)) pf__B
        have F442 : Fld Z h435 a436 "java/lang/String" "coder" "B" (.int (0 : Int32)) := D440 (Or.inr (w5 hw)) pf_B
        have V443 : Arv Z h435 a430 kk431 .char nv (ints cs) (.int 0) := (V12.ext E438)
        refine callInit hG at_449 rfl (w24 hw) (w25 hw) (w1 hw) (w26 hw) (by decide) (m_initCA hC (a436) (a430) (kk431) (nv) (cs) h435 X439 F441 F442 V443 (by rw [hl]; exact hnv) (by omega) hlat) pd_18 rfl (rest := [(.ref a436)]) rfl rfl (allS (List.mem_of_getElem? (i := 0) rfl) all0) (Nat.le_of_ble_eq_true rfl) (W := 1) (Nat.le_of_ble_eq_true rfl) (Nat.le_of_ble_eq_true rfl) (Nat.le_of_ble_eq_true rfl) (Nat.le_of_ble_eq_true rfl) (fun v444 M445 h446 le447 hq448 => ?_)
        obtain ⟨t449, kt450, rfl, rfl, K451, f452, f453, f454, f455, hat456⟩ := hq448
        show G [a436, a430] h446 (8) (96) 452 #[.val (.int p0), .val (.int p1), .val (.int p2), .val (.int p3), .val (.int v4), .val (.ref a5), .val (.int v6), .val (.int v7), .val (.int nv), .val (.int v9), .val (.int (ch8 p3)), .val (.int (ch8 (p3.toUInt32 >>> ((8 : Int32) &&& 31).toUInt32).toInt32)), .val (.ref a430), .unset, .unset, .unset] [(.ref a436)]
        refine astore hG at_452 rfl rfl ?_
        refine aload hG at_454 rfl rfl ?_
        refine ldc hG at_456 (w0 hw) hS (by decide) (vs := [(.int (97 : Int32)), (.int (108 : Int32)), (.int (108 : Int32)), (.int (111 : Int32)), (.int (119 : Int32))]) (N := 5) ⟨by decide, by decide +kernel⟩ (by decide) (by decide) (nn := 20) (by decide) (by decide) (Nat.le_of_ble_eq_true rfl) (Nat.le_of_ble_eq_true rfl) (fun h457 a458 b459 kk460 E461 X462 F463 F464 V465 ne466 => ?_)
        show G [a436, a430] h457 (10) (120) 458 #[.val (.int p0), .val (.int p1), .val (.int p2), .val (.int p3), .val (.int v4), .val (.ref a5), .val (.int v6), .val (.int v7), .val (.int nv), .val (.int v9), .val (.int (ch8 p3)), .val (.int (ch8 (p3.toUInt32 >>> ((8 : Int32) &&& 31).toUInt32).toInt32)), .val (.ref a430), .val (.ref a436), .unset, .unset] [(.ref a458), (.ref a436)]
        have E467 : Exa Z h457 a436 "java/lang/String" := (f452.ext E461)
        have F468 : Fld Z h457 a436 "java/lang/String" "coder" "B" (.int (0 : Int32)) := (f453.ext E461)
        have F469 : Fld Z h457 a436 "java/lang/String" "value" "[B" (.ref t449) := (f454.ext E461)
        have V470 : Arv Z h457 t449 kt450 .byte nv (ints (cs.map (nar .byte))) (.int 0) := (f455.ext E461)
        refine callVirtual hG at_458 E467 (w35 hw) (w36 hw) (fun _ hz => notFace_of_selects (args := #[]) (mvT hz (w38 hw))) (w38 hw) (w37 hw) (w1 hw) (w39 hw) (by decide) (m_eqS hC (a436) (a458) (t449) (b459) (kt450) (kk460) (nv) ((5 : Int32)) ((cs.map (nar .byte))) ([(97 : Int32), (108 : Int32), (108 : Int32), (111 : Int32), (119 : Int32)]) h457 E467 X462 F468 F463 F469 F464 V470 V465 (by rw [List.length_map, hl]; exact hnv) rfl (by rw [List.length_map]; omega) (by first | exact Nat.le_of_ble_eq_true rfl | (simp; done) | (simp; omega)) (ne466 _ (List.mem_of_getElem? (i := 0) rfl)).1) pd_15 rfl (rest := []) rfl rfl all0 (Nat.le_of_ble_eq_true rfl) (W := 0) (Nat.le_of_ble_eq_true rfl) (Nat.le_of_ble_eq_true rfl) (Nat.le_of_ble_eq_true rfl) (Nat.le_of_ble_eq_true rfl) (fun v471 M472 h473 le474 hq475 => ?_)
        obtain ⟨rfl, rfl, rfl⟩ := hq475
        show G [a436, a430] h457 (10) (120) 461 #[.val (.int p0), .val (.int p1), .val (.int p2), .val (.int p3), .val (.int v4), .val (.ref a5), .val (.int v6), .val (.int v7), .val (.int nv), .val (.int v9), .val (.int (ch8 p3)), .val (.int (ch8 (p3.toUInt32 >>> ((8 : Int32) &&& 31).toUInt32).toInt32)), .val (.ref a430), .val (.ref a436), .unset, .unset] [(.int (eqv (cs.map (nar .byte)) [(97 : Int32), (108 : Int32), (108 : Int32), (111 : Int32), (119 : Int32)]))]
        refine if_eq hG at_461 (by decide) (pc' := 472) rfl (fun q476 => ?_) (fun q476 => ?_)
        · skip
          refine aload hG at_472 rfl rfl ?_
          refine ldc hG at_474 (w45 hw) hS (by decide) (vs := [(.int (99 : Int32)), (.int (111 : Int32)), (.int (110 : Int32)), (.int (100 : Int32)), (.int (105 : Int32)), (.int (116 : Int32)), (.int (105 : Int32)), (.int (111 : Int32)), (.int (110 : Int32)), (.int (97 : Int32)), (.int (108 : Int32))]) (N := 11) ⟨by decide, by decide +kernel⟩ (by decide) (by decide) (nn := 44) (by decide) (by decide) (Nat.le_of_ble_eq_true rfl) (Nat.le_of_ble_eq_true rfl) (fun h477 a478 b479 kk480 E481 X482 F483 F484 V485 ne486 => ?_)
          show G [a436, a430] h477 (12) (168) 476 #[.val (.int p0), .val (.int p1), .val (.int p2), .val (.int p3), .val (.int v4), .val (.ref a5), .val (.int v6), .val (.int v7), .val (.int nv), .val (.int v9), .val (.int (ch8 p3)), .val (.int (ch8 (p3.toUInt32 >>> ((8 : Int32) &&& 31).toUInt32).toInt32)), .val (.ref a430), .val (.ref a436), .unset, .unset] [(.ref a478), (.ref a436)]
          have E487 : Exa Z h477 a436 "java/lang/String" := (E467.ext E481)
          have F488 : Fld Z h477 a436 "java/lang/String" "coder" "B" (.int (0 : Int32)) := (F468.ext E481)
          have F489 : Fld Z h477 a436 "java/lang/String" "value" "[B" (.ref t449) := (F469.ext E481)
          have V490 : Arv Z h477 t449 kt450 .byte nv (ints (cs.map (nar .byte))) (.int 0) := (V470.ext E481)
          refine callVirtual hG at_476 E487 (w35 hw) (w36 hw) (fun _ hz => notFace_of_selects (args := #[]) (mvT hz (w38 hw))) (w38 hw) (w37 hw) (w1 hw) (w39 hw) (by decide) (m_eqS hC (a436) (a478) (t449) (b479) (kt450) (kk480) (nv) ((11 : Int32)) ((cs.map (nar .byte))) ([(99 : Int32), (111 : Int32), (110 : Int32), (100 : Int32), (105 : Int32), (116 : Int32), (105 : Int32), (111 : Int32), (110 : Int32), (97 : Int32), (108 : Int32)]) h477 E487 X482 F488 F483 F489 F484 V490 V485 (by rw [List.length_map, hl]; exact hnv) rfl (by rw [List.length_map]; omega) (by first | exact Nat.le_of_ble_eq_true rfl | (simp; done) | (simp; omega)) (ne486 _ (List.mem_of_getElem? (i := 0) rfl)).1) pd_15 rfl (rest := []) rfl rfl all0 (Nat.le_of_ble_eq_true rfl) (W := 0) (Nat.le_of_ble_eq_true rfl) (Nat.le_of_ble_eq_true rfl) (Nat.le_of_ble_eq_true rfl) (Nat.le_of_ble_eq_true rfl) (fun v491 M492 h493 le494 hq495 => ?_)
          obtain ⟨rfl, rfl, rfl⟩ := hq495
          show G [a436, a430] h477 (12) (168) 479 #[.val (.int p0), .val (.int p1), .val (.int p2), .val (.int p3), .val (.int v4), .val (.ref a5), .val (.int v6), .val (.int v7), .val (.int nv), .val (.int v9), .val (.int (ch8 p3)), .val (.int (ch8 (p3.toUInt32 >>> ((8 : Int32) &&& 31).toUInt32).toInt32)), .val (.ref a430), .val (.ref a436), .unset, .unset] [(.int (eqv (cs.map (nar .byte)) [(99 : Int32), (111 : Int32), (110 : Int32), (100 : Int32), (105 : Int32), (116 : Int32), (105 : Int32), (111 : Int32), (110 : Int32), (97 : Int32), (108 : Int32)]))]
          refine if_eq hG at_479 (by decide) (pc' := 490) rfl (fun q496 => ?_) (fun q496 => ?_)
          · skip
            refine aload hG at_490 rfl rfl ?_
            refine ldc hG at_492 (w46 hw) hS (by decide) (vs := [(.int (112 : Int32)), (.int (114 : Int32)), (.int (111 : Int32)), (.int (104 : Int32)), (.int (105 : Int32)), (.int (98 : Int32)), (.int (105 : Int32)), (.int (116 : Int32))]) (N := 8) ⟨by decide, by decide +kernel⟩ (by decide) (by decide) (nn := 32) (by decide) (by decide) (Nat.le_of_ble_eq_true rfl) (Nat.le_of_ble_eq_true rfl) (fun h497 a498 b499 kk500 E501 X502 F503 F504 V505 ne506 => ?_)
            show G [a436, a430] h497 (14) (204) 494 #[.val (.int p0), .val (.int p1), .val (.int p2), .val (.int p3), .val (.int v4), .val (.ref a5), .val (.int v6), .val (.int v7), .val (.int nv), .val (.int v9), .val (.int (ch8 p3)), .val (.int (ch8 (p3.toUInt32 >>> ((8 : Int32) &&& 31).toUInt32).toInt32)), .val (.ref a430), .val (.ref a436), .unset, .unset] [(.ref a498), (.ref a436)]
            have E507 : Exa Z h497 a436 "java/lang/String" := (E487.ext E501)
            have F508 : Fld Z h497 a436 "java/lang/String" "coder" "B" (.int (0 : Int32)) := (F488.ext E501)
            have F509 : Fld Z h497 a436 "java/lang/String" "value" "[B" (.ref t449) := (F489.ext E501)
            have V510 : Arv Z h497 t449 kt450 .byte nv (ints (cs.map (nar .byte))) (.int 0) := (V490.ext E501)
            refine callVirtual hG at_494 E507 (w35 hw) (w36 hw) (fun _ hz => notFace_of_selects (args := #[]) (mvT hz (w38 hw))) (w38 hw) (w37 hw) (w1 hw) (w39 hw) (by decide) (m_eqS hC (a436) (a498) (t449) (b499) (kt450) (kk500) (nv) ((8 : Int32)) ((cs.map (nar .byte))) ([(112 : Int32), (114 : Int32), (111 : Int32), (104 : Int32), (105 : Int32), (98 : Int32), (105 : Int32), (116 : Int32)]) h497 E507 X502 F508 F503 F509 F504 V510 V505 (by rw [List.length_map, hl]; exact hnv) rfl (by rw [List.length_map]; omega) (by first | exact Nat.le_of_ble_eq_true rfl | (simp; done) | (simp; omega)) (ne506 _ (List.mem_of_getElem? (i := 0) rfl)).1) pd_15 rfl (rest := []) rfl rfl all0 (Nat.le_of_ble_eq_true rfl) (W := 0) (Nat.le_of_ble_eq_true rfl) (Nat.le_of_ble_eq_true rfl) (Nat.le_of_ble_eq_true rfl) (Nat.le_of_ble_eq_true rfl) (fun v511 M512 h513 le514 hq515 => ?_)
            obtain ⟨rfl, rfl, rfl⟩ := hq515
            show G [a436, a430] h497 (14) (204) 497 #[.val (.int p0), .val (.int p1), .val (.int p2), .val (.int p3), .val (.int v4), .val (.ref a5), .val (.int v6), .val (.int v7), .val (.int nv), .val (.int v9), .val (.int (ch8 p3)), .val (.int (ch8 (p3.toUInt32 >>> ((8 : Int32) &&& 31).toUInt32).toInt32)), .val (.ref a430), .val (.ref a436), .unset, .unset] [(.int (eqv (cs.map (nar .byte)) [(112 : Int32), (114 : Int32), (111 : Int32), (104 : Int32), (105 : Int32), (98 : Int32), (105 : Int32), (116 : Int32)]))]
            refine if_eq hG at_497 (by decide) (pc' := 508) rfl (fun q516 => ?_) (fun q516 => ?_)
            · skip
              refine aconst_null hG at_508 ?_
              refine astore hG at_509 rfl rfl ?_
              refine aload hG at_511 rfl rfl ?_
              refine facts hG (fun O517 m518 => ?_)
              have ne519 : zsa ≠ a436 := (Nat.ne_of_lt (Nat.lt_of_lt_of_le (O517.1 ▸ hX.2.2.2.2.2.2.2.2.2.2.2.1.lt) (m518 _ (List.mem_of_getElem? (i := 0) rfl)).1))
              refine facts hG (fun O520 m521 => ?_)
              have ne522 : zsb ≠ a436 := (Nat.ne_of_lt (Nat.lt_of_lt_of_le (O520.1 ▸ hX.2.2.2.2.2.2.2.2.2.2.2.2.2.2.2.2.2.2.1.lt) (m521 _ (List.mem_of_getElem? (i := 0) rfl)).1))
              refine facts hG (fun O523 m524 => ?_)
              have ne525 : zsp ≠ a436 := (Nat.ne_of_lt (Nat.lt_of_lt_of_le (O523.1 ▸ hX.2.2.2.2.2.2.2.2.2.2.2.2.2.2.2.2.2.2.2.2.2.2.2.2.2.1.lt) (m524 _ (List.mem_of_getElem? (i := 0) rfl)).1))
              refine callStatic hG at_513 (w47 hw) (w48 hw) (w49 hw) (w50 hw) (by decide) (m_fp3 hC (a436) (t449) (kt450) (nv) ((cs.map (nar .byte))) h497 E507 F508 F509 V510 (by rw [List.length_map, hl]; exact hnv) (by rw [List.length_map]; omega) ne519 ne522 ne525 (eqv_ne q476) (eqv_ne q496) (eqv_ne q516)) pd_19 rfl (rest := []) rfl rfl all0 (Nat.le_of_ble_eq_true rfl) (W := 0) (Nat.le_of_ble_eq_true rfl) (Nat.le_of_ble_eq_true rfl) (Nat.le_of_ble_eq_true rfl) (Nat.le_of_ble_eq_true rfl) (fun v526 M527 h528 le529 hq530 => ?_)
              obtain ⟨rfl, rfl, K531⟩ := hq530
              show G [a436, a430] h528 (15) (207) 516 #[.val (.int p0), .val (.int p1), .val (.int p2), .val (.int p3), .val (.int v4), .val (.ref a5), .val (.int v6), .val (.int v7), .val (.int nv), .val (.int v9), .val (.int (ch8 p3)), .val (.int (ch8 (p3.toUInt32 >>> ((8 : Int32) &&& 31).toUInt32).toInt32)), .val (.ref a430), .val (.ref a436), .val .null, .unset] [(.ref zoe)]
              refine aconst_null hG at_516 ?_
              refine facts hG (fun O532 _ => ?_)
              have o533 : Exa Z h528 zoe "java/util/Optional" := hX.2.2.2.2.2.2.1.ext O532.2
              refine facts hG (fun O534 _ => ?_)
              have o535 : Fld Z h528 zoe "java/util/Optional" "value" "Ljava/lang/Object;" .null := hX.2.2.2.2.2.2.2.1.ext O534.2
              refine callVirtual hG at_517 o533 (w77 hw) (w78 hw) (fun _ hz => notFace_of_selects (args := #[]) (mvT hz (w80 hw))) (w80 hw) (w79 hw) (w74 hw) (w81 hw) (by decide) (m_oor0 hC (zoe) h528 o535) pd_12 rfl (rest := []) rfl rfl all0 (Nat.le_of_ble_eq_true rfl) (W := 0) (Nat.le_of_ble_eq_true rfl) (Nat.le_of_ble_eq_true rfl) (Nat.le_of_ble_eq_true rfl) (Nat.le_of_ble_eq_true rfl) (fun v536 M537 h538 le539 hq540 => ?_)
              obtain ⟨rfl, rfl, rfl⟩ := hq540
              show G [a436, a430] h528 (15) (207) 520 #[.val (.int p0), .val (.int p1), .val (.int p2), .val (.int p3), .val (.int v4), .val (.ref a5), .val (.int v6), .val (.int v7), .val (.int nv), .val (.int v9), .val (.int (ch8 p3)), .val (.int (ch8 (p3.toUInt32 >>> ((8 : Int32) &&& 31).toUInt32).toInt32)), .val (.ref a430), .val (.ref a436), .val .null, .unset] [.null]
              refine checkcastNull hG at_520 ?_
              refine astore hG at_523 rfl rfl ?_
              refine aload hG at_525 rfl rfl ?_
              refine aload hG at_527 rfl rfl ?_
              refine acmp_ne hG at_529 rfl rfl (by decide) (pc' := 536) rfl (fun q => absurd rfl q) (fun _ => ?_)
              refine iconst hG at_532 (1) rfl ?_
              refine goto hG at_533 (by decide) (pc' := 537) rfl ?_
              exact ireturnN hG (by simp) at_537 (M' := []) ⟨rfl, rfl, trivial⟩ all0 (Nat.le_of_ble_eq_true rfl) (Nat.le_of_ble_eq_true rfl)
            · skip
              refine getstatic hG at_500 (w142 hw) Via.refl hX.2.2.2.2.2.2.2.2.2.2.2.2.2.2.2.2.2.2.2.2.2.2.1 ?_
              refine astore hG at_503 rfl rfl ?_
              refine goto hG at_505 (by decide) (pc' := 511) rfl ?_
              refine aload hG at_511 rfl rfl ?_
              refine facts hG (fun O541 m542 => ?_)
              have ne543 : zsa ≠ a436 := (Nat.ne_of_lt (Nat.lt_of_lt_of_le (O541.1 ▸ hX.2.2.2.2.2.2.2.2.2.2.2.1.lt) (m542 _ (List.mem_of_getElem? (i := 0) rfl)).1))
              refine facts hG (fun O544 m545 => ?_)
              have ne546 : zsb ≠ a436 := (Nat.ne_of_lt (Nat.lt_of_lt_of_le (O544.1 ▸ hX.2.2.2.2.2.2.2.2.2.2.2.2.2.2.2.2.2.2.1.lt) (m545 _ (List.mem_of_getElem? (i := 0) rfl)).1))
              refine facts hG (fun O547 m548 => ?_)
              have ne549 : zsp ≠ a436 := (Nat.ne_of_lt (Nat.lt_of_lt_of_le (O547.1 ▸ hX.2.2.2.2.2.2.2.2.2.2.2.2.2.2.2.2.2.2.2.2.2.2.2.2.2.1.lt) (m548 _ (List.mem_of_getElem? (i := 0) rfl)).1))
              refine callStatic hG at_513 (w47 hw) (w48 hw) (w49 hw) (w50 hw) (by decide) (m_fp2 hC (a436) (t449) (kt450) (nv) ((cs.map (nar .byte))) h497 E507 F508 F509 V510 (by rw [List.length_map, hl]; exact hnv) (by rw [List.length_map]; omega) ne543 ne546 ne549 (eqv_ne q476) (eqv_ne q496) (eqv_eq q516)) pd_19 rfl (rest := []) rfl rfl all0 (Nat.le_of_ble_eq_true rfl) (W := 0) (Nat.le_of_ble_eq_true rfl) (Nat.le_of_ble_eq_true rfl) (Nat.le_of_ble_eq_true rfl) (Nat.le_of_ble_eq_true rfl) (fun v550 M551 h552 le553 hq554 => ?_)
              obtain ⟨o555, rfl, rfl, K556, g557, f558, f559⟩ := hq554
              show G [a436, a430] h552 (16) (208) 516 #[.val (.int p0), .val (.int p1), .val (.int p2), .val (.int p3), .val (.int v4), .val (.ref a5), .val (.int v6), .val (.int v7), .val (.int nv), .val (.int v9), .val (.int (ch8 p3)), .val (.int (ch8 (p3.toUInt32 >>> ((8 : Int32) &&& 31).toUInt32).toInt32)), .val (.ref a430), .val (.ref a436), .val (.ref zip), .unset] [(.ref o555)]
              refine aconst_null hG at_516 ?_
              refine callVirtual hG at_517 f558 (w77 hw) (w78 hw) (fun _ hz => notFace_of_selects (args := #[]) (mvT hz (w80 hw))) (w80 hw) (w79 hw) (w74 hw) (w81 hw) (by decide) (m_oor1 hC (o555) (zip) h552 f559) pd_12 rfl (rest := []) rfl rfl all0 (Nat.le_of_ble_eq_true rfl) (W := 0) (Nat.le_of_ble_eq_true rfl) (Nat.le_of_ble_eq_true rfl) (Nat.le_of_ble_eq_true rfl) (Nat.le_of_ble_eq_true rfl) (fun v560 M561 h562 le563 hq564 => ?_)
              obtain ⟨rfl, rfl, rfl⟩ := hq564
              show G [a436, a430] h552 (16) (208) 520 #[.val (.int p0), .val (.int p1), .val (.int p2), .val (.int p3), .val (.int v4), .val (.ref a5), .val (.int v6), .val (.int v7), .val (.int nv), .val (.int v9), .val (.int (ch8 p3)), .val (.int (ch8 (p3.toUInt32 >>> ((8 : Int32) &&& 31).toUInt32).toInt32)), .val (.ref a430), .val (.ref a436), .val (.ref zip), .unset] [(.ref zip)]
              refine facts hG (fun O565 _ => ?_)
              have o566 : Exa Z h552 zip "com/example/uni_gate/unigate/policy/Intent" := hX.2.2.2.2.2.2.2.2.2.2.2.2.2.2.2.2.2.2.2.2.2.2.2.1.ext O565.2
              refine checkcast hG at_520 (w135 hw) (Ins.of_exa o566 (w136 hw)) ?_
              refine astore hG at_523 rfl rfl ?_
              refine aload hG at_525 rfl rfl ?_
              refine aload hG at_527 rfl rfl ?_
              refine acmp_ne hG at_529 rfl rfl (by decide) (pc' := 536) rfl (fun q => absurd rfl q) (fun _ => ?_)
              refine iconst hG at_532 (1) rfl ?_
              refine goto hG at_533 (by decide) (pc' := 537) rfl ?_
              exact ireturnN hG (by simp) at_537 (M' := []) ⟨rfl, rfl, trivial⟩ all0 (Nat.le_of_ble_eq_true rfl) (Nat.le_of_ble_eq_true rfl)
          · skip
            refine getstatic hG at_482 (w120 hw) Via.refl hX.2.2.2.2.2.2.2.2.2.2.2.2.2.2.2.1 ?_
            refine astore hG at_485 rfl rfl ?_
            refine goto hG at_487 (by decide) (pc' := 511) rfl ?_
            refine aload hG at_511 rfl rfl ?_
            refine facts hG (fun O567 m568 => ?_)
            have ne569 : zsa ≠ a436 := (Nat.ne_of_lt (Nat.lt_of_lt_of_le (O567.1 ▸ hX.2.2.2.2.2.2.2.2.2.2.2.1.lt) (m568 _ (List.mem_of_getElem? (i := 0) rfl)).1))
            refine facts hG (fun O570 m571 => ?_)
            have ne572 : zsb ≠ a436 := (Nat.ne_of_lt (Nat.lt_of_lt_of_le (O570.1 ▸ hX.2.2.2.2.2.2.2.2.2.2.2.2.2.2.2.2.2.2.1.lt) (m571 _ (List.mem_of_getElem? (i := 0) rfl)).1))
            refine facts hG (fun O573 m574 => ?_)
            have ne575 : zsp ≠ a436 := (Nat.ne_of_lt (Nat.lt_of_lt_of_le (O573.1 ▸ hX.2.2.2.2.2.2.2.2.2.2.2.2.2.2.2.2.2.2.2.2.2.2.2.2.2.1.lt) (m574 _ (List.mem_of_getElem? (i := 0) rfl)).1))
            refine callStatic hG at_513 (w47 hw) (w48 hw) (w49 hw) (w50 hw) (by decide) (m_fp1 hC (a436) (t449) (kt450) (nv) ((cs.map (nar .byte))) h477 E487 F488 F489 V490 (by rw [List.length_map, hl]; exact hnv) (by rw [List.length_map]; omega) ne569 ne572 ne575 (eqv_ne q476) (eqv_eq q496)) pd_19 rfl (rest := []) rfl rfl all0 (Nat.le_of_ble_eq_true rfl) (W := 0) (Nat.le_of_ble_eq_true rfl) (Nat.le_of_ble_eq_true rfl) (Nat.le_of_ble_eq_true rfl) (Nat.le_of_ble_eq_true rfl) (fun v576 M577 h578 le579 hq580 => ?_)
            obtain ⟨o581, rfl, rfl, K582, g583, f584, f585⟩ := hq580
            show G [a436, a430] h578 (14) (172) 516 #[.val (.int p0), .val (.int p1), .val (.int p2), .val (.int p3), .val (.int v4), .val (.ref a5), .val (.int v6), .val (.int v7), .val (.int nv), .val (.int v9), .val (.int (ch8 p3)), .val (.int (ch8 (p3.toUInt32 >>> ((8 : Int32) &&& 31).toUInt32).toInt32)), .val (.ref a430), .val (.ref a436), .val (.ref zib), .unset] [(.ref o581)]
            refine aconst_null hG at_516 ?_
            refine callVirtual hG at_517 f584 (w77 hw) (w78 hw) (fun _ hz => notFace_of_selects (args := #[]) (mvT hz (w80 hw))) (w80 hw) (w79 hw) (w74 hw) (w81 hw) (by decide) (m_oor1 hC (o581) (zib) h578 f585) pd_12 rfl (rest := []) rfl rfl all0 (Nat.le_of_ble_eq_true rfl) (W := 0) (Nat.le_of_ble_eq_true rfl) (Nat.le_of_ble_eq_true rfl) (Nat.le_of_ble_eq_true rfl) (Nat.le_of_ble_eq_true rfl) (fun v586 M587 h588 le589 hq590 => ?_)
            obtain ⟨rfl, rfl, rfl⟩ := hq590
            show G [a436, a430] h578 (14) (172) 520 #[.val (.int p0), .val (.int p1), .val (.int p2), .val (.int p3), .val (.int v4), .val (.ref a5), .val (.int v6), .val (.int v7), .val (.int nv), .val (.int v9), .val (.int (ch8 p3)), .val (.int (ch8 (p3.toUInt32 >>> ((8 : Int32) &&& 31).toUInt32).toInt32)), .val (.ref a430), .val (.ref a436), .val (.ref zib), .unset] [(.ref zib)]
            refine facts hG (fun O591 _ => ?_)
            have o592 : Exa Z h578 zib "com/example/uni_gate/unigate/policy/Intent" := hX.2.2.2.2.2.2.2.2.2.2.2.2.2.2.2.2.1.ext O591.2
            refine checkcast hG at_520 (w135 hw) (Ins.of_exa o592 (w136 hw)) ?_
            refine astore hG at_523 rfl rfl ?_
            refine aload hG at_525 rfl rfl ?_
            refine aload hG at_527 rfl rfl ?_
            refine acmp_ne hG at_529 rfl rfl (by decide) (pc' := 536) rfl (fun q => absurd rfl q) (fun _ => ?_)
            refine iconst hG at_532 (1) rfl ?_
            refine goto hG at_533 (by decide) (pc' := 537) rfl ?_
            exact ireturnN hG (by simp) at_537 (M' := []) ⟨rfl, rfl, trivial⟩ all0 (Nat.le_of_ble_eq_true rfl) (Nat.le_of_ble_eq_true rfl)
        · skip
          refine getstatic hG at_464 (w141 hw) Via.refl hX.2.2.2.2.2.2.2.2.1 ?_
          refine astore hG at_467 rfl rfl ?_
          refine goto hG at_469 (by decide) (pc' := 511) rfl ?_
          refine aload hG at_511 rfl rfl ?_
          refine facts hG (fun O593 m594 => ?_)
          have ne595 : zsa ≠ a436 := (Nat.ne_of_lt (Nat.lt_of_lt_of_le (O593.1 ▸ hX.2.2.2.2.2.2.2.2.2.2.2.1.lt) (m594 _ (List.mem_of_getElem? (i := 0) rfl)).1))
          refine facts hG (fun O596 m597 => ?_)
          have ne598 : zsb ≠ a436 := (Nat.ne_of_lt (Nat.lt_of_lt_of_le (O596.1 ▸ hX.2.2.2.2.2.2.2.2.2.2.2.2.2.2.2.2.2.2.1.lt) (m597 _ (List.mem_of_getElem? (i := 0) rfl)).1))
          refine facts hG (fun O599 m600 => ?_)
          have ne601 : zsp ≠ a436 := (Nat.ne_of_lt (Nat.lt_of_lt_of_le (O599.1 ▸ hX.2.2.2.2.2.2.2.2.2.2.2.2.2.2.2.2.2.2.2.2.2.2.2.2.2.1.lt) (m600 _ (List.mem_of_getElem? (i := 0) rfl)).1))
          refine callStatic hG at_513 (w47 hw) (w48 hw) (w49 hw) (w50 hw) (by decide) (m_fp0 hC (a436) (t449) (kt450) (nv) ((cs.map (nar .byte))) h457 E467 F468 F469 V470 (by rw [List.length_map, hl]; exact hnv) (by rw [List.length_map]; omega) ne595 ne598 ne601 (eqv_eq q476)) pd_19 rfl (rest := []) rfl rfl all0 (Nat.le_of_ble_eq_true rfl) (W := 0) (Nat.le_of_ble_eq_true rfl) (Nat.le_of_ble_eq_true rfl) (Nat.le_of_ble_eq_true rfl) (Nat.le_of_ble_eq_true rfl) (fun v602 M603 h604 le605 hq606 => ?_)
          obtain ⟨o607, rfl, rfl, K608, g609, f610, f611⟩ := hq606
          show G [a436, a430] h604 (12) (124) 516 #[.val (.int p0), .val (.int p1), .val (.int p2), .val (.int p3), .val (.int v4), .val (.ref a5), .val (.int v6), .val (.int v7), .val (.int nv), .val (.int v9), .val (.int (ch8 p3)), .val (.int (ch8 (p3.toUInt32 >>> ((8 : Int32) &&& 31).toUInt32).toInt32)), .val (.ref a430), .val (.ref a436), .val (.ref zia), .unset] [(.ref o607)]
          refine aconst_null hG at_516 ?_
          refine callVirtual hG at_517 f610 (w77 hw) (w78 hw) (fun _ hz => notFace_of_selects (args := #[]) (mvT hz (w80 hw))) (w80 hw) (w79 hw) (w74 hw) (w81 hw) (by decide) (m_oor1 hC (o607) (zia) h604 f611) pd_12 rfl (rest := []) rfl rfl all0 (Nat.le_of_ble_eq_true rfl) (W := 0) (Nat.le_of_ble_eq_true rfl) (Nat.le_of_ble_eq_true rfl) (Nat.le_of_ble_eq_true rfl) (Nat.le_of_ble_eq_true rfl) (fun v612 M613 h614 le615 hq616 => ?_)
          obtain ⟨rfl, rfl, rfl⟩ := hq616
          show G [a436, a430] h604 (12) (124) 520 #[.val (.int p0), .val (.int p1), .val (.int p2), .val (.int p3), .val (.int v4), .val (.ref a5), .val (.int v6), .val (.int v7), .val (.int nv), .val (.int v9), .val (.int (ch8 p3)), .val (.int (ch8 (p3.toUInt32 >>> ((8 : Int32) &&& 31).toUInt32).toInt32)), .val (.ref a430), .val (.ref a436), .val (.ref zia), .unset] [(.ref zia)]
          refine facts hG (fun O617 _ => ?_)
          have o618 : Exa Z h604 zia "com/example/uni_gate/unigate/policy/Intent" := hX.2.2.2.2.2.2.2.2.2.1.ext O617.2
          refine checkcast hG at_520 (w135 hw) (Ins.of_exa o618 (w136 hw)) ?_
          refine astore hG at_523 rfl rfl ?_
          refine aload hG at_525 rfl rfl ?_
          refine aload hG at_527 rfl rfl ?_
          refine acmp_ne hG at_529 rfl rfl (by decide) (pc' := 536) rfl (fun q => absurd rfl q) (fun _ => ?_)
          refine iconst hG at_532 (1) rfl ?_
          refine goto hG at_533 (by decide) (pc' := 537) rfl ?_
          exact ireturnN hG (by simp) at_537 (M' := []) ⟨rfl, rfl, trivial⟩ all0 (Nat.le_of_ble_eq_true rfl) (Nat.le_of_ble_eq_true rfl)
      have blk11 : ∀ (h2 : Heap) (cs : List Int32), cs.length = nn → (∀ c ∈ cs, ¬ c < 0 ∧ ¬ (255 : Int32) < c) → Exa Z h2 a5 "java/lang/String" → Fld Z h2 a5 "java/lang/String" "coder" "B" (.int (0 : Int32)) → Fld Z h2 a5 "java/lang/String" "value" "[B" (.ref t5) → Arv Z h2 t5 k5 .byte N5 (ints bs) (.int 0) → Arv Z h2 a430 kk431 .char nv (ints cs) (.int 0) → G [a430] h2 3 60 418 #[.val (.int p0), .val (.int p1), .val (.int p2), .val (.int p3), .val (.int v4), .val (.ref a5), .val (.int v6), .val (.int v7), .val (.int nv), .val (.int v9), .val (.int (ch8 p3)), .val (.int (ch8 (p3.toUInt32 >>> ((8 : Int32) &&& 31).toUInt32).toInt32)), .val (.ref a430), .unset, .unset, .unset] [] := by
        intro h2 cs hl hlat x5 c5 f5 V5 V12
        refine iload hG at_418 rfl ?_
        refine bipush hG at_420 (11) rfl ?_
        refine icmp_le hG at_422 (by decide) (pc' := 443) rfl (fun q619 => ?_) (fun q619 => ?_)
        · skip
          exact blk12 h2 cs hl hlat x5 c5 f5 V5 V12
        · skip
          refine aload hG at_425 rfl rfl ?_
          refine bipush hG at_427 (11) rfl ?_
          refine aload hG at_429 rfl rfl ?_
          refine bipush hG at_431 (11) rfl ?_
          refine iload hG at_433 rfl ?_
          refine iload hG at_435 rfl ?_
          refine iload hG at_437 rfl ?_
          refine callStatic hG at_439 (w85 hw) (w86 hw) (w87 hw) (w88 hw) (by decide) (m_at hC (a5) (t5) (k5) (N5) (bs) ((11 : Int32)) (v9) ((ch8 p3)) ((ch8 (p3.toUInt32 >>> ((8 : Int32) &&& 31).toUInt32).toInt32)) h2 x5 c5 f5 V5 (by decide) (ch8_lat _) (ch8_lat _)) pd_20 rfl (rest := [(.int (11 : Int32)), (.ref a430)]) rfl rfl all0 (Nat.le_of_ble_eq_true rfl) (W := 2) (Nat.le_of_ble_eq_true rfl) (Nat.le_of_ble_eq_true rfl) (Nat.le_of_ble_eq_true rfl) (Nat.le_of_ble_eq_true rfl) (fun v620 M621 h622 le623 hq624 => ?_)
          obtain ⟨r625, rfl, rfl, rfl, hr626⟩ := hq624
          show G [a430] h2 (3) (60) 442 #[.val (.int p0), .val (.int p1), .val (.int p2), .val (.int p3), .val (.int v4), .val (.ref a5), .val (.int v6), .val (.int v7), .val (.int nv), .val (.int v9), .val (.int (ch8 p3)), .val (.int (ch8 (p3.toUInt32 >>> ((8 : Int32) &&& 31).toUInt32).toInt32)), .val (.ref a430), .unset, .unset, .unset] [(.int r625), (.int (11 : Int32)), (.ref a430)]
          have hi11 : 11 < nn := ofN_lt' (by rw [← hnv]; exact q619) (by omega) (by omega)
          refine castore hG at_442 V12 ⟨by decide, q619⟩ (i := 11) rfl (by rw [List.length_map, hl]; exact hi11) (List.mem_of_getElem? (i := 0) rfl) (fun h627 W628 V629 => ?_)
          have V630 : Arv Z h627 a430 kk431 .char nv (ints (cs.set 11 r625)) (.int 0) := by rw [set_ints (lat_nar hr626)] at V629; assumption
          have E631 : Exa Z h627 a5 "java/lang/String" := (x5.wr W628)
          have ne632 : a5 ≠ a430 := (RoadKit.Exa.neArv x5 V12 (w2 hw))
          have F633 : Fld Z h627 a5 "java/lang/String" "coder" "B" (.int (0 : Int32)) := (c5.other W628 (Or.inl ne632))
          have F634 : Fld Z h627 a5 "java/lang/String" "value" "[B" (.ref t5) := (f5.other W628 (Or.inl ne632))
          have ne635 : t5 ≠ a430 := (Arv.neTy V5 V12 (by decide))
          have V636 : Arv Z h627 t5 k5 .byte N5 (ints bs) (.int 0) := (V5.other W628 ne635)
          exact blk12 h627 _ (by rw [List.length_set]; exact hl) (lat_set hlat _ hr626) E631 F633 F634 V636 V630
      have blk10 : ∀ (h2 : Heap) (cs : List Int32), cs.length = nn → (∀ c ∈ cs, ¬ c < 0 ∧ ¬ (255 : Int32) < c) → Exa Z h2 a5 "java/lang/String" → Fld Z h2 a5 "java/lang/String" "coder" "B" (.int (0 : Int32)) → Fld Z h2 a5 "java/lang/String" "value" "[B" (.ref t5) → Arv Z h2 t5 k5 .byte N5 (ints bs) (.int 0) → Arv Z h2 a430 kk431 .char nv (ints cs) (.int 0) → G [a430] h2 3 60 393 #[.val (.int p0), .val (.int p1), .val (.int p2), .val (.int p3), .val (.int v4), .val (.ref a5), .val (.int v6), .val (.int v7), .val (.int nv), .val (.int v9), .val (.int (ch8 p3)), .val (.int (ch8 (p3.toUInt32 >>> ((8 : Int32) &&& 31).toUInt32).toInt32)), .val (.ref a430), .unset, .unset, .unset] [] := by
        intro h2 cs hl hlat x5 c5 f5 V5 V12
        refine iload hG at_393 rfl ?_
        refine bipush hG at_395 (10) rfl ?_
        refine icmp_le hG at_397 (by decide) (pc' := 418) rfl (fun q637 => ?_) (fun q637 => ?_)
        · skip
          exact blk11 h2 cs hl hlat x5 c5 f5 V5 V12
        · skip
          refine aload hG at_400 rfl rfl ?_
          refine bipush hG at_402 (10) rfl ?_
          refine aload hG at_404 rfl rfl ?_
          refine bipush hG at_406 (10) rfl ?_
          refine iload hG at_408 rfl ?_
          refine iload hG at_410 rfl ?_
          refine iload hG at_412 rfl ?_
          refine callStatic hG at_414 (w85 hw) (w86 hw) (w87 hw) (w88 hw) (by decide) (m_at hC (a5) (t5) (k5) (N5) (bs) ((10 : Int32)) (v9) ((ch8 p3)) ((ch8 (p3.toUInt32 >>> ((8 : Int32) &&& 31).toUInt32).toInt32)) h2 x5 c5 f5 V5 (by decide) (ch8_lat _) (ch8_lat _)) pd_20 rfl (rest := [(.int (10 : Int32)), (.ref a430)]) rfl rfl all0 (Nat.le_of_ble_eq_true rfl) (W := 2) (Nat.le_of_ble_eq_true rfl) (Nat.le_of_ble_eq_true rfl) (Nat.le_of_ble_eq_true rfl) (Nat.le_of_ble_eq_true rfl) (fun v638 M639 h640 le641 hq642 => ?_)
          obtain ⟨r643, rfl, rfl, rfl, hr644⟩ := hq642
          show G [a430] h2 (3) (60) 417 #[.val (.int p0), .val (.int p1), .val (.int p2), .val (.int p3), .val (.int v4), .val (.ref a5), .val (.int v6), .val (.int v7), .val (.int nv), .val (.int v9), .val (.int (ch8 p3)), .val (.int (ch8 (p3.toUInt32 >>> ((8 : Int32) &&& 31).toUInt32).toInt32)), .val (.ref a430), .unset, .unset, .unset] [(.int r643), (.int (10 : Int32)), (.ref a430)]
          have hi10 : 10 < nn := ofN_lt' (by rw [← hnv]; exact q637) (by omega) (by omega)
          refine castore hG at_417 V12 ⟨by decide, q637⟩ (i := 10) rfl (by rw [List.length_map, hl]; exact hi10) (List.mem_of_getElem? (i := 0) rfl) (fun h645 W646 V647 => ?_)
          have V648 : Arv Z h645 a430 kk431 .char nv (ints (cs.set 10 r643)) (.int 0) := by rw [set_ints (lat_nar hr644)] at V647; assumption
          have E649 : Exa Z h645 a5 "java/lang/String" := (x5.wr W646)
          have ne650 : a5 ≠ a430 := (RoadKit.Exa.neArv x5 V12 (w2 hw))
          have F651 : Fld Z h645 a5 "java/lang/String" "coder" "B" (.int (0 : Int32)) := (c5.other W646 (Or.inl ne650))
          have F652 : Fld Z h645 a5 "java/lang/String" "value" "[B" (.ref t5) := (f5.other W646 (Or.inl ne650))
          have ne653 : t5 ≠ a430 := (Arv.neTy V5 V12 (by decide))
          have V654 : Arv Z h645 t5 k5 .byte N5 (ints bs) (.int 0) := (V5.other W646 ne653)
          exact blk11 h645 _ (by rw [List.length_set]; exact hl) (lat_set hlat _ hr644) E649 F651 F652 V654 V648
      have blk9 : ∀ (h2 : Heap) (cs : List Int32), cs.length = nn → (∀ c ∈ cs, ¬ c < 0 ∧ ¬ (255 : Int32) < c) → Exa Z h2 a5 "java/lang/String" → Fld Z h2 a5 "java/lang/String" "coder" "B" (.int (0 : Int32)) → Fld Z h2 a5 "java/lang/String" "value" "[B" (.ref t5) → Arv Z h2 t5 k5 .byte N5 (ints bs) (.int 0) → Arv Z h2 a430 kk431 .char nv (ints cs) (.int 0) → G [a430] h2 3 60 368 #[.val (.int p0), .val (.int p1), .val (.int p2), .val (.int p3), .val (.int v4), .val (.ref a5), .val (.int v6), .val (.int v7), .val (.int nv), .val (.int v9), .val (.int (ch8 p3)), .val (.int (ch8 (p3.toUInt32 >>> ((8 : Int32) &&& 31).toUInt32).toInt32)), .val (.ref a430), .unset, .unset, .unset] [] := by
        intro h2 cs hl hlat x5 c5 f5 V5 V12
        refine iload hG at_368 rfl ?_
        refine bipush hG at_370 (9) rfl ?_
        refine icmp_le hG at_372 (by decide) (pc' := 393) rfl (fun q655 => ?_) (fun q655 => ?_)
        · skip
          exact blk10 h2 cs hl hlat x5 c5 f5 V5 V12
        · skip
          refine aload hG at_375 rfl rfl ?_
          refine bipush hG at_377 (9) rfl ?_
          refine aload hG at_379 rfl rfl ?_
          refine bipush hG at_381 (9) rfl ?_
          refine iload hG at_383 rfl ?_
          refine iload hG at_385 rfl ?_
          refine iload hG at_387 rfl ?_
          refine callStatic hG at_389 (w85 hw) (w86 hw) (w87 hw) (w88 hw) (by decide) (m_at hC (a5) (t5) (k5) (N5) (bs) ((9 : Int32)) (v9) ((ch8 p3)) ((ch8 (p3.toUInt32 >>> ((8 : Int32) &&& 31).toUInt32).toInt32)) h2 x5 c5 f5 V5 (by decide) (ch8_lat _) (ch8_lat _)) pd_20 rfl (rest := [(.int (9 : Int32)), (.ref a430)]) rfl rfl all0 (Nat.le_of_ble_eq_true rfl) (W := 2) (Nat.le_of_ble_eq_true rfl) (Nat.le_of_ble_eq_true rfl) (Nat.le_of_ble_eq_true rfl) (Nat.le_of_ble_eq_true rfl) (fun v656 M657 h658 le659 hq660 => ?_)
          obtain ⟨r661, rfl, rfl, rfl, hr662⟩ := hq660
          show G [a430] h2 (3) (60) 392 #[.val (.int p0), .val (.int p1), .val (.int p2), .val (.int p3), .val (.int v4), .val (.ref a5), .val (.int v6), .val (.int v7), .val (.int nv), .val (.int v9), .val (.int (ch8 p3)), .val (.int (ch8 (p3.toUInt32 >>> ((8 : Int32) &&& 31).toUInt32).toInt32)), .val (.ref a430), .unset, .unset, .unset] [(.int r661), (.int (9 : Int32)), (.ref a430)]
          have hi9 : 9 < nn := ofN_lt' (by rw [← hnv]; exact q655) (by omega) (by omega)
          refine castore hG at_392 V12 ⟨by decide, q655⟩ (i := 9) rfl (by rw [List.length_map, hl]; exact hi9) (List.mem_of_getElem? (i := 0) rfl) (fun h663 W664 V665 => ?_)
          have V666 : Arv Z h663 a430 kk431 .char nv (ints (cs.set 9 r661)) (.int 0) := by rw [set_ints (lat_nar hr662)] at V665; assumption
          have E667 : Exa Z h663 a5 "java/lang/String" := (x5.wr W664)
          have ne668 : a5 ≠ a430 := (RoadKit.Exa.neArv x5 V12 (w2 hw))
          have F669 : Fld Z h663 a5 "java/lang/String" "coder" "B" (.int (0 : Int32)) := (c5.other W664 (Or.inl ne668))
          have F670 : Fld Z h663 a5 "java/lang/String" "value" "[B" (.ref t5) := (f5.other W664 (Or.inl ne668))
          have ne671 : t5 ≠ a430 := (Arv.neTy V5 V12 (by decide))
          have V672 : Arv Z h663 t5 k5 .byte N5 (ints bs) (.int 0) := (V5.other W664 ne671)
          exact blk10 h663 _ (by rw [List.length_set]; exact hl) (lat_set hlat _ hr662) E667 F669 F670 V672 V666
      have blk8 : ∀ (h2 : Heap) (cs : List Int32), cs.length = nn → (∀ c ∈ cs, ¬ c < 0 ∧ ¬ (255 : Int32) < c) → Exa Z h2 a5 "java/lang/String" → Fld Z h2 a5 "java/lang/String" "coder" "B" (.int (0 : Int32)) → Fld Z h2 a5 "java/lang/String" "value" "[B" (.ref t5) → Arv Z h2 t5 k5 .byte N5 (ints bs) (.int 0) → Arv Z h2 a430 kk431 .char nv (ints cs) (.int 0) → G [a430] h2 3 60 343 #[.val (.int p0), .val (.int p1), .val (.int p2), .val (.int p3), .val (.int v4), .val (.ref a5), .val (.int v6), .val (.int v7), .val (.int nv), .val (.int v9), .val (.int (ch8 p3)), .val (.int (ch8 (p3.toUInt32 >>> ((8 : Int32) &&& 31).toUInt32).toInt32)), .val (.ref a430), .unset, .unset, .unset] [] := by
        intro h2 cs hl hlat x5 c5 f5 V5 V12
        refine iload hG at_343 rfl ?_
        refine bipush hG at_345 (8) rfl ?_
        refine icmp_le hG at_347 (by decide) (pc' := 368) rfl (fun q673 => ?_) (fun q673 => ?_)
        · skip
          exact blk9 h2 cs hl hlat x5 c5 f5 V5 V12
        · skip
          refine aload hG at_350 rfl rfl ?_
          refine bipush hG at_352 (8) rfl ?_
          refine aload hG at_354 rfl rfl ?_
          refine bipush hG at_356 (8) rfl ?_
          refine iload hG at_358 rfl ?_
          refine iload hG at_360 rfl ?_
          refine iload hG at_362 rfl ?_
          refine callStatic hG at_364 (w85 hw) (w86 hw) (w87 hw) (w88 hw) (by decide) (m_at hC (a5) (t5) (k5) (N5) (bs) ((8 : Int32)) (v9) ((ch8 p3)) ((ch8 (p3.toUInt32 >>> ((8 : Int32) &&& 31).toUInt32).toInt32)) h2 x5 c5 f5 V5 (by decide) (ch8_lat _) (ch8_lat _)) pd_20 rfl (rest := [(.int (8 : Int32)), (.ref a430)]) rfl rfl all0 (Nat.le_of_ble_eq_true rfl) (W := 2) (Nat.le_of_ble_eq_true rfl) (Nat.le_of_ble_eq_true rfl) (Nat.le_of_ble_eq_true rfl) (Nat.le_of_ble_eq_true rfl) (fun v674 M675 h676 le677 hq678 => ?_)
          obtain ⟨r679, rfl, rfl, rfl, hr680⟩ := hq678
          show G [a430] h2 (3) (60) 367 #[.val (.int p0), .val (.int p1), .val (.int p2), .val (.int p3), .val (.int v4), .val (.ref a5), .val (.int v6), .val (.int v7), .val (.int nv), .val (.int v9), .val (.int (ch8 p3)), .val (.int (ch8 (p3.toUInt32 >>> ((8 : Int32) &&& 31).toUInt32).toInt32)), .val (.ref a430), .unset, .unset, .unset] [(.int r679), (.int (8 : Int32)), (.ref a430)]
          have hi8 : 8 < nn := ofN_lt' (by rw [← hnv]; exact q673) (by omega) (by omega)
          refine castore hG at_367 V12 ⟨by decide, q673⟩ (i := 8) rfl (by rw [List.length_map, hl]; exact hi8) (List.mem_of_getElem? (i := 0) rfl) (fun h681 W682 V683 => ?_)
          have V684 : Arv Z h681 a430 kk431 .char nv (ints (cs.set 8 r679)) (.int 0) := by rw [set_ints (lat_nar hr680)] at V683; assumption
          have E685 : Exa Z h681 a5 "java/lang/String" := (x5.wr W682)
          have ne686 : a5 ≠ a430 := (RoadKit.Exa.neArv x5 V12 (w2 hw))
          have F687 : Fld Z h681 a5 "java/lang/String" "coder" "B" (.int (0 : Int32)) := (c5.other W682 (Or.inl ne686))
          have F688 : Fld Z h681 a5 "java/lang/String" "value" "[B" (.ref t5) := (f5.other W682 (Or.inl ne686))
          have ne689 : t5 ≠ a430 := (Arv.neTy V5 V12 (by decide))
          have V690 : Arv Z h681 t5 k5 .byte N5 (ints bs) (.int 0) := (V5.other W682 ne689)
          exact blk9 h681 _ (by rw [List.length_set]; exact hl) (lat_set hlat _ hr680) E685 F687 F688 V690 V684
      have blk7 : ∀ (h2 : Heap) (cs : List Int32), cs.length = nn → (∀ c ∈ cs, ¬ c < 0 ∧ ¬ (255 : Int32) < c) → Exa Z h2 a5 "java/lang/String" → Fld Z h2 a5 "java/lang/String" "coder" "B" (.int (0 : Int32)) → Fld Z h2 a5 "java/lang/String" "value" "[B" (.ref t5) → Arv Z h2 t5 k5 .byte N5 (ints bs) (.int 0) → Arv Z h2 a430 kk431 .char nv (ints cs) (.int 0) → G [a430] h2 3 60 318 #[.val (.int p0), .val (.int p1), .val (.int p2), .val (.int p3), .val (.int v4), .val (.ref a5), .val (.int v6), .val (.int v7), .val (.int nv), .val (.int v9), .val (.int (ch8 p3)), .val (.int (ch8 (p3.toUInt32 >>> ((8 : Int32) &&& 31).toUInt32).toInt32)), .val (.ref a430), .unset, .unset, .unset] [] := by
        intro h2 cs hl hlat x5 c5 f5 V5 V12
        refine iload hG at_318 rfl ?_
        refine bipush hG at_320 (7) rfl ?_
        refine icmp_le hG at_322 (by decide) (pc' := 343) rfl (fun q691 => ?_) (fun q691 => ?_)
        · skip
          exact blk8 h2 cs hl hlat x5 c5 f5 V5 V12
        · skip
          refine aload hG at_325 rfl rfl ?_
          refine bipush hG at_327 (7) rfl ?_
          refine aload hG at_329 rfl rfl ?_
          refine bipush hG at_331 (7) rfl ?_
          refine iload hG at_333 rfl ?_
          refine iload hG at_335 rfl ?_
          refine iload hG at_337 rfl ?_
          refine callStatic hG at_339 (w85 hw) (w86 hw) (w87 hw) (w88 hw) (by decide) (m_at hC (a5) (t5) (k5) (N5) (bs) ((7 : Int32)) (v9) ((ch8 p3)) ((ch8 (p3.toUInt32 >>> ((8 : Int32) &&& 31).toUInt32).toInt32)) h2 x5 c5 f5 V5 (by decide) (ch8_lat _) (ch8_lat _)) pd_20 rfl (rest := [(.int (7 : Int32)), (.ref a430)]) rfl rfl all0 (Nat.le_of_ble_eq_true rfl) (W := 2) (Nat.le_of_ble_eq_true rfl) (Nat.le_of_ble_eq_true rfl) (Nat.le_of_ble_eq_true rfl) (Nat.le_of_ble_eq_true rfl) (fun v692 M693 h694 le695 hq696 => ?_)
          obtain ⟨r697, rfl, rfl, rfl, hr698⟩ := hq696
          show G [a430] h2 (3) (60) 342 #[.val (.int p0), .val (.int p1), .val (.int p2), .val (.int p3), .val (.int v4), .val (.ref a5), .val (.int v6), .val (.int v7), .val (.int nv), .val (.int v9), .val (.int (ch8 p3)), .val (.int (ch8 (p3.toUInt32 >>> ((8 : Int32) &&& 31).toUInt32).toInt32)), .val (.ref a430), .unset, .unset, .unset] [(.int r697), (.int (7 : Int32)), (.ref a430)]
          have hi7 : 7 < nn := ofN_lt' (by rw [← hnv]; exact q691) (by omega) (by omega)
          refine castore hG at_342 V12 ⟨by decide, q691⟩ (i := 7) rfl (by rw [List.length_map, hl]; exact hi7) (List.mem_of_getElem? (i := 0) rfl) (fun h699 W700 V701 => ?_)
          have V702 : Arv Z h699 a430 kk431 .char nv (ints (cs.set 7 r697)) (.int 0) := by rw [set_ints (lat_nar hr698)] at V701; assumption
          have E703 : Exa Z h699 a5 "java/lang/String" := (x5.wr W700)
          have ne704 : a5 ≠ a430 := (RoadKit.Exa.neArv x5 V12 (w2 hw))
          have F705 : Fld Z h699 a5 "java/lang/String" "coder" "B" (.int (0 : Int32)) := (c5.other W700 (Or.inl ne704))
          have F706 : Fld Z h699 a5 "java/lang/String" "value" "[B" (.ref t5) := (f5.other W700 (Or.inl ne704))
          have ne707 : t5 ≠ a430 := (Arv.neTy V5 V12 (by decide))
          have V708 : Arv Z h699 t5 k5 .byte N5 (ints bs) (.int 0) := (V5.other W700 ne707)
          exact blk8 h699 _ (by rw [List.length_set]; exact hl) (lat_set hlat _ hr698) E703 F705 F706 V708 V702
      have blk6 : ∀ (h2 : Heap) (cs : List Int32), cs.length = nn → (∀ c ∈ cs, ¬ c < 0 ∧ ¬ (255 : Int32) < c) → Exa Z h2 a5 "java/lang/String" → Fld Z h2 a5 "java/lang/String" "coder" "B" (.int (0 : Int32)) → Fld Z h2 a5 "java/lang/String" "value" "[B" (.ref t5) → Arv Z h2 t5 k5 .byte N5 (ints bs) (.int 0) → Arv Z h2 a430 kk431 .char nv (ints cs) (.int 0) → G [a430] h2 3 60 293 #[.val (.int p0), .val (.int p1), .val (.int p2), .val (.int p3), .val (.int v4), .val (.ref a5), .val (.int v6), .val (.int v7), .val (.int nv), .val (.int v9), .val (.int (ch8 p3)), .val (.int (ch8 (p3.toUInt32 >>> ((8 : Int32) &&& 31).toUInt32).toInt32)), .val (.ref a430), .unset, .unset, .unset] [] := by
        intro h2 cs hl hlat x5 c5 f5 V5 V12
        refine iload hG at_293 rfl ?_
        refine bipush hG at_295 (6) rfl ?_
        refine icmp_le hG at_297 (by decide) (pc' := 318) rfl (fun q709 => ?_) (fun q709 => ?_)
        · skip
          exact blk7 h2 cs hl hlat x5 c5 f5 V5 V12
        · skip
          refine aload hG at_300 rfl rfl ?_
          refine bipush hG at_302 (6) rfl ?_
          refine aload hG at_304 rfl rfl ?_
          refine bipush hG at_306 (6) rfl ?_
          refine iload hG at_308 rfl ?_
          refine iload hG at_310 rfl ?_
          refine iload hG at_312 rfl ?_
          refine callStatic hG at_314 (w85 hw) (w86 hw) (w87 hw) (w88 hw) (by decide) (m_at hC (a5) (t5) (k5) (N5) (bs) ((6 : Int32)) (v9) ((ch8 p3)) ((ch8 (p3.toUInt32 >>> ((8 : Int32) &&& 31).toUInt32).toInt32)) h2 x5 c5 f5 V5 (by decide) (ch8_lat _) (ch8_lat _)) pd_20 rfl (rest := [(.int (6 : Int32)), (.ref a430)]) rfl rfl all0 (Nat.le_of_ble_eq_true rfl) (W := 2) (Nat.le_of_ble_eq_true rfl) (Nat.le_of_ble_eq_true rfl) (Nat.le_of_ble_eq_true rfl) (Nat.le_of_ble_eq_true rfl) (fun v710 M711 h712 le713 hq714 => ?_)
          obtain ⟨r715, rfl, rfl, rfl, hr716⟩ := hq714
          show G [a430] h2 (3) (60) 317 #[.val (.int p0), .val (.int p1), .val (.int p2), .val (.int p3), .val (.int v4), .val (.ref a5), .val (.int v6), .val (.int v7), .val (.int nv), .val (.int v9), .val (.int (ch8 p3)), .val (.int (ch8 (p3.toUInt32 >>> ((8 : Int32) &&& 31).toUInt32).toInt32)), .val (.ref a430), .unset, .unset, .unset] [(.int r715), (.int (6 : Int32)), (.ref a430)]
          have hi6 : 6 < nn := ofN_lt' (by rw [← hnv]; exact q709) (by omega) (by omega)
          refine castore hG at_317 V12 ⟨by decide, q709⟩ (i := 6) rfl (by rw [List.length_map, hl]; exact hi6) (List.mem_of_getElem? (i := 0) rfl) (fun h717 W718 V719 => ?_)
          have V720 : Arv Z h717 a430 kk431 .char nv (ints (cs.set 6 r715)) (.int 0) := by rw [set_ints (lat_nar hr716)] at V719; assumption
          have E721 : Exa Z h717 a5 "java/lang/String" := (x5.wr W718)
          have ne722 : a5 ≠ a430 := (RoadKit.Exa.neArv x5 V12 (w2 hw))
          have F723 : Fld Z h717 a5 "java/lang/String" "coder" "B" (.int (0 : Int32)) := (c5.other W718 (Or.inl ne722))
          have F724 : Fld Z h717 a5 "java/lang/String" "value" "[B" (.ref t5) := (f5.other W718 (Or.inl ne722))
          have ne725 : t5 ≠ a430 := (Arv.neTy V5 V12 (by decide))
          have V726 : Arv Z h717 t5 k5 .byte N5 (ints bs) (.int 0) := (V5.other W718 ne725)
          exact blk7 h717 _ (by rw [List.length_set]; exact hl) (lat_set hlat _ hr716) E721 F723 F724 V726 V720
      have blk5 : ∀ (h2 : Heap) (cs : List Int32), cs.length = nn → (∀ c ∈ cs, ¬ c < 0 ∧ ¬ (255 : Int32) < c) → Exa Z h2 a5 "java/lang/String" → Fld Z h2 a5 "java/lang/String" "coder" "B" (.int (0 : Int32)) → Fld Z h2 a5 "java/lang/String" "value" "[B" (.ref t5) → Arv Z h2 t5 k5 .byte N5 (ints bs) (.int 0) → Arv Z h2 a430 kk431 .char nv (ints cs) (.int 0) → G [a430] h2 3 60 271 #[.val (.int p0), .val (.int p1), .val (.int p2), .val (.int p3), .val (.int v4), .val (.ref a5), .val (.int v6), .val (.int v7), .val (.int nv), .val (.int v9), .val (.int (ch8 p3)), .val (.int (ch8 (p3.toUInt32 >>> ((8 : Int32) &&& 31).toUInt32).toInt32)), .val (.ref a430), .unset, .unset, .unset] [] := by
        intro h2 cs hl hlat x5 c5 f5 V5 V12
        refine iload hG at_271 rfl ?_
        refine iconst hG at_273 (5) rfl ?_
        refine icmp_le hG at_274 (by decide) (pc' := 293) rfl (fun q727 => ?_) (fun q727 => ?_)
        · skip
          exact blk6 h2 cs hl hlat x5 c5 f5 V5 V12
        · skip
          refine aload hG at_277 rfl rfl ?_
          refine iconst hG at_279 (5) rfl ?_
          refine aload hG at_280 rfl rfl ?_
          refine iconst hG at_282 (5) rfl ?_
          refine iload hG at_283 rfl ?_
          refine iload hG at_285 rfl ?_
          refine iload hG at_287 rfl ?_
          refine callStatic hG at_289 (w85 hw) (w86 hw) (w87 hw) (w88 hw) (by decide) (m_at hC (a5) (t5) (k5) (N5) (bs) ((5 : Int32)) (v9) ((ch8 p3)) ((ch8 (p3.toUInt32 >>> ((8 : Int32) &&& 31).toUInt32).toInt32)) h2 x5 c5 f5 V5 (by decide) (ch8_lat _) (ch8_lat _)) pd_20 rfl (rest := [(.int (5 : Int32)), (.ref a430)]) rfl rfl all0 (Nat.le_of_ble_eq_true rfl) (W := 2) (Nat.le_of_ble_eq_true rfl) (Nat.le_of_ble_eq_true rfl) (Nat.le_of_ble_eq_true rfl) (Nat.le_of_ble_eq_true rfl) (fun v728 M729 h730 le731 hq732 => ?_)
          obtain ⟨r733, rfl, rfl, rfl, hr734⟩ := hq732
          show G [a430] h2 (3) (60) 292 #[.val (.int p0), .val (.int p1), .val (.int p2), .val (.int p3), .val (.int v4), .val (.ref a5), .val (.int v6), .val (.int v7), .val (.int nv), .val (.int v9), .val (.int (ch8 p3)), .val (.int (ch8 (p3.toUInt32 >>> ((8 : Int32) &&& 31).toUInt32).toInt32)), .val (.ref a430), .unset, .unset, .unset] [(.int r733), (.int (5 : Int32)), (.ref a430)]
          have hi5 : 5 < nn := ofN_lt' (by rw [← hnv]; exact q727) (by omega) (by omega)
          refine castore hG at_292 V12 ⟨by decide, q727⟩ (i := 5) rfl (by rw [List.length_map, hl]; exact hi5) (List.mem_of_getElem? (i := 0) rfl) (fun h735 W736 V737 => ?_)
          have V738 : Arv Z h735 a430 kk431 .char nv (ints (cs.set 5 r733)) (.int 0) := by rw [set_ints (lat_nar hr734)] at V737; assumption
          have E739 : Exa Z h735 a5 "java/lang/String" := (x5.wr W736)
          have ne740 : a5 ≠ a430 := (RoadKit.Exa.neArv x5 V12 (w2 hw))
          have F741 : Fld Z h735 a5 "java/lang/String" "coder" "B" (.int (0 : Int32)) := (c5.other W736 (Or.inl ne740))
          have F742 : Fld Z h735 a5 "java/lang/String" "value" "[B" (.ref t5) := (f5.other W736 (Or.inl ne740))
          have ne743 : t5 ≠ a430 := (Arv.neTy V5 V12 (by decide))
          have V744 : Arv Z h735 t5 k5 .byte N5 (ints bs) (.int 0) := (V5.other W736 ne743)
          exact blk6 h735 _ (by rw [List.length_set]; exact hl) (lat_set hlat _ hr734) E739 F741 F742 V744 V738
      have blk4 : ∀ (h2 : Heap) (cs : List Int32), cs.length = nn → (∀ c ∈ cs, ¬ c < 0 ∧ ¬ (255 : Int32) < c) → Exa Z h2 a5 "java/lang/String" → Fld Z h2 a5 "java/lang/String" "coder" "B" (.int (0 : Int32)) → Fld Z h2 a5 "java/lang/String" "value" "[B" (.ref t5) → Arv Z h2 t5 k5 .byte N5 (ints bs) (.int 0) → Arv Z h2 a430 kk431 .char nv (ints cs) (.int 0) → G [a430] h2 3 60 249 #[.val (.int p0), .val (.int p1), .val (.int p2), .val (.int p3), .val (.int v4), .val (.ref a5), .val (.int v6), .val (.int v7), .val (.int nv), .val (.int v9), .val (.int (ch8 p3)), .val (.int (ch8 (p3.toUInt32 >>> ((8 : Int32) &&& 31).toUInt32).toInt32)), .val (.ref a430), .unset, .unset, .unset] [] := by
        intro h2 cs hl hlat x5 c5 f5 V5 V12
        refine iload hG at_249 rfl ?_
        refine iconst hG at_251 (4) rfl ?_
        refine icmp_le hG at_252 (by decide) (pc' := 271) rfl (fun q745 => ?_) (fun q745 => ?_)
        · skip
          exact blk5 h2 cs hl hlat x5 c5 f5 V5 V12
        · skip
          refine aload hG at_255 rfl rfl ?_
          refine iconst hG at_257 (4) rfl ?_
          refine aload hG at_258 rfl rfl ?_
          refine iconst hG at_260 (4) rfl ?_
          refine iload hG at_261 rfl ?_
          refine iload hG at_263 rfl ?_
          refine iload hG at_265 rfl ?_
          refine callStatic hG at_267 (w85 hw) (w86 hw) (w87 hw) (w88 hw) (by decide) (m_at hC (a5) (t5) (k5) (N5) (bs) ((4 : Int32)) (v9) ((ch8 p3)) ((ch8 (p3.toUInt32 >>> ((8 : Int32) &&& 31).toUInt32).toInt32)) h2 x5 c5 f5 V5 (by decide) (ch8_lat _) (ch8_lat _)) pd_20 rfl (rest := [(.int (4 : Int32)), (.ref a430)]) rfl rfl all0 (Nat.le_of_ble_eq_true rfl) (W := 2) (Nat.le_of_ble_eq_true rfl) (Nat.le_of_ble_eq_true rfl) (Nat.le_of_ble_eq_true rfl) (Nat.le_of_ble_eq_true rfl) (fun v746 M747 h748 le749 hq750 => ?_)
          obtain ⟨r751, rfl, rfl, rfl, hr752⟩ := hq750
          show G [a430] h2 (3) (60) 270 #[.val (.int p0), .val (.int p1), .val (.int p2), .val (.int p3), .val (.int v4), .val (.ref a5), .val (.int v6), .val (.int v7), .val (.int nv), .val (.int v9), .val (.int (ch8 p3)), .val (.int (ch8 (p3.toUInt32 >>> ((8 : Int32) &&& 31).toUInt32).toInt32)), .val (.ref a430), .unset, .unset, .unset] [(.int r751), (.int (4 : Int32)), (.ref a430)]
          have hi4 : 4 < nn := ofN_lt' (by rw [← hnv]; exact q745) (by omega) (by omega)
          refine castore hG at_270 V12 ⟨by decide, q745⟩ (i := 4) rfl (by rw [List.length_map, hl]; exact hi4) (List.mem_of_getElem? (i := 0) rfl) (fun h753 W754 V755 => ?_)
          have V756 : Arv Z h753 a430 kk431 .char nv (ints (cs.set 4 r751)) (.int 0) := by rw [set_ints (lat_nar hr752)] at V755; assumption
          have E757 : Exa Z h753 a5 "java/lang/String" := (x5.wr W754)
          have ne758 : a5 ≠ a430 := (RoadKit.Exa.neArv x5 V12 (w2 hw))
          have F759 : Fld Z h753 a5 "java/lang/String" "coder" "B" (.int (0 : Int32)) := (c5.other W754 (Or.inl ne758))
          have F760 : Fld Z h753 a5 "java/lang/String" "value" "[B" (.ref t5) := (f5.other W754 (Or.inl ne758))
          have ne761 : t5 ≠ a430 := (Arv.neTy V5 V12 (by decide))
          have V762 : Arv Z h753 t5 k5 .byte N5 (ints bs) (.int 0) := (V5.other W754 ne761)
          exact blk5 h753 _ (by rw [List.length_set]; exact hl) (lat_set hlat _ hr752) E757 F759 F760 V762 V756
      have blk3 : ∀ (h2 : Heap) (cs : List Int32), cs.length = nn → (∀ c ∈ cs, ¬ c < 0 ∧ ¬ (255 : Int32) < c) → Exa Z h2 a5 "java/lang/String" → Fld Z h2 a5 "java/lang/String" "coder" "B" (.int (0 : Int32)) → Fld Z h2 a5 "java/lang/String" "value" "[B" (.ref t5) → Arv Z h2 t5 k5 .byte N5 (ints bs) (.int 0) → Arv Z h2 a430 kk431 .char nv (ints cs) (.int 0) → G [a430] h2 3 60 227 #[.val (.int p0), .val (.int p1), .val (.int p2), .val (.int p3), .val (.int v4), .val (.ref a5), .val (.int v6), .val (.int v7), .val (.int nv), .val (.int v9), .val (.int (ch8 p3)), .val (.int (ch8 (p3.toUInt32 >>> ((8 : Int32) &&& 31).toUInt32).toInt32)), .val (.ref a430), .unset, .unset, .unset] [] := by
        intro h2 cs hl hlat x5 c5 f5 V5 V12
        refine iload hG at_227 rfl ?_
        refine iconst hG at_229 (3) rfl ?_
        refine icmp_le hG at_230 (by decide) (pc' := 249) rfl (fun q763 => ?_) (fun q763 => ?_)
        · skip
          exact blk4 h2 cs hl hlat x5 c5 f5 V5 V12
        · skip
          refine aload hG at_233 rfl rfl ?_
          refine iconst hG at_235 (3) rfl ?_
          refine aload hG at_236 rfl rfl ?_
          refine iconst hG at_238 (3) rfl ?_
          refine iload hG at_239 rfl ?_
          refine iload hG at_241 rfl ?_
          refine iload hG at_243 rfl ?_
          refine callStatic hG at_245 (w85 hw) (w86 hw) (w87 hw) (w88 hw) (by decide) (m_at hC (a5) (t5) (k5) (N5) (bs) ((3 : Int32)) (v9) ((ch8 p3)) ((ch8 (p3.toUInt32 >>> ((8 : Int32) &&& 31).toUInt32).toInt32)) h2 x5 c5 f5 V5 (by decide) (ch8_lat _) (ch8_lat _)) pd_20 rfl (rest := [(.int (3 : Int32)), (.ref a430)]) rfl rfl all0 (Nat.le_of_ble_eq_true rfl) (W := 2) (Nat.le_of_ble_eq_true rfl) (Nat.le_of_ble_eq_true rfl) (Nat.le_of_ble_eq_true rfl) (Nat.le_of_ble_eq_true rfl) (fun v764 M765 h766 le767 hq768 => ?_)
          obtain ⟨r769, rfl, rfl, rfl, hr770⟩ := hq768
          show G [a430] h2 (3) (60) 248 #[.val (.int p0), .val (.int p1), .val (.int p2), .val (.int p3), .val (.int v4), .val (.ref a5), .val (.int v6), .val (.int v7), .val (.int nv), .val (.int v9), .val (.int (ch8 p3)), .val (.int (ch8 (p3.toUInt32 >>> ((8 : Int32) &&& 31).toUInt32).toInt32)), .val (.ref a430), .unset, .unset, .unset] [(.int r769), (.int (3 : Int32)), (.ref a430)]
          have hi3 : 3 < nn := ofN_lt' (by rw [← hnv]; exact q763) (by omega) (by omega)
          refine castore hG at_248 V12 ⟨by decide, q763⟩ (i := 3) rfl (by rw [List.length_map, hl]; exact hi3) (List.mem_of_getElem? (i := 0) rfl) (fun h771 W772 V773 => ?_)
          have V774 : Arv Z h771 a430 kk431 .char nv (ints (cs.set 3 r769)) (.int 0) := by rw [set_ints (lat_nar hr770)] at V773; assumption
          have E775 : Exa Z h771 a5 "java/lang/String" := (x5.wr W772)
          have ne776 : a5 ≠ a430 := (RoadKit.Exa.neArv x5 V12 (w2 hw))
          have F777 : Fld Z h771 a5 "java/lang/String" "coder" "B" (.int (0 : Int32)) := (c5.other W772 (Or.inl ne776))
          have F778 : Fld Z h771 a5 "java/lang/String" "value" "[B" (.ref t5) := (f5.other W772 (Or.inl ne776))
          have ne779 : t5 ≠ a430 := (Arv.neTy V5 V12 (by decide))
          have V780 : Arv Z h771 t5 k5 .byte N5 (ints bs) (.int 0) := (V5.other W772 ne779)
          exact blk4 h771 _ (by rw [List.length_set]; exact hl) (lat_set hlat _ hr770) E775 F777 F778 V780 V774
      have blk2 : ∀ (h2 : Heap) (cs : List Int32), cs.length = nn → (∀ c ∈ cs, ¬ c < 0 ∧ ¬ (255 : Int32) < c) → Exa Z h2 a5 "java/lang/String" → Fld Z h2 a5 "java/lang/String" "coder" "B" (.int (0 : Int32)) → Fld Z h2 a5 "java/lang/String" "value" "[B" (.ref t5) → Arv Z h2 t5 k5 .byte N5 (ints bs) (.int 0) → Arv Z h2 a430 kk431 .char nv (ints cs) (.int 0) → G [a430] h2 3 60 205 #[.val (.int p0), .val (.int p1), .val (.int p2), .val (.int p3), .val (.int v4), .val (.ref a5), .val (.int v6), .val (.int v7), .val (.int nv), .val (.int v9), .val (.int (ch8 p3)), .val (.int (ch8 (p3.toUInt32 >>> ((8 : Int32) &&& 31).toUInt32).toInt32)), .val (.ref a430), .unset, .unset, .unset] [] := by
        intro h2 cs hl hlat x5 c5 f5 V5 V12
        refine iload hG at_205 rfl ?_
        refine iconst hG at_207 (2) rfl ?_
        refine icmp_le hG at_208 (by decide) (pc' := 227) rfl (fun q781 => ?_) (fun q781 => ?_)
        · skip
          exact blk3 h2 cs hl hlat x5 c5 f5 V5 V12
        · skip
          refine aload hG at_211 rfl rfl ?_
          refine iconst hG at_213 (2) rfl ?_
          refine aload hG at_214 rfl rfl ?_
          refine iconst hG at_216 (2) rfl ?_
          refine iload hG at_217 rfl ?_
          refine iload hG at_219 rfl ?_
          refine iload hG at_221 rfl ?_
          refine callStatic hG at_223 (w85 hw) (w86 hw) (w87 hw) (w88 hw) (by decide) (m_at hC (a5) (t5) (k5) (N5) (bs) ((2 : Int32)) (v9) ((ch8 p3)) ((ch8 (p3.toUInt32 >>> ((8 : Int32) &&& 31).toUInt32).toInt32)) h2 x5 c5 f5 V5 (by decide) (ch8_lat _) (ch8_lat _)) pd_20 rfl (rest := [(.int (2 : Int32)), (.ref a430)]) rfl rfl all0 (Nat.le_of_ble_eq_true rfl) (W := 2) (Nat.le_of_ble_eq_true rfl) (Nat.le_of_ble_eq_true rfl) (Nat.le_of_ble_eq_true rfl) (Nat.le_of_ble_eq_true rfl) (fun v782 M783 h784 le785 hq786 => ?_)
          obtain ⟨r787, rfl, rfl, rfl, hr788⟩ := hq786
          show G [a430] h2 (3) (60) 226 #[.val (.int p0), .val (.int p1), .val (.int p2), .val (.int p3), .val (.int v4), .val (.ref a5), .val (.int v6), .val (.int v7), .val (.int nv), .val (.int v9), .val (.int (ch8 p3)), .val (.int (ch8 (p3.toUInt32 >>> ((8 : Int32) &&& 31).toUInt32).toInt32)), .val (.ref a430), .unset, .unset, .unset] [(.int r787), (.int (2 : Int32)), (.ref a430)]
          have hi2 : 2 < nn := ofN_lt' (by rw [← hnv]; exact q781) (by omega) (by omega)
          refine castore hG at_226 V12 ⟨by decide, q781⟩ (i := 2) rfl (by rw [List.length_map, hl]; exact hi2) (List.mem_of_getElem? (i := 0) rfl) (fun h789 W790 V791 => ?_)
          have V792 : Arv Z h789 a430 kk431 .char nv (ints (cs.set 2 r787)) (.int 0) := by rw [set_ints (lat_nar hr788)] at V791; assumption
          have E793 : Exa Z h789 a5 "java/lang/String" := (x5.wr W790)
          have ne794 : a5 ≠ a430 := (RoadKit.Exa.neArv x5 V12 (w2 hw))
          have F795 : Fld Z h789 a5 "java/lang/String" "coder" "B" (.int (0 : Int32)) := (c5.other W790 (Or.inl ne794))
          have F796 : Fld Z h789 a5 "java/lang/String" "value" "[B" (.ref t5) := (f5.other W790 (Or.inl ne794))
          have ne797 : t5 ≠ a430 := (Arv.neTy V5 V12 (by decide))
          have V798 : Arv Z h789 t5 k5 .byte N5 (ints bs) (.int 0) := (V5.other W790 ne797)
          exact blk3 h789 _ (by rw [List.length_set]; exact hl) (lat_set hlat _ hr788) E793 F795 F796 V798 V792
      have blk1 : ∀ (h2 : Heap) (cs : List Int32), cs.length = nn → (∀ c ∈ cs, ¬ c < 0 ∧ ¬ (255 : Int32) < c) → Exa Z h2 a5 "java/lang/String" → Fld Z h2 a5 "java/lang/String" "coder" "B" (.int (0 : Int32)) → Fld Z h2 a5 "java/lang/String" "value" "[B" (.ref t5) → Arv Z h2 t5 k5 .byte N5 (ints bs) (.int 0) → Arv Z h2 a430 kk431 .char nv (ints cs) (.int 0) → G [a430] h2 3 60 183 #[.val (.int p0), .val (.int p1), .val (.int p2), .val (.int p3), .val (.int v4), .val (.ref a5), .val (.int v6), .val (.int v7), .val (.int nv), .val (.int v9), .val (.int (ch8 p3)), .val (.int (ch8 (p3.toUInt32 >>> ((8 : Int32) &&& 31).toUInt32).toInt32)), .val (.ref a430), .unset, .unset, .unset] [] := by
        intro h2 cs hl hlat x5 c5 f5 V5 V12
        refine iload hG at_183 rfl ?_
        refine iconst hG at_185 (1) rfl ?_
        refine icmp_le hG at_186 (by decide) (pc' := 205) rfl (fun q799 => ?_) (fun q799 => ?_)
        · skip
          exact blk2 h2 cs hl hlat x5 c5 f5 V5 V12
        · skip
          refine aload hG at_189 rfl rfl ?_
          refine iconst hG at_191 (1) rfl ?_
          refine aload hG at_192 rfl rfl ?_
          refine iconst hG at_194 (1) rfl ?_
          refine iload hG at_195 rfl ?_
          refine iload hG at_197 rfl ?_
          refine iload hG at_199 rfl ?_
          refine callStatic hG at_201 (w85 hw) (w86 hw) (w87 hw) (w88 hw) (by decide) (m_at hC (a5) (t5) (k5) (N5) (bs) ((1 : Int32)) (v9) ((ch8 p3)) ((ch8 (p3.toUInt32 >>> ((8 : Int32) &&& 31).toUInt32).toInt32)) h2 x5 c5 f5 V5 (by decide) (ch8_lat _) (ch8_lat _)) pd_20 rfl (rest := [(.int (1 : Int32)), (.ref a430)]) rfl rfl all0 (Nat.le_of_ble_eq_true rfl) (W := 2) (Nat.le_of_ble_eq_true rfl) (Nat.le_of_ble_eq_true rfl) (Nat.le_of_ble_eq_true rfl) (Nat.le_of_ble_eq_true rfl) (fun v800 M801 h802 le803 hq804 => ?_)
          obtain ⟨r805, rfl, rfl, rfl, hr806⟩ := hq804
          show G [a430] h2 (3) (60) 204 #[.val (.int p0), .val (.int p1), .val (.int p2), .val (.int p3), .val (.int v4), .val (.ref a5), .val (.int v6), .val (.int v7), .val (.int nv), .val (.int v9), .val (.int (ch8 p3)), .val (.int (ch8 (p3.toUInt32 >>> ((8 : Int32) &&& 31).toUInt32).toInt32)), .val (.ref a430), .unset, .unset, .unset] [(.int r805), (.int (1 : Int32)), (.ref a430)]
          have hi1 : 1 < nn := ofN_lt' (by rw [← hnv]; exact q799) (by omega) (by omega)
          refine castore hG at_204 V12 ⟨by decide, q799⟩ (i := 1) rfl (by rw [List.length_map, hl]; exact hi1) (List.mem_of_getElem? (i := 0) rfl) (fun h807 W808 V809 => ?_)
          have V810 : Arv Z h807 a430 kk431 .char nv (ints (cs.set 1 r805)) (.int 0) := by rw [set_ints (lat_nar hr806)] at V809; assumption
          have E811 : Exa Z h807 a5 "java/lang/String" := (x5.wr W808)
          have ne812 : a5 ≠ a430 := (RoadKit.Exa.neArv x5 V12 (w2 hw))
          have F813 : Fld Z h807 a5 "java/lang/String" "coder" "B" (.int (0 : Int32)) := (c5.other W808 (Or.inl ne812))
          have F814 : Fld Z h807 a5 "java/lang/String" "value" "[B" (.ref t5) := (f5.other W808 (Or.inl ne812))
          have ne815 : t5 ≠ a430 := (Arv.neTy V5 V12 (by decide))
          have V816 : Arv Z h807 t5 k5 .byte N5 (ints bs) (.int 0) := (V5.other W808 ne815)
          exact blk2 h807 _ (by rw [List.length_set]; exact hl) (lat_set hlat _ hr806) E811 F813 F814 V816 V810
      have blk0 : ∀ (h2 : Heap) (cs : List Int32), cs.length = nn → (∀ c ∈ cs, ¬ c < 0 ∧ ¬ (255 : Int32) < c) → Exa Z h2 a5 "java/lang/String" → Fld Z h2 a5 "java/lang/String" "coder" "B" (.int (0 : Int32)) → Fld Z h2 a5 "java/lang/String" "value" "[B" (.ref t5) → Arv Z h2 t5 k5 .byte N5 (ints bs) (.int 0) → Arv Z h2 a430 kk431 .char nv (ints cs) (.int 0) → G [a430] h2 3 60 162 #[.val (.int p0), .val (.int p1), .val (.int p2), .val (.int p3), .val (.int v4), .val (.ref a5), .val (.int v6), .val (.int v7), .val (.int nv), .val (.int v9), .val (.int (ch8 p3)), .val (.int (ch8 (p3.toUInt32 >>> ((8 : Int32) &&& 31).toUInt32).toInt32)), .val (.ref a430), .unset, .unset, .unset] [] := by
        intro h2 cs hl hlat x5 c5 f5 V5 V12
        refine iload hG at_162 rfl ?_
        refine if_le hG at_164 (by decide) (pc' := 183) rfl (fun q817 => ?_) (fun q817 => ?_)
        · skip
          exact blk1 h2 cs hl hlat x5 c5 f5 V5 V12
        · skip
          refine aload hG at_167 rfl rfl ?_
          refine iconst hG at_169 (0) rfl ?_
          refine aload hG at_170 rfl rfl ?_
          refine iconst hG at_172 (0) rfl ?_
          refine iload hG at_173 rfl ?_
          refine iload hG at_175 rfl ?_
          refine iload hG at_177 rfl ?_
          refine callStatic hG at_179 (w85 hw) (w86 hw) (w87 hw) (w88 hw) (by decide) (m_at hC (a5) (t5) (k5) (N5) (bs) ((0 : Int32)) (v9) ((ch8 p3)) ((ch8 (p3.toUInt32 >>> ((8 : Int32) &&& 31).toUInt32).toInt32)) h2 x5 c5 f5 V5 (by decide) (ch8_lat _) (ch8_lat _)) pd_20 rfl (rest := [(.int (0 : Int32)), (.ref a430)]) rfl rfl all0 (Nat.le_of_ble_eq_true rfl) (W := 2) (Nat.le_of_ble_eq_true rfl) (Nat.le_of_ble_eq_true rfl) (Nat.le_of_ble_eq_true rfl) (Nat.le_of_ble_eq_true rfl) (fun v818 M819 h820 le821 hq822 => ?_)
          obtain ⟨r823, rfl, rfl, rfl, hr824⟩ := hq822
          show G [a430] h2 (3) (60) 182 #[.val (.int p0), .val (.int p1), .val (.int p2), .val (.int p3), .val (.int v4), .val (.ref a5), .val (.int v6), .val (.int v7), .val (.int nv), .val (.int v9), .val (.int (ch8 p3)), .val (.int (ch8 (p3.toUInt32 >>> ((8 : Int32) &&& 31).toUInt32).toInt32)), .val (.ref a430), .unset, .unset, .unset] [(.int r823), (.int (0 : Int32)), (.ref a430)]
          have hi0 : 0 < nn := ofN_lt' (by rw [← hnv]; exact q817) (by omega) (by omega)
          refine castore hG at_182 V12 ⟨by decide, q817⟩ (i := 0) rfl (by rw [List.length_map, hl]; exact hi0) (List.mem_of_getElem? (i := 0) rfl) (fun h825 W826 V827 => ?_)
          have V828 : Arv Z h825 a430 kk431 .char nv (ints (cs.set 0 r823)) (.int 0) := by rw [set_ints (lat_nar hr824)] at V827; assumption
          have E829 : Exa Z h825 a5 "java/lang/String" := (x5.wr W826)
          have ne830 : a5 ≠ a430 := (RoadKit.Exa.neArv x5 V12 (w2 hw))
          have F831 : Fld Z h825 a5 "java/lang/String" "coder" "B" (.int (0 : Int32)) := (c5.other W826 (Or.inl ne830))
          have F832 : Fld Z h825 a5 "java/lang/String" "value" "[B" (.ref t5) := (f5.other W826 (Or.inl ne830))
          have ne833 : t5 ≠ a430 := (Arv.neTy V5 V12 (by decide))
          have V834 : Arv Z h825 t5 k5 .byte N5 (ints bs) (.int 0) := (V5.other W826 ne833)
          exact blk1 h825 _ (by rw [List.length_set]; exact hl) (lat_set hlat _ hr824) E829 F831 F832 V834 V828
      have E835 : Exa Z h429 a5 "java/lang/String" := (x5.ext E433)
      have F836 : Fld Z h429 a5 "java/lang/String" "coder" "B" (.int (0 : Int32)) := (c5.ext E433)
      have F837 : Fld Z h429 a5 "java/lang/String" "value" "[B" (.ref t5) := (f5.ext E433)
      have V838 : Arv Z h429 t5 k5 .byte N5 (ints bs) (.int 0) := (V5.ext E433)
      exact blk0 h429 (List.replicate nn 0) (by simp) (lat_rep nn) E835 F836 F837 V838 V434
    refine iloadN hG at_117 rfl ?_
    refine iconst hG at_118 (1) rfl ?_
    refine iand hG at_119 ?_
    refine if_ne hG at_120 (by decide) (pc' := 129) rfl (fun q839 => ?_) (fun q839 => ?_)
    · skip
      refine iloadN hG at_129 rfl ?_
      refine iconst hG at_130 (1) rfl ?_
      refine iushr hG at_131 ?_
      refine bipush hG at_132 (13) rfl ?_
      refine irem hG at_134 (by decide) ?_
      refine istore hG at_135 rfl ?_
      exact seg137 _
    · skip
      refine iconst hG at_123 (-1) rfl ?_
      refine istore hG at_124 rfl ?_
      refine goto hG at_126 (by decide) (pc' := 137) rfl ?_
      exact seg137 _
  refine iloadN hG at_0 rfl ?_
  refine iconst hG at_1 (3) rfl ?_
  refine iand hG at_2 ?_
  refine istore hG at_3 rfl ?_
  refine iload hG at_5 rfl ?_
  refine if_ne hG at_7 (by decide) (pc' := 17) rfl (fun q840 => ?_) (fun q840 => ?_)
  · skip
    refine iload hG at_17 rfl ?_
    refine iconst hG at_19 (1) rfl ?_
    refine icmp_ne hG at_20 (by decide) (pc' := 30) rfl (fun q841 => ?_) (fun q841 => ?_)
    · skip
      refine iload hG at_30 rfl ?_
      refine iconst hG at_32 (2) rfl ?_
      refine icmp_ne hG at_33 (by decide) (pc' := 43) rfl (fun q842 => ?_) (fun q842 => ?_)
      · skip
        refine ldc hG at_43 (w84 hw) hS (by decide) (vs := []) (N := 0) ⟨by decide, by decide +kernel⟩ (by decide) (by decide) (nn := 0) (by decide) (by decide) (Nat.le_of_ble_eq_true rfl) (Nat.le_of_ble_eq_true rfl) (fun h843 a844 b845 kk846 E847 X848 F849 F850 V851 ne852 => ?_)
        show G [] h843 (2) (4) 45 #[.val (.int p0), .val (.int p1), .val (.int p2), .val (.int p3), .val (.int (p0 &&& (3 : Int32))), .unset, .unset, .unset, .unset, .unset, .unset, .unset, .unset, .unset, .unset, .unset] [(.ref a844)]
        refine astore hG at_45 rfl rfl ?_
        refine aload hG at_47 rfl rfl ?_
        refine callVirtual hG at_49 X848 (w8 hw) (w9 hw) (fun _ hz => notFace_of_selects (args := #[]) (mvT hz (w11 hw))) (w11 hw) (w10 hw) (w1 hw) (w12 hw) (by decide) (m_len hC (a844) (b845) (kk846) ((0 : Int32)) ([]) h843 X848 F849 F850 V851) pd_10 rfl (rest := []) rfl rfl all0 (Nat.le_of_ble_eq_true rfl) (W := 0) (Nat.le_of_ble_eq_true rfl) (Nat.le_of_ble_eq_true rfl) (Nat.le_of_ble_eq_true rfl) (Nat.le_of_ble_eq_true rfl) (fun v853 M854 h855 le856 hq857 => ?_)
        obtain ⟨rfl, rfl, rfl⟩ := hq857
        show G [] h843 (2) (4) 52 #[.val (.int p0), .val (.int p1), .val (.int p2), .val (.int p3), .val (.int (p0 &&& (3 : Int32))), .val (.ref a844), .unset, .unset, .unset, .unset, .unset, .unset, .unset, .unset, .unset, .unset] [(.int (0 : Int32))]
        refine istore hG at_52 rfl ?_
        refine iloadN hG at_54 rfl ?_
        refine ldcInt hG at_55 (w21 hw) ?_
        refine iand hG at_57 ?_
        refine iconst hG at_58 (4) rfl ?_
        refine irem hG at_59 (by decide) ?_
        refine istore hG at_60 rfl ?_
        refine iload hG at_62 rfl ?_
        refine if_ne hG at_64 (by decide) (pc' := 74) rfl (fun q858 => ?_) (fun q858 => ?_)
        · skip
          refine iload hG at_74 rfl ?_
          refine iconst hG at_76 (1) rfl ?_
          refine icmp_ne hG at_77 (by decide) (pc' := 93) rfl (fun q859 => ?_) (fun q859 => ?_)
          · skip
            refine iload hG at_93 rfl ?_
            refine iconst hG at_95 (2) rfl ?_
            refine icmp_ne hG at_96 (by decide) (pc' := 108) rfl (fun q860 => ?_) (fun q860 => ?_)
            · skip
              refine iloadN hG at_108 rfl ?_
              refine bipush hG at_109 (8) rfl ?_
              refine iushr hG at_111 ?_
              refine bipush hG at_112 (13) rfl ?_
              refine irem hG at_114 (by decide) ?_
              refine istore hG at_115 rfl ?_
              refine weaken hG (M' := []) (k' := 2) (n' := 48) (fun _ q => q) (Nat.le_of_ble_eq_true rfl) (Nat.le_of_ble_eq_true rfl) ?_
              obtain ⟨nn, hnn, hnv⟩ := own_mod13 p1
              exact seg117 h843 a844 b845 kk846 (0 : Int32) [] _ _ _ _ nn hnv hnn X848 F849 F850 V851
            · skip
              refine iload hG at_99 rfl ?_
              refine iconst hG at_101 (1) rfl ?_
              refine iadd hG at_102 ?_
              show G [] h843 (2) (4) 103 #[.val (.int p0), .val (.int p1), .val (.int p2), .val (.int p3), .val (.int (p0 &&& (3 : Int32))), .val (.ref a844), .val (.int (0 : Int32)), .val (.int ((p1 &&& (2147483647 : Int32)) % (4 : Int32))), .unset, .unset, .unset, .unset, .unset, .unset, .unset, .unset] [(.int (1 : Int32))]
              refine istore hG at_103 rfl ?_
              refine goto hG at_105 (by decide) (pc' := 117) rfl ?_
              refine weaken hG (M' := []) (k' := 2) (n' := 48) (fun _ q => q) (Nat.le_of_ble_eq_true rfl) (Nat.le_of_ble_eq_true rfl) ?_
              exact seg117 h843 a844 b845 kk846 (0 : Int32) [] _ _ _ _ 1 rfl (by decide) X848 F849 F850 V851
          · skip
            refine iconst hG at_80 (0) rfl ?_
            refine iload hG at_81 rfl ?_
            refine iconst hG at_83 (1) rfl ?_
            refine isub hG at_84 ?_
            show G [] h843 (2) (4) 85 #[.val (.int p0), .val (.int p1), .val (.int p2), .val (.int p3), .val (.int (p0 &&& (3 : Int32))), .val (.ref a844), .val (.int (0 : Int32)), .val (.int ((p1 &&& (2147483647 : Int32)) % (4 : Int32))), .unset, .unset, .unset, .unset, .unset, .unset, .unset, .unset] [(.int (-1 : Int32)), (.int (0 : Int32))]
            refine callStatic hG at_85 (w137 hw) (w138 hw) (w139 hw) (w140 hw) (by decide) (m_mx hC ((0 : Int32)) ((-1 : Int32)) h843) pd_21 rfl (rest := []) rfl rfl all0 (Nat.le_of_ble_eq_true rfl) (W := 0) (Nat.le_of_ble_eq_true rfl) (Nat.le_of_ble_eq_true rfl) (Nat.le_of_ble_eq_true rfl) (Nat.le_of_ble_eq_true rfl) (fun v861 M862 h863 le864 hq865 => ?_)
            obtain ⟨rfl, rfl, rfl⟩ := hq865
            show G [] h843 (2) (4) 88 #[.val (.int p0), .val (.int p1), .val (.int p2), .val (.int p3), .val (.int (p0 &&& (3 : Int32))), .val (.ref a844), .val (.int (0 : Int32)), .val (.int ((p1 &&& (2147483647 : Int32)) % (4 : Int32))), .unset, .unset, .unset, .unset, .unset, .unset, .unset, .unset] [(.int (mx (0 : Int32) (-1 : Int32)))]
            show G [] h843 (2) (4) 88 #[.val (.int p0), .val (.int p1), .val (.int p2), .val (.int p3), .val (.int (p0 &&& (3 : Int32))), .val (.ref a844), .val (.int (0 : Int32)), .val (.int ((p1 &&& (2147483647 : Int32)) % (4 : Int32))), .unset, .unset, .unset, .unset, .unset, .unset, .unset, .unset] [(.int (0 : Int32))]
            refine istore hG at_88 rfl ?_
            refine goto hG at_90 (by decide) (pc' := 117) rfl ?_
            refine weaken hG (M' := []) (k' := 2) (n' := 48) (fun _ q => q) (Nat.le_of_ble_eq_true rfl) (Nat.le_of_ble_eq_true rfl) ?_
            exact seg117 h843 a844 b845 kk846 (0 : Int32) [] _ _ _ _ 0 rfl (by decide) X848 F849 F850 V851
        · skip
          refine iload hG at_67 rfl ?_
          refine istore hG at_69 rfl ?_
          refine goto hG at_71 (by decide) (pc' := 117) rfl ?_
          refine weaken hG (M' := []) (k' := 2) (n' := 48) (fun _ q => q) (Nat.le_of_ble_eq_true rfl) (Nat.le_of_ble_eq_true rfl) ?_
          exact seg117 h843 a844 b845 kk846 (0 : Int32) [] _ _ _ _ 0 rfl (by decide) X848 F849 F850 V851
      · skip
        refine ldc hG at_36 (w46 hw) hS (by decide) (vs := [(.int (112 : Int32)), (.int (114 : Int32)), (.int (111 : Int32)), (.int (104 : Int32)), (.int (105 : Int32)), (.int (98 : Int32)), (.int (105 : Int32)), (.int (116 : Int32))]) (N := 8) ⟨by decide, by decide +kernel⟩ (by decide) (by decide) (nn := 32) (by decide) (by decide) (Nat.le_of_ble_eq_true rfl) (Nat.le_of_ble_eq_true rfl) (fun h866 a867 b868 kk869 E870 X871 F872 F873 V874 ne875 => ?_)
        show G [] h866 (2) (36) 38 #[.val (.int p0), .val (.int p1), .val (.int p2), .val (.int p3), .val (.int (p0 &&& (3 : Int32))), .unset, .unset, .unset, .unset, .unset, .unset, .unset, .unset, .unset, .unset, .unset] [(.ref a867)]
        refine astore hG at_38 rfl rfl ?_
        refine goto hG at_40 (by decide) (pc' := 47) rfl ?_
        refine aload hG at_47 rfl rfl ?_
        refine callVirtual hG at_49 X871 (w8 hw) (w9 hw) (fun _ hz => notFace_of_selects (args := #[]) (mvT hz (w11 hw))) (w11 hw) (w10 hw) (w1 hw) (w12 hw) (by decide) (m_len hC (a867) (b868) (kk869) ((8 : Int32)) ([(112 : Int32), (114 : Int32), (111 : Int32), (104 : Int32), (105 : Int32), (98 : Int32), (105 : Int32), (116 : Int32)]) h866 X871 F872 F873 V874) pd_10 rfl (rest := []) rfl rfl all0 (Nat.le_of_ble_eq_true rfl) (W := 0) (Nat.le_of_ble_eq_true rfl) (Nat.le_of_ble_eq_true rfl) (Nat.le_of_ble_eq_true rfl) (Nat.le_of_ble_eq_true rfl) (fun v876 M877 h878 le879 hq880 => ?_)
        obtain ⟨rfl, rfl, rfl⟩ := hq880
        show G [] h866 (2) (36) 52 #[.val (.int p0), .val (.int p1), .val (.int p2), .val (.int p3), .val (.int (p0 &&& (3 : Int32))), .val (.ref a867), .unset, .unset, .unset, .unset, .unset, .unset, .unset, .unset, .unset, .unset] [(.int (8 : Int32))]
        refine istore hG at_52 rfl ?_
        refine iloadN hG at_54 rfl ?_
        refine ldcInt hG at_55 (w21 hw) ?_
        refine iand hG at_57 ?_
        refine iconst hG at_58 (4) rfl ?_
        refine irem hG at_59 (by decide) ?_
        refine istore hG at_60 rfl ?_
        refine iload hG at_62 rfl ?_
        refine if_ne hG at_64 (by decide) (pc' := 74) rfl (fun q881 => ?_) (fun q881 => ?_)
        · skip
          refine iload hG at_74 rfl ?_
          refine iconst hG at_76 (1) rfl ?_
          refine icmp_ne hG at_77 (by decide) (pc' := 93) rfl (fun q882 => ?_) (fun q882 => ?_)
          · skip
            refine iload hG at_93 rfl ?_
            refine iconst hG at_95 (2) rfl ?_
            refine icmp_ne hG at_96 (by decide) (pc' := 108) rfl (fun q883 => ?_) (fun q883 => ?_)
            · skip
              refine iloadN hG at_108 rfl ?_
              refine bipush hG at_109 (8) rfl ?_
              refine iushr hG at_111 ?_
              refine bipush hG at_112 (13) rfl ?_
              refine irem hG at_114 (by decide) ?_
              refine istore hG at_115 rfl ?_
              refine weaken hG (M' := []) (k' := 2) (n' := 48) (fun _ q => q) (Nat.le_of_ble_eq_true rfl) (Nat.le_of_ble_eq_true rfl) ?_
              obtain ⟨nn, hnn, hnv⟩ := own_mod13 p1
              exact seg117 h866 a867 b868 kk869 (8 : Int32) [(112 : Int32), (114 : Int32), (111 : Int32), (104 : Int32), (105 : Int32), (98 : Int32), (105 : Int32), (116 : Int32)] _ _ _ _ nn hnv hnn X871 F872 F873 V874
            · skip
              refine iload hG at_99 rfl ?_
              refine iconst hG at_101 (1) rfl ?_
              refine iadd hG at_102 ?_
              show G [] h866 (2) (36) 103 #[.val (.int p0), .val (.int p1), .val (.int p2), .val (.int p3), .val (.int (p0 &&& (3 : Int32))), .val (.ref a867), .val (.int (8 : Int32)), .val (.int ((p1 &&& (2147483647 : Int32)) % (4 : Int32))), .unset, .unset, .unset, .unset, .unset, .unset, .unset, .unset] [(.int (9 : Int32))]
              refine istore hG at_103 rfl ?_
              refine goto hG at_105 (by decide) (pc' := 117) rfl ?_
              refine weaken hG (M' := []) (k' := 2) (n' := 48) (fun _ q => q) (Nat.le_of_ble_eq_true rfl) (Nat.le_of_ble_eq_true rfl) ?_
              exact seg117 h866 a867 b868 kk869 (8 : Int32) [(112 : Int32), (114 : Int32), (111 : Int32), (104 : Int32), (105 : Int32), (98 : Int32), (105 : Int32), (116 : Int32)] _ _ _ _ 9 rfl (by decide) X871 F872 F873 V874
          · skip
            refine iconst hG at_80 (0) rfl ?_
            refine iload hG at_81 rfl ?_
            refine iconst hG at_83 (1) rfl ?_
            refine isub hG at_84 ?_
            show G [] h866 (2) (36) 85 #[.val (.int p0), .val (.int p1), .val (.int p2), .val (.int p3), .val (.int (p0 &&& (3 : Int32))), .val (.ref a867), .val (.int (8 : Int32)), .val (.int ((p1 &&& (2147483647 : Int32)) % (4 : Int32))), .unset, .unset, .unset, .unset, .unset, .unset, .unset, .unset] [(.int (7 : Int32)), (.int (0 : Int32))]
            refine callStatic hG at_85 (w137 hw) (w138 hw) (w139 hw) (w140 hw) (by decide) (m_mx hC ((0 : Int32)) ((7 : Int32)) h866) pd_21 rfl (rest := []) rfl rfl all0 (Nat.le_of_ble_eq_true rfl) (W := 0) (Nat.le_of_ble_eq_true rfl) (Nat.le_of_ble_eq_true rfl) (Nat.le_of_ble_eq_true rfl) (Nat.le_of_ble_eq_true rfl) (fun v884 M885 h886 le887 hq888 => ?_)
            obtain ⟨rfl, rfl, rfl⟩ := hq888
            show G [] h866 (2) (36) 88 #[.val (.int p0), .val (.int p1), .val (.int p2), .val (.int p3), .val (.int (p0 &&& (3 : Int32))), .val (.ref a867), .val (.int (8 : Int32)), .val (.int ((p1 &&& (2147483647 : Int32)) % (4 : Int32))), .unset, .unset, .unset, .unset, .unset, .unset, .unset, .unset] [(.int (mx (0 : Int32) (7 : Int32)))]
            show G [] h866 (2) (36) 88 #[.val (.int p0), .val (.int p1), .val (.int p2), .val (.int p3), .val (.int (p0 &&& (3 : Int32))), .val (.ref a867), .val (.int (8 : Int32)), .val (.int ((p1 &&& (2147483647 : Int32)) % (4 : Int32))), .unset, .unset, .unset, .unset, .unset, .unset, .unset, .unset] [(.int (7 : Int32))]
            refine istore hG at_88 rfl ?_
            refine goto hG at_90 (by decide) (pc' := 117) rfl ?_
            refine weaken hG (M' := []) (k' := 2) (n' := 48) (fun _ q => q) (Nat.le_of_ble_eq_true rfl) (Nat.le_of_ble_eq_true rfl) ?_
            exact seg117 h866 a867 b868 kk869 (8 : Int32) [(112 : Int32), (114 : Int32), (111 : Int32), (104 : Int32), (105 : Int32), (98 : Int32), (105 : Int32), (116 : Int32)] _ _ _ _ 7 rfl (by decide) X871 F872 F873 V874
        · skip
          refine iload hG at_67 rfl ?_
          refine istore hG at_69 rfl ?_
          refine goto hG at_71 (by decide) (pc' := 117) rfl ?_
          refine weaken hG (M' := []) (k' := 2) (n' := 48) (fun _ q => q) (Nat.le_of_ble_eq_true rfl) (Nat.le_of_ble_eq_true rfl) ?_
          exact seg117 h866 a867 b868 kk869 (8 : Int32) [(112 : Int32), (114 : Int32), (111 : Int32), (104 : Int32), (105 : Int32), (98 : Int32), (105 : Int32), (116 : Int32)] _ _ _ _ 8 rfl (by decide) X871 F872 F873 V874
    · skip
      refine ldc hG at_23 (w45 hw) hS (by decide) (vs := [(.int (99 : Int32)), (.int (111 : Int32)), (.int (110 : Int32)), (.int (100 : Int32)), (.int (105 : Int32)), (.int (116 : Int32)), (.int (105 : Int32)), (.int (111 : Int32)), (.int (110 : Int32)), (.int (97 : Int32)), (.int (108 : Int32))]) (N := 11) ⟨by decide, by decide +kernel⟩ (by decide) (by decide) (nn := 44) (by decide) (by decide) (Nat.le_of_ble_eq_true rfl) (Nat.le_of_ble_eq_true rfl) (fun h889 a890 b891 kk892 E893 X894 F895 F896 V897 ne898 => ?_)
      show G [] h889 (2) (48) 25 #[.val (.int p0), .val (.int p1), .val (.int p2), .val (.int p3), .val (.int (p0 &&& (3 : Int32))), .unset, .unset, .unset, .unset, .unset, .unset, .unset, .unset, .unset, .unset, .unset] [(.ref a890)]
      refine astore hG at_25 rfl rfl ?_
      refine goto hG at_27 (by decide) (pc' := 47) rfl ?_
      refine aload hG at_47 rfl rfl ?_
      refine callVirtual hG at_49 X894 (w8 hw) (w9 hw) (fun _ hz => notFace_of_selects (args := #[]) (mvT hz (w11 hw))) (w11 hw) (w10 hw) (w1 hw) (w12 hw) (by decide) (m_len hC (a890) (b891) (kk892) ((11 : Int32)) ([(99 : Int32), (111 : Int32), (110 : Int32), (100 : Int32), (105 : Int32), (116 : Int32), (105 : Int32), (111 : Int32), (110 : Int32), (97 : Int32), (108 : Int32)]) h889 X894 F895 F896 V897) pd_10 rfl (rest := []) rfl rfl all0 (Nat.le_of_ble_eq_true rfl) (W := 0) (Nat.le_of_ble_eq_true rfl) (Nat.le_of_ble_eq_true rfl) (Nat.le_of_ble_eq_true rfl) (Nat.le_of_ble_eq_true rfl) (fun v899 M900 h901 le902 hq903 => ?_)
      obtain ⟨rfl, rfl, rfl⟩ := hq903
      show G [] h889 (2) (48) 52 #[.val (.int p0), .val (.int p1), .val (.int p2), .val (.int p3), .val (.int (p0 &&& (3 : Int32))), .val (.ref a890), .unset, .unset, .unset, .unset, .unset, .unset, .unset, .unset, .unset, .unset] [(.int (11 : Int32))]
      refine istore hG at_52 rfl ?_
      refine iloadN hG at_54 rfl ?_
      refine ldcInt hG at_55 (w21 hw) ?_
      refine iand hG at_57 ?_
      refine iconst hG at_58 (4) rfl ?_
      refine irem hG at_59 (by decide) ?_
      refine istore hG at_60 rfl ?_
      refine iload hG at_62 rfl ?_
      refine if_ne hG at_64 (by decide) (pc' := 74) rfl (fun q904 => ?_) (fun q904 => ?_)
      · skip
        refine iload hG at_74 rfl ?_
        refine iconst hG at_76 (1) rfl ?_
        refine icmp_ne hG at_77 (by decide) (pc' := 93) rfl (fun q905 => ?_) (fun q905 => ?_)
        · skip
          refine iload hG at_93 rfl ?_
          refine iconst hG at_95 (2) rfl ?_
          refine icmp_ne hG at_96 (by decide) (pc' := 108) rfl (fun q906 => ?_) (fun q906 => ?_)
          · skip
            refine iloadN hG at_108 rfl ?_
            refine bipush hG at_109 (8) rfl ?_
            refine iushr hG at_111 ?_
            refine bipush hG at_112 (13) rfl ?_
            refine irem hG at_114 (by decide) ?_
            refine istore hG at_115 rfl ?_
            refine weaken hG (M' := []) (k' := 2) (n' := 48) (fun _ q => q) (Nat.le_of_ble_eq_true rfl) (Nat.le_of_ble_eq_true rfl) ?_
            obtain ⟨nn, hnn, hnv⟩ := own_mod13 p1
            exact seg117 h889 a890 b891 kk892 (11 : Int32) [(99 : Int32), (111 : Int32), (110 : Int32), (100 : Int32), (105 : Int32), (116 : Int32), (105 : Int32), (111 : Int32), (110 : Int32), (97 : Int32), (108 : Int32)] _ _ _ _ nn hnv hnn X894 F895 F896 V897
          · skip
            refine iload hG at_99 rfl ?_
            refine iconst hG at_101 (1) rfl ?_
            refine iadd hG at_102 ?_
            show G [] h889 (2) (48) 103 #[.val (.int p0), .val (.int p1), .val (.int p2), .val (.int p3), .val (.int (p0 &&& (3 : Int32))), .val (.ref a890), .val (.int (11 : Int32)), .val (.int ((p1 &&& (2147483647 : Int32)) % (4 : Int32))), .unset, .unset, .unset, .unset, .unset, .unset, .unset, .unset] [(.int (12 : Int32))]
            refine istore hG at_103 rfl ?_
            refine goto hG at_105 (by decide) (pc' := 117) rfl ?_
            refine weaken hG (M' := []) (k' := 2) (n' := 48) (fun _ q => q) (Nat.le_of_ble_eq_true rfl) (Nat.le_of_ble_eq_true rfl) ?_
            exact seg117 h889 a890 b891 kk892 (11 : Int32) [(99 : Int32), (111 : Int32), (110 : Int32), (100 : Int32), (105 : Int32), (116 : Int32), (105 : Int32), (111 : Int32), (110 : Int32), (97 : Int32), (108 : Int32)] _ _ _ _ 12 rfl (by decide) X894 F895 F896 V897
        · skip
          refine iconst hG at_80 (0) rfl ?_
          refine iload hG at_81 rfl ?_
          refine iconst hG at_83 (1) rfl ?_
          refine isub hG at_84 ?_
          show G [] h889 (2) (48) 85 #[.val (.int p0), .val (.int p1), .val (.int p2), .val (.int p3), .val (.int (p0 &&& (3 : Int32))), .val (.ref a890), .val (.int (11 : Int32)), .val (.int ((p1 &&& (2147483647 : Int32)) % (4 : Int32))), .unset, .unset, .unset, .unset, .unset, .unset, .unset, .unset] [(.int (10 : Int32)), (.int (0 : Int32))]
          refine callStatic hG at_85 (w137 hw) (w138 hw) (w139 hw) (w140 hw) (by decide) (m_mx hC ((0 : Int32)) ((10 : Int32)) h889) pd_21 rfl (rest := []) rfl rfl all0 (Nat.le_of_ble_eq_true rfl) (W := 0) (Nat.le_of_ble_eq_true rfl) (Nat.le_of_ble_eq_true rfl) (Nat.le_of_ble_eq_true rfl) (Nat.le_of_ble_eq_true rfl) (fun v907 M908 h909 le910 hq911 => ?_)
          obtain ⟨rfl, rfl, rfl⟩ := hq911
          show G [] h889 (2) (48) 88 #[.val (.int p0), .val (.int p1), .val (.int p2), .val (.int p3), .val (.int (p0 &&& (3 : Int32))), .val (.ref a890), .val (.int (11 : Int32)), .val (.int ((p1 &&& (2147483647 : Int32)) % (4 : Int32))), .unset, .unset, .unset, .unset, .unset, .unset, .unset, .unset] [(.int (mx (0 : Int32) (10 : Int32)))]
          show G [] h889 (2) (48) 88 #[.val (.int p0), .val (.int p1), .val (.int p2), .val (.int p3), .val (.int (p0 &&& (3 : Int32))), .val (.ref a890), .val (.int (11 : Int32)), .val (.int ((p1 &&& (2147483647 : Int32)) % (4 : Int32))), .unset, .unset, .unset, .unset, .unset, .unset, .unset, .unset] [(.int (10 : Int32))]
          refine istore hG at_88 rfl ?_
          refine goto hG at_90 (by decide) (pc' := 117) rfl ?_
          refine weaken hG (M' := []) (k' := 2) (n' := 48) (fun _ q => q) (Nat.le_of_ble_eq_true rfl) (Nat.le_of_ble_eq_true rfl) ?_
          exact seg117 h889 a890 b891 kk892 (11 : Int32) [(99 : Int32), (111 : Int32), (110 : Int32), (100 : Int32), (105 : Int32), (116 : Int32), (105 : Int32), (111 : Int32), (110 : Int32), (97 : Int32), (108 : Int32)] _ _ _ _ 10 rfl (by decide) X894 F895 F896 V897
      · skip
        refine iload hG at_67 rfl ?_
        refine istore hG at_69 rfl ?_
        refine goto hG at_71 (by decide) (pc' := 117) rfl ?_
        refine weaken hG (M' := []) (k' := 2) (n' := 48) (fun _ q => q) (Nat.le_of_ble_eq_true rfl) (Nat.le_of_ble_eq_true rfl) ?_
        exact seg117 h889 a890 b891 kk892 (11 : Int32) [(99 : Int32), (111 : Int32), (110 : Int32), (100 : Int32), (105 : Int32), (116 : Int32), (105 : Int32), (111 : Int32), (110 : Int32), (97 : Int32), (108 : Int32)] _ _ _ _ 11 rfl (by decide) X894 F895 F896 V897
  · skip
    refine ldc hG at_10 (w0 hw) hS (by decide) (vs := [(.int (97 : Int32)), (.int (108 : Int32)), (.int (108 : Int32)), (.int (111 : Int32)), (.int (119 : Int32))]) (N := 5) ⟨by decide, by decide +kernel⟩ (by decide) (by decide) (nn := 20) (by decide) (by decide) (Nat.le_of_ble_eq_true rfl) (Nat.le_of_ble_eq_true rfl) (fun h912 a913 b914 kk915 E916 X917 F918 F919 V920 ne921 => ?_)
    show G [] h912 (2) (24) 12 #[.val (.int p0), .val (.int p1), .val (.int p2), .val (.int p3), .val (.int (p0 &&& (3 : Int32))), .unset, .unset, .unset, .unset, .unset, .unset, .unset, .unset, .unset, .unset, .unset] [(.ref a913)]
    refine astore hG at_12 rfl rfl ?_
    refine goto hG at_14 (by decide) (pc' := 47) rfl ?_
    refine aload hG at_47 rfl rfl ?_
    refine callVirtual hG at_49 X917 (w8 hw) (w9 hw) (fun _ hz => notFace_of_selects (args := #[]) (mvT hz (w11 hw))) (w11 hw) (w10 hw) (w1 hw) (w12 hw) (by decide) (m_len hC (a913) (b914) (kk915) ((5 : Int32)) ([(97 : Int32), (108 : Int32), (108 : Int32), (111 : Int32), (119 : Int32)]) h912 X917 F918 F919 V920) pd_10 rfl (rest := []) rfl rfl all0 (Nat.le_of_ble_eq_true rfl) (W := 0) (Nat.le_of_ble_eq_true rfl) (Nat.le_of_ble_eq_true rfl) (Nat.le_of_ble_eq_true rfl) (Nat.le_of_ble_eq_true rfl) (fun v922 M923 h924 le925 hq926 => ?_)
    obtain ⟨rfl, rfl, rfl⟩ := hq926
    show G [] h912 (2) (24) 52 #[.val (.int p0), .val (.int p1), .val (.int p2), .val (.int p3), .val (.int (p0 &&& (3 : Int32))), .val (.ref a913), .unset, .unset, .unset, .unset, .unset, .unset, .unset, .unset, .unset, .unset] [(.int (5 : Int32))]
    refine istore hG at_52 rfl ?_
    refine iloadN hG at_54 rfl ?_
    refine ldcInt hG at_55 (w21 hw) ?_
    refine iand hG at_57 ?_
    refine iconst hG at_58 (4) rfl ?_
    refine irem hG at_59 (by decide) ?_
    refine istore hG at_60 rfl ?_
    refine iload hG at_62 rfl ?_
    refine if_ne hG at_64 (by decide) (pc' := 74) rfl (fun q927 => ?_) (fun q927 => ?_)
    · skip
      refine iload hG at_74 rfl ?_
      refine iconst hG at_76 (1) rfl ?_
      refine icmp_ne hG at_77 (by decide) (pc' := 93) rfl (fun q928 => ?_) (fun q928 => ?_)
      · skip
        refine iload hG at_93 rfl ?_
        refine iconst hG at_95 (2) rfl ?_
        refine icmp_ne hG at_96 (by decide) (pc' := 108) rfl (fun q929 => ?_) (fun q929 => ?_)
        · skip
          refine iloadN hG at_108 rfl ?_
          refine bipush hG at_109 (8) rfl ?_
          refine iushr hG at_111 ?_
          refine bipush hG at_112 (13) rfl ?_
          refine irem hG at_114 (by decide) ?_
          refine istore hG at_115 rfl ?_
          refine weaken hG (M' := []) (k' := 2) (n' := 48) (fun _ q => q) (Nat.le_of_ble_eq_true rfl) (Nat.le_of_ble_eq_true rfl) ?_
          obtain ⟨nn, hnn, hnv⟩ := own_mod13 p1
          exact seg117 h912 a913 b914 kk915 (5 : Int32) [(97 : Int32), (108 : Int32), (108 : Int32), (111 : Int32), (119 : Int32)] _ _ _ _ nn hnv hnn X917 F918 F919 V920
        · skip
          refine iload hG at_99 rfl ?_
          refine iconst hG at_101 (1) rfl ?_
          refine iadd hG at_102 ?_
          show G [] h912 (2) (24) 103 #[.val (.int p0), .val (.int p1), .val (.int p2), .val (.int p3), .val (.int (p0 &&& (3 : Int32))), .val (.ref a913), .val (.int (5 : Int32)), .val (.int ((p1 &&& (2147483647 : Int32)) % (4 : Int32))), .unset, .unset, .unset, .unset, .unset, .unset, .unset, .unset] [(.int (6 : Int32))]
          refine istore hG at_103 rfl ?_
          refine goto hG at_105 (by decide) (pc' := 117) rfl ?_
          refine weaken hG (M' := []) (k' := 2) (n' := 48) (fun _ q => q) (Nat.le_of_ble_eq_true rfl) (Nat.le_of_ble_eq_true rfl) ?_
          exact seg117 h912 a913 b914 kk915 (5 : Int32) [(97 : Int32), (108 : Int32), (108 : Int32), (111 : Int32), (119 : Int32)] _ _ _ _ 6 rfl (by decide) X917 F918 F919 V920
      · skip
        refine iconst hG at_80 (0) rfl ?_
        refine iload hG at_81 rfl ?_
        refine iconst hG at_83 (1) rfl ?_
        refine isub hG at_84 ?_
        show G [] h912 (2) (24) 85 #[.val (.int p0), .val (.int p1), .val (.int p2), .val (.int p3), .val (.int (p0 &&& (3 : Int32))), .val (.ref a913), .val (.int (5 : Int32)), .val (.int ((p1 &&& (2147483647 : Int32)) % (4 : Int32))), .unset, .unset, .unset, .unset, .unset, .unset, .unset, .unset] [(.int (4 : Int32)), (.int (0 : Int32))]
        refine callStatic hG at_85 (w137 hw) (w138 hw) (w139 hw) (w140 hw) (by decide) (m_mx hC ((0 : Int32)) ((4 : Int32)) h912) pd_21 rfl (rest := []) rfl rfl all0 (Nat.le_of_ble_eq_true rfl) (W := 0) (Nat.le_of_ble_eq_true rfl) (Nat.le_of_ble_eq_true rfl) (Nat.le_of_ble_eq_true rfl) (Nat.le_of_ble_eq_true rfl) (fun v930 M931 h932 le933 hq934 => ?_)
        obtain ⟨rfl, rfl, rfl⟩ := hq934
        show G [] h912 (2) (24) 88 #[.val (.int p0), .val (.int p1), .val (.int p2), .val (.int p3), .val (.int (p0 &&& (3 : Int32))), .val (.ref a913), .val (.int (5 : Int32)), .val (.int ((p1 &&& (2147483647 : Int32)) % (4 : Int32))), .unset, .unset, .unset, .unset, .unset, .unset, .unset, .unset] [(.int (mx (0 : Int32) (4 : Int32)))]
        show G [] h912 (2) (24) 88 #[.val (.int p0), .val (.int p1), .val (.int p2), .val (.int p3), .val (.int (p0 &&& (3 : Int32))), .val (.ref a913), .val (.int (5 : Int32)), .val (.int ((p1 &&& (2147483647 : Int32)) % (4 : Int32))), .unset, .unset, .unset, .unset, .unset, .unset, .unset, .unset] [(.int (4 : Int32))]
        refine istore hG at_88 rfl ?_
        refine goto hG at_90 (by decide) (pc' := 117) rfl ?_
        refine weaken hG (M' := []) (k' := 2) (n' := 48) (fun _ q => q) (Nat.le_of_ble_eq_true rfl) (Nat.le_of_ble_eq_true rfl) ?_
        exact seg117 h912 a913 b914 kk915 (5 : Int32) [(97 : Int32), (108 : Int32), (108 : Int32), (111 : Int32), (119 : Int32)] _ _ _ _ 4 rfl (by decide) X917 F918 F919 V920
    · skip
      refine iload hG at_67 rfl ?_
      refine istore hG at_69 rfl ?_
      refine goto hG at_71 (by decide) (pc' := 117) rfl ?_
      refine weaken hG (M' := []) (k' := 2) (n' := 48) (fun _ q => q) (Nat.le_of_ble_eq_true rfl) (Nat.le_of_ble_eq_true rfl) ?_
      exact seg117 h912 a913 b914 kk915 (5 : Int32) [(97 : Int32), (108 : Int32), (108 : Int32), (111 : Int32), (119 : Int32)] _ _ _ _ 5 rfl (by decide) X917 F918 F919 V920
set_option maxRecDepth 65536 in
set_option maxHeartbeats 4000000 in
theorem comes_1 {Post : Tables → Env → Array Value → State → Outcome → State → Prop} (hpost : ∀ tb e args s v u, (limb_1_1.after args s (.returned v) u = true ∧ limb_1_2.after args s (.returned v) u = true ∧ True) → ReturnedEndW s (.returned v) u (Jvm.fieldLocs frame_1_writes args s ++ Jvm.arrayLocs frame_1_arrays args s ++ Jvm.staticLocs frame_1_statics s) 32 5312 → Post tb e args s (.returned v) u) :
    ArmFor flags0 classFile x code maxLocals ret World_1 tables_1 room_1 Calls_1 rest_1 Pre_1 Post := by
  intro l hfl _ _ p e ha hc hk s m args below hf hA hF happ hP
  obtain ⟨hcalls, hrest, hpre⟩ := hP
  obtain ⟨-, -, -, hnamed, -, -, -, hat⟩ := (Spec.applies_iff hf).mp happ
  obtain ⟨hg, hnar⟩ := and_e (Cond.before_iff.mp (show (Jvm.Cond.and given_1 narrow_1).before args s = true from hpre))
  obtain ⟨hcount, hi0⟩ := and_e hg
  obtain ⟨hx0, hi1⟩ := and_e hi0
  obtain ⟨hx1, hi2⟩ := and_e hi1
  obtain ⟨hx2, hi3⟩ := and_e hi2
  have hx3 := hi3
  obtain ⟨w0, w1, w2, w3, rfl⟩ : ∃ w0 w1 w2 w3 : Value, args = #[w0, w1, w2, w3] := by
    have hs : args.size = 4 := by simpa [Cond.value, given_1] using hcount
    obtain ⟨L⟩ := args
    match L, hs with
    | [w0, w1, w2, w3], _ => exact ⟨w0, w1, w2, w3, rfl⟩
  have hw := fun d (hd : d ∈ tables_1) => atoms_spec (ws := Jvm.Cond.code x code maxLocals ret :: tables_1) hat d (List.mem_cons_of_mem _ hd)
  obtain ⟨hsets, hown0⟩ := atoms_of _ (rest_1_c_eq ▸ (show rest_1_c.before _ s = true from hrest))
  have hfit : Fit s := fun {y c} hc i hi => by
    obtain ⟨ha, rfl⟩ := Array.getElem?_eq_some_iff.mp hc
    have q := List.all_eq_true.mp ((Array.all_eq_true_iff_forall_mem.mp hF) _ (Array.getElem_mem ha)) i (List.mem_range.mpr hi)
    simpa [Array.getElem?_eq_getElem hi] using q
  obtain ⟨i0, e0⟩ := is_v hx0
  obtain rfl : w0 = (.int i0) := Option.some.inj e0
  obtain ⟨i1, e1⟩ := is_v hx1
  obtain rfl : w1 = (.int i1) := Option.some.inj e1
  obtain ⟨i2, e2⟩ := is_v hx2
  obtain rfl : w2 = (.int i2) := Option.some.inj e2
  obtain ⟨i3, e3⟩ := is_v hx3
  obtain rfl : w3 = (.int i3) := Option.some.inj e3
  have hcw := hsets _ (List.mem_of_getElem? (i := 2) rfl)
  obtain ⟨g0, eg⟩ := is_v (Cond.before_iff.mp (hsets _ (List.mem_of_getElem? (i := 1) rfl)))
  have hK1 : Sta s s.heap "java/lang/String" "COMPACT_STRINGS" "Z" (.int g0) := Sta.start eg (Or.inl (hsets _ (List.mem_of_getElem? (i := 0) rfl)))
  have hK2 : ¬ g0 = 0 := gotF (Cond.eq_ints eg (Term.int_eval (0))) (not_v (Cond.before_iff.mp hcw))
  have hS : ∀ a ∈ Bundle.stringAtoms, a.before _ s = true := fun d hd => hw d ((by decide +kernel : ∀ d ∈ Bundle.stringAtoms, d ∈ tables_1) d hd)
  have hE : EW s _ EL0 := (EW.cons (w0 hw) (by decide) (EW.cons (w45 hw) (by decide) (EW.cons (w46 hw) (by decide) (EW.cons (w84 hw) (by decide) (EW.cons (w34 hw) (by decide) EW.nil)))))
  obtain ⟨gf, egf, rgf⟩ := isR_v (Cond.before_iff.mp (hsets _ (List.mem_of_getElem? (i := 8) rfl)))
  have sgf : Sta s s.heap "jdk/internal/util/Preconditions" "SIOOBE_FORMATTER" "Ljava/util/function/BiFunction;" gf := Sta.start egf (Or.inl (hsets _ (List.mem_of_getElem? (i := 7) rfl)))
  obtain ⟨zoe, eoe⟩ := exa_v (Cond.before_iff.mp (hsets _ (List.mem_of_getElem? (i := 11) rfl)))
  have soe : Sta s s.heap "java/util/Optional" "EMPTY" "Ljava/util/Optional;" (.ref zoe) := Sta.start eoe (Or.inl (hsets _ (List.mem_of_getElem? (i := 10) rfl)))
  have xoe : Exa s s.heap zoe "java/util/Optional" := Exa.start eoe (Cond.before_iff.mp (hsets _ (List.mem_of_getElem? (i := 11) rfl)))
  have foe : Fld s s.heap zoe "java/util/Optional" "value" "Ljava/lang/Object;" .null := Fld.start ((fld_at eoe).symm.trans (null_v (Cond.before_iff.mp (hsets _ (List.mem_of_getElem? (i := 12) rfl)))))
  obtain ⟨c1, hnar⟩ := and_e hnar
  obtain ⟨c2, hnar⟩ := and_e hnar
  obtain ⟨c3, hnar⟩ := and_e hnar
  obtain ⟨c4, hnar⟩ := and_e hnar
  obtain ⟨c5, hnar⟩ := and_e hnar
  obtain ⟨c6, hnar⟩ := and_e hnar
  obtain ⟨c7, hnar⟩ := and_e hnar
  obtain ⟨c8, hnar⟩ := and_e hnar
  obtain ⟨c9, hnar⟩ := and_e hnar
  obtain ⟨c10, hnar⟩ := and_e hnar
  obtain ⟨c11, hnar⟩ := and_e hnar
  obtain ⟨c12, hnar⟩ := and_e hnar
  obtain ⟨c13, hnar⟩ := and_e hnar
  obtain ⟨c14, hnar⟩ := and_e hnar
  obtain ⟨c15, hnar⟩ := and_e hnar
  obtain ⟨c16, hnar⟩ := and_e hnar
  obtain ⟨c17, hnar⟩ := and_e hnar
  obtain ⟨c18, hnar⟩ := and_e hnar
  obtain ⟨c19, hnar⟩ := and_e hnar
  obtain ⟨c20, hnar⟩ := and_e hnar
  obtain ⟨c21, hnar⟩ := and_e hnar
  obtain ⟨c22, hnar⟩ := and_e hnar
  obtain ⟨c23, hnar⟩ := and_e hnar
  obtain ⟨c24, hnar⟩ := and_e hnar
  obtain ⟨c25, hnar⟩ := and_e hnar
  obtain ⟨c26, hnar⟩ := and_e hnar
  obtain ⟨c27, hnar⟩ := and_e hnar
  obtain ⟨c28, hnar⟩ := and_e hnar
  obtain ⟨c29, hnar⟩ := and_e hnar
  obtain ⟨c30, hnar⟩ := and_e hnar
  obtain ⟨c31, hnar⟩ := and_e hnar
  obtain ⟨c32, hnar⟩ := and_e hnar
  obtain ⟨c33, hnar⟩ := and_e hnar
  obtain ⟨c34, hnar⟩ := and_e hnar
  obtain ⟨c35, hnar⟩ := and_e hnar
  obtain ⟨c36, hnar⟩ := and_e hnar
  obtain ⟨c37, hnar⟩ := and_e hnar
  obtain ⟨c38, hnar⟩ := and_e hnar
  obtain ⟨c39, hnar⟩ := and_e hnar
  obtain ⟨c40, hnar⟩ := and_e hnar
  obtain ⟨c41, hnar⟩ := and_e hnar
  obtain ⟨c42, hnar⟩ := and_e hnar
  obtain ⟨c43, hnar⟩ := and_e hnar
  obtain ⟨c44, hnar⟩ := and_e hnar
  have c45 := hnar
  obtain ⟨zva, clv, eva, Av, hatv, hszv⟩ := arr_said c1 c3 (n := 3) rfl (by decide)
  have xva : Exa s s.heap zva "[Lcom/example/uni_gate/unigate/policy/Intent;" := Exa.start eva c2
  have sva : Sta s s.heap "com/example/uni_gate/unigate/policy/Intent" "$VALUES" "[Lcom/example/uni_gate/unigate/policy/Intent;" (.ref zva) := Sta.start eva (Or.inr ⟨(w49 hw), (w55 hw)⟩)
  obtain ⟨zia, eia⟩ := exa_v c4
  have xia : Exa s s.heap zia "com/example/uni_gate/unigate/policy/Intent" := Exa.start eia c4
  have sia : Sta s s.heap "com/example/uni_gate/unigate/policy/Intent" "ALLOW" "Lcom/example/uni_gate/unigate/policy/Intent;" (.ref zia) := Sta.start eia (Or.inr ⟨(w49 hw), (w63 hw)⟩)
  have ela : clv.slots[0]? = some (.ref zia) := own_elem eva hatv (i := 0) (by decide) eia c5
  obtain ⟨zsa, zta, zka, esa, xsa, csa, vsa, Vsa⟩ := str_said hfit (ys := [(97 : Int32), (108 : Int32), (108 : Int32), (111 : Int32), (119 : Int32)]) rfl (by decide) c10 c11 c12 c13 (fun i hi => match i, hi with | 0, _ => c22 | 1, _ => c23 | 2, _ => c24 | 3, _ => c25 | 4, _ => c26)
  have fia : Fld s s.heap zia "com/example/uni_gate/unigate/policy/Intent" "policyName" "Ljava/lang/String;" (.ref zsa) := Fld.start ((fld_at eia).symm.trans esa)
  obtain ⟨zib, eib⟩ := exa_v c6
  have xib : Exa s s.heap zib "com/example/uni_gate/unigate/policy/Intent" := Exa.start eib c6
  have sib : Sta s s.heap "com/example/uni_gate/unigate/policy/Intent" "CONDITIONAL" "Lcom/example/uni_gate/unigate/policy/Intent;" (.ref zib) := Sta.start eib (Or.inr ⟨(w49 hw), (w64 hw)⟩)
  have elb : clv.slots[1]? = some (.ref zib) := own_elem eva hatv (i := 1) (by decide) eib c7
  obtain ⟨zsb, ztb, zkb, esb, xsb, csb, vsb, Vsb⟩ := str_said hfit (ys := [(99 : Int32), (111 : Int32), (110 : Int32), (100 : Int32), (105 : Int32), (116 : Int32), (105 : Int32), (111 : Int32), (110 : Int32), (97 : Int32), (108 : Int32)]) rfl (by decide) c14 c15 c16 c17 (fun i hi => match i, hi with | 0, _ => c27 | 1, _ => c28 | 2, _ => c29 | 3, _ => c30 | 4, _ => c31 | 5, _ => c32 | 6, _ => c33 | 7, _ => c34 | 8, _ => c35 | 9, _ => c36 | 10, _ => c37)
  have fib : Fld s s.heap zib "com/example/uni_gate/unigate/policy/Intent" "policyName" "Ljava/lang/String;" (.ref zsb) := Fld.start ((fld_at eib).symm.trans esb)
  obtain ⟨zip, eip⟩ := exa_v c8
  have xip : Exa s s.heap zip "com/example/uni_gate/unigate/policy/Intent" := Exa.start eip c8
  have sip : Sta s s.heap "com/example/uni_gate/unigate/policy/Intent" "PROHIBIT" "Lcom/example/uni_gate/unigate/policy/Intent;" (.ref zip) := Sta.start eip (Or.inr ⟨(w49 hw), (w65 hw)⟩)
  have elp : clv.slots[2]? = some (.ref zip) := own_elem eva hatv (i := 2) (by decide) eip c9
  obtain ⟨zsp, ztp, zkp, esp, xsp, csp, vsp, Vsp⟩ := str_said hfit (ys := [(112 : Int32), (114 : Int32), (111 : Int32), (104 : Int32), (105 : Int32), (98 : Int32), (105 : Int32), (116 : Int32)]) rfl (by decide) c18 c19 c20 c21 (fun i hi => match i, hi with | 0, _ => c38 | 1, _ => c39 | 2, _ => c40 | 3, _ => c41 | 4, _ => c42 | 5, _ => c43 | 6, _ => c44 | 7, _ => c45)
  have fip : Fld s s.heap zip "com/example/uni_gate/unigate/policy/Intent" "policyName" "Ljava/lang/String;" (.ref zsp) := Fld.start ((fld_at eip).symm.trans esp)
  have Vva : Arv s s.heap zva clv.cls (.object "com/example/uni_gate/unigate/policy/Intent") (3 : Int32) [.ref zia, .ref zib, .ref zip] .null := ⟨clv, Av, rfl, by rw [hszv]; rfl, by decide, fun i hi => by
    rw [hszv] at hi
    match i, hi with
    | 0, _ => exact ela
    | 1, _ => exact elb
    | 2, _ => exact elp, fun i hi => by
    rw [hszv] at hi
    match i, hi with
    | 0, _ => rfl
    | 1, _ => rfl
    | 2, _ => rfl⟩
  have hC : Ctx l s _ s.heap.size g0 gf zva clv.cls zoe zia zsa zta zka zib zsb ztb zkb zip zsp ztp zkp := ⟨hw, hS, hE, ⟨hK1, hK2⟩, sgf, rgf, sva, xva, Vva, soe, xoe, foe, sia, xia, fia, xsa, csa, vsa, Vsa, sib, xib, fib, xsb, csb, vsb, Vsb, sip, xip, fip, xsp, csp, vsp, Vsp⟩
  have hH : CHv s EL0 s.vm s.heap := CHv.start hE (fun p hp => hcalls.1 p hp) hcw (hS _ (by simp [Bundle.stringAtoms])) (hS _ (by simp [Bundle.stringAtoms, Bundle.sN]))
  obtain ⟨n, o, h1, h2, h3, ⟨v, L, M', rfl, hQ, N, -, -, -, hq⟩⟩ := m_law hC i0 i1 i2 i3 s.heap p e ha hc hk s m _ below hf ((Spec.applies_iff_loose hf).mp happ).1 ⟨rfl, State.Warmed39.refl s, rfl, hH, fun _ q => (nomatch q), Old.start s⟩ trivial
  obtain ⟨rfl, -⟩ := hQ
  refine ⟨n, _, h1, h2, h3, hpost _ _ _ _ _ _ ⟨Cond.after_iff.mpr rfl, Cond.after_iff.mpr (eq_i res_at (Term.int_eval (1)) rfl), trivial⟩ ⟨hq.1, hq.2.1, hq.2.2.1, (hq.2.2.2.sift fun y hy => Or.inr (N y hy)).mono (by decide) (by decide)⟩⟩
theorem main_1_1 : Claimed_1_1 := comes_1 fun _ _ _ _ _ _ h hF => ⟨h.1, hF⟩
theorem main_1_2 : Claimed_1_2 := comes_1 fun _ _ _ _ _ _ h hF => ⟨h.2.1, hF⟩
end Jvm.Pilot.@@N@@
namespace Jvm.Pilot.@@N@@
open Jvm Jvm.ClassFile Sem Op Lib Jvm.Free Jvm.Stand Jvm.Pilot.@@N@@.Jvm.D
/-! MADE BY PROGRAM (witnessworld.py) out of the Statement's table words and the real class files: 25 classes; the members and pool entries that the words name. The judged class is class 1, her method 2. -/
namespace start1
open Jvm.ClassFile
def u (s : String) : CpInfo := .utf8 (stringToUtf16 s)
/-- a pool by its gaps: so many unusable entries, then the entry; so many at the end -/
def gap : Nat → List CpInfo → List CpInfo
  | 0, r => r
  | n + 1, r => .unusable :: gap n r
def poolList (es : List (Nat × CpInfo)) (last : Nat) : List CpInfo := es.foldr (fun e r => gap e.1 (e.2 :: r)) (gap last [])
def pool (es : List (Nat × CpInfo)) (last : Nat) : Array CpInfo := ⟨poolList es last⟩
def fileOf (pool : Array CpInfo) (this : Nat) (attrs : Array Attribute := #[]) (ms : Array MethodInfo := #[]) (fl : Nat := 33) (sup : Nat := 0) (ifs : Array Nat := #[]) (fds : Array FieldInfo := #[]) : ClassFile where
  minorVersion := 0
  majorVersion := 65
  constantPool := pool
  accessFlags := fl
  thisClass := this
  superClass := sup
  interfaces := ifs
  fields := fds
  methods := ms
  attributes := attrs
def plain (name : String) (sup : Option ClassId) : Class where
  name := name
  kind := .ordinary
  loader := none
  accessFlags := 33
  super := sup
  interfaces := #[]
  cf := none
  fields := #[]
  methods := #[]
  instanceTypes := #[]
  staticTypes := #[]
  resolved := #[]
  callSites := []
  init := .initialized
  statics := none
  mirror := none

def pool0 : Array CpInfo := pool [(5, u "<init>"), (0, u "()V"), (1, .class_ 10), (1, u "java/lang/Object"), (85, u "clone"), (0, u "()Ljava/lang/Object;")] 26

def k0c0 : Code := { maxStack := 0, maxLocals := 1, code := object_method_1_code, exceptionTable := #[], attributes := #[] }
def k0m0 : Method := { name := "<init>", desc := "()V", sig := { parameters := [], returnType := none }, accessFlags := 1, code := some k0c0 }
def k0m1 : Method := { name := "clone", desc := "()Ljava/lang/Object;", sig := { parameters := [], returnType := some (.object "java/lang/Object") }, accessFlags := 260, code := none }
/-- java/lang/Object -/
def k0 : Class := { plain "java/lang/Object" none with
  accessFlags := 33
  interfaces := #[]
  cf := some (fileOf pool0 8 #[] #[{ accessFlags := 1, nameIndex := 5, descriptorIndex := 6, attributes := #[] }, { accessFlags := 260, nameIndex := 96, descriptorIndex := 97, attributes := #[] }] 33 0 #[] #[])
  fields := #[]
  methods := #[k0m0, k0m1]
  instanceTypes := #[]
  staticTypes := #[]
  resolved := Array.replicate 124 none
  statics := none }

def pool1 : Array CpInfo := pool [(2, .class_ 4), (1, u "java/lang/Object"), (0, u "<init>"), (0, u "()V"), (0, .methodref 8 9), (0, .class_ 10), (0, .nameAndType 11 12), (0, u "java/lang/String"), (0, u "length"), (0, u "()I"), (0, .methodref 8 14), (0, .nameAndType 15 16), (0, u "charAt"), (0, u "(I)C"), (0, .string 18), (0, u "allow"), (0, .string 20), (0, u "conditional"), (0, .string 22), (0, u "prohibit"), (0, .string 24), (0, u ""), (0, .integer 2147483647), (0, .methodref 27 28), (0, .class_ 29), (0, .nameAndType 30 31), (0, u "java/lang/Math"), (0, u "max"), (0, u "(II)I"), (0, .methodref 33 34), (0, .class_ 35), (0, .nameAndType 36 37), (0, u "com/example/uni_gate/unigate/policy/IntentFromPolicyNamePinLaw"), (0, u "at"), (0, u "(Ljava/lang/String;IICC)C"), (0, .methodref 8 39), (0, .nameAndType 5 40), (0, u "([C)V"), (0, .methodref 8 42), (0, .nameAndType 43 44), (0, u "equals"), (0, u "(Ljava/lang/Object;)Z"), (0, .fieldref 46 47), (0, .class_ 48), (0, .nameAndType 49 50), (0, u "com/example/uni_gate/unigate/policy/Intent"), (0, u "ALLOW"), (0, u "Lcom/example/uni_gate/unigate/policy/Intent;"), (0, .fieldref 46 52), (0, .nameAndType 53 50), (0, u "CONDITIONAL"), (0, .fieldref 46 55), (0, .nameAndType 56 50), (0, u "PROHIBIT"), (0, .methodref 46 58), (0, .nameAndType 59 60), (0, u "fromPolicyName"), (0, u "(Ljava/lang/String;)Ljava/util/Optional;"), (0, .methodref 62 63), (0, .class_ 64), (0, .nameAndType 65 66), (0, u "java/util/Optional"), (0, u "orElse"), (0, u "(Ljava/lang/Object;)Ljava/lang/Object;"), (3, u "law"), (0, u "(IIII)Z")] 4

def k1m0 : Method := { name := "<init>", desc := "()V", sig := { parameters := [], returnType := none }, accessFlags := 1, code := none }
def k1c1 : Code := { maxStack := 2, maxLocals := 5, code := method_2_code, exceptionTable := #[], attributes := #[] }
def k1m1 : Method := { name := "at", desc := "(Ljava/lang/String;IICC)C", sig := { parameters := [(.object "java/lang/String"), .int, .int, .char, .char], returnType := some .char }, accessFlags := 10, code := some k1c1 }
def k1c2 : Code := { maxStack := 7, maxLocals := 16, code := code, exceptionTable := #[], attributes := #[] }
def k1m2 : Method := { name := "law", desc := "(IIII)Z", sig := { parameters := [.int, .int, .int, .int], returnType := some .boolean }, accessFlags := 9, code := some k1c2 }
/-- com/example/uni_gate/unigate/policy/IntentFromPolicyNamePinLaw -/
def k1 : Class := { plain "com/example/uni_gate/unigate/policy/IntentFromPolicyNamePinLaw" (some 0) with
  accessFlags := 49
  interfaces := #[]
  cf := some (fileOf pool1 33 #[] #[{ accessFlags := 1, nameIndex := 5, descriptorIndex := 6, attributes := #[] }, { accessFlags := 10, nameIndex := 36, descriptorIndex := 37, attributes := #[] }, { accessFlags := 9, nameIndex := 70, descriptorIndex := 71, attributes := #[] }] 49 2 #[] #[])
  fields := #[]
  methods := #[k1m0, k1m1, k1m2]
  instanceTypes := #[]
  staticTypes := #[]
  resolved := Array.replicate 76 none
  statics := none }

def pool2 : Array CpInfo := pool [(1, .class_ 2), (0, u "java/io/Serializable"), (0, .class_ 4), (0, u "java/lang/Object")] 2

/-- java/io/Serializable -/
def k2 : Class := { plain "java/io/Serializable" (some 0) with
  accessFlags := 1537
  interfaces := #[]
  cf := some (fileOf pool2 1 #[] #[] 1537 3 #[] #[])
  fields := #[]
  methods := #[]
  instanceTypes := #[]
  staticTypes := #[]
  resolved := Array.replicate 7 none
  statics := none }

def pool3 : Array CpInfo := pool [(1, .class_ 2), (0, u "java/lang/Comparable"), (0, .class_ 4), (0, u "java/lang/Object")] 7

/-- java/lang/Comparable -/
def k3 : Class := { plain "java/lang/Comparable" (some 0) with
  accessFlags := 1537
  interfaces := #[]
  cf := some (fileOf pool3 1 #[] #[] 1537 3 #[] #[])
  fields := #[]
  methods := #[]
  instanceTypes := #[]
  staticTypes := #[]
  resolved := Array.replicate 12 none
  statics := none }

def pool4 : Array CpInfo := pool [(2, .class_ 4), (1, u "java/lang/CharSequence"), (42, .class_ 48), (0, u "java/lang/CharSequence$1CodePointIterator"), (10, .class_ 60), (0, u "java/lang/CharSequence$1CharIterator"), (5, .class_ 67), (0, u "java/lang/Object")] 63

/-- java/lang/CharSequence -/
def k4 : Class := { plain "java/lang/CharSequence" (some 0) with
  accessFlags := 1537
  interfaces := #[]
  cf := some (fileOf pool4 2 #[.nestMembers #[47, 59]] #[] 1537 66 #[] #[])
  fields := #[]
  methods := #[]
  instanceTypes := #[]
  staticTypes := #[]
  resolved := Array.replicate 131 none
  statics := none }

def pool5 : Array CpInfo := pool [(1, .class_ 2), (0, u "java/lang/constant/Constable"), (0, .class_ 4), (0, u "java/lang/Object")] 6

/-- java/lang/constant/Constable -/
def k5 : Class := { plain "java/lang/constant/Constable" (some 0) with
  accessFlags := 1537
  interfaces := #[]
  cf := some (fileOf pool5 1 #[] #[] 1537 3 #[] #[])
  fields := #[]
  methods := #[]
  instanceTypes := #[]
  staticTypes := #[]
  resolved := Array.replicate 11 none
  statics := none }

def pool6 : Array CpInfo := pool [(1, .class_ 2), (0, u "java/lang/constant/ConstantDesc"), (0, .class_ 4), (0, u "java/lang/Object")] 32

/-- java/lang/constant/ConstantDesc -/
def k6 : Class := { plain "java/lang/constant/ConstantDesc" (some 0) with
  accessFlags := 1537
  interfaces := #[]
  cf := some (fileOf pool6 1 #[] #[] 1537 3 #[] #[])
  fields := #[]
  methods := #[]
  instanceTypes := #[]
  staticTypes := #[]
  resolved := Array.replicate 37 none
  statics := none }

def pool7 : Array CpInfo := pool [(1, .methodref 2 3), (0, .class_ 4), (0, .nameAndType 5 6), (0, u "java/lang/Object"), (0, u "<init>"), (0, u "()V"), (0, .string 8), (0, u ""), (0, .fieldref 10 11), (0, .class_ 12), (0, .nameAndType 13 14), (0, u "java/lang/String"), (0, u "value"), (0, u "[B"), (0, .fieldref 10 16), (0, .nameAndType 17 18), (0, u "coder"), (0, u "B"), (2, u "hash"), (0, u "I"), (2, u "hashIsZero"), (0, u "Z"), (0, .methodref 10 28), (0, .nameAndType 5 29), (0, u "([CIILjava/lang/Void;)V"), (8, .fieldref 10 39), (0, .nameAndType 40 26), (0, u "COMPACT_STRINGS"), (1, .class_ 44), (1, u "java/lang/StringUTF16"), (0, u "compress"), (1, .methodref 42 48), (0, .nameAndType 49 50), (0, u "coderFromArrayLen"), (0, u "([BI)B"), (56, .class_ 109), (1, u "java/lang/StringLatin1"), (32, u "()Z"), (34, .methodref 42 178), (0, .nameAndType 45 179), (0, u "([CII)[B"), (154, u "()I"), (0, .methodref 10 336), (0, .nameAndType 17 337), (0, u "()B"), (25, u "([BI)C"), (27, u "(II)V"), (35, u "(I)C"), (64, .methodref 10 493), (0, .nameAndType 494 142), (0, u "isLatin1"), (0, .methodref 107 496), (0, .nameAndType 497 363), (0, u "charAt"), (3, u "checkIndex"), (5, u "length"), (33, .methodref 107 542), (0, .nameAndType 543 544), (0, u "equals"), (0, u "([B[B)Z"), (28, u "(Ljava/lang/Object;)Z"), (1, .class_ 576), (0, u "java/lang/CharSequence"), (22, u "CASE_INSENSITIVE_ORDER"), (0, u "Ljava/util/Comparator;"), (409, u "([C)V"), (42, .fieldref 1054 1055), (0, .class_ 1056), (0, .nameAndType 1057 1058), (0, u "jdk/internal/util/Preconditions"), (0, u "SIOOBE_FORMATTER"), (0, u "Ljava/util/function/BiFunction;"), (0, .methodref 1054 1060), (0, .nameAndType 501 1061), (0, u "(IILjava/util/function/BiFunction;)I"), (39, u "serialPersistentFields"), (0, u "[Ljava/io/ObjectStreamField;"), (0, .class_ 1104), (0, u "java/lang/String$CaseInsensitiveComparator"), (1, .class_ 1107), (0, u "java/io/Serializable"), (0, .class_ 1109), (0, u "java/lang/Comparable"), (0, .class_ 1111), (0, u "java/lang/constant/Constable"), (0, .class_ 1113), (0, u "java/lang/constant/ConstantDesc"), (2, u "serialVersionUID"), (0, u "J"), (3, u "REPL"), (0, u "C"), (2, u "LATIN1"), (1, u "UTF16")] 323

def k7m0 : Method := { name := "<init>", desc := "()V", sig := { parameters := [], returnType := none }, accessFlags := 1, code := none }
def k7c1 : Code := { maxStack := 5, maxLocals := 2, code := jdk_42_method_3_code, exceptionTable := #[], attributes := #[] }
def k7m1 : Method := { name := "<init>", desc := "([C)V", sig := { parameters := [(.array .char)], returnType := none }, accessFlags := 1, code := some k7c1 }
def k7c2 : Code := { maxStack := 2, maxLocals := 1, code := jdk_42_method_54_code, exceptionTable := #[], attributes := #[] }
def k7m2 : Method := { name := "length", desc := "()I", sig := { parameters := [], returnType := some .int }, accessFlags := 1, code := some k7c2 }
def k7c3 : Code := { maxStack := 2, maxLocals := 2, code := jdk_42_method_56_code, exceptionTable := #[], attributes := #[] }
def k7m3 : Method := { name := "charAt", desc := "(I)C", sig := { parameters := [.int], returnType := some .char }, accessFlags := 1, code := some k7c3 }
def k7c4 : Code := { maxStack := 2, maxLocals := 3, code := jdk_42_method_66_code, exceptionTable := #[], attributes := #[] }
def k7m4 : Method := { name := "equals", desc := "(Ljava/lang/Object;)Z", sig := { parameters := [(.object "java/lang/Object")], returnType := some .boolean }, accessFlags := 1, code := some k7c4 }
def k7c5 : Code := { maxStack := 4, maxLocals := 6, code := jdk_42_method_149_code, exceptionTable := #[], attributes := #[] }
def k7m5 : Method := { name := "<init>", desc := "([CIILjava/lang/Void;)V", sig := { parameters := [(.array .char), .int, .int, (.object "java/lang/Void")], returnType := none }, accessFlags := 2, code := some k7c5 }
def k7c6 : Code := { maxStack := 1, maxLocals := 1, code := jdk_42_method_152_code, exceptionTable := #[], attributes := #[] }
def k7m6 : Method := { name := "coder", desc := "()B", sig := { parameters := [], returnType := some .byte }, accessFlags := 0, code := some k7c6 }
def k7c7 : Code := { maxStack := 1, maxLocals := 1, code := jdk_42_method_154_code, exceptionTable := #[], attributes := #[] }
def k7m7 : Method := { name := "isLatin1", desc := "()Z", sig := { parameters := [], returnType := some .boolean }, accessFlags := 0, code := some k7c7 }
def k7c8 : Code := { maxStack := 3, maxLocals := 2, code := jdk_42_method_155_code, exceptionTable := #[], attributes := #[] }
def k7m8 : Method := { name := "checkIndex", desc := "(II)V", sig := { parameters := [.int, .int], returnType := none }, accessFlags := 8, code := some k7c8 }
/-- java/lang/String -/
def k7 : Class := { plain "java/lang/String" (some 0) with
  accessFlags := 49
  interfaces := #[2, 3, 4, 5, 6]
  cf := some (fileOf pool7 10 #[.nestMembers #[1103]] #[{ accessFlags := 1, nameIndex := 5, descriptorIndex := 6, attributes := #[] }, { accessFlags := 1, nameIndex := 5, descriptorIndex := 1010, attributes := #[] }, { accessFlags := 1, nameIndex := 507, descriptorIndex := 334, attributes := #[] }, { accessFlags := 1, nameIndex := 497, descriptorIndex := 427, attributes := #[] }, { accessFlags := 1, nameIndex := 543, descriptorIndex := 573, attributes := #[] }, { accessFlags := 2, nameIndex := 5, descriptorIndex := 29, attributes := #[] }, { accessFlags := 0, nameIndex := 17, descriptorIndex := 337, attributes := #[] }, { accessFlags := 0, nameIndex := 494, descriptorIndex := 142, attributes := #[] }, { accessFlags := 8, nameIndex := 501, descriptorIndex := 391, attributes := #[] }] 49 2 #[1106, 1108, 575, 1110, 1112] #[{ accessFlags := 18, nameIndex := 13, descriptorIndex := 14, attributes := #[] }, { accessFlags := 18, nameIndex := 17, descriptorIndex := 18, attributes := #[] }, { accessFlags := 2, nameIndex := 21, descriptorIndex := 22, attributes := #[] }, { accessFlags := 2, nameIndex := 25, descriptorIndex := 26, attributes := #[] }, { accessFlags := 26, nameIndex := 1116, descriptorIndex := 1117, attributes := #[] }, { accessFlags := 24, nameIndex := 40, descriptorIndex := 26, attributes := #[] }, { accessFlags := 26, nameIndex := 1101, descriptorIndex := 1102, attributes := #[] }, { accessFlags := 26, nameIndex := 1121, descriptorIndex := 1122, attributes := #[] }, { accessFlags := 25, nameIndex := 599, descriptorIndex := 600, attributes := #[] }, { accessFlags := 24, nameIndex := 1125, descriptorIndex := 18, attributes := #[] }, { accessFlags := 24, nameIndex := 1127, descriptorIndex := 18, attributes := #[] }])
  fields := #[{ name := "value", type := (.array .byte), accessFlags := 18, slot := 0, constantValue := 0 }, { name := "coder", type := .byte, accessFlags := 18, slot := 1, constantValue := 0 }, { name := "hash", type := .int, accessFlags := 2, slot := 2, constantValue := 0 }, { name := "hashIsZero", type := .boolean, accessFlags := 2, slot := 3, constantValue := 0 }, { name := "serialVersionUID", type := .long, accessFlags := 26, slot := 0, constantValue := 0 }, { name := "COMPACT_STRINGS", type := .boolean, accessFlags := 24, slot := 1, constantValue := 0 }, { name := "serialPersistentFields", type := (.array (.object "java/io/ObjectStreamField")), accessFlags := 26, slot := 2, constantValue := 0 }, { name := "REPL", type := .char, accessFlags := 26, slot := 3, constantValue := 0 }, { name := "CASE_INSENSITIVE_ORDER", type := (.object "java/util/Comparator"), accessFlags := 25, slot := 4, constantValue := 0 }, { name := "LATIN1", type := .byte, accessFlags := 24, slot := 5, constantValue := 0 }, { name := "UTF16", type := .byte, accessFlags := 24, slot := 6, constantValue := 0 }]
  methods := #[k7m0, k7m1, k7m2, k7m3, k7m4, k7m5, k7m6, k7m7, k7m8]
  instanceTypes := #[(.array .byte), .byte, .int, .boolean]
  staticTypes := #[.long, .boolean, (.array (.object "java/io/ObjectStreamField")), .char, (.object "java/util/Comparator"), .byte, .byte]
  resolved := Array.replicate 1451 none
  statics := some 0 }

def pool8 : Array CpInfo := pool [(1, .class_ 2), (0, u "java/lang/String"), (1, .class_ 6), (1, u "java/lang/Object"), (0, u "<init>"), (0, u "()V"), (0, .methodref 1 10), (0, .nameAndType 11 12), (0, u "checkIndex"), (0, u "(II)V"), (1, .class_ 16), (1, u "java/lang/StringLatin1"), (36, u "([BI)C"), (67, u "$assertionsDisabled"), (0, u "Z"), (98, .class_ 223), (1, u "java/lang/StringLatin1$LinesSpliterator"), (28, u "charAt"), (28, u "equals"), (0, u "([B[B)Z"), (107, .class_ 391), (0, u "java/lang/StringLatin1$CharsSpliterator")] 3

def k8m0 : Method := { name := "<init>", desc := "()V", sig := { parameters := [], returnType := none }, accessFlags := 0, code := none }
def k8c1 : Code := { maxStack := 2, maxLocals := 2, code := jdk_43_method_2_code, exceptionTable := #[], attributes := #[] }
def k8m1 : Method := { name := "charAt", desc := "([BI)C", sig := { parameters := [(.array .byte), .int], returnType := some .char }, accessFlags := 9, code := some k8c1 }
def k8c2 : Code := { maxStack := 3, maxLocals := 3, code := jdk_43_method_13_code, exceptionTable := #[], attributes := #[] }
def k8m2 : Method := { name := "equals", desc := "([B[B)Z", sig := { parameters := [(.array .byte), (.array .byte)], returnType := some .boolean }, accessFlags := 9, code := some k8c2 }
/-- java/lang/StringLatin1 -/
def k8 : Class := { plain "java/lang/StringLatin1" (some 0) with
  accessFlags := 48
  interfaces := #[]
  cf := some (fileOf pool8 14 #[.nestMembers #[390, 221]] #[{ accessFlags := 0, nameIndex := 7, descriptorIndex := 8, attributes := #[] }, { accessFlags := 9, nameIndex := 252, descriptorIndex := 53, attributes := #[] }, { accessFlags := 9, nameIndex := 281, descriptorIndex := 282, attributes := #[] }] 48 4 #[] #[{ accessFlags := 4120, nameIndex := 121, descriptorIndex := 122, attributes := #[] }])
  fields := #[{ name := "$assertionsDisabled", type := .boolean, accessFlags := 4120, slot := 0, constantValue := 0 }]
  methods := #[k8m0, k8m1, k8m2]
  instanceTypes := #[]
  staticTypes := #[.boolean]
  resolved := Array.replicate 395 none
  statics := none }

def pool9 : Array CpInfo := pool [(2, .class_ 4), (1, u "java/lang/Enum"), (0, u "name"), (0, u "Ljava/lang/String;"), (2, u "ordinal"), (0, u "I"), (1, .class_ 14), (1, u "java/lang/Object"), (4, u "hash"), (86, .class_ 108), (1, u "java/lang/Enum$EnumDesc"), (2, .class_ 112), (0, u "java/lang/constant/Constable"), (0, .class_ 114), (0, u "java/lang/Comparable"), (0, .class_ 116), (0, u "java/io/Serializable")] 87

/-- java/lang/Enum -/
def k9 : Class := { plain "java/lang/Enum" (some 0) with
  accessFlags := 1057
  interfaces := #[5, 3, 2]
  cf := some (fileOf pool9 2 #[.nestMembers #[106]] #[] 1057 12 #[111, 113, 115] #[{ accessFlags := 18, nameIndex := 5, descriptorIndex := 6, attributes := #[] }, { accessFlags := 18, nameIndex := 9, descriptorIndex := 10, attributes := #[] }, { accessFlags := 2, nameIndex := 19, descriptorIndex := 10, attributes := #[] }])
  fields := #[{ name := "name", type := (.object "java/lang/String"), accessFlags := 18, slot := 0, constantValue := 0 }, { name := "ordinal", type := .int, accessFlags := 18, slot := 1, constantValue := 0 }, { name := "hash", type := .int, accessFlags := 2, slot := 2, constantValue := 0 }]
  methods := #[]
  instanceTypes := #[(.object "java/lang/String"), .int, .int]
  staticTypes := #[]
  resolved := Array.replicate 204 none
  statics := none }

def pool10 : Array CpInfo := pool [(1, .class_ 2), (0, u "com/example/uni_gate/unigate/policy/Intent"), (2, u "ALLOW"), (0, u "Lcom/example/uni_gate/unigate/policy/Intent;"), (2, u "CONDITIONAL"), (2, u "PROHIBIT"), (0, .fieldref 1 14), (0, .nameAndType 15 16), (0, u "$VALUES"), (0, u "[Lcom/example/uni_gate/unigate/policy/Intent;"), (0, .methodref 18 19), (0, .class_ 16), (0, .nameAndType 20 21), (0, u "clone"), (0, u "()Ljava/lang/Object;"), (1, .class_ 25), (1, u "java/lang/Enum"), (6, .fieldref 1 33), (0, .nameAndType 34 35), (0, u "policyName"), (0, u "Ljava/lang/String;"), (0, .methodref 1 37), (0, .nameAndType 38 39), (0, u "values"), (0, u "()[Lcom/example/uni_gate/unigate/policy/Intent;"), (0, .methodref 41 42), (0, .class_ 43), (0, .nameAndType 44 45), (0, u "java/lang/String"), (0, u "equals"), (0, u "(Ljava/lang/Object;)Z"), (0, .methodref 47 48), (0, .class_ 49), (0, .nameAndType 50 51), (0, u "java/util/Optional"), (0, u "of"), (0, u "(Ljava/lang/Object;)Ljava/util/Optional;"), (0, .methodref 47 53), (0, .nameAndType 54 55), (0, u "empty"), (0, u "()Ljava/util/Optional;"), (21, u "fromPolicyName"), (0, u "(Ljava/lang/String;)Ljava/util/Optional;")] 7

def k10c0 : Code := { maxStack := 1, maxLocals := 0, code := prog_14_method_1_code, exceptionTable := #[], attributes := #[] }
def k10m0 : Method := { name := "values", desc := "()[Lcom/example/uni_gate/unigate/policy/Intent;", sig := { parameters := [], returnType := some (.array (.object "com/example/uni_gate/unigate/policy/Intent")) }, accessFlags := 9, code := some k10c0 }
def k10c1 : Code := { maxStack := 2, maxLocals := 5, code := prog_14_method_4_code, exceptionTable := #[], attributes := #[] }
def k10m1 : Method := { name := "fromPolicyName", desc := "(Ljava/lang/String;)Ljava/util/Optional;", sig := { parameters := [(.object "java/lang/String")], returnType := some (.object "java/util/Optional") }, accessFlags := 9, code := some k10c1 }
/-- com/example/uni_gate/unigate/policy/Intent -/
def k10 : Class := { plain "com/example/uni_gate/unigate/policy/Intent" (some 9) with
  accessFlags := 16433
  interfaces := #[]
  cf := some (fileOf pool10 1 #[] #[{ accessFlags := 9, nameIndex := 38, descriptorIndex := 39, attributes := #[] }, { accessFlags := 9, nameIndex := 77, descriptorIndex := 78, attributes := #[] }] 16433 23 #[] #[{ accessFlags := 16409, nameIndex := 5, descriptorIndex := 6, attributes := #[] }, { accessFlags := 16409, nameIndex := 9, descriptorIndex := 6, attributes := #[] }, { accessFlags := 16409, nameIndex := 12, descriptorIndex := 6, attributes := #[] }, { accessFlags := 18, nameIndex := 34, descriptorIndex := 35, attributes := #[] }, { accessFlags := 4122, nameIndex := 15, descriptorIndex := 16, attributes := #[] }])
  fields := #[{ name := "ALLOW", type := (.object "com/example/uni_gate/unigate/policy/Intent"), accessFlags := 16409, slot := 0, constantValue := 0 }, { name := "CONDITIONAL", type := (.object "com/example/uni_gate/unigate/policy/Intent"), accessFlags := 16409, slot := 1, constantValue := 0 }, { name := "PROHIBIT", type := (.object "com/example/uni_gate/unigate/policy/Intent"), accessFlags := 16409, slot := 2, constantValue := 0 }, { name := "policyName", type := (.object "java/lang/String"), accessFlags := 18, slot := 3, constantValue := 0 }, { name := "$VALUES", type := (.array (.object "com/example/uni_gate/unigate/policy/Intent")), accessFlags := 4122, slot := 3, constantValue := 0 }]
  methods := #[k10m0, k10m1]
  instanceTypes := #[(.object "java/lang/String"), .int, .int, (.object "java/lang/String")]
  staticTypes := #[(.object "com/example/uni_gate/unigate/policy/Intent"), (.object "com/example/uni_gate/unigate/policy/Intent"), (.object "com/example/uni_gate/unigate/policy/Intent"), (.array (.object "com/example/uni_gate/unigate/policy/Intent"))]
  resolved := Array.replicate 86 none
  statics := some 1 }

def pool11 : Array CpInfo := pool [(1, .class_ 2), (0, u "java/lang/Cloneable"), (0, .class_ 4), (0, u "java/lang/Object")] 2

/-- java/lang/Cloneable -/
def k11 : Class := { plain "java/lang/Cloneable" (some 0) with
  accessFlags := 1537
  interfaces := #[]
  cf := some (fileOf pool11 1 #[] #[] 1537 3 #[] #[])
  fields := #[]
  methods := #[]
  instanceTypes := #[]
  staticTypes := #[]
  resolved := Array.replicate 7 none
  statics := none }

def pool12 : Array CpInfo := pool [(1, .fieldref 2 3), (0, .class_ 4), (0, .nameAndType 5 6), (0, u "java/util/Optional"), (0, u "EMPTY"), (0, u "Ljava/util/Optional;"), (0, .methodref 8 9), (0, .class_ 10), (0, .nameAndType 11 12), (0, u "java/lang/Object"), (0, u "<init>"), (0, u "()V"), (0, .fieldref 2 14), (0, .nameAndType 15 16), (0, u "value"), (0, u "Ljava/lang/Object;"), (0, .methodref 18 19), (0, .class_ 20), (0, .nameAndType 21 22), (0, u "java/util/Objects"), (0, u "requireNonNull"), (0, u "(Ljava/lang/Object;)Ljava/lang/Object;"), (0, .methodref 2 24), (0, .nameAndType 11 25), (0, u "(Ljava/lang/Object;)V"), (29, u "empty"), (0, u "()Ljava/util/Optional;"), (8, u "(Ljava/lang/Object;)Ljava/util/Optional;"), (16, u "of"), (82, u "orElse")] 21

def k12c0 : Code := { maxStack := 1, maxLocals := 1, code := jdk_32_method_1_code, exceptionTable := #[], attributes := #[] }
def k12m0 : Method := { name := "empty", desc := "()Ljava/util/Optional;", sig := { parameters := [], returnType := some (.object "java/util/Optional") }, accessFlags := 9, code := some k12c0 }
def k12c1 : Code := { maxStack := 2, maxLocals := 2, code := jdk_32_method_2_code, exceptionTable := #[], attributes := #[] }
def k12m1 : Method := { name := "<init>", desc := "(Ljava/lang/Object;)V", sig := { parameters := [(.object "java/lang/Object")], returnType := none }, accessFlags := 2, code := some k12c1 }
def k12c2 : Code := { maxStack := 3, maxLocals := 1, code := jdk_32_method_3_code, exceptionTable := #[], attributes := #[] }
def k12m2 : Method := { name := "of", desc := "(Ljava/lang/Object;)Ljava/util/Optional;", sig := { parameters := [(.object "java/lang/Object")], returnType := some (.object "java/util/Optional") }, accessFlags := 9, code := some k12c2 }
def k12c3 : Code := { maxStack := 1, maxLocals := 2, code := jdk_32_method_15_code, exceptionTable := #[], attributes := #[] }
def k12m3 : Method := { name := "orElse", desc := "(Ljava/lang/Object;)Ljava/lang/Object;", sig := { parameters := [(.object "java/lang/Object")], returnType := some (.object "java/lang/Object") }, accessFlags := 1, code := some k12c3 }
/-- java/util/Optional -/
def k12 : Class := { plain "java/util/Optional" (some 0) with
  accessFlags := 49
  interfaces := #[]
  cf := some (fileOf pool12 2 #[] #[{ accessFlags := 9, nameIndex := 55, descriptorIndex := 56, attributes := #[] }, { accessFlags := 2, nameIndex := 11, descriptorIndex := 25, attributes := #[] }, { accessFlags := 9, nameIndex := 82, descriptorIndex := 65, attributes := #[] }, { accessFlags := 1, nameIndex := 165, descriptorIndex := 22, attributes := #[] }] 49 8 #[] #[{ accessFlags := 26, nameIndex := 5, descriptorIndex := 6, attributes := #[] }, { accessFlags := 18, nameIndex := 15, descriptorIndex := 16, attributes := #[] }])
  fields := #[{ name := "EMPTY", type := (.object "java/util/Optional"), accessFlags := 26, slot := 0, constantValue := 0 }, { name := "value", type := (.object "java/lang/Object"), accessFlags := 18, slot := 0, constantValue := 0 }]
  methods := #[k12m0, k12m1, k12m2, k12m3]
  instanceTypes := #[(.object "java/lang/Object")]
  staticTypes := #[(.object "java/util/Optional")]
  resolved := Array.replicate 187 none
  statics := some 2 }

def pool13 : Array CpInfo := pool [(2, .class_ 4), (1, u "java/lang/Object"), (0, u "<init>"), (0, u "()V"), (17, .class_ 26), (1, u "jdk/internal/util/Preconditions"), (6, u "checkIndex"), (21, .class_ 56), (0, u "jdk/internal/util/Preconditions$4"), (57, .class_ 115), (0, u "jdk/internal/util/Preconditions$1"), (7, u "SIOOBE_FORMATTER"), (0, u "Ljava/util/function/BiFunction;"), (0, .class_ 126), (0, u "jdk/internal/util/Preconditions$2"), (3, u "AIOOBE_FORMATTER"), (0, .class_ 132), (0, u "jdk/internal/util/Preconditions$3"), (3, u "IOOBE_FORMATTER"), (41, u "(IILjava/util/function/BiFunction;)I")] 15

def k13m0 : Method := { name := "<init>", desc := "()V", sig := { parameters := [], returnType := none }, accessFlags := 1, code := none }
def k13c1 : Code := { maxStack := 3, maxLocals := 3, code := jdk_41_method_11_code, exceptionTable := #[], attributes := #[] }
def k13m1 : Method := { name := "checkIndex", desc := "(IILjava/util/function/BiFunction;)I", sig := { parameters := [.int, .int, (.object "java/util/function/BiFunction")], returnType := some .int }, accessFlags := 9, code := some k13c1 }
/-- jdk/internal/util/Preconditions -/
def k13 : Class := { plain "jdk/internal/util/Preconditions" (some 0) with
  accessFlags := 33
  interfaces := #[]
  cf := some (fileOf pool13 24 #[.nestMembers #[55, 131, 125, 114]] #[{ accessFlags := 1, nameIndex := 5, descriptorIndex := 6, attributes := #[] }, { accessFlags := 9, nameIndex := 33, descriptorIndex := 178, attributes := #[] }] 33 2 #[] #[{ accessFlags := 25, nameIndex := 123, descriptorIndex := 124, attributes := #[] }, { accessFlags := 25, nameIndex := 130, descriptorIndex := 124, attributes := #[] }, { accessFlags := 25, nameIndex := 136, descriptorIndex := 124, attributes := #[] }])
  fields := #[{ name := "SIOOBE_FORMATTER", type := (.object "java/util/function/BiFunction"), accessFlags := 25, slot := 0, constantValue := 0 }, { name := "AIOOBE_FORMATTER", type := (.object "java/util/function/BiFunction"), accessFlags := 25, slot := 1, constantValue := 0 }, { name := "IOOBE_FORMATTER", type := (.object "java/util/function/BiFunction"), accessFlags := 25, slot := 2, constantValue := 0 }]
  methods := #[k13m0, k13m1]
  instanceTypes := #[]
  staticTypes := #[(.object "java/util/function/BiFunction"), (.object "java/util/function/BiFunction"), (.object "java/util/function/BiFunction")]
  resolved := Array.replicate 194 none
  statics := some 3 }

def pool14 : Array CpInfo := pool [(6, .class_ 8), (1, u "java/lang/Object"), (0, u "<init>"), (0, u "()V"), (1, .class_ 14), (1, u "java/lang/StringUTF16"), (31, u "$assertionsDisabled"), (0, u "Z"), (13, u "HI_BYTE_SHIFT"), (0, u "I"), (2, u "LO_BYTE_SHIFT"), (49, .methodref 12 116), (0, .nameAndType 117 118), (0, u "compress"), (0, u "([CI[BII)I"), (3, u "([CII)[B"), (138, u "coderFromArrayLen"), (0, u "([BI)B"), (106, .class_ 371), (1, u "java/lang/StringUTF16$LinesSpliterator"), (58, u "MAX_LENGTH"), (196, .class_ 628), (0, u "java/lang/StringUTF16$CodePointsSpliterator"), (0, .class_ 630), (0, u "java/lang/StringUTF16$CharsSpliterator")] 4

def k14m0 : Method := { name := "<init>", desc := "()V", sig := { parameters := [], returnType := none }, accessFlags := 0, code := none }
def k14c1 : Code := { maxStack := 2, maxLocals := 2, code := jdk_52_method_15_code, exceptionTable := #[], attributes := #[] }
def k14m1 : Method := { name := "coderFromArrayLen", desc := "([BI)B", sig := { parameters := [(.array .byte), .int], returnType := some .byte }, accessFlags := 8, code := some k14c1 }
def k14c2 : Code := { maxStack := 5, maxLocals := 6, code := jdk_52_method_16_code, exceptionTable := #[], attributes := #[] }
def k14m2 : Method := { name := "compress", desc := "([CII)[B", sig := { parameters := [(.array .char), .int, .int], returnType := some (.array .byte) }, accessFlags := 9, code := some k14c2 }
def k14c3 : Code := { maxStack := 3, maxLocals := 7, code := jdk_52_method_21_code, exceptionTable := #[], attributes := #[] }
def k14m3 : Method := { name := "compress", desc := "([CI[BII)I", sig := { parameters := [(.array .char), .int, (.array .byte), .int, .int], returnType := some .int }, accessFlags := 9, code := some k14c3 }
/-- java/lang/StringUTF16 -/
def k14 : Class := { plain "java/lang/StringUTF16" (some 0) with
  accessFlags := 48
  interfaces := #[]
  cf := some (fileOf pool14 12 #[.nestMembers #[627, 629, 369]] #[{ accessFlags := 0, nameIndex := 9, descriptorIndex := 10, attributes := #[] }, { accessFlags := 8, nameIndex := 261, descriptorIndex := 262, attributes := #[] }, { accessFlags := 9, nameIndex := 117, descriptorIndex := 122, attributes := #[] }, { accessFlags := 9, nameIndex := 117, descriptorIndex := 118, attributes := #[] }] 48 6 #[] #[{ accessFlags := 26, nameIndex := 61, descriptorIndex := 62, attributes := #[] }, { accessFlags := 26, nameIndex := 65, descriptorIndex := 62, attributes := #[] }, { accessFlags := 24, nameIndex := 430, descriptorIndex := 62, attributes := #[] }, { accessFlags := 4120, nameIndex := 46, descriptorIndex := 47, attributes := #[] }])
  fields := #[{ name := "HI_BYTE_SHIFT", type := .int, accessFlags := 26, slot := 0, constantValue := 0 }, { name := "LO_BYTE_SHIFT", type := .int, accessFlags := 26, slot := 1, constantValue := 0 }, { name := "MAX_LENGTH", type := .int, accessFlags := 24, slot := 2, constantValue := 0 }, { name := "$assertionsDisabled", type := .boolean, accessFlags := 4120, slot := 3, constantValue := 0 }]
  methods := #[k14m0, k14m1, k14m2, k14m3]
  instanceTypes := #[]
  staticTypes := #[.int, .int, .int, .boolean]
  resolved := Array.replicate 635 none
  statics := none }

def pool15 : Array CpInfo := pool [(2, .class_ 4), (1, u "java/lang/Object"), (0, u "<init>"), (0, u "()V"), (35, .class_ 44), (1, u "java/util/Objects"), (0, u "requireNonNull"), (0, u "(Ljava/lang/Object;)Ljava/lang/Object;")] 137

def k15m0 : Method := { name := "<init>", desc := "()V", sig := { parameters := [], returnType := none }, accessFlags := 2, code := none }
def k15c1 : Code := { maxStack := 2, maxLocals := 1, code := jdk_31_method_10_code, exceptionTable := #[], attributes := #[] }
def k15m1 : Method := { name := "requireNonNull", desc := "(Ljava/lang/Object;)Ljava/lang/Object;", sig := { parameters := [(.object "java/lang/Object")], returnType := some (.object "java/lang/Object") }, accessFlags := 9, code := some k15c1 }
/-- java/util/Objects -/
def k15 : Class := { plain "java/util/Objects" (some 0) with
  accessFlags := 49
  interfaces := #[]
  cf := some (fileOf pool15 42 #[] #[{ accessFlags := 2, nameIndex := 5, descriptorIndex := 6, attributes := #[] }, { accessFlags := 9, nameIndex := 45, descriptorIndex := 46, attributes := #[] }] 49 2 #[] #[])
  fields := #[]
  methods := #[k15m0, k15m1]
  instanceTypes := #[]
  staticTypes := #[]
  resolved := Array.replicate 184 none
  statics := none }

def pool16 : Array CpInfo := pool [(1, .class_ 2), (0, u "java/lang/Math"), (1, .class_ 6), (1, u "java/lang/Object"), (0, u "<init>"), (0, u "()V"), (89, .class_ 100), (1, u "java/lang/Math$RandomNumberGeneratorHolder"), (71, u "negativeZeroFloatBits"), (0, u "J"), (2, u "negativeZeroDoubleBits"), (21, u "max"), (46, u "$assertionsDisabled"), (0, u "Z"), (88, u "(II)I"), (2, u "twoToTheDoubleScaleDown"), (0, u "D"), (4, u "twoToTheDoubleScaleUp"), (9, u "E"), (3, u "PI"), (2, u "TAU"), (2, u "DEGREES_TO_RADIANS"), (0, u "RADIANS_TO_DEGREES")] 94

def k16m0 : Method := { name := "<init>", desc := "()V", sig := { parameters := [], returnType := none }, accessFlags := 2, code := none }
def k16c1 : Code := { maxStack := 2, maxLocals := 2, code := jdk_29_method_65_code, exceptionTable := #[], attributes := #[] }
def k16m1 : Method := { name := "max", desc := "(II)I", sig := { parameters := [.int, .int], returnType := some .int }, accessFlags := 9, code := some k16c1 }
/-- java/lang/Math -/
def k16 : Class := { plain "java/lang/Math" (some 0) with
  accessFlags := 49
  interfaces := #[]
  cf := some (fileOf pool16 1 #[.nestMembers #[98]] #[{ accessFlags := 2, nameIndex := 7, descriptorIndex := 8, attributes := #[] }, { accessFlags := 9, nameIndex := 198, descriptorIndex := 335, attributes := #[] }] 49 4 #[] #[{ accessFlags := 25, nameIndex := 354, descriptorIndex := 339, attributes := #[] }, { accessFlags := 25, nameIndex := 358, descriptorIndex := 339, attributes := #[] }, { accessFlags := 25, nameIndex := 361, descriptorIndex := 339, attributes := #[] }, { accessFlags := 26, nameIndex := 364, descriptorIndex := 339, attributes := #[] }, { accessFlags := 26, nameIndex := 365, descriptorIndex := 339, attributes := #[] }, { accessFlags := 26, nameIndex := 172, descriptorIndex := 173, attributes := #[] }, { accessFlags := 26, nameIndex := 176, descriptorIndex := 173, attributes := #[] }, { accessFlags := 8, nameIndex := 344, descriptorIndex := 339, attributes := #[] }, { accessFlags := 8, nameIndex := 338, descriptorIndex := 339, attributes := #[] }, { accessFlags := 4120, nameIndex := 245, descriptorIndex := 246, attributes := #[] }])
  fields := #[{ name := "E", type := .double, accessFlags := 25, slot := 0, constantValue := 0 }, { name := "PI", type := .double, accessFlags := 25, slot := 1, constantValue := 0 }, { name := "TAU", type := .double, accessFlags := 25, slot := 2, constantValue := 0 }, { name := "DEGREES_TO_RADIANS", type := .double, accessFlags := 26, slot := 3, constantValue := 0 }, { name := "RADIANS_TO_DEGREES", type := .double, accessFlags := 26, slot := 4, constantValue := 0 }, { name := "negativeZeroFloatBits", type := .long, accessFlags := 26, slot := 5, constantValue := 0 }, { name := "negativeZeroDoubleBits", type := .long, accessFlags := 26, slot := 6, constantValue := 0 }, { name := "twoToTheDoubleScaleUp", type := .double, accessFlags := 8, slot := 7, constantValue := 0 }, { name := "twoToTheDoubleScaleDown", type := .double, accessFlags := 8, slot := 8, constantValue := 0 }, { name := "$assertionsDisabled", type := .boolean, accessFlags := 4120, slot := 9, constantValue := 0 }]
  methods := #[k16m0, k16m1]
  instanceTypes := #[]
  staticTypes := #[.double, .double, .double, .double, .double, .long, .long, .double, .double, .boolean]
  resolved := Array.replicate 460 none
  statics := none }

def pool17 : Array CpInfo := pool [(9, u "<init>"), (6, .class_ 18), (1, u "java/lang/Object"), (0, u "()V"), (1, .class_ 23), (1, u "jdk/internal/util/ArraysSupport"), (0, u "LOG2_ARRAY_LONG_INDEX_SCALE"), (0, u "I"), (2, u "U"), (0, u "Ljdk/internal/misc/Unsafe;"), (8, u "BIG_ENDIAN"), (0, u "Z"), (8, u "LOG2_BYTE_BIT_SIZE"), (4, u "LOG2_ARRAY_INT_INDEX_SCALE"), (54, u "JLA"), (0, u "Ljdk/internal/access/JavaLangAccess;"), (11, u "LOG2_ARRAY_BOOLEAN_INDEX_SCALE"), (9, u "LOG2_ARRAY_BYTE_INDEX_SCALE"), (5, u "LOG2_ARRAY_CHAR_INDEX_SCALE"), (5, u "LOG2_ARRAY_SHORT_INDEX_SCALE"), (18, u "LOG2_ARRAY_FLOAT_INDEX_SCALE"), (24, u "LOG2_ARRAY_DOUBLE_INDEX_SCALE"), (89, u "T_BOOLEAN"), (2, u "T_CHAR"), (1, u "T_FLOAT"), (1, u "T_DOUBLE"), (1, u "T_BYTE"), (1, u "T_SHORT"), (1, u "T_INT"), (1, u "T_LONG"), (1, u "SOFT_MAX_ARRAY_LENGTH")] 83

def k17m0 : Method := { name := "<init>", desc := "()V", sig := { parameters := [], returnType := none }, accessFlags := 2, code := none }
/-- jdk/internal/util/ArraysSupport -/
def k17 : Class := { plain "jdk/internal/util/ArraysSupport" (some 0) with
  accessFlags := 33
  interfaces := #[]
  cf := some (fileOf pool17 21 #[] #[{ accessFlags := 2, nameIndex := 9, descriptorIndex := 19, attributes := #[] }] 33 16 #[] #[{ accessFlags := 24, nameIndex := 28, descriptorIndex := 29, attributes := #[] }, { accessFlags := 26, nameIndex := 38, descriptorIndex := 39, attributes := #[] }, { accessFlags := 25, nameIndex := 121, descriptorIndex := 25, attributes := #[] }, { accessFlags := 25, nameIndex := 131, descriptorIndex := 25, attributes := #[] }, { accessFlags := 25, nameIndex := 137, descriptorIndex := 25, attributes := #[] }, { accessFlags := 25, nameIndex := 143, descriptorIndex := 25, attributes := #[] }, { accessFlags := 25, nameIndex := 53, descriptorIndex := 25, attributes := #[] }, { accessFlags := 25, nameIndex := 24, descriptorIndex := 25, attributes := #[] }, { accessFlags := 25, nameIndex := 162, descriptorIndex := 25, attributes := #[] }, { accessFlags := 25, nameIndex := 187, descriptorIndex := 25, attributes := #[] }, { accessFlags := 26, nameIndex := 48, descriptorIndex := 25, attributes := #[] }, { accessFlags := 25, nameIndex := 277, descriptorIndex := 25, attributes := #[] }, { accessFlags := 25, nameIndex := 280, descriptorIndex := 25, attributes := #[] }, { accessFlags := 25, nameIndex := 282, descriptorIndex := 25, attributes := #[] }, { accessFlags := 25, nameIndex := 284, descriptorIndex := 25, attributes := #[] }, { accessFlags := 25, nameIndex := 286, descriptorIndex := 25, attributes := #[] }, { accessFlags := 25, nameIndex := 288, descriptorIndex := 25, attributes := #[] }, { accessFlags := 25, nameIndex := 290, descriptorIndex := 25, attributes := #[] }, { accessFlags := 25, nameIndex := 292, descriptorIndex := 25, attributes := #[] }, { accessFlags := 26, nameIndex := 108, descriptorIndex := 109, attributes := #[] }, { accessFlags := 25, nameIndex := 294, descriptorIndex := 25, attributes := #[] }])
  fields := #[{ name := "U", type := (.object "jdk/internal/misc/Unsafe"), accessFlags := 24, slot := 0, constantValue := 0 }, { name := "BIG_ENDIAN", type := .boolean, accessFlags := 26, slot := 1, constantValue := 0 }, { name := "LOG2_ARRAY_BOOLEAN_INDEX_SCALE", type := .int, accessFlags := 25, slot := 2, constantValue := 0 }, { name := "LOG2_ARRAY_BYTE_INDEX_SCALE", type := .int, accessFlags := 25, slot := 3, constantValue := 0 }, { name := "LOG2_ARRAY_CHAR_INDEX_SCALE", type := .int, accessFlags := 25, slot := 4, constantValue := 0 }, { name := "LOG2_ARRAY_SHORT_INDEX_SCALE", type := .int, accessFlags := 25, slot := 5, constantValue := 0 }, { name := "LOG2_ARRAY_INT_INDEX_SCALE", type := .int, accessFlags := 25, slot := 6, constantValue := 0 }, { name := "LOG2_ARRAY_LONG_INDEX_SCALE", type := .int, accessFlags := 25, slot := 7, constantValue := 0 }, { name := "LOG2_ARRAY_FLOAT_INDEX_SCALE", type := .int, accessFlags := 25, slot := 8, constantValue := 0 }, { name := "LOG2_ARRAY_DOUBLE_INDEX_SCALE", type := .int, accessFlags := 25, slot := 9, constantValue := 0 }, { name := "LOG2_BYTE_BIT_SIZE", type := .int, accessFlags := 26, slot := 10, constantValue := 0 }, { name := "T_BOOLEAN", type := .int, accessFlags := 25, slot := 11, constantValue := 0 }, { name := "T_CHAR", type := .int, accessFlags := 25, slot := 12, constantValue := 0 }, { name := "T_FLOAT", type := .int, accessFlags := 25, slot := 13, constantValue := 0 }, { name := "T_DOUBLE", type := .int, accessFlags := 25, slot := 14, constantValue := 0 }, { name := "T_BYTE", type := .int, accessFlags := 25, slot := 15, constantValue := 0 }, { name := "T_SHORT", type := .int, accessFlags := 25, slot := 16, constantValue := 0 }, { name := "T_INT", type := .int, accessFlags := 25, slot := 17, constantValue := 0 }, { name := "T_LONG", type := .int, accessFlags := 25, slot := 18, constantValue := 0 }, { name := "JLA", type := (.object "jdk/internal/access/JavaLangAccess"), accessFlags := 26, slot := 19, constantValue := 0 }, { name := "SOFT_MAX_ARRAY_LENGTH", type := .int, accessFlags := 25, slot := 20, constantValue := 0 }]
  methods := #[k17m0]
  instanceTypes := #[]
  staticTypes := #[(.object "jdk/internal/misc/Unsafe"), .boolean, .int, .int, .int, .int, .int, .int, .int, .int, .int, .int, .int, .int, .int, .int, .int, .int, .int, (.object "jdk/internal/access/JavaLangAccess"), .int]
  resolved := Array.replicate 378 none
  statics := none }

/-- the primitive byte -/
def k18 : Class := { plain "byte" none with kind := .primitive 'B', accessFlags := 0x411 }
/-- [B -/
def k19 : Class := { plain "[B" (some 0) with kind := .array 18 .byte, interfaces := #[11, 2], accessFlags := 1041 }

/-- the primitive char -/
def k20 : Class := { plain "char" none with kind := .primitive 'C', accessFlags := 0x411 }
/-- [C -/
def k21 : Class := { plain "[C" (some 0) with kind := .array 20 .char, interfaces := #[11, 2], accessFlags := 1041 }

/-- the primitive int -/
def k22 : Class := { plain "int" none with kind := .primitive 'I', accessFlags := 0x411 }
/-- [I -/
def k23 : Class := { plain "[I" (some 0) with kind := .array 22 .int, interfaces := #[11, 2], accessFlags := 1041 }

/-- [Lcom/example/uni_gate/unigate/policy/Intent; -/
def k24 : Class := { plain "[Lcom/example/uni_gate/unigate/policy/Intent;" (some 0) with kind := .array 10 (.object "com/example/uni_gate/unigate/policy/Intent"), interfaces := #[11, 2], accessFlags := 1041 }

def heap : Heap := #[{ cls := 7, slots := #[.long 0, .int 1, .null, .int 0, .null, .int 0, .int 0], vm := .statics 7 },
  { cls := 10, slots := #[.ref 11, .ref 12, .ref 13, .ref 4], vm := .statics 10 },
  { cls := 12, slots := #[.ref 14], vm := .statics 12 },
  { cls := 13, slots := #[.null, .null, .null], vm := .statics 13 },
  { cls := 24, slots := #[.ref 11, .ref 12, .ref 13], vm := .none },
  { cls := 19, slots := #[.int 97, .int 108, .int 108, .int 111, .int 119], vm := .none },
  { cls := 19, slots := #[.int 99, .int 111, .int 110, .int 100, .int 105, .int 116, .int 105, .int 111, .int 110, .int 97, .int 108], vm := .none },
  { cls := 19, slots := #[.int 112, .int 114, .int 111, .int 104, .int 105, .int 98, .int 105, .int 116], vm := .none },
  { cls := 7, slots := #[.ref 5, .int 0, .int 0, .int 0], vm := .none },
  { cls := 7, slots := #[.ref 6, .int 0, .int 0, .int 0], vm := .none },
  { cls := 7, slots := #[.ref 7, .int 0, .int 0, .int 0], vm := .none },
  { cls := 10, slots := #[.null, .int 0, .int 0, .ref 8], vm := .none },
  { cls := 10, slots := #[.null, .int 1, .int 0, .ref 9], vm := .none },
  { cls := 10, slots := #[.null, .int 2, .int 0, .ref 10], vm := .none },
  { cls := 12, slots := #[.null], vm := .none }]
def classes : Array Class := #[k0, k1, k2, k3, k4, k5, k6, k7, k8, k9, k10, k11, k12, k13, k14, k15, k16, k17, k18, k19, k20, k21, k22, k23, k24]
def interned : List (Array UInt16 × Addr) := []
def slotsUsed : Nat := 67
def theMethod : MethodId := ⟨1, 2⟩
def args0 : Array Value := #[.int 1, .int 7, .int 5, .int 7]
def aboutOver (below : List Frame) : State where
  vm := { classes := classes, interned := interned.toArray }
  heap := heap
  slotsUsed := slotsUsed
  threads := #[{ frames := .invoking theMethod args0 :: below }]
def below0 : List Frame := [.native { method := ⟨0, 0⟩, args := #[] }]
def about1 : State := aboutOver below0
def p0 : Program := .bare "" "" ""
def e0 : Env := launch0.env 0 0 0
theorem w_frames : about1.frames = Frame.invoking theMethod args0 :: below0 := rfl
set_option maxRecDepth 65536 in
theorem w_args : argsFit about1.vm theMethod args0 = true := by decide +kernel
set_option maxRecDepth 65536 in
theorem w_heap : heapFits about1 = true := by decide +kernel
set_option maxRecDepth 65536 in
theorem w_runnable : about1.curStatus? = some .runnable := by decide +kernel
set_option maxRecDepth 65536 in
theorem w_alone : about1.alone = true := by decide +kernel
set_option maxRecDepth 65536 in
theorem w_named : about1.methodNamed? x = some theMethod := by decide +kernel
set_option maxRecDepth 65536 in
theorem w_hears : about1.hears theMethod below0 = true := by decide +kernel
set_option maxRecDepth 65536 in
theorem w_ripe : about1.ripe theMethod args0 below0 = true := by decide +kernel
theorem w_running : about1.status = .running := rfl
set_option maxRecDepth 65536 in
theorem w_room : about1.hasRoom e0.platform room_1 = true :=
  launch0.hasRoom_least _ room_1 (by decide +kernel) (by decide +kernel) (by decide +kernel) (by decide +kernel) (by decide +kernel) (by decide +kernel)
theorem allAtoms_all (ts : List Jvm.Cond) (a : Array Jvm.Value) (st : Jvm.State) : (allAtoms ts).before a st = ts.all (fun c => c.before a st) := by
  induction ts with
  | nil => rfl
  | cons c t ih =>
    show (Jvm.Cond.and c (allAtoms t)).before a st = _
    rw [Jvm.Cond.before_and, ih, List.all_cons]
def words1 : List Jvm.Cond := Jvm.Cond.code x code maxLocals ret :: tables_1
/-- a 'code' word, met by the world's own term for the bytes: nothing is compared byte by byte -/
theorem code_word {y : MethodName} {bytes : ByteArray} {mx : Nat} {rt : Option FieldType} {a : Array Value} {s : State} {m : MethodId} {meth : Method} {c : Code} (h1 : s.methodNamed? y = some m) (h2 : s.vm.method? m = some meth) (h3 : meth.code = some c) (h4 : c.code = bytes)
    (h5 : (c.maxLocals == mx && c.exceptionTable.isEmpty && decide (c.maxStack ≤ mostOperands) && decide (meth.sig.returnType = rt) && !meth.locks && decide (parseMethodDescriptor y.desc = some meth.sig)) = true) : (Jvm.Cond.code y bytes mx rt).before a s = true := by
  simp only [Bool.and_eq_true, beq_iff_eq, Bool.not_eq_true', decide_eq_true_eq] at h5
  obtain ⟨⟨⟨⟨⟨g1, g2⟩, g3⟩, g4⟩, g5⟩, g6⟩ := h5
  simp [Cond.before, Cond.holds, Cond.value, h1, h2, h3, h4, g1, g2, g3, g4, g5, g6]
def isCode : Jvm.Cond → Bool
  | .code _ _ _ _ => true
  | _ => false
theorem all_split {L : List Jvm.Cond} {P : Jvm.Cond → Bool} (h1 : L.all (fun c => isCode c || P c) = true) (h2 : ∀ c ∈ L.filter isCode, P c = true) : L.all P = true := by
  refine List.all_eq_true.mpr fun c hc => ?_
  have h := List.all_eq_true.mp h1 c hc
  rcases Bool.eq_false_or_eq_true (isCode c) with hi | hi
  · exact h2 c (List.mem_filter.mpr ⟨hc, hi⟩)
  · simpa [hi] using h
set_option maxRecDepth 65536 in
theorem w_c0 : (Jvm.Cond.code x code maxLocals ret).before args0 about1 = true := code_word (m := ⟨1, 2⟩) (meth := k1m2) (c := k1c2) (by decide +kernel) rfl rfl rfl (by decide +kernel)
set_option maxRecDepth 65536 in
theorem w_c1 : (Jvm.Cond.code ({ cls := "java/lang/String", name := "length", desc := "()I" } : Jvm.MethodName) jdk_42_method_54_code (1 : Nat) (Option.some Jvm.ClassFile.FieldType.int)).before args0 about1 = true := code_word (m := ⟨7, 2⟩) (meth := k7m2) (c := k7c2) (by decide +kernel) rfl rfl rfl (by decide +kernel)
set_option maxRecDepth 65536 in
theorem w_c2 : (Jvm.Cond.code ({ cls := "java/lang/String", name := "coder", desc := "()B" } : Jvm.MethodName) jdk_42_method_152_code (1 : Nat) (Option.some Jvm.ClassFile.FieldType.byte)).before args0 about1 = true := code_word (m := ⟨7, 6⟩) (meth := k7m6) (c := k7c6) (by decide +kernel) rfl rfl rfl (by decide +kernel)
set_option maxRecDepth 65536 in
theorem w_c3 : (Jvm.Cond.code ({ cls := "java/lang/String", name := "<init>", desc := "([C)V" } : Jvm.MethodName) jdk_42_method_3_code (2 : Nat) (Option.none : Option Jvm.ClassFile.FieldType)).before args0 about1 = true := code_word (m := ⟨7, 1⟩) (meth := k7m1) (c := k7c1) (by decide +kernel) rfl rfl rfl (by decide +kernel)
set_option maxRecDepth 65536 in
theorem w_c4 : (Jvm.Cond.code ({ cls := "java/lang/String", name := "<init>", desc := "([CIILjava/lang/Void;)V" } : Jvm.MethodName) jdk_42_method_149_code (6 : Nat) (Option.none : Option Jvm.ClassFile.FieldType)).before args0 about1 = true := code_word (m := ⟨7, 5⟩) (meth := k7m5) (c := k7c5) (by decide +kernel) rfl rfl rfl (by decide +kernel)
set_option maxRecDepth 65536 in
theorem w_c5 : (Jvm.Cond.code ({ cls := "java/lang/Object", name := "<init>", desc := "()V" } : Jvm.MethodName) object_method_1_code (1 : Nat) (Option.none : Option Jvm.ClassFile.FieldType)).before args0 about1 = true := code_word (m := ⟨0, 0⟩) (meth := k0m0) (c := k0c0) (by decide +kernel) rfl rfl rfl (by decide +kernel)
set_option maxRecDepth 65536 in
theorem w_c6 : (Jvm.Cond.code ({ cls := "java/lang/String", name := "equals", desc := "(Ljava/lang/Object;)Z" } : Jvm.MethodName) jdk_42_method_66_code (3 : Nat) (Option.some Jvm.ClassFile.FieldType.boolean)).before args0 about1 = true := code_word (m := ⟨7, 4⟩) (meth := k7m4) (c := k7c4) (by decide +kernel) rfl rfl rfl (by decide +kernel)
set_option maxRecDepth 65536 in
theorem w_c7 : (Jvm.Cond.code ({ cls := "java/lang/StringLatin1", name := "equals", desc := "([B[B)Z" } : Jvm.MethodName) jdk_43_method_13_code (3 : Nat) (Option.some Jvm.ClassFile.FieldType.boolean)).before args0 about1 = true := code_word (m := ⟨8, 2⟩) (meth := k8m2) (c := k8c2) (by decide +kernel) rfl rfl rfl (by decide +kernel)
set_option maxRecDepth 65536 in
theorem w_c8 : (Jvm.Cond.code ({ cls := "com/example/uni_gate/unigate/policy/Intent", name := "fromPolicyName", desc := "(Ljava/lang/String;)Ljava/util/Optional;" } : Jvm.MethodName) prog_14_method_4_code (5 : Nat) (Option.some (Jvm.ClassFile.FieldType.object "java/util/Optional"))).before args0 about1 = true := code_word (m := ⟨10, 1⟩) (meth := k10m1) (c := k10c1) (by decide +kernel) rfl rfl rfl (by decide +kernel)
set_option maxRecDepth 65536 in
theorem w_c9 : (Jvm.Cond.code ({ cls := "com/example/uni_gate/unigate/policy/Intent", name := "values", desc := "()[Lcom/example/uni_gate/unigate/policy/Intent;" } : Jvm.MethodName) prog_14_method_1_code (0 : Nat) (Option.some (Jvm.ClassFile.FieldType.array (Jvm.ClassFile.FieldType.object "com/example/uni_gate/unigate/policy/Intent")))).before args0 about1 = true := code_word (m := ⟨10, 0⟩) (meth := k10m0) (c := k10c0) (by decide +kernel) rfl rfl rfl (by decide +kernel)
set_option maxRecDepth 65536 in
theorem w_c10 : (Jvm.Cond.code ({ cls := "java/util/Optional", name := "empty", desc := "()Ljava/util/Optional;" } : Jvm.MethodName) jdk_32_method_1_code (1 : Nat) (Option.some (Jvm.ClassFile.FieldType.object "java/util/Optional"))).before args0 about1 = true := code_word (m := ⟨12, 0⟩) (meth := k12m0) (c := k12c0) (by decide +kernel) rfl rfl rfl (by decide +kernel)
set_option maxRecDepth 65536 in
theorem w_c11 : (Jvm.Cond.code ({ cls := "java/util/Optional", name := "orElse", desc := "(Ljava/lang/Object;)Ljava/lang/Object;" } : Jvm.MethodName) jdk_32_method_15_code (2 : Nat) (Option.some (Jvm.ClassFile.FieldType.object "java/lang/Object"))).before args0 about1 = true := code_word (m := ⟨12, 3⟩) (meth := k12m3) (c := k12c3) (by decide +kernel) rfl rfl rfl (by decide +kernel)
set_option maxRecDepth 65536 in
theorem w_c12 : (Jvm.Cond.code ({ cls := "com/example/uni_gate/unigate/policy/IntentFromPolicyNamePinLaw", name := "at", desc := "(Ljava/lang/String;IICC)C" } : Jvm.MethodName) method_2_code (5 : Nat) (Option.some Jvm.ClassFile.FieldType.char)).before args0 about1 = true := code_word (m := ⟨1, 1⟩) (meth := k1m1) (c := k1c1) (by decide +kernel) rfl rfl rfl (by decide +kernel)
set_option maxRecDepth 65536 in
theorem w_c13 : (Jvm.Cond.code ({ cls := "java/lang/String", name := "charAt", desc := "(I)C" } : Jvm.MethodName) jdk_42_method_56_code (2 : Nat) (Option.some Jvm.ClassFile.FieldType.char)).before args0 about1 = true := code_word (m := ⟨7, 3⟩) (meth := k7m3) (c := k7c3) (by decide +kernel) rfl rfl rfl (by decide +kernel)
set_option maxRecDepth 65536 in
theorem w_c14 : (Jvm.Cond.code ({ cls := "java/lang/String", name := "isLatin1", desc := "()Z" } : Jvm.MethodName) jdk_42_method_154_code (1 : Nat) (Option.some Jvm.ClassFile.FieldType.boolean)).before args0 about1 = true := code_word (m := ⟨7, 7⟩) (meth := k7m7) (c := k7c7) (by decide +kernel) rfl rfl rfl (by decide +kernel)
set_option maxRecDepth 65536 in
theorem w_c15 : (Jvm.Cond.code ({ cls := "java/lang/StringLatin1", name := "charAt", desc := "([BI)C" } : Jvm.MethodName) jdk_43_method_2_code (2 : Nat) (Option.some Jvm.ClassFile.FieldType.char)).before args0 about1 = true := code_word (m := ⟨8, 1⟩) (meth := k8m1) (c := k8c1) (by decide +kernel) rfl rfl rfl (by decide +kernel)
set_option maxRecDepth 65536 in
theorem w_c16 : (Jvm.Cond.code ({ cls := "java/lang/String", name := "checkIndex", desc := "(II)V" } : Jvm.MethodName) jdk_42_method_155_code (2 : Nat) (Option.none : Option Jvm.ClassFile.FieldType)).before args0 about1 = true := code_word (m := ⟨7, 8⟩) (meth := k7m8) (c := k7c8) (by decide +kernel) rfl rfl rfl (by decide +kernel)
set_option maxRecDepth 65536 in
theorem w_c17 : (Jvm.Cond.code ({ cls := "jdk/internal/util/Preconditions", name := "checkIndex", desc := "(IILjava/util/function/BiFunction;)I" } : Jvm.MethodName) jdk_41_method_11_code (3 : Nat) (Option.some Jvm.ClassFile.FieldType.int)).before args0 about1 = true := code_word (m := ⟨13, 1⟩) (meth := k13m1) (c := k13c1) (by decide +kernel) rfl rfl rfl (by decide +kernel)
set_option maxRecDepth 65536 in
theorem w_c18 : (Jvm.Cond.code ({ cls := "java/lang/StringUTF16", name := "compress", desc := "([CII)[B" } : Jvm.MethodName) jdk_52_method_16_code (6 : Nat) (Option.some (Jvm.ClassFile.FieldType.array Jvm.ClassFile.FieldType.byte))).before args0 about1 = true := code_word (m := ⟨14, 2⟩) (meth := k14m2) (c := k14c2) (by decide +kernel) rfl rfl rfl (by decide +kernel)
set_option maxRecDepth 65536 in
theorem w_c19 : (Jvm.Cond.code ({ cls := "java/lang/StringUTF16", name := "compress", desc := "([CI[BII)I" } : Jvm.MethodName) jdk_52_method_21_code (7 : Nat) (Option.some Jvm.ClassFile.FieldType.int)).before args0 about1 = true := code_word (m := ⟨14, 3⟩) (meth := k14m3) (c := k14c3) (by decide +kernel) rfl rfl rfl (by decide +kernel)
set_option maxRecDepth 65536 in
theorem w_c20 : (Jvm.Cond.code ({ cls := "java/lang/StringUTF16", name := "coderFromArrayLen", desc := "([BI)B" } : Jvm.MethodName) jdk_52_method_15_code (2 : Nat) (Option.some Jvm.ClassFile.FieldType.byte)).before args0 about1 = true := code_word (m := ⟨14, 1⟩) (meth := k14m1) (c := k14c1) (by decide +kernel) rfl rfl rfl (by decide +kernel)
set_option maxRecDepth 65536 in
theorem w_c21 : (Jvm.Cond.code ({ cls := "java/util/Optional", name := "of", desc := "(Ljava/lang/Object;)Ljava/util/Optional;" } : Jvm.MethodName) jdk_32_method_3_code (1 : Nat) (Option.some (Jvm.ClassFile.FieldType.object "java/util/Optional"))).before args0 about1 = true := code_word (m := ⟨12, 2⟩) (meth := k12m2) (c := k12c2) (by decide +kernel) rfl rfl rfl (by decide +kernel)
set_option maxRecDepth 65536 in
theorem w_c22 : (Jvm.Cond.code ({ cls := "java/util/Objects", name := "requireNonNull", desc := "(Ljava/lang/Object;)Ljava/lang/Object;" } : Jvm.MethodName) jdk_31_method_10_code (1 : Nat) (Option.some (Jvm.ClassFile.FieldType.object "java/lang/Object"))).before args0 about1 = true := code_word (m := ⟨15, 1⟩) (meth := k15m1) (c := k15c1) (by decide +kernel) rfl rfl rfl (by decide +kernel)
set_option maxRecDepth 65536 in
theorem w_c23 : (Jvm.Cond.code ({ cls := "java/util/Optional", name := "<init>", desc := "(Ljava/lang/Object;)V" } : Jvm.MethodName) jdk_32_method_2_code (2 : Nat) (Option.none : Option Jvm.ClassFile.FieldType)).before args0 about1 = true := code_word (m := ⟨12, 1⟩) (meth := k12m1) (c := k12c1) (by decide +kernel) rfl rfl rfl (by decide +kernel)
set_option maxRecDepth 65536 in
theorem w_c24 : (Jvm.Cond.code ({ cls := "java/lang/Math", name := "max", desc := "(II)I" } : Jvm.MethodName) jdk_29_method_65_code (2 : Nat) (Option.some Jvm.ClassFile.FieldType.int)).before args0 about1 = true := code_word (m := ⟨16, 1⟩) (meth := k16m1) (c := k16c1) (by decide +kernel) rfl rfl rfl (by decide +kernel)
def codes1 : List Jvm.Cond := [Jvm.Cond.code x code maxLocals ret, Jvm.Cond.code ({ cls := "java/lang/String", name := "length", desc := "()I" } : Jvm.MethodName) jdk_42_method_54_code (1 : Nat) (Option.some Jvm.ClassFile.FieldType.int), Jvm.Cond.code ({ cls := "java/lang/String", name := "coder", desc := "()B" } : Jvm.MethodName) jdk_42_method_152_code (1 : Nat) (Option.some Jvm.ClassFile.FieldType.byte), Jvm.Cond.code ({ cls := "java/lang/String", name := "<init>", desc := "([C)V" } : Jvm.MethodName) jdk_42_method_3_code (2 : Nat) (Option.none : Option Jvm.ClassFile.FieldType), Jvm.Cond.code ({ cls := "java/lang/String", name := "<init>", desc := "([CIILjava/lang/Void;)V" } : Jvm.MethodName) jdk_42_method_149_code (6 : Nat) (Option.none : Option Jvm.ClassFile.FieldType), Jvm.Cond.code ({ cls := "java/lang/Object", name := "<init>", desc := "()V" } : Jvm.MethodName) object_method_1_code (1 : Nat) (Option.none : Option Jvm.ClassFile.FieldType), Jvm.Cond.code ({ cls := "java/lang/String", name := "equals", desc := "(Ljava/lang/Object;)Z" } : Jvm.MethodName) jdk_42_method_66_code (3 : Nat) (Option.some Jvm.ClassFile.FieldType.boolean), Jvm.Cond.code ({ cls := "java/lang/StringLatin1", name := "equals", desc := "([B[B)Z" } : Jvm.MethodName) jdk_43_method_13_code (3 : Nat) (Option.some Jvm.ClassFile.FieldType.boolean), Jvm.Cond.code ({ cls := "com/example/uni_gate/unigate/policy/Intent", name := "fromPolicyName", desc := "(Ljava/lang/String;)Ljava/util/Optional;" } : Jvm.MethodName) prog_14_method_4_code (5 : Nat) (Option.some (Jvm.ClassFile.FieldType.object "java/util/Optional")), Jvm.Cond.code ({ cls := "com/example/uni_gate/unigate/policy/Intent", name := "values", desc := "()[Lcom/example/uni_gate/unigate/policy/Intent;" } : Jvm.MethodName) prog_14_method_1_code (0 : Nat) (Option.some (Jvm.ClassFile.FieldType.array (Jvm.ClassFile.FieldType.object "com/example/uni_gate/unigate/policy/Intent"))), Jvm.Cond.code ({ cls := "java/util/Optional", name := "empty", desc := "()Ljava/util/Optional;" } : Jvm.MethodName) jdk_32_method_1_code (1 : Nat) (Option.some (Jvm.ClassFile.FieldType.object "java/util/Optional")), Jvm.Cond.code ({ cls := "java/util/Optional", name := "orElse", desc := "(Ljava/lang/Object;)Ljava/lang/Object;" } : Jvm.MethodName) jdk_32_method_15_code (2 : Nat) (Option.some (Jvm.ClassFile.FieldType.object "java/lang/Object")), Jvm.Cond.code ({ cls := "com/example/uni_gate/unigate/policy/IntentFromPolicyNamePinLaw", name := "at", desc := "(Ljava/lang/String;IICC)C" } : Jvm.MethodName) method_2_code (5 : Nat) (Option.some Jvm.ClassFile.FieldType.char), Jvm.Cond.code ({ cls := "java/lang/String", name := "charAt", desc := "(I)C" } : Jvm.MethodName) jdk_42_method_56_code (2 : Nat) (Option.some Jvm.ClassFile.FieldType.char), Jvm.Cond.code ({ cls := "java/lang/String", name := "isLatin1", desc := "()Z" } : Jvm.MethodName) jdk_42_method_154_code (1 : Nat) (Option.some Jvm.ClassFile.FieldType.boolean), Jvm.Cond.code ({ cls := "java/lang/StringLatin1", name := "charAt", desc := "([BI)C" } : Jvm.MethodName) jdk_43_method_2_code (2 : Nat) (Option.some Jvm.ClassFile.FieldType.char), Jvm.Cond.code ({ cls := "java/lang/String", name := "checkIndex", desc := "(II)V" } : Jvm.MethodName) jdk_42_method_155_code (2 : Nat) (Option.none : Option Jvm.ClassFile.FieldType), Jvm.Cond.code ({ cls := "jdk/internal/util/Preconditions", name := "checkIndex", desc := "(IILjava/util/function/BiFunction;)I" } : Jvm.MethodName) jdk_41_method_11_code (3 : Nat) (Option.some Jvm.ClassFile.FieldType.int), Jvm.Cond.code ({ cls := "java/lang/StringUTF16", name := "compress", desc := "([CII)[B" } : Jvm.MethodName) jdk_52_method_16_code (6 : Nat) (Option.some (Jvm.ClassFile.FieldType.array Jvm.ClassFile.FieldType.byte)), Jvm.Cond.code ({ cls := "java/lang/StringUTF16", name := "compress", desc := "([CI[BII)I" } : Jvm.MethodName) jdk_52_method_21_code (7 : Nat) (Option.some Jvm.ClassFile.FieldType.int), Jvm.Cond.code ({ cls := "java/lang/StringUTF16", name := "coderFromArrayLen", desc := "([BI)B" } : Jvm.MethodName) jdk_52_method_15_code (2 : Nat) (Option.some Jvm.ClassFile.FieldType.byte), Jvm.Cond.code ({ cls := "java/util/Optional", name := "of", desc := "(Ljava/lang/Object;)Ljava/util/Optional;" } : Jvm.MethodName) jdk_32_method_3_code (1 : Nat) (Option.some (Jvm.ClassFile.FieldType.object "java/util/Optional")), Jvm.Cond.code ({ cls := "java/util/Objects", name := "requireNonNull", desc := "(Ljava/lang/Object;)Ljava/lang/Object;" } : Jvm.MethodName) jdk_31_method_10_code (1 : Nat) (Option.some (Jvm.ClassFile.FieldType.object "java/lang/Object")), Jvm.Cond.code ({ cls := "java/util/Optional", name := "<init>", desc := "(Ljava/lang/Object;)V" } : Jvm.MethodName) jdk_32_method_2_code (2 : Nat) (Option.none : Option Jvm.ClassFile.FieldType), Jvm.Cond.code ({ cls := "java/lang/Math", name := "max", desc := "(II)I" } : Jvm.MethodName) jdk_29_method_65_code (2 : Nat) (Option.some Jvm.ClassFile.FieldType.int)]
set_option maxRecDepth 65536 in
theorem codes_eq : words1.filter isCode = codes1 := rfl
theorem w_codes : ∀ c ∈ words1.filter isCode, c.before args0 about1 = true := by
  rw [codes_eq]
  intro c hc
  simp only [codes1, List.mem_cons, List.not_mem_nil, or_false] at hc
  rcases hc with rfl | rfl | rfl | rfl | rfl | rfl | rfl | rfl | rfl | rfl | rfl | rfl | rfl | rfl | rfl | rfl | rfl | rfl | rfl | rfl | rfl | rfl | rfl | rfl | rfl
  · exact w_c0
  · exact w_c1
  · exact w_c2
  · exact w_c3
  · exact w_c4
  · exact w_c5
  · exact w_c6
  · exact w_c7
  · exact w_c8
  · exact w_c9
  · exact w_c10
  · exact w_c11
  · exact w_c12
  · exact w_c13
  · exact w_c14
  · exact w_c15
  · exact w_c16
  · exact w_c17
  · exact w_c18
  · exact w_c19
  · exact w_c20
  · exact w_c21
  · exact w_c22
  · exact w_c23
  · exact w_c24
set_option maxRecDepth 65536 in
theorem w_t1 : (words1.take 24).all (fun c => isCode c || c.before args0 about1) = true := by decide +kernel
set_option maxRecDepth 65536 in
theorem w_t2 : ((words1.drop 24).take 24).all (fun c => isCode c || c.before args0 about1) = true := by decide +kernel
set_option maxRecDepth 65536 in
theorem w_t3 : (((words1.drop 24).drop 24).take 24).all (fun c => isCode c || c.before args0 about1) = true := by decide +kernel
set_option maxRecDepth 65536 in
theorem w_t4 : ((((words1.drop 24).drop 24).drop 24).take 24).all (fun c => isCode c || c.before args0 about1) = true := by decide +kernel
set_option maxRecDepth 65536 in
theorem w_t5 : (((((words1.drop 24).drop 24).drop 24).drop 24).take 24).all (fun c => isCode c || c.before args0 about1) = true := by decide +kernel
set_option maxRecDepth 65536 in
theorem w_t6 : (((((words1.drop 24).drop 24).drop 24).drop 24).drop 24).all (fun c => isCode c || c.before args0 about1) = true := by decide +kernel
theorem w_tables : (allAtoms (Jvm.Cond.code x code maxLocals ret :: tables_1)).before args0 about1 = true := by
  rw [allAtoms_all]
  show words1.all (fun c => c.before args0 about1) = true
  refine all_split ?_ w_codes
  rw [← List.take_append_drop 24 words1, List.all_append, w_t1, ← List.take_append_drop 24 (words1.drop 24), List.all_append, w_t2, ← List.take_append_drop 24 ((words1.drop 24).drop 24), List.all_append, w_t3, ← List.take_append_drop 24 (((words1.drop 24).drop 24).drop 24), List.all_append, w_t4, ← List.take_append_drop 24 ((((words1.drop 24).drop 24).drop 24).drop 24), List.all_append, w_t5, w_t6]
  rfl
set_option maxRecDepth 65536 in
theorem w_rest : rest_1_c.before args0 about1 = true := by decide +kernel
set_option maxRecDepth 65536 in
theorem w_case : (Jvm.Cond.and given_1 narrow_1).before args0 about1 = true := by decide +kernel
set_option maxRecDepth 65536 in
theorem w_consts : constsHeld consts_1 about1 := Jvm.Lit.constsHeldB_iff.mp (by decide +kernel)
theorem w_applies : (headSpec (Jvm.Cond.code x code maxLocals ret :: tables_1) room_1).applies x e0.platform about1 = true :=
  (Spec.applies_iff w_frames).mpr ⟨w_running, w_runnable, w_alone, w_named, w_hears, w_ripe, w_room, w_tables⟩
theorem atStart : AtStart classFile x code maxLocals ret World_1 tables_1 room_1 Calls_1 rest_1 Pre_1 launch0 p0 e0 about1 theMethod args0 below0 :=
  ⟨lists_1, trivial, launch0.admits_env _ _ _, launch0.least_env, fairChoices_fair.cas, fairChoices_fair.clock, w_frames, w_args, w_heap, w_applies, ⟨w_consts, trivial⟩, w_rest, w_case⟩
end start1
theorem witness_1 : WitnessClaimed_1 := ⟨start1.p0, start1.e0, start1.about1, start1.theMethod, start1.args0, start1.below0, start1.atStart⟩
end Jvm.Pilot.@@N@@
