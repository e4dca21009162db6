import JvmDerived
import JvmDerived.Pilot.@@N@@Statement
import JvmDerived.Pilot.@@N@@Code
set_option linter.unusedVariables false
set_option linter.unusedSimpArgs false
@@BLOCK:LamKit.lean.txt@@
namespace Jvm.OwnGo
open Jvm Sem ClassFile Op Lib Jvm.Stand Jvm.Free Jvm.LawKit Jvm.RoadKit
/-! ## 1. where a walk stands, and how it ends -/
/-- a walk may bear one more word on its base; KT: none -/
def KT : State → MethodId → Prop := fun _ _ => True
def Ctx (K : State → MethodId → Prop) (Z : State) (y : MethodName) (bytes : ByteArray) (ml : Nat) (ret : Option FieldType) (p : Program) (s : State) (m : MethodId) (meth : Method) (c : Code) : Prop :=
  p.tables.exec = Jvm.exec ∧ c.code = bytes ∧ c.maxLocals = ml ∧ s.vm.findClass y.cls = some m.cls ∧ Z.Warmed39 s.vm ∧ meth.sig.returnType = ret ∧ meth.locks = false ∧ meth.name = y.name ∧ K s m
/-- what the walk's base has to do with the method's start: the same, or (where literals may be made) the start under later tables -/
def Base (wd : Bool) (s0 s : State) (h : Heap) : Prop := if wd = true then ∃ vm0 k0, s = s0.setVm vm0 ∧ s0.Since vm0 k0 ∧ k0 ≤ h.size else s = s0
def EndK (wd : Bool) (s0 : State) (o : Outcome) (t : State) (L : List Loc) (k n : Nat) : Prop := if wd = true then ReturnedEndW s0 o t L k n else FrameEnd s0 o t L k n
def Ends (wd : Bool) (n0 kc ks : Nat) (Q : Option Value → Heap → Prop) (p : Program) (e : Env) (below : List Frame) (s0 T : State) (g : JFrame) : Prop :=
  ∃ s₂ o, Steps p.tables e below (T.setTop g) s₂ ∧ s₂.status = .running ∧ Ended s₂ below o ∧ ∃ v L, o = .returned v ∧ (Q v s₂.heap ∧ Fr n0 L) ∧ EndK wd s0 o s₂ L kc ks
def Go (wd : Bool) (K : State → MethodId → Prop) (l : Launch) (Z : State) (R : Room) (y : MethodName) (bytes : ByteArray) (ml : Nat) (ret : Option FieldType) (n0 kc ks : Nat) (Q : Option Value → Heap → Prop) (h : Heap) (k n pc : Nat) (ls : List Slot) (st : List Value) : Prop :=
  ∀ (p : Program) (e : Env) (s0 s : State) (m : MethodId) (args : Array Value) (below : List Frame) (meth : Method) (c : Code) (T : State) (L : List Loc),
    Base wd s0 s h → Ctx K Z y bytes ml ret p s m meth c → Stand p l e R s m args below meth c T L k n → T.heap = h → Fr n0 L → Ends wd n0 kc ks Q p e below s0 T (mkF m pc ls.toArray st)
/-- a contract: what a body leaves, called with the values as' over the heap h -/
def Con (wd : Bool) (l : Launch) (Z : State) (y : MethodName) (bytes : ByteArray) (ml : Nat) (ret : Option FieldType) (rm : Room) (as' : Array Value) (h : Heap) (n0 : Nat) (Q : Option Value → Heap → Prop) : Prop :=
  ∀ ws : List Cond, MetFree l y (head1 (Cond.code y bytes ml ret :: ws) rm) (fun a U => a = as' ∧ Z.Warmed39 U.vm ∧ U.heap = h) (fun _ _ _ _ _ => True)
    (fun _ U o U' => ∃ v L, o = .returned v ∧ ((Q v U'.heap ∧ h.size ≤ U'.heap.size) ∧ Fr n0 L) ∧ EndK wd U o U' L rm.cells rm.slots)
/-- it returns a value -/
def R1 (P : Value → Heap → Prop) : Option Value → Heap → Prop := fun v h => ∃ w, v = some w ∧ P w h
/-- it returns nothing -/
def R0 (P : Heap → Prop) : Option Value → Heap → Prop := fun v h => v = none ∧ P h
/-- it returns this value and leaves the heap as it was -/
abbrev Ret (w : Value) (h : Heap) : Option Value → Heap → Prop := R1 fun w' h' => w' = w ∧ h = h'
/-- a local variable written over -/
def setl : List Slot → Nat → Slot → List Slot
  | [], _, _ => []
  | _ :: r, 0, x => x :: r
  | a :: r, i + 1, x => a :: setl r i x
def lupd {α : Type} : List α → Nat → α → List α
  | [], _, _ => []
  | _ :: r, 0, x => x :: r
  | a :: r, i + 1, x => a :: lupd r i x
def one : Slot → Bool
  | .unset => true
  | .val v => v.category == 1
  | .second => false
def two : Slot → Slot → Bool
  | .val v, .second => v.category == 2
  | a, b => one a && one b
def Dc (bytes : ByteArray) (pc : Nat) (i : Instr) (len pc' : Nat) : Prop := decode bytes pc = .ok (i, len) ∧ pc + len = pc'
def Dp (bytes : ByteArray) (pc : Nat) (v : Int32) (pc' : Nat) : Prop := (∃ i, decode bytes pc = .ok (.iconst i, 1) ∧ Int32.ofInt i = v ∧ pc + 1 = pc') ∨ (∃ i, decode bytes pc = .ok (.bipush i, 2) ∧ (Int8.ofInt i).toInt32 = v ∧ pc + 2 = pc') ∨ (∃ i, decode bytes pc = .ok (.sipush i, 3) ∧ (Int16.ofInt i).toInt32 = v ∧ pc + 3 = pc')
def Dlc (bytes : ByteArray) (pc : Nat) (v : Int64) (pc' : Nat) : Prop := ∃ k : Fin 2, decode bytes pc = .ok (.lconst k, 1) ∧ Int64.ofNat k = v ∧ pc + 1 = pc'
/-- a branch: where it goes on, and where it leads -/
def Db (bytes : ByteArray) (pc : Nat) (f : Int → Instr) (pc' tg : Nat) : Prop := ∃ o : Int, decode bytes pc = .ok (f o, 3) ∧ pc + 3 = pc' ∧ 0 ≤ (pc : Int) + o ∧ ((pc : Int) + o).toNat = tg
def Dld (bytes : ByteArray) (pc : Nat) (f : Nat → Instr) (fn : Fin 4 → Instr) (i pc' : Nat) : Prop := (decode bytes pc = .ok (f i, 2) ∧ pc + 2 = pc') ∨ (∃ k : Fin 4, decode bytes pc = .ok (fn k, 1) ∧ k.val = i ∧ pc + 1 = pc')
def Dinc (bytes : ByteArray) (pc i : Nat) (v : Int32) (pc' : Nat) : Prop := ∃ c : Int, decode bytes pc = .ok (.iinc i c, 3) ∧ Int32.ofInt c = v ∧ pc + 3 = pc'
/-- the same, by the instructions' sorts -/
abbrev Dil (b : ByteArray) (pc i pc' : Nat) : Prop := Dld b pc .iload .iload_n i pc'
abbrev Dal (b : ByteArray) (pc i pc' : Nat) : Prop := Dld b pc .aload .aload_n i pc'
abbrev Dll (b : ByteArray) (pc i pc' : Nat) : Prop := Dld b pc .lload .lload_n i pc'
abbrev Dis (b : ByteArray) (pc i pc' : Nat) : Prop := Dld b pc .istore .istore_n i pc'
abbrev Das (b : ByteArray) (pc i pc' : Nat) : Prop := Dld b pc .astore .astore_n i pc'
abbrev Dls (b : ByteArray) (pc i pc' : Nat) : Prop := Dld b pc .lstore .lstore_n i pc'
section Walk
variable {wd : Bool} {K₀ : State → MethodId → Prop} {l : Launch} {Z : State} {R : Room} {y : MethodName} {bytes : ByteArray} {ml : Nat} {ret : Option FieldType} {n0 kc ks : Nat} {Q : Option Value → Heap → Prop} {h : Heap} {k n pc pc' tg i : Nat} {ls : List Slot} {st : List Value} {a0 : Array Value}
theorem lrem64 (x y : Int64) : x - x / y * y = x % y := by
  apply Int64.toInt_inj.mp
  have h1 := Int64.le_toInt (x % y)
  have h2 := Int64.toInt_lt (x % y)
  rw [Int64.toInt_sub, Int64.toInt_mul, Int64.toInt_div, Int.bmod_mul_bmod, Int.sub_bmod_bmod, Int.mul_comm (x.toInt.tdiv y.toInt), ← Int.tmod_def, ← Int64.toInt_mod]
  exact Int.bmod_eq_of_le_mul_two (by omega) (by omega)
theorem setl_arr : ∀ (ls : List Slot) (i : Nat) (x : Slot), (setl ls i x).toArray = ls.toArray.setIfInBounds i x := by
  intro ls i x
  rw [List.setIfInBounds_toArray]
  congr 1
  induction ls generalizing i with
  | nil => simp [setl]
  | cons a r ih => cases i with
    | zero => simp [setl]
    | succ i => simp [setl, ih]
theorem setl_len : ∀ (ls : List Slot) (i : Nat) (x : Slot), (setl ls i x).length = ls.length := by
  intro ls i x
  induction ls generalizing i with
  | nil => rfl
  | cons a r ih => cases i with
    | zero => rfl
    | succ i => simp [setl, ih]
theorem upd_set {α : Type} : ∀ (ls : List α) (i : Nat) (x : α), lupd ls i x = ls.set i x := by
  intro ls i x
  induction ls generalizing i with
  | nil => simp [lupd]
  | cons a r ih => cases i with
    | zero => simp [lupd]
    | succ i => simp [lupd, ih]
theorem setl_get {ls : List Slot} {i : Nat} {x o : Slot} (h : ls[i]? = some o) (j : Nat) : (setl ls i x)[j]? = if j = i then some x else ls[j]? := by
  induction ls generalizing i j with
  | nil => simp at h
  | cons a r ih => cases i with
    | zero => cases j <;> simp [setl]
    | succ i => cases j with
      | zero => simp [setl]
      | succ j => simp only [setl, List.getElem?_cons_succ] at h ⊢; rw [ih h j]; simp
theorem Base.mono {s0 s : State} {h' : Heap} (B : Base wd s0 s h) (q : h.size ≤ h'.size) : Base wd s0 s h' := by
  cases wd
  · exact B
  · obtain ⟨vm0, k0, e1, e2, e3⟩ := B; exact ⟨vm0, k0, e1, e2, Nat.le_trans e3 q⟩
theorem Base.start (s : State) (hh : s.heap = h) : Base wd s s h := by
  cases wd
  · exact (rfl : s = s)
  · exact ⟨s.vm, h.size, rfl, (State.WarmedH.refl s).since _, Nat.le_refl _⟩
theorem EndK.size {s0 t : State} {o : Outcome} {L : List Loc} {k n : Nat} (E : EndK wd s0 o t L k n) : s0.heap.size ≤ t.heap.size := by
  cases wd
  · exact E.2.2.2.1
  · exact E.2.2.2.2.1
theorem endK {s0 s T : State} {fs : List Frame} {v : Option Value} {L : List Loc} (B : Base wd s0 s h) (hh : T.heap = h) (hW : s.WarmedH (T.setFrames fs).vm) (hsame : s.sameButNew ({ T.setFrames fs with vm := s.vm } : State) L k n) (hk : k ≤ kc) (hn : n ≤ ks) : EndK wd s0 (.returned v) (T.setFrames fs) L kc ks := by
  cases wd
  · have e : s = s0 := B
    subst e
    exact ⟨⟨_, rfl⟩, hW, hsame.mono hk hn⟩
  · obtain ⟨vm0, k0, rfl, hS, hk0⟩ := B
    obtain ⟨a1, a2, a3⟩ := hS.ended (U := T.setFrames fs) hW (by show k0 ≤ T.heap.size; rw [hh]; exact hk0) hsame
    exact ⟨⟨_, rfl⟩, a1, a2, a3.mono hk hn⟩
theorem Ends.pre {p : Program} {e : Env} {below : List Frame} {s0 T T' : State} {g g' : JFrame} (E : Ends wd n0 kc ks Q p e below s0 T' g') (st : ∀ t, Steps p.tables e below (T'.setTop g') t → Steps p.tables e below (T.setTop g) t) : Ends wd n0 kc ks Q p e below s0 T g := by
  obtain ⟨s₂, o, h1, r⟩ := E; exact ⟨s₂, o, st _ h1, r⟩
theorem go_pure {ls' : List Slot} {st' : List Value} (G : Go wd K₀ l Z R y bytes ml ret n0 kc ks Q h k n pc' ls' st') (H : ∀ {p : Program} {e : Env} {s : State} {m : MethodId} {args : Array Value} {below : List Frame} {meth : Method} {c : Code} {T : State} {L : List Loc}, Ctx K₀ Z y bytes ml ret p s m meth c → Stand p l e R s m args below meth c T L k n →
    ∀ t, Steps p.tables e below (T.setTop (mkF m pc' ls'.toArray st')) t → Steps p.tables e below (T.setTop (mkF m pc ls.toArray st)) t) : Go wd K₀ l Z R y bytes ml ret n0 kc ks Q h k n pc ls st :=
  fun p e s0 s m args below meth c T L B C X hh N => (G p e s0 s m args below meth c T L B C X hh N).pre (H C X)
theorem go_more {k' n' : Nat} (hk : k ≤ k') (hn : n ≤ n') (G : Go wd K₀ l Z R y bytes ml ret n0 kc ks Q h k' n' pc ls st) : Go wd K₀ l Z R y bytes ml ret n0 kc ks Q h k n pc ls st :=
  fun p e s0 s m args below meth c T L B C X hh N => G p e s0 s m args below meth c T L B C (X.more hk hn) hh N
theorem go_nameI {x : Int32} (G : ∀ v : Int32, v = x → Go wd K₀ l Z R y bytes ml ret n0 kc ks Q h k n pc ls (.int v :: st)) : Go wd K₀ l Z R y bytes ml ret n0 kc ks Q h k n pc ls (.int x :: st) := G x rfl
theorem go_nameJ {x : Int64} (G : ∀ v : Int64, v = x → Go wd K₀ l Z R y bytes ml ret n0 kc ks Q h k n pc ls (.long v :: st)) : Go wd K₀ l Z R y bytes ml ret n0 kc ks Q h k n pc ls (.long x :: st) := G x rfl
theorem go_isI {x : Int32} (x' : Int32) (q : x = x') (G : Go wd K₀ l Z R y bytes ml ret n0 kc ks Q h k n pc ls (.int x' :: st)) : Go wd K₀ l Z R y bytes ml ret n0 kc ks Q h k n pc ls (.int x :: st) := q ▸ G
theorem go_isJ {x : Int64} (x' : Int64) (q : x = x') (G : Go wd K₀ l Z R y bytes ml ret n0 kc ks Q h k n pc ls (.long x' :: st)) : Go wd K₀ l Z R y bytes ml ret n0 kc ks Q h k n pc ls (.long x :: st) := q ▸ G
theorem go_iload {v : Int32} (D : Dil bytes pc i pc') (hl : ls[i]? = some (.val (.int v))) (G : Go wd K₀ l Z R y bytes ml ret n0 kc ks Q h k n pc' ls (.int v :: st)) : Go wd K₀ l Z R y bytes ml ret n0 kc ks Q h k n pc ls st := by
  rcases D with ⟨hd, rfl⟩ | ⟨kk, hd, rfl, rfl⟩
  · exact go_pure G (fun C X t => XS.iload X.here C.1 (g := mkF _ pc ls.toArray st) rfl (hb C.2.1 hd) (by simpa using hl))
  · exact go_pure G (fun C X t => XS.iloadN X.here C.1 (g := mkF _ pc ls.toArray st) rfl (hb C.2.1 hd) (by simpa using hl))
theorem go_lload {v : Int64} (D : Dll bytes pc i pc') (hl : ls[i]? = some (.val (.long v))) (G : Go wd K₀ l Z R y bytes ml ret n0 kc ks Q h k n pc' ls (.long v :: st)) : Go wd K₀ l Z R y bytes ml ret n0 kc ks Q h k n pc ls st := by
  rcases D with ⟨hd, rfl⟩ | ⟨kk, hd, rfl, rfl⟩
  · exact go_pure G (fun C X t => XT.lload X.here C.1 (g := mkF _ pc ls.toArray st) rfl (hb C.2.1 hd) (by simpa using hl))
  · exact go_pure G (fun C X t => XT.lloadN X.here C.1 (g := mkF _ pc ls.toArray st) rfl (hb C.2.1 hd) (by simpa using hl))
theorem go_aload {v : Value} (D : Dal bytes pc i pc') (hl : ls[i]? = some (.val v)) (hv : v.isRef = true) (G : Go wd K₀ l Z R y bytes ml ret n0 kc ks Q h k n pc' ls (v :: st)) : Go wd K₀ l Z R y bytes ml ret n0 kc ks Q h k n pc ls st := by
  rcases D with ⟨hd, rfl⟩ | ⟨kk, hd, rfl, rfl⟩
  · exact go_pure G (fun C X t => XS.aload X.here C.1 (g := mkF _ pc ls.toArray st) rfl (hb C.2.1 hd) (by simpa using hl) hv)
  · exact go_pure G (fun C X t => XS.aloadN X.here C.1 (g := mkF _ pc ls.toArray st) rfl (hb C.2.1 hd) (by simpa using hl) hv)
theorem store_one {ls : List Slot} {i : Nat} {v : Value} {o : Slot} (hv : v.category = 1) (hl : ls[i]? = some o) (ho : one o = true) : storeLocals ls.toArray i v = some (setl ls i (.val v)).toArray := by
  rw [setl_arr]
  refine storeLocals_cat1 (x := o) (by simpa using hl) hv ?_
  cases o <;> simp [one] at ho ⊢
  exact ho
theorem store_two {ls : List Slot} {i : Nat} {v : Value} {o o' : Slot} (hv : v.category = 2) (hl : ls[i]? = some o) (hl' : ls[i + 1]? = some o') (ho : two o o' = true) : storeLocals ls.toArray i v = some (setl (setl ls i (.val v)) (i + 1) .second).toArray := by
  rw [setl_arr, setl_arr]
  refine Jvm.Free.Fl.storeLocals_cat2 (by simpa using hl) (by simpa using hl') hv ?_
  cases o <;> cases o' <;> simp_all [two, one, Jvm.Free.Fl.Plain1]
theorem go_istore {x : Int32} {o : Slot} (D : Dis bytes pc i pc') (hl : ls[i]? = some o) (ho : one o = true) (G : Go wd K₀ l Z R y bytes ml ret n0 kc ks Q h k n pc' (setl ls i (.val (.int x))) st) : Go wd K₀ l Z R y bytes ml ret n0 kc ks Q h k n pc ls (.int x :: st) := by
  rcases D with ⟨hd, rfl⟩ | ⟨kk, hd, rfl, rfl⟩
  · exact go_pure G (fun C X t => XS.istore X.here C.1 (g := mkF _ pc ls.toArray (.int x :: st)) rfl (hb C.2.1 hd) rfl (store_one rfl hl ho))
  · exact go_pure G (fun C X t => XS.istoreN X.here C.1 (g := mkF _ pc ls.toArray (.int x :: st)) rfl (hb C.2.1 hd) rfl (store_one rfl hl ho))
theorem go_astore {x : Value} {o : Slot} (D : Das bytes pc i pc') (hv : x.isRef = true) (hl : ls[i]? = some o) (ho : one o = true) (G : Go wd K₀ l Z R y bytes ml ret n0 kc ks Q h k n pc' (setl ls i (.val x)) st) : Go wd K₀ l Z R y bytes ml ret n0 kc ks Q h k n pc ls (x :: st) := by
  have hc : x.category = 1 := XT.cat1 hv
  rcases D with ⟨hd, rfl⟩ | ⟨kk, hd, rfl, rfl⟩
  · exact go_pure G (fun C X t => XS.astore X.here C.1 (g := mkF _ pc ls.toArray (x :: st)) rfl (hb C.2.1 hd) rfl hv (store_one hc hl ho))
  · exact go_pure G (fun C X t => XS.astoreN X.here C.1 (g := mkF _ pc ls.toArray (x :: st)) rfl (hb C.2.1 hd) rfl hv (store_one hc hl ho))
theorem go_lstore {x : Int64} {o o' : Slot} (D : Dls bytes pc i pc') (hl : ls[i]? = some o) (hl' : ls[i + 1]? = some o') (ho : two o o' = true) (G : Go wd K₀ l Z R y bytes ml ret n0 kc ks Q h k n pc' (setl (setl ls i (.val (.long x))) (i + 1) .second) st) : Go wd K₀ l Z R y bytes ml ret n0 kc ks Q h k n pc ls (.long x :: st) := by
  rcases D with ⟨hd, rfl⟩ | ⟨kk, hd, rfl, rfl⟩
  · exact go_pure G (fun C X t => XT.lstore X.here C.1 (g := mkF _ pc ls.toArray (.long x :: st)) rfl (hb C.2.1 hd) rfl (store_two rfl hl hl' ho))
  · exact go_pure G (fun C X t => XT.lstoreN X.here C.1 (g := mkF _ pc ls.toArray (.long x :: st)) rfl (hb C.2.1 hd) rfl (store_two rfl hl hl' ho))
/-- any store, the locals said -/
theorem go_istoreX {x : Int32} {ls' : List Slot} (D : Dis bytes pc i pc') (hl : storeLocals ls.toArray i (.int x) = some ls'.toArray) (G : Go wd K₀ l Z R y bytes ml ret n0 kc ks Q h k n pc' ls' st) : Go wd K₀ l Z R y bytes ml ret n0 kc ks Q h k n pc ls (.int x :: st) := by
  rcases D with ⟨hd, rfl⟩ | ⟨kk, hd, rfl, rfl⟩
  · exact go_pure G (fun C X t => XS.istore X.here C.1 (g := mkF _ pc ls.toArray (.int x :: st)) rfl (hb C.2.1 hd) rfl hl)
  · exact go_pure G (fun C X t => XS.istoreN X.here C.1 (g := mkF _ pc ls.toArray (.int x :: st)) rfl (hb C.2.1 hd) rfl hl)
theorem go_astoreX {x : Value} {ls' : List Slot} (D : Das bytes pc i pc') (hv : x.isRef = true) (hl : storeLocals ls.toArray i x = some ls'.toArray) (G : Go wd K₀ l Z R y bytes ml ret n0 kc ks Q h k n pc' ls' st) : Go wd K₀ l Z R y bytes ml ret n0 kc ks Q h k n pc ls (x :: st) := by
  rcases D with ⟨hd, rfl⟩ | ⟨kk, hd, rfl, rfl⟩
  · exact go_pure G (fun C X t => XS.astore X.here C.1 (g := mkF _ pc ls.toArray (x :: st)) rfl (hb C.2.1 hd) rfl hv hl)
  · exact go_pure G (fun C X t => XS.astoreN X.here C.1 (g := mkF _ pc ls.toArray (x :: st)) rfl (hb C.2.1 hd) rfl hv hl)
theorem go_lstoreX {x : Int64} {ls' : List Slot} (D : Dls bytes pc i pc') (hl : storeLocals ls.toArray i (.long x) = some ls'.toArray) (G : Go wd K₀ l Z R y bytes ml ret n0 kc ks Q h k n pc' ls' st) : Go wd K₀ l Z R y bytes ml ret n0 kc ks Q h k n pc ls (.long x :: st) := by
  rcases D with ⟨hd, rfl⟩ | ⟨kk, hd, rfl, rfl⟩
  · exact go_pure G (fun C X t => XT.lstore X.here C.1 (g := mkF _ pc ls.toArray (.long x :: st)) rfl (hb C.2.1 hd) rfl hl)
  · exact go_pure G (fun C X t => XT.lstoreN X.here C.1 (g := mkF _ pc ls.toArray (.long x :: st)) rfl (hb C.2.1 hd) rfl hl)
theorem go_iinc {x v : Int32} (D : Dinc bytes pc i v pc') (hl : ls[i]? = some (.val (.int x))) (G : Go wd K₀ l Z R y bytes ml ret n0 kc ks Q h k n pc' (setl ls i (.val (.int (x + v)))) st) : Go wd K₀ l Z R y bytes ml ret n0 kc ks Q h k n pc ls st := by
  obtain ⟨c, hd, rfl, rfl⟩ := D
  exact go_pure G (fun C X t => XS.iinc X.here C.1 (g := mkF _ pc ls.toArray st) rfl (hb C.2.1 hd) (by simpa using hl) (store_one rfl hl rfl))
theorem go_iincX {x v x' : Int32} (D : Dinc bytes pc i v pc') (hl : ls[i]? = some (.val (.int x))) (q : x + v = x') (G : Go wd K₀ l Z R y bytes ml ret n0 kc ks Q h k n pc' (setl ls i (.val (.int x'))) st) : Go wd K₀ l Z R y bytes ml ret n0 kc ks Q h k n pc ls st := go_iinc D hl (q ▸ G)
theorem go_push {v : Int32} (D : Dp bytes pc v pc') (G : Go wd K₀ l Z R y bytes ml ret n0 kc ks Q h k n pc' ls (.int v :: st)) : Go wd K₀ l Z R y bytes ml ret n0 kc ks Q h k n pc ls st := by
  rcases D with ⟨_, hd, rfl, rfl⟩ | ⟨_, hd, rfl, rfl⟩ | ⟨_, hd, rfl, rfl⟩
  · exact go_pure G (fun C X t => XS.iconst X.here C.1 (g := mkF _ pc ls.toArray st) rfl (hb C.2.1 hd))
  · exact go_pure G (fun C X t => XS.bipush X.here C.1 (g := mkF _ pc ls.toArray st) rfl (hb C.2.1 hd))
  · exact go_pure G (fun C X t => XS.sipush X.here C.1 (g := mkF _ pc ls.toArray st) rfl (hb C.2.1 hd))
theorem go_lconst {v : Int64} (D : Dlc bytes pc v pc') (G : Go wd K₀ l Z R y bytes ml ret n0 kc ks Q h k n pc' ls (.long v :: st)) : Go wd K₀ l Z R y bytes ml ret n0 kc ks Q h k n pc ls st := by
  obtain ⟨_, hd, rfl, rfl⟩ := D
  exact go_pure G (fun C X t => XT.lconst X.here C.1 (g := mkF _ pc ls.toArray st) rfl (hb C.2.1 hd))
theorem go_null (D : Dc bytes pc .aconst_null 1 pc') (G : Go wd K₀ l Z R y bytes ml ret n0 kc ks Q h k n pc' ls (.null :: st)) : Go wd K₀ l Z R y bytes ml ret n0 kc ks Q h k n pc ls st := by
  obtain ⟨hd, rfl⟩ := D
  exact go_pure G (fun C X t => XS.aconstNull X.here C.1 (g := mkF _ pc ls.toArray st) rfl (hb C.2.1 hd))
theorem go_iadd {a : Int32} {b : Int32} (D : Dc bytes pc .iadd 1 pc') (G : Go wd K₀ l Z R y bytes ml ret n0 kc ks Q h k n pc' ls (.int (a + b) :: st)) : Go wd K₀ l Z R y bytes ml ret n0 kc ks Q h k n pc ls (.int b :: .int a :: st) := by
  obtain ⟨hd, rfl⟩ := D
  exact go_pure G (fun C X t => XS.iadd X.here C.1 (g := mkF _ pc ls.toArray (.int b :: .int a :: st)) rfl (hb C.2.1 hd) rfl)
theorem go_isub {a : Int32} {b : Int32} (D : Dc bytes pc .isub 1 pc') (G : Go wd K₀ l Z R y bytes ml ret n0 kc ks Q h k n pc' ls (.int (a - b) :: st)) : Go wd K₀ l Z R y bytes ml ret n0 kc ks Q h k n pc ls (.int b :: .int a :: st) := by
  obtain ⟨hd, rfl⟩ := D
  exact go_pure G (fun C X t => XS.isub X.here C.1 (g := mkF _ pc ls.toArray (.int b :: .int a :: st)) rfl (hb C.2.1 hd) rfl)
theorem go_imul {a : Int32} {b : Int32} (D : Dc bytes pc .imul 1 pc') (G : Go wd K₀ l Z R y bytes ml ret n0 kc ks Q h k n pc' ls (.int (a * b) :: st)) : Go wd K₀ l Z R y bytes ml ret n0 kc ks Q h k n pc ls (.int b :: .int a :: st) := by
  obtain ⟨hd, rfl⟩ := D
  exact go_pure G (fun C X t => XS.imul X.here C.1 (g := mkF _ pc ls.toArray (.int b :: .int a :: st)) rfl (hb C.2.1 hd) rfl)
theorem go_iand {a : Int32} {b : Int32} (D : Dc bytes pc .iand 1 pc') (G : Go wd K₀ l Z R y bytes ml ret n0 kc ks Q h k n pc' ls (.int (a &&& b) :: st)) : Go wd K₀ l Z R y bytes ml ret n0 kc ks Q h k n pc ls (.int b :: .int a :: st) := by
  obtain ⟨hd, rfl⟩ := D
  exact go_pure G (fun C X t => XS.iand X.here C.1 (g := mkF _ pc ls.toArray (.int b :: .int a :: st)) rfl (hb C.2.1 hd) rfl)
theorem go_ior {a : Int32} {b : Int32} (D : Dc bytes pc .ior 1 pc') (G : Go wd K₀ l Z R y bytes ml ret n0 kc ks Q h k n pc' ls (.int (a ||| b) :: st)) : Go wd K₀ l Z R y bytes ml ret n0 kc ks Q h k n pc ls (.int b :: .int a :: st) := by
  obtain ⟨hd, rfl⟩ := D
  exact go_pure G (fun C X t => XT.ior X.here C.1 (g := mkF _ pc ls.toArray (.int b :: .int a :: st)) rfl (hb C.2.1 hd) rfl)
theorem go_ixor {a : Int32} {b : Int32} (D : Dc bytes pc .ixor 1 pc') (G : Go wd K₀ l Z R y bytes ml ret n0 kc ks Q h k n pc' ls (.int (a ^^^ b) :: st)) : Go wd K₀ l Z R y bytes ml ret n0 kc ks Q h k n pc ls (.int b :: .int a :: st) := by
  obtain ⟨hd, rfl⟩ := D
  exact go_pure G (fun C X t => XT.ixor X.here C.1 (g := mkF _ pc ls.toArray (.int b :: .int a :: st)) rfl (hb C.2.1 hd) rfl)
theorem go_idiv {a : Int32} {b : Int32} (D : Dc bytes pc .idiv 1 pc') (hz : b ≠ 0) (G : Go wd K₀ l Z R y bytes ml ret n0 kc ks Q h k n pc' ls (.int (a / b) :: st)) : Go wd K₀ l Z R y bytes ml ret n0 kc ks Q h k n pc ls (.int b :: .int a :: st) := by
  obtain ⟨hd, rfl⟩ := D
  exact go_pure G (fun C X t => XS.idiv X.here C.1 (g := mkF _ pc ls.toArray (.int b :: .int a :: st)) rfl (hb C.2.1 hd) rfl hz)
theorem go_ladd {a : Int64} {b : Int64} (D : Dc bytes pc .ladd 1 pc') (G : Go wd K₀ l Z R y bytes ml ret n0 kc ks Q h k n pc' ls (.long (a + b) :: st)) : Go wd K₀ l Z R y bytes ml ret n0 kc ks Q h k n pc ls (.long b :: .long a :: st) := by
  obtain ⟨hd, rfl⟩ := D
  exact go_pure G (fun C X t => XT.ladd X.here C.1 (g := mkF _ pc ls.toArray (.long b :: .long a :: st)) rfl (hb C.2.1 hd) rfl)
theorem go_lsub {a : Int64} {b : Int64} (D : Dc bytes pc .lsub 1 pc') (G : Go wd K₀ l Z R y bytes ml ret n0 kc ks Q h k n pc' ls (.long (a - b) :: st)) : Go wd K₀ l Z R y bytes ml ret n0 kc ks Q h k n pc ls (.long b :: .long a :: st) := by
  obtain ⟨hd, rfl⟩ := D
  exact go_pure G (fun C X t => XT.lsub X.here C.1 (g := mkF _ pc ls.toArray (.long b :: .long a :: st)) rfl (hb C.2.1 hd) rfl)
theorem go_lmul {a : Int64} {b : Int64} (D : Dc bytes pc .lmul 1 pc') (G : Go wd K₀ l Z R y bytes ml ret n0 kc ks Q h k n pc' ls (.long (a * b) :: st)) : Go wd K₀ l Z R y bytes ml ret n0 kc ks Q h k n pc ls (.long b :: .long a :: st) := by
  obtain ⟨hd, rfl⟩ := D
  exact go_pure G (fun C X t => XT.lmul X.here C.1 (g := mkF _ pc ls.toArray (.long b :: .long a :: st)) rfl (hb C.2.1 hd) rfl)
theorem go_land {a : Int64} {b : Int64} (D : Dc bytes pc .land 1 pc') (G : Go wd K₀ l Z R y bytes ml ret n0 kc ks Q h k n pc' ls (.long (a &&& b) :: st)) : Go wd K₀ l Z R y bytes ml ret n0 kc ks Q h k n pc ls (.long b :: .long a :: st) := by
  obtain ⟨hd, rfl⟩ := D
  exact go_pure G (fun C X t => XT.land X.here C.1 (g := mkF _ pc ls.toArray (.long b :: .long a :: st)) rfl (hb C.2.1 hd) rfl)
theorem go_lor {a : Int64} {b : Int64} (D : Dc bytes pc .lor 1 pc') (G : Go wd K₀ l Z R y bytes ml ret n0 kc ks Q h k n pc' ls (.long (a ||| b) :: st)) : Go wd K₀ l Z R y bytes ml ret n0 kc ks Q h k n pc ls (.long b :: .long a :: st) := by
  obtain ⟨hd, rfl⟩ := D
  exact go_pure G (fun C X t => XT.lor X.here C.1 (g := mkF _ pc ls.toArray (.long b :: .long a :: st)) rfl (hb C.2.1 hd) rfl)
theorem go_lxor {a : Int64} {b : Int64} (D : Dc bytes pc .lxor 1 pc') (G : Go wd K₀ l Z R y bytes ml ret n0 kc ks Q h k n pc' ls (.long (a ^^^ b) :: st)) : Go wd K₀ l Z R y bytes ml ret n0 kc ks Q h k n pc ls (.long b :: .long a :: st) := by
  obtain ⟨hd, rfl⟩ := D
  exact go_pure G (fun C X t => XT.lxor X.here C.1 (g := mkF _ pc ls.toArray (.long b :: .long a :: st)) rfl (hb C.2.1 hd) rfl)
theorem go_ldiv {a : Int64} {b : Int64} (D : Dc bytes pc .ldiv 1 pc') (hz : b ≠ 0) (G : Go wd K₀ l Z R y bytes ml ret n0 kc ks Q h k n pc' ls (.long (a / b) :: st)) : Go wd K₀ l Z R y bytes ml ret n0 kc ks Q h k n pc ls (.long b :: .long a :: st) := by
  obtain ⟨hd, rfl⟩ := D
  exact go_pure G (fun C X t => XT.ldiv X.here C.1 (g := mkF _ pc ls.toArray (.long b :: .long a :: st)) rfl (hb C.2.1 hd) rfl hz)
theorem go_ishl {a : Int32} {b : Int32} (D : Dc bytes pc .ishl 1 pc') (G : Go wd K₀ l Z R y bytes ml ret n0 kc ks Q h k n pc' ls (.int (a <<< (b &&& 31)) :: st)) : Go wd K₀ l Z R y bytes ml ret n0 kc ks Q h k n pc ls (.int b :: .int a :: st) := by
  obtain ⟨hd, rfl⟩ := D
  exact go_pure G (fun C X t => XT.ishl X.here C.1 (g := mkF _ pc ls.toArray (.int b :: .int a :: st)) rfl (hb C.2.1 hd) rfl)
theorem go_ishr {a : Int32} {b : Int32} (D : Dc bytes pc .ishr 1 pc') (G : Go wd K₀ l Z R y bytes ml ret n0 kc ks Q h k n pc' ls (.int (a >>> (b &&& 31)) :: st)) : Go wd K₀ l Z R y bytes ml ret n0 kc ks Q h k n pc ls (.int b :: .int a :: st) := by
  obtain ⟨hd, rfl⟩ := D
  exact go_pure G (fun C X t => XT.ishr X.here C.1 (g := mkF _ pc ls.toArray (.int b :: .int a :: st)) rfl (hb C.2.1 hd) rfl)
theorem go_iushr {a : Int32} {b : Int32} (D : Dc bytes pc .iushr 1 pc') (G : Go wd K₀ l Z R y bytes ml ret n0 kc ks Q h k n pc' ls (.int (XT.ushr a b) :: st)) : Go wd K₀ l Z R y bytes ml ret n0 kc ks Q h k n pc ls (.int b :: .int a :: st) := by
  obtain ⟨hd, rfl⟩ := D
  exact go_pure G (fun C X t => XT.iushr X.here C.1 (g := mkF _ pc ls.toArray (.int b :: .int a :: st)) rfl (hb C.2.1 hd) rfl)
theorem go_lshl {a : Int64} {b : Int32} (D : Dc bytes pc .lshl 1 pc') (G : Go wd K₀ l Z R y bytes ml ret n0 kc ks Q h k n pc' ls (.long (a <<< (b.toInt64 &&& 63)) :: st)) : Go wd K₀ l Z R y bytes ml ret n0 kc ks Q h k n pc ls (.int b :: .long a :: st) := by
  obtain ⟨hd, rfl⟩ := D
  exact go_pure G (fun C X t => XT.lshl X.here C.1 (g := mkF _ pc ls.toArray (.int b :: .long a :: st)) rfl (hb C.2.1 hd) rfl)
theorem go_lshr {a : Int64} {b : Int32} (D : Dc bytes pc .lshr 1 pc') (G : Go wd K₀ l Z R y bytes ml ret n0 kc ks Q h k n pc' ls (.long (a >>> (b.toInt64 &&& 63)) :: st)) : Go wd K₀ l Z R y bytes ml ret n0 kc ks Q h k n pc ls (.int b :: .long a :: st) := by
  obtain ⟨hd, rfl⟩ := D
  exact go_pure G (fun C X t => XT.lshr X.here C.1 (g := mkF _ pc ls.toArray (.int b :: .long a :: st)) rfl (hb C.2.1 hd) rfl)
theorem go_lushr {a : Int64} {b : Int32} (D : Dc bytes pc .lushr 1 pc') (G : Go wd K₀ l Z R y bytes ml ret n0 kc ks Q h k n pc' ls (.long (XT.ushrL a b) :: st)) : Go wd K₀ l Z R y bytes ml ret n0 kc ks Q h k n pc ls (.int b :: .long a :: st) := by
  obtain ⟨hd, rfl⟩ := D
  exact go_pure G (fun C X t => XT.lushr X.here C.1 (g := mkF _ pc ls.toArray (.int b :: .long a :: st)) rfl (hb C.2.1 hd) rfl)
theorem go_lcmp {a : Int64} {b : Int64} (D : Dc bytes pc .lcmp 1 pc') (G : Go wd K₀ l Z R y bytes ml ret n0 kc ks Q h k n pc' ls (.int (XT.cmpL a b) :: st)) : Go wd K₀ l Z R y bytes ml ret n0 kc ks Q h k n pc ls (.long b :: .long a :: st) := by
  obtain ⟨hd, rfl⟩ := D
  exact go_pure G (fun C X t => XT.lcmp X.here C.1 (g := mkF _ pc ls.toArray (.long b :: .long a :: st)) rfl (hb C.2.1 hd) rfl)
theorem go_irem {a b : Int32} (D : Dc bytes pc .irem 1 pc') (hz : b ≠ 0) (G : Go wd K₀ l Z R y bytes ml ret n0 kc ks Q h k n pc' ls (.int (a % b) :: st)) : Go wd K₀ l Z R y bytes ml ret n0 kc ks Q h k n pc ls (.int b :: .int a :: st) := by
  obtain ⟨hd, rfl⟩ := D
  exact go_pure G (fun C X t hr => iremM X C.1 (g := mkF _ pc ls.toArray (.int b :: .int a :: st)) rfl (hb C.2.1 hd) rfl hz hr)
theorem go_lrem {a b : Int64} (D : Dc bytes pc .lrem 1 pc') (hz : b ≠ 0) (G : Go wd K₀ l Z R y bytes ml ret n0 kc ks Q h k n pc' ls (.long (a % b) :: st)) : Go wd K₀ l Z R y bytes ml ret n0 kc ks Q h k n pc ls (.long b :: .long a :: st) := by
  obtain ⟨hd, rfl⟩ := D
  rw [← lrem64] at G
  exact go_pure G (fun C X t => XT.lrem X.here C.1 (g := mkF _ pc ls.toArray (.long b :: .long a :: st)) rfl (hb C.2.1 hd) rfl hz)
theorem go_ineg {a : Int32} (D : Dc bytes pc .ineg 1 pc') (G : Go wd K₀ l Z R y bytes ml ret n0 kc ks Q h k n pc' ls (.int (-a) :: st)) : Go wd K₀ l Z R y bytes ml ret n0 kc ks Q h k n pc ls (.int a :: st) := by
  obtain ⟨hd, rfl⟩ := D
  exact go_pure G (fun C X t => XS.ineg X.here C.1 (g := mkF _ pc ls.toArray (.int a :: st)) rfl (hb C.2.1 hd) rfl)
theorem go_lneg {a : Int64} (D : Dc bytes pc .lneg 1 pc') (G : Go wd K₀ l Z R y bytes ml ret n0 kc ks Q h k n pc' ls (.long (-a) :: st)) : Go wd K₀ l Z R y bytes ml ret n0 kc ks Q h k n pc ls (.long a :: st) := by
  obtain ⟨hd, rfl⟩ := D
  exact go_pure G (fun C X t => XT.lneg X.here C.1 (g := mkF _ pc ls.toArray (.long a :: st)) rfl (hb C.2.1 hd) rfl)
theorem go_i2l {a : Int32} (D : Dc bytes pc .i2l 1 pc') (G : Go wd K₀ l Z R y bytes ml ret n0 kc ks Q h k n pc' ls (.long a.toInt64 :: st)) : Go wd K₀ l Z R y bytes ml ret n0 kc ks Q h k n pc ls (.int a :: st) := by
  obtain ⟨hd, rfl⟩ := D
  exact go_pure G (fun C X t => XT.i2l X.here C.1 (g := mkF _ pc ls.toArray (.int a :: st)) rfl (hb C.2.1 hd) rfl)
theorem go_l2i {a : Int64} (D : Dc bytes pc .l2i 1 pc') (G : Go wd K₀ l Z R y bytes ml ret n0 kc ks Q h k n pc' ls (.int a.toInt32 :: st)) : Go wd K₀ l Z R y bytes ml ret n0 kc ks Q h k n pc ls (.long a :: st) := by
  obtain ⟨hd, rfl⟩ := D
  exact go_pure G (fun C X t => XT.l2i X.here C.1 (g := mkF _ pc ls.toArray (.long a :: st)) rfl (hb C.2.1 hd) rfl)
theorem go_i2b {a : Int32} (D : Dc bytes pc .i2b 1 pc') (G : Go wd K₀ l Z R y bytes ml ret n0 kc ks Q h k n pc' ls (.int a.toInt8.toInt32 :: st)) : Go wd K₀ l Z R y bytes ml ret n0 kc ks Q h k n pc ls (.int a :: st) := by
  obtain ⟨hd, rfl⟩ := D
  exact go_pure G (fun C X t => XT.i2b X.here C.1 (g := mkF _ pc ls.toArray (.int a :: st)) rfl (hb C.2.1 hd) rfl)
theorem go_i2s {a : Int32} (D : Dc bytes pc .i2s 1 pc') (G : Go wd K₀ l Z R y bytes ml ret n0 kc ks Q h k n pc' ls (.int a.toInt16.toInt32 :: st)) : Go wd K₀ l Z R y bytes ml ret n0 kc ks Q h k n pc ls (.int a :: st) := by
  obtain ⟨hd, rfl⟩ := D
  exact go_pure G (fun C X t => XT.i2s X.here C.1 (g := mkF _ pc ls.toArray (.int a :: st)) rfl (hb C.2.1 hd) rfl)
theorem go_i2c {a : Int32} (D : Dc bytes pc .i2c 1 pc') (G : Go wd K₀ l Z R y bytes ml ret n0 kc ks Q h k n pc' ls (.int a.toUInt32.toUInt16.toUInt32.toInt32 :: st)) : Go wd K₀ l Z R y bytes ml ret n0 kc ks Q h k n pc ls (.int a :: st) := by
  obtain ⟨hd, rfl⟩ := D
  exact go_pure G (fun C X t => XT.i2c X.here C.1 (g := mkF _ pc ls.toArray (.int a :: st)) rfl (hb C.2.1 hd) rfl)
theorem go_dup {v : Value} (D : Dc bytes pc .dup 1 pc') (hv : v.category = 1) (G : Go wd K₀ l Z R y bytes ml ret n0 kc ks Q h k n pc' ls (v :: v :: st)) : Go wd K₀ l Z R y bytes ml ret n0 kc ks Q h k n pc ls (v :: st) := by
  obtain ⟨hd, rfl⟩ := D
  exact go_pure G (fun C X t => XS.dup X.here C.1 (g := mkF _ pc ls.toArray (v :: st)) rfl (hb C.2.1 hd) rfl hv)
theorem go_pop {v : Value} (D : Dc bytes pc .pop 1 pc') (hv : v.category = 1) (G : Go wd K₀ l Z R y bytes ml ret n0 kc ks Q h k n pc' ls st) : Go wd K₀ l Z R y bytes ml ret n0 kc ks Q h k n pc ls (v :: st) := by
  obtain ⟨hd, rfl⟩ := D
  exact go_pure G (fun C X t => XT.pop X.here C.1 (g := mkF _ pc ls.toArray (v :: st)) rfl (hb C.2.1 hd) rfl hv)
theorem go_dupx1 {v w : Value} (D : Dc bytes pc .dup_x1 1 pc') (hv : v.category = 1) (hw : w.category = 1) (G : Go wd K₀ l Z R y bytes ml ret n0 kc ks Q h k n pc' ls (v :: w :: v :: st)) : Go wd K₀ l Z R y bytes ml ret n0 kc ks Q h k n pc ls (v :: w :: st) := by
  obtain ⟨hd, rfl⟩ := D
  exact go_pure G (fun C X t => XT.dupX1 X.here C.1 (g := mkF _ pc ls.toArray (v :: w :: st)) rfl (hb C.2.1 hd) rfl hv hw)
theorem go_dup2 {v w : Value} (D : Dc bytes pc .dup2 1 pc') (hv : v.category = 1) (hw : w.category = 1) (G : Go wd K₀ l Z R y bytes ml ret n0 kc ks Q h k n pc' ls (v :: w :: v :: w :: st)) : Go wd K₀ l Z R y bytes ml ret n0 kc ks Q h k n pc ls (v :: w :: st) := by
  obtain ⟨hd, rfl⟩ := D
  exact go_pure G (fun C X t => XT.dup2 X.here C.1 (g := mkF _ pc ls.toArray (v :: w :: st)) rfl (hb C.2.1 hd) rfl hv hw)
theorem go_dup2L {v : Int64} (D : Dc bytes pc .dup2 1 pc') (G : Go wd K₀ l Z R y bytes ml ret n0 kc ks Q h k n pc' ls (.long v :: .long v :: st)) : Go wd K₀ l Z R y bytes ml ret n0 kc ks Q h k n pc ls (.long v :: st) := by
  obtain ⟨hd, rfl⟩ := D
  exact go_pure G (fun C X t => XT.dup2L X.here C.1 (g := mkF _ pc ls.toArray (.long v :: st)) rfl (hb C.2.1 hd) rfl)
theorem go_goto (D : Db bytes pc .goto pc' tg) (G : Go wd K₀ l Z R y bytes ml ret n0 kc ks Q h k n tg ls st) : Go wd K₀ l Z R y bytes ml ret n0 kc ks Q h k n pc ls st := by
  obtain ⟨o, hd, rfl, ho, hp⟩ := D
  exact go_pure G (fun C X t => XS.goto X.here C.1 (g := mkF _ pc ls.toArray st) rfl (pc0 := pc) rfl (hb C.2.1 hd) ho hp)
theorem go_icmp_eq {a b : Int32} (D : Db bytes pc (.if_icmp .eq) pc' tg) (G1 : a = b → Go wd K₀ l Z R y bytes ml ret n0 kc ks Q h k n tg ls st) (G2 : ¬ a = b → Go wd K₀ l Z R y bytes ml ret n0 kc ks Q h k n pc' ls st) : Go wd K₀ l Z R y bytes ml ret n0 kc ks Q h k n pc ls (.int b :: .int a :: st) := by
  obtain ⟨o, hd, rfl, ho, hp⟩ := D
  by_cases q : a = b
  · exact go_pure (G1 q) (fun C X t => XS.icmpYes X.here C.1 (g := mkF _ pc ls.toArray (.int b :: .int a :: st)) rfl (pc0 := pc) rfl (hb C.2.1 hd) rfl (XT.ii_eq_t q) ho hp)
  · exact go_pure (G2 q) (fun C X t => XS.icmpNo X.here C.1 (g := mkF _ pc ls.toArray (.int b :: .int a :: st)) rfl (hb C.2.1 hd) rfl (XT.ii_eq_f q))
theorem go_if_eq {a : Int32} (D : Db bytes pc (.ifCond .eq) pc' tg) (G1 : a = 0 → Go wd K₀ l Z R y bytes ml ret n0 kc ks Q h k n tg ls st) (G2 : ¬ a = 0 → Go wd K₀ l Z R y bytes ml ret n0 kc ks Q h k n pc' ls st) : Go wd K₀ l Z R y bytes ml ret n0 kc ks Q h k n pc ls (.int a :: st) := by
  obtain ⟨o, hd, rfl, ho, hp⟩ := D
  by_cases q : a = 0
  · exact go_pure (G1 q) (fun C X t => XS.ifYes X.here C.1 (g := mkF _ pc ls.toArray (.int a :: st)) rfl (pc0 := pc) rfl (hb C.2.1 hd) rfl (XT.i0_eq_t q) ho hp)
  · exact go_pure (G2 q) (fun C X t => XS.ifNo X.here C.1 (g := mkF _ pc ls.toArray (.int a :: st)) rfl (hb C.2.1 hd) rfl (XT.i0_eq_f q))
theorem go_lc_eq {a b : Int64} (D : Db bytes pc (.ifCond .eq) pc' tg) (G1 : a = b → Go wd K₀ l Z R y bytes ml ret n0 kc ks Q h k n tg ls st) (G2 : ¬ a = b → Go wd K₀ l Z R y bytes ml ret n0 kc ks Q h k n pc' ls st) : Go wd K₀ l Z R y bytes ml ret n0 kc ks Q h k n pc ls (.int (XT.cmpL a b) :: st) := by
  obtain ⟨o, hd, rfl, ho, hp⟩ := D
  by_cases q : a = b
  · exact go_pure (G1 q) (fun C X t => XS.ifYes X.here C.1 (g := mkF _ pc ls.toArray (.int (XT.cmpL a b) :: st)) rfl (pc0 := pc) rfl (hb C.2.1 hd) rfl (XT.ll_eq_t q) ho hp)
  · exact go_pure (G2 q) (fun C X t => XS.ifNo X.here C.1 (g := mkF _ pc ls.toArray (.int (XT.cmpL a b) :: st)) rfl (hb C.2.1 hd) rfl (XT.ll_eq_f q))
theorem go_icmp_ne {a b : Int32} (D : Db bytes pc (.if_icmp .ne) pc' tg) (G1 : ¬ a = b → Go wd K₀ l Z R y bytes ml ret n0 kc ks Q h k n tg ls st) (G2 : a = b → Go wd K₀ l Z R y bytes ml ret n0 kc ks Q h k n pc' ls st) : Go wd K₀ l Z R y bytes ml ret n0 kc ks Q h k n pc ls (.int b :: .int a :: st) := by
  obtain ⟨o, hd, rfl, ho, hp⟩ := D
  by_cases q : a = b
  · exact go_pure (G2 q) (fun C X t => XS.icmpNo X.here C.1 (g := mkF _ pc ls.toArray (.int b :: .int a :: st)) rfl (hb C.2.1 hd) rfl (XT.ii_ne_f q))
  · exact go_pure (G1 q) (fun C X t => XS.icmpYes X.here C.1 (g := mkF _ pc ls.toArray (.int b :: .int a :: st)) rfl (pc0 := pc) rfl (hb C.2.1 hd) rfl (XT.ii_ne_t q) ho hp)
theorem go_if_ne {a : Int32} (D : Db bytes pc (.ifCond .ne) pc' tg) (G1 : ¬ a = 0 → Go wd K₀ l Z R y bytes ml ret n0 kc ks Q h k n tg ls st) (G2 : a = 0 → Go wd K₀ l Z R y bytes ml ret n0 kc ks Q h k n pc' ls st) : Go wd K₀ l Z R y bytes ml ret n0 kc ks Q h k n pc ls (.int a :: st) := by
  obtain ⟨o, hd, rfl, ho, hp⟩ := D
  by_cases q : a = 0
  · exact go_pure (G2 q) (fun C X t => XS.ifNo X.here C.1 (g := mkF _ pc ls.toArray (.int a :: st)) rfl (hb C.2.1 hd) rfl (XT.i0_ne_f q))
  · exact go_pure (G1 q) (fun C X t => XS.ifYes X.here C.1 (g := mkF _ pc ls.toArray (.int a :: st)) rfl (pc0 := pc) rfl (hb C.2.1 hd) rfl (XT.i0_ne_t q) ho hp)
theorem go_lc_ne {a b : Int64} (D : Db bytes pc (.ifCond .ne) pc' tg) (G1 : ¬ a = b → Go wd K₀ l Z R y bytes ml ret n0 kc ks Q h k n tg ls st) (G2 : a = b → Go wd K₀ l Z R y bytes ml ret n0 kc ks Q h k n pc' ls st) : Go wd K₀ l Z R y bytes ml ret n0 kc ks Q h k n pc ls (.int (XT.cmpL a b) :: st) := by
  obtain ⟨o, hd, rfl, ho, hp⟩ := D
  by_cases q : a = b
  · exact go_pure (G2 q) (fun C X t => XS.ifNo X.here C.1 (g := mkF _ pc ls.toArray (.int (XT.cmpL a b) :: st)) rfl (hb C.2.1 hd) rfl (XT.ll_ne_f q))
  · exact go_pure (G1 q) (fun C X t => XS.ifYes X.here C.1 (g := mkF _ pc ls.toArray (.int (XT.cmpL a b) :: st)) rfl (pc0 := pc) rfl (hb C.2.1 hd) rfl (XT.ll_ne_t q) ho hp)
theorem go_icmp_lt {a b : Int32} (D : Db bytes pc (.if_icmp .lt) pc' tg) (G1 : a < b → Go wd K₀ l Z R y bytes ml ret n0 kc ks Q h k n tg ls st) (G2 : ¬ a < b → Go wd K₀ l Z R y bytes ml ret n0 kc ks Q h k n pc' ls st) : Go wd K₀ l Z R y bytes ml ret n0 kc ks Q h k n pc ls (.int b :: .int a :: st) := by
  obtain ⟨o, hd, rfl, ho, hp⟩ := D
  by_cases q : a < b
  · exact go_pure (G1 q) (fun C X t => XS.icmpYes X.here C.1 (g := mkF _ pc ls.toArray (.int b :: .int a :: st)) rfl (pc0 := pc) rfl (hb C.2.1 hd) rfl (XT.ii_lt_t q) ho hp)
  · exact go_pure (G2 q) (fun C X t => XS.icmpNo X.here C.1 (g := mkF _ pc ls.toArray (.int b :: .int a :: st)) rfl (hb C.2.1 hd) rfl (XT.ii_lt_f q))
theorem go_if_lt {a : Int32} (D : Db bytes pc (.ifCond .lt) pc' tg) (G1 : a < 0 → Go wd K₀ l Z R y bytes ml ret n0 kc ks Q h k n tg ls st) (G2 : ¬ a < 0 → Go wd K₀ l Z R y bytes ml ret n0 kc ks Q h k n pc' ls st) : Go wd K₀ l Z R y bytes ml ret n0 kc ks Q h k n pc ls (.int a :: st) := by
  obtain ⟨o, hd, rfl, ho, hp⟩ := D
  by_cases q : a < 0
  · exact go_pure (G1 q) (fun C X t => XS.ifYes X.here C.1 (g := mkF _ pc ls.toArray (.int a :: st)) rfl (pc0 := pc) rfl (hb C.2.1 hd) rfl (XT.i0_lt_t q) ho hp)
  · exact go_pure (G2 q) (fun C X t => XS.ifNo X.here C.1 (g := mkF _ pc ls.toArray (.int a :: st)) rfl (hb C.2.1 hd) rfl (XT.i0_lt_f q))
theorem go_lc_lt {a b : Int64} (D : Db bytes pc (.ifCond .lt) pc' tg) (G1 : a < b → Go wd K₀ l Z R y bytes ml ret n0 kc ks Q h k n tg ls st) (G2 : ¬ a < b → Go wd K₀ l Z R y bytes ml ret n0 kc ks Q h k n pc' ls st) : Go wd K₀ l Z R y bytes ml ret n0 kc ks Q h k n pc ls (.int (XT.cmpL a b) :: st) := by
  obtain ⟨o, hd, rfl, ho, hp⟩ := D
  by_cases q : a < b
  · exact go_pure (G1 q) (fun C X t => XS.ifYes X.here C.1 (g := mkF _ pc ls.toArray (.int (XT.cmpL a b) :: st)) rfl (pc0 := pc) rfl (hb C.2.1 hd) rfl (XT.ll_lt_t q) ho hp)
  · exact go_pure (G2 q) (fun C X t => XS.ifNo X.here C.1 (g := mkF _ pc ls.toArray (.int (XT.cmpL a b) :: st)) rfl (hb C.2.1 hd) rfl (XT.ll_lt_f q))
theorem go_icmp_ge {a b : Int32} (D : Db bytes pc (.if_icmp .ge) pc' tg) (G1 : ¬ a < b → Go wd K₀ l Z R y bytes ml ret n0 kc ks Q h k n tg ls st) (G2 : a < b → Go wd K₀ l Z R y bytes ml ret n0 kc ks Q h k n pc' ls st) : Go wd K₀ l Z R y bytes ml ret n0 kc ks Q h k n pc ls (.int b :: .int a :: st) := by
  obtain ⟨o, hd, rfl, ho, hp⟩ := D
  by_cases q : a < b
  · exact go_pure (G2 q) (fun C X t => XS.icmpNo X.here C.1 (g := mkF _ pc ls.toArray (.int b :: .int a :: st)) rfl (hb C.2.1 hd) rfl (XT.ii_ge_f q))
  · exact go_pure (G1 q) (fun C X t => XS.icmpYes X.here C.1 (g := mkF _ pc ls.toArray (.int b :: .int a :: st)) rfl (pc0 := pc) rfl (hb C.2.1 hd) rfl (XT.ii_ge_t q) ho hp)
theorem go_if_ge {a : Int32} (D : Db bytes pc (.ifCond .ge) pc' tg) (G1 : ¬ a < 0 → Go wd K₀ l Z R y bytes ml ret n0 kc ks Q h k n tg ls st) (G2 : a < 0 → Go wd K₀ l Z R y bytes ml ret n0 kc ks Q h k n pc' ls st) : Go wd K₀ l Z R y bytes ml ret n0 kc ks Q h k n pc ls (.int a :: st) := by
  obtain ⟨o, hd, rfl, ho, hp⟩ := D
  by_cases q : a < 0
  · exact go_pure (G2 q) (fun C X t => XS.ifNo X.here C.1 (g := mkF _ pc ls.toArray (.int a :: st)) rfl (hb C.2.1 hd) rfl (XT.i0_ge_f q))
  · exact go_pure (G1 q) (fun C X t => XS.ifYes X.here C.1 (g := mkF _ pc ls.toArray (.int a :: st)) rfl (pc0 := pc) rfl (hb C.2.1 hd) rfl (XT.i0_ge_t q) ho hp)
theorem go_lc_ge {a b : Int64} (D : Db bytes pc (.ifCond .ge) pc' tg) (G1 : ¬ a < b → Go wd K₀ l Z R y bytes ml ret n0 kc ks Q h k n tg ls st) (G2 : a < b → Go wd K₀ l Z R y bytes ml ret n0 kc ks Q h k n pc' ls st) : Go wd K₀ l Z R y bytes ml ret n0 kc ks Q h k n pc ls (.int (XT.cmpL a b) :: st) := by
  obtain ⟨o, hd, rfl, ho, hp⟩ := D
  by_cases q : a < b
  · exact go_pure (G2 q) (fun C X t => XS.ifNo X.here C.1 (g := mkF _ pc ls.toArray (.int (XT.cmpL a b) :: st)) rfl (hb C.2.1 hd) rfl (XT.ll_ge_f q))
  · exact go_pure (G1 q) (fun C X t => XS.ifYes X.here C.1 (g := mkF _ pc ls.toArray (.int (XT.cmpL a b) :: st)) rfl (pc0 := pc) rfl (hb C.2.1 hd) rfl (XT.ll_ge_t q) ho hp)
theorem go_icmp_gt {a b : Int32} (D : Db bytes pc (.if_icmp .gt) pc' tg) (G1 : b < a → Go wd K₀ l Z R y bytes ml ret n0 kc ks Q h k n tg ls st) (G2 : ¬ b < a → Go wd K₀ l Z R y bytes ml ret n0 kc ks Q h k n pc' ls st) : Go wd K₀ l Z R y bytes ml ret n0 kc ks Q h k n pc ls (.int b :: .int a :: st) := by
  obtain ⟨o, hd, rfl, ho, hp⟩ := D
  by_cases q : b < a
  · exact go_pure (G1 q) (fun C X t => XS.icmpYes X.here C.1 (g := mkF _ pc ls.toArray (.int b :: .int a :: st)) rfl (pc0 := pc) rfl (hb C.2.1 hd) rfl (XT.ii_gt_t q) ho hp)
  · exact go_pure (G2 q) (fun C X t => XS.icmpNo X.here C.1 (g := mkF _ pc ls.toArray (.int b :: .int a :: st)) rfl (hb C.2.1 hd) rfl (XT.ii_gt_f q))
theorem go_if_gt {a : Int32} (D : Db bytes pc (.ifCond .gt) pc' tg) (G1 : 0 < a → Go wd K₀ l Z R y bytes ml ret n0 kc ks Q h k n tg ls st) (G2 : ¬ 0 < a → Go wd K₀ l Z R y bytes ml ret n0 kc ks Q h k n pc' ls st) : Go wd K₀ l Z R y bytes ml ret n0 kc ks Q h k n pc ls (.int a :: st) := by
  obtain ⟨o, hd, rfl, ho, hp⟩ := D
  by_cases q : 0 < a
  · exact go_pure (G1 q) (fun C X t => XS.ifYes X.here C.1 (g := mkF _ pc ls.toArray (.int a :: st)) rfl (pc0 := pc) rfl (hb C.2.1 hd) rfl (XT.i0_gt_t q) ho hp)
  · exact go_pure (G2 q) (fun C X t => XS.ifNo X.here C.1 (g := mkF _ pc ls.toArray (.int a :: st)) rfl (hb C.2.1 hd) rfl (XT.i0_gt_f q))
theorem go_lc_gt {a b : Int64} (D : Db bytes pc (.ifCond .gt) pc' tg) (G1 : b < a → Go wd K₀ l Z R y bytes ml ret n0 kc ks Q h k n tg ls st) (G2 : ¬ b < a → Go wd K₀ l Z R y bytes ml ret n0 kc ks Q h k n pc' ls st) : Go wd K₀ l Z R y bytes ml ret n0 kc ks Q h k n pc ls (.int (XT.cmpL a b) :: st) := by
  obtain ⟨o, hd, rfl, ho, hp⟩ := D
  by_cases q : b < a
  · exact go_pure (G1 q) (fun C X t => XS.ifYes X.here C.1 (g := mkF _ pc ls.toArray (.int (XT.cmpL a b) :: st)) rfl (pc0 := pc) rfl (hb C.2.1 hd) rfl (XT.ll_gt_t q) ho hp)
  · exact go_pure (G2 q) (fun C X t => XS.ifNo X.here C.1 (g := mkF _ pc ls.toArray (.int (XT.cmpL a b) :: st)) rfl (hb C.2.1 hd) rfl (XT.ll_gt_f q))
theorem go_icmp_le {a b : Int32} (D : Db bytes pc (.if_icmp .le) pc' tg) (G1 : ¬ b < a → Go wd K₀ l Z R y bytes ml ret n0 kc ks Q h k n tg ls st) (G2 : b < a → Go wd K₀ l Z R y bytes ml ret n0 kc ks Q h k n pc' ls st) : Go wd K₀ l Z R y bytes ml ret n0 kc ks Q h k n pc ls (.int b :: .int a :: st) := by
  obtain ⟨o, hd, rfl, ho, hp⟩ := D
  by_cases q : b < a
  · exact go_pure (G2 q) (fun C X t => XS.icmpNo X.here C.1 (g := mkF _ pc ls.toArray (.int b :: .int a :: st)) rfl (hb C.2.1 hd) rfl (XT.ii_le_f q))
  · exact go_pure (G1 q) (fun C X t => XS.icmpYes X.here C.1 (g := mkF _ pc ls.toArray (.int b :: .int a :: st)) rfl (pc0 := pc) rfl (hb C.2.1 hd) rfl (XT.ii_le_t q) ho hp)
theorem go_if_le {a : Int32} (D : Db bytes pc (.ifCond .le) pc' tg) (G1 : ¬ 0 < a → Go wd K₀ l Z R y bytes ml ret n0 kc ks Q h k n tg ls st) (G2 : 0 < a → Go wd K₀ l Z R y bytes ml ret n0 kc ks Q h k n pc' ls st) : Go wd K₀ l Z R y bytes ml ret n0 kc ks Q h k n pc ls (.int a :: st) := by
  obtain ⟨o, hd, rfl, ho, hp⟩ := D
  by_cases q : 0 < a
  · exact go_pure (G2 q) (fun C X t => XS.ifNo X.here C.1 (g := mkF _ pc ls.toArray (.int a :: st)) rfl (hb C.2.1 hd) rfl (XT.i0_le_f q))
  · exact go_pure (G1 q) (fun C X t => XS.ifYes X.here C.1 (g := mkF _ pc ls.toArray (.int a :: st)) rfl (pc0 := pc) rfl (hb C.2.1 hd) rfl (XT.i0_le_t q) ho hp)
theorem go_lc_le {a b : Int64} (D : Db bytes pc (.ifCond .le) pc' tg) (G1 : ¬ b < a → Go wd K₀ l Z R y bytes ml ret n0 kc ks Q h k n tg ls st) (G2 : b < a → Go wd K₀ l Z R y bytes ml ret n0 kc ks Q h k n pc' ls st) : Go wd K₀ l Z R y bytes ml ret n0 kc ks Q h k n pc ls (.int (XT.cmpL a b) :: st) := by
  obtain ⟨o, hd, rfl, ho, hp⟩ := D
  by_cases q : b < a
  · exact go_pure (G2 q) (fun C X t => XS.ifNo X.here C.1 (g := mkF _ pc ls.toArray (.int (XT.cmpL a b) :: st)) rfl (hb C.2.1 hd) rfl (XT.ll_le_f q))
  · exact go_pure (G1 q) (fun C X t => XS.ifYes X.here C.1 (g := mkF _ pc ls.toArray (.int (XT.cmpL a b) :: st)) rfl (pc0 := pc) rfl (hb C.2.1 hd) rfl (XT.ll_le_t q) ho hp)
theorem go_acmp_eq {a b : Value} (D : Db bytes pc (.if_acmp .eq) pc' tg) (ha : a.isRef = true) (hb' : b.isRef = true) (G1 : a = b → Go wd K₀ l Z R y bytes ml ret n0 kc ks Q h k n tg ls st) (G2 : ¬ a = b → Go wd K₀ l Z R y bytes ml ret n0 kc ks Q h k n pc' ls st) : Go wd K₀ l Z R y bytes ml ret n0 kc ks Q h k n pc ls (b :: a :: st) := by
  obtain ⟨o, hd, rfl, ho, hp⟩ := D
  by_cases q : a = b
  · exact go_pure (G1 q) (fun C X t => XT.acmpYes X.here C.1 (g := mkF _ pc ls.toArray (b :: a :: st)) rfl (pc0 := pc) rfl (hb C.2.1 hd) rfl ha hb' (XT.aa_eq_t q) ho hp)
  · exact go_pure (G2 q) (fun C X t => XT.acmpNo X.here C.1 (g := mkF _ pc ls.toArray (b :: a :: st)) rfl (hb C.2.1 hd) rfl ha hb' (XT.aa_eq_f q))
theorem go_acmp_ne {a b : Value} (D : Db bytes pc (.if_acmp .ne) pc' tg) (ha : a.isRef = true) (hb' : b.isRef = true) (G1 : ¬ a = b → Go wd K₀ l Z R y bytes ml ret n0 kc ks Q h k n tg ls st) (G2 : a = b → Go wd K₀ l Z R y bytes ml ret n0 kc ks Q h k n pc' ls st) : Go wd K₀ l Z R y bytes ml ret n0 kc ks Q h k n pc ls (b :: a :: st) := by
  obtain ⟨o, hd, rfl, ho, hp⟩ := D
  by_cases q : a = b
  · exact go_pure (G2 q) (fun C X t => XT.acmpNo X.here C.1 (g := mkF _ pc ls.toArray (b :: a :: st)) rfl (hb C.2.1 hd) rfl ha hb' (XT.aa_ne_f q))
  · exact go_pure (G1 q) (fun C X t => XT.acmpYes X.here C.1 (g := mkF _ pc ls.toArray (b :: a :: st)) rfl (pc0 := pc) rfl (hb C.2.1 hd) rfl ha hb' (XT.aa_ne_t q) ho hp)
theorem go_ifnullT (D : Db bytes pc .ifnull pc' tg) (G : Go wd K₀ l Z R y bytes ml ret n0 kc ks Q h k n tg ls st) : Go wd K₀ l Z R y bytes ml ret n0 kc ks Q h k n pc ls (.null :: st) := by
  obtain ⟨o, hd, rfl, ho, hp⟩ := D
  exact go_pure G (fun C X t => XS.ifnullYes X.here C.1 (g := mkF _ pc ls.toArray (.null :: st)) rfl (pc0 := pc) rfl (hb C.2.1 hd) rfl ho hp)
theorem go_ifnullF {a : Addr} (D : Db bytes pc .ifnull pc' tg) (G : Go wd K₀ l Z R y bytes ml ret n0 kc ks Q h k n pc' ls st) : Go wd K₀ l Z R y bytes ml ret n0 kc ks Q h k n pc ls (.ref a :: st) := by
  obtain ⟨o, hd, rfl, ho, hp⟩ := D
  exact go_pure G (fun C X t => XS.ifnullNo X.here C.1 (g := mkF _ pc ls.toArray (.ref a :: st)) rfl (hb C.2.1 hd) rfl)
theorem go_nonnullT {a : Addr} (D : Db bytes pc .ifnonnull pc' tg) (G : Go wd K₀ l Z R y bytes ml ret n0 kc ks Q h k n tg ls st) : Go wd K₀ l Z R y bytes ml ret n0 kc ks Q h k n pc ls (.ref a :: st) := by
  obtain ⟨o, hd, rfl, ho, hp⟩ := D
  exact go_pure G (fun C X t => XT.ifnonnullYes X.here C.1 (g := mkF _ pc ls.toArray (.ref a :: st)) rfl (pc0 := pc) rfl (hb C.2.1 hd) rfl ho hp)
theorem go_nonnullF (D : Db bytes pc .ifnonnull pc' tg) (G : Go wd K₀ l Z R y bytes ml ret n0 kc ks Q h k n pc' ls st) : Go wd K₀ l Z R y bytes ml ret n0 kc ks Q h k n pc ls (.null :: st) := by
  obtain ⟨o, hd, rfl, ho, hp⟩ := D
  exact go_pure G (fun C X t => XT.ifnonnullNo X.here C.1 (g := mkF _ pc ls.toArray (.null :: st)) rfl (hb C.2.1 hd) rfl)
theorem go_nonnullV {v : Value} (D : Db bytes pc .ifnonnull pc' tg) (hv : v.isRef = true) (G1 : v ≠ .null → Go wd K₀ l Z R y bytes ml ret n0 kc ks Q h k n tg ls st) (G2 : v = .null → Go wd K₀ l Z R y bytes ml ret n0 kc ks Q h k n pc' ls st) : Go wd K₀ l Z R y bytes ml ret n0 kc ks Q h k n pc ls (v :: st) := by
  cases v with
  | null => exact go_nonnullF D (G2 rfl)
  | ref a => exact go_nonnullT D (G1 (fun q => nomatch q))
  | int _ => cases hv
  | long _ => cases hv
  | float _ => cases hv
  | double _ => cases hv
  | _ => cases hv
theorem go_ldcI {v : Int32} {idx : Nat} (D : Dc bytes pc (.ldc idx) 2 pc') (w : (Cond.constant y.cls idx v).before a0 Z = true) (G : Go wd K₀ l Z R y bytes ml ret n0 kc ks Q h k n pc' ls (.int v :: st)) : Go wd K₀ l Z R y bytes ml ret n0 kc ks Q h k n pc ls st := by
  obtain ⟨hd, rfl⟩ := D
  exact go_pure G (fun C X t => X.ldcInt C.1 C.2.2.2.1 (mvT C.2.2.2.2.1 w) (g := mkF _ pc ls.toArray st) rfl (hb C.2.1 hd) t)
theorem go_ldcJ {v : Int64} {idx : Nat} (D : Dc bytes pc (.ldc2_w idx) 3 pc') (w : (Cond.constantLong y.cls idx v).before a0 Z = true) (G : Go wd K₀ l Z R y bytes ml ret n0 kc ks Q h k n pc' ls (.long v :: st)) : Go wd K₀ l Z R y bytes ml ret n0 kc ks Q h k n pc ls st := by
  obtain ⟨hd, rfl⟩ := D
  exact go_pure G (fun C X t => X.ldc2Long C.1 C.2.2.2.1 (mvT C.2.2.2.2.1 w) (g := mkF _ pc ls.toArray st) rfl (hb C.2.1 hd) t)
theorem go_iret {z : Int32} (hr : ret = some .int) (D : Dc bytes pc .ireturn 1 pc') (hk : k ≤ kc) (hn : n ≤ ks) (q : Q (some (.int z)) h) : Go wd K₀ l Z R y bytes ml ret n0 kc ks Q h k n pc ls (.int z :: st) := by
  intro p e s0 s m args below meth c T L Bs C X hh N
  obtain ⟨hd, rfl⟩ := D
  have hl := C.2.2.2.2.2.2.1
  obtain ⟨fs, hr', hrun, hended, hW, hsame⟩ := X.leave (v := some (.int z)) (fun q => by rw [C.2.2.2.2.2.1, hr] at q; cases q) hl
  exact ⟨_, _, retOut X C.1 (C.2.2.2.2.2.1.trans hr) rfl (Or.inl ⟨rfl, Or.inl rfl, z, rfl⟩) (hb C.2.1 hd) hr', hrun, hended, _, L, rfl, ⟨by show Q _ T.heap; rw [hh]; exact q, N⟩, endK Bs hh hW hsame hk hn⟩
theorem go_bret {z : Int32} (hr : ret = some .boolean) (D : Dc bytes pc .ireturn 1 pc') (hk : k ≤ kc) (hn : n ≤ ks) (hz : z = 0 ∨ z = 1) (q : Q (some (.int z)) h) : Go wd K₀ l Z R y bytes ml ret n0 kc ks Q h k n pc ls (.int z :: st) := by
  intro p e s0 s m args below meth c T L Bs C X hh N
  obtain ⟨hd, rfl⟩ := D
  have hl := C.2.2.2.2.2.2.1
  obtain ⟨fs, hr', hrun, hended, hW, hsame⟩ := X.leave (v := some (.int z)) (fun q => by rw [C.2.2.2.2.2.1, hr] at q; cases q) hl
  exact ⟨_, _, retOut X C.1 (C.2.2.2.2.2.1.trans hr) (by rcases hz with rfl | rfl <;> rfl) (Or.inl ⟨rfl, Or.inr (Or.inl rfl), z, rfl⟩) (hb C.2.1 hd) hr', hrun, hended, _, L, rfl, ⟨by show Q _ T.heap; rw [hh]; exact q, N⟩, endK Bs hh hW hsame hk hn⟩
theorem go_nret {z : Int32} {ty : FieldType} (hr : ret = some ty) (hty : ty = .byte ∨ ty = .char ∨ ty = .short) (D : Dc bytes pc .ireturn 1 pc') (hk : k ≤ kc) (hn : n ≤ ks) (hz : narrow ty (.int z) = .int z) (q : Q (some (.int z)) h) : Go wd K₀ l Z R y bytes ml ret n0 kc ks Q h k n pc ls (.int z :: st) := by
  intro p e s0 s m args below meth c T L Bs C X hh N
  obtain ⟨hd, rfl⟩ := D
  have hl := C.2.2.2.2.2.2.1
  obtain ⟨fs, hr', hrun, hended, hW, hsame⟩ := X.leave (v := some (.int z)) (fun q => by rw [C.2.2.2.2.2.1, hr] at q; cases q) hl
  exact ⟨_, _, retOut X C.1 (C.2.2.2.2.2.1.trans hr) hz (Or.inl ⟨rfl, Or.inr (Or.inr hty), z, rfl⟩) (hb C.2.1 hd) hr', hrun, hended, _, L, rfl, ⟨by show Q _ T.heap; rw [hh]; exact q, N⟩, endK Bs hh hW hsame hk hn⟩
theorem go_lret {z : Int64} (hr : ret = some .long) (D : Dc bytes pc .lreturn 1 pc') (hk : k ≤ kc) (hn : n ≤ ks) (q : Q (some (.long z)) h) : Go wd K₀ l Z R y bytes ml ret n0 kc ks Q h k n pc ls (.long z :: st) := by
  intro p e s0 s m args below meth c T L Bs C X hh N
  obtain ⟨hd, rfl⟩ := D
  have hl := C.2.2.2.2.2.2.1
  obtain ⟨fs, hr', hrun, hended, hW, hsame⟩ := X.leave (v := some (.long z)) (fun q => by rw [C.2.2.2.2.2.1, hr] at q; cases q) hl
  exact ⟨_, _, retOut X C.1 (C.2.2.2.2.2.1.trans hr) rfl (Or.inr (Or.inl ⟨rfl, rfl, z, rfl⟩)) (hb C.2.1 hd) hr', hrun, hended, _, L, rfl, ⟨by show Q _ T.heap; rw [hh]; exact q, N⟩, endK Bs hh hW hsame hk hn⟩
theorem narrow_ref {t : FieldType} {w : Value} (ht : t.isReference = true) (hw : w.isRef = true) : narrow t w = w := by
  cases t <;> cases w <;> first | rfl | (simp [FieldType.isReference] at ht; done) | (simp [Value.isRef] at hw; done)
theorem go_aret {w : Value} {t : FieldType} (hr : ret = some t) (ht : t.isReference = true) (hw : w.isRef = true) (D : Dc bytes pc .areturn 1 pc') (hk : k ≤ kc) (hn : n ≤ ks) (q : Q (some w) h) : Go wd K₀ l Z R y bytes ml ret n0 kc ks Q h k n pc ls (w :: st) := by
  intro p e s0 s m args below meth c T L Bs C X hh N
  obtain ⟨hd, rfl⟩ := D
  have hl := C.2.2.2.2.2.2.1
  obtain ⟨fs, hr', hrun, hended, hW, hsame⟩ := X.leave (v := some w) (fun q => by rw [C.2.2.2.2.2.1, hr] at q; cases q) hl
  exact ⟨_, _, retOut X C.1 (C.2.2.2.2.2.1.trans hr) (narrow_ref ht hw) (Or.inr (Or.inr (Or.inr (Or.inr ⟨rfl, ht, hw⟩)))) (hb C.2.1 hd) hr', hrun, hended, _, L, rfl, ⟨by show Q _ T.heap; rw [hh]; exact q, N⟩, endK Bs hh hW hsame hk hn⟩
theorem go_ret (hr : ret = none) (D : Dc bytes pc .return_ 1 pc') (hk : k ≤ kc) (hn : n ≤ ks) (q : Q none h) : Go wd K₀ l Z R y bytes ml ret n0 kc ks Q h k n pc ls [] := by
  intro p e s0 s m args below meth c T L Bs C X hh N
  obtain ⟨hd, rfl⟩ := D
  have hl := C.2.2.2.2.2.2.1
  obtain ⟨fs, hr', hrun, hended, hW, hsame⟩ := X.leave (v := none) (fun _ => rfl) hl
  exact ⟨_, _, X.returnOut C.1 (C.2.2.2.2.2.1.trans hr) (hb C.2.1 hd) hr', hrun, hended, _, L, rfl, ⟨by show Q _ T.heap; rw [hh]; exact q, N⟩, endK Bs hh hW hsame hk hn⟩
theorem con_of {as' : Array Value} (hp : plainFor y = true) (he : Jvm.Sym.laidSlots as'.toList ++ List.replicate (ml - (Jvm.Sym.laidSlots as'.toList).length) .unset = ls) (G : Go wd KT l Z R y bytes ml ret n0 R.cells R.slots Q h 0 0 0 ls []) : Con wd l Z y bytes ml ret R as' h n0 Q := by
  intro ws
  refine MetFree.of_bodySF hp hisR ?_
  intro p e s m args below meth c s₁ Bd hml hP hK
  obtain ⟨rfl, hZ, hh⟩ := hP
  have X0 : Stand p l e R s m args below meth c s₁ [] 0 0 := Stand.of_body Bd
  have e0 : s₁.heap = h := by rw [← hh, Bd.state]; rfl
  obtain ⟨s₂, o, h1, h2, h3, v, L, e1, ⟨q1, q2⟩, q3⟩ := G p e s s m args below meth c s₁ [] (Base.start s hh) ⟨Bd.exec, Bd.bytes, hml, findClass_of_methodNamed Bd.named, hZ, Bd.returns, Bd.notSynchronized, (name_of_methodNamed Bd.named Bd.method).1, trivial⟩ X0 e0 (Fr.nil n0)
  exact ⟨s₂, o, (XT.entry (Ls := ls.toArray) (by simpa using he)).trans h1, h2, h3, v, L, e1, ⟨⟨q1, by rw [← hh]; exact q3.size⟩, q2⟩, q3⟩
theorem go_callS1 {y' : MethodName} {b' : ByteArray} {m' : Nat} {r' : Option FieldType} {rm : Room} {idx W : Nat} {argsL : List Value} {P : Value → Heap → Prop} (D : Dc bytes pc (.invokestatic idx) 3 pc') (hM : Con false l Z y' b' m' r' rm argsL.toArray h n0 (R1 P))
    (w1 : (Cond.methodLink y.cls idx y').before a0 Z = true) (w2 : (Cond.static y').before a0 Z = true) (w3 : (Cond.initialized y'.cls).before a0 Z = true) (w4 : (Cond.code y' b' m' r').before a0 Z = true) (hy : y'.cls ≠ "java/lang/invoke/MethodHandle" ∧ y'.cls ≠ "java/lang/invoke/VarHandle")
    (hlen : ∀ sig, parseMethodDescriptor y'.desc = some sig → argsL.length = sig.parameters.length) {st₀ : List Value} (hst : st₀ = argsL.reverse ++ st) (hW : (st.map fun v => v.category).sum = W) (hf : rm.frames + 1 ≤ R.frames) (hlo : W + (m' + 11) + rm.locals ≤ R.locals) (hk : k + rm.cells ≤ R.cells) (hn : n + rm.slots ≤ R.slots) (hls : ls.length = ml)
    (G : ∀ w h', P w h' → Go wd K₀ l Z R y bytes ml ret n0 kc ks Q h' (k + rm.cells) (n + rm.slots) pc' ls (w :: st)) : Go wd K₀ l Z R y bytes ml ret n0 kc ks Q h k n pc ls st₀ := by
  subst hst
  intro p e s0 s m args below meth c T L Bs C X hh N
  obtain ⟨hd, rfl⟩ := D
  have hZ := C.2.2.2.2.1
  obtain ⟨v, vm₁, ⟨B, Lb, kb, nb⟩, -, X', ⟨Lq, ⟨⟨hQ, hsz⟩, Ns⟩, e1, e2, e3⟩, st'⟩ := Jvm.LawKit.callS X C.1 (y := y') C.2.2.2.1 (mvT hZ w1) (mvT hZ w2) (mvT hZ w3) (mvT hZ w4) hy (backOf (W := W) (Q := fun v h' L => ((R1 P) v h' ∧ h.size ≤ h'.size) ∧ Fr n0 L) (hM []) hZ w4 w3 hf hlo) (g := mkF m pc ls.toArray (argsL.reverse ++ st)) rfl
    (by rw [C.2.2.1]; simpa using hls) (argsL := argsL) (rest := st) hlen rfl (by show 2 * 0 + _ ≤ W; rw [← hW]; omega) (hb C.2.1 hd) (fun _ _ => ⟨rfl, hh, hk, hn⟩)
  dsimp only [Pt.U, Pt.locs, Pt.cells, Pt.slots] at X' hQ hsz e1 e2 e3 st'
  subst e1 e2 e3
  obtain ⟨w, rfl, hP⟩ := hQ
  exact (G w B.heap hP p e s0 s m args below meth c B _ (Bs.mono hsz) C X' rfl (N.app Ns)).pre st'
theorem go_callV1 {y' : MethodName} {b' : ByteArray} {m' : Nat} {r' : Option FieldType} {rm : Room} {idx W : Nat} {argsL : List Value} {P : Value → Heap → Prop} {x' : MethodName} {K : String} {a : Addr} (D : Dc bytes pc (.invokevirtual idx) 3 pc') (hM : Con false l Z y' b' m' r' rm (.ref a :: argsL).toArray h n0 (R1 P)) (E : Exa Z h a K)
    (w1 : (Cond.methodLink y.cls idx x').before a0 Z = true) (w5 : (Cond.declares x').before a0 Z = true) (nf : ∀ s : State, Z.Warmed39 s.vm → NotFace s x') (w6 : (Cond.selects K x' y').before a0 Z = true) (w2 : (Cond.instanceMethod y').before a0 Z = true) (w3 : (Cond.initialized y'.cls).before a0 Z = true) (w4 : (Cond.code y' b' m' r').before a0 Z = true)
    (hy : x'.cls ≠ "java/lang/invoke/MethodHandle" ∧ x'.cls ≠ "java/lang/invoke/VarHandle") (hlen : ∀ sig, parseMethodDescriptor x'.desc = some sig → argsL.length = sig.parameters.length) {st₀ : List Value} (hst : st₀ = argsL.reverse ++ .ref a :: st) (hW : (st.map fun v => v.category).sum = W) (hf : rm.frames + 1 ≤ R.frames) (hlo : W + (m' + 11) + rm.locals ≤ R.locals) (hk : k + rm.cells ≤ R.cells) (hn : n + rm.slots ≤ R.slots) (hls : ls.length = ml)
    (G : ∀ w h', P w h' → Go wd K₀ l Z R y bytes ml ret n0 kc ks Q h' (k + rm.cells) (n + rm.slots) pc' ls (w :: st)) : Go wd K₀ l Z R y bytes ml ret n0 kc ks Q h k n pc ls st₀ := by
  subst hst
  intro p e s0 s m args below meth c T L Bs C X hh N
  obtain ⟨hd, rfl⟩ := D
  have hZ := C.2.2.2.2.1
  obtain ⟨cq, kq, qa, qb, qc⟩ := isOf (T := T) hZ hh E
  obtain ⟨v, vm₁, ⟨B, Lb, kb, nb⟩, -, X', ⟨Lq, ⟨⟨hQ, hsz⟩, Ns⟩, e1, e2, e3⟩, st'⟩ := X.virtualBack C.1 (y := x') (z := y') C.2.2.2.1 (mvT hZ w1) (mvT hZ w5) (nf s hZ) (mvT hZ w6) (mvT hZ w2) hy (backOf (W := W) (Q := fun v h' L => ((R1 P) v h' ∧ h.size ≤ h'.size) ∧ Fr n0 L) (hM []) hZ w4 w3 hf hlo) qa qc (g := mkF m pc ls.toArray (argsL.reverse ++ .ref a :: st)) rfl
    (by rw [C.2.2.1]; simpa using hls) (Steps.refl _) (argsL := argsL) (rest := st) hlen rfl (by show 2 * 0 + _ ≤ W; rw [← hW]; omega) (hb C.2.1 hd) (fun _ _ => ⟨rfl, hh, hk, hn⟩)
  dsimp only [Pt.U, Pt.locs, Pt.cells, Pt.slots] at X' hQ hsz e1 e2 e3 st'
  subst e1 e2 e3
  obtain ⟨w, rfl, hP⟩ := hQ
  exact (G w B.heap hP p e s0 s m args below meth c B _ (Bs.mono hsz) C X' rfl (N.app Ns)).pre (fun t q => st'.trans q)
theorem go_callP1 {y' : MethodName} {b' : ByteArray} {m' : Nat} {r' : Option FieldType} {rm : Room} {idx W : Nat} {argsL : List Value} {P : Value → Heap → Prop} {K : String} {a : Addr} (D : Dc bytes pc (.invokevirtual idx) 3 pc') (hM : Con false l Z y' b' m' r' rm (.ref a :: argsL).toArray h n0 (R1 P)) (E : Exa Z h a K)
    (w1 : (Cond.methodLink y.cls idx y').before a0 Z = true) (w2 : (Cond.instanceMethod y').before a0 Z = true) {kk : Nat} (wi : (Cond.instantiable y'.cls kk).before a0 Z = true) (w5 : (Cond.privateMethod y').before a0 Z = true) (w3 : (Cond.initialized y'.cls).before a0 Z = true) (w4 : (Cond.code y' b' m' r').before a0 Z = true) (hy : y'.cls ≠ "java/lang/invoke/MethodHandle" ∧ y'.cls ≠ "java/lang/invoke/VarHandle")
    (hlen : ∀ sig, parseMethodDescriptor y'.desc = some sig → argsL.length = sig.parameters.length) {st₀ : List Value} (hst : st₀ = argsL.reverse ++ .ref a :: st) (hW : (st.map fun v => v.category).sum = W) (hf : rm.frames + 1 ≤ R.frames) (hlo : W + (m' + 11) + rm.locals ≤ R.locals) (hk : k + rm.cells ≤ R.cells) (hn : n + rm.slots ≤ R.slots) (hls : ls.length = ml)
    (G : ∀ w h', P w h' → Go wd K₀ l Z R y bytes ml ret n0 kc ks Q h' (k + rm.cells) (n + rm.slots) pc' ls (w :: st)) : Go wd K₀ l Z R y bytes ml ret n0 kc ks Q h k n pc ls st₀ := by
  subst hst
  intro p e s0 s m args below meth c T L Bs C X hh N
  obtain ⟨hd, rfl⟩ := D
  have hZ := C.2.2.2.2.1
  obtain ⟨cq, q1, q2⟩ := E.cell
  have wi' : (Cond.instantiable y'.cls kk).before args s = true := mvT hZ wi
  obtain ⟨c2, k2, i1, i2, -, i4, -⟩ := Cond.instantiable_spec wi'
  have hpa : s.PrivateAt y' := Cond.privateMethod_at (mvP hZ w5 (args := #[]))
  have w6 : (Cond.selects y'.cls y' y').before args s = true := selects_self_of_private i1 i2 (Bool.or_eq_false_iff.mp i4).1 hpa (mvT hZ w2) hy
  obtain ⟨v, vm₁, ⟨B, Lb, kb, nb⟩, -, X', ⟨Lq, ⟨⟨hQ, hsz⟩, Ns⟩, e1, e2, e3⟩, st'⟩ := X.privateBack C.1 (y := y') C.2.2.2.1 (mvT hZ w1) (mvT hZ w2) w6 hpa (mvT hZ w4) hy (backOf (W := W) (Q := fun v h' L => ((R1 P) v h' ∧ h.size ≤ h'.size) ∧ Fr n0 L) (hM []) hZ w4 w3 hf hlo) (g := mkF m pc ls.toArray (argsL.reverse ++ .ref a :: st)) rfl
    (by rw [C.2.2.1]; simpa using hls) (Steps.refl _) (a := a) (by rw [hh]; exact q1) q2 (argsL := argsL) (rest := st) hlen rfl (by show 2 * 0 + _ ≤ W; rw [← hW]; omega) (hb C.2.1 hd) (fun _ _ => ⟨rfl, hh, hk, hn⟩)
  dsimp only [Pt.U, Pt.locs, Pt.cells, Pt.slots] at X' hQ hsz e1 e2 e3 st'
  subst e1 e2 e3
  obtain ⟨w, rfl, hP⟩ := hQ
  exact (G w B.heap hP p e s0 s m args below meth c B _ (Bs.mono hsz) C X' rfl (N.app Ns)).pre (fun t q => st'.trans q)
theorem go_callS0 {y' : MethodName} {b' : ByteArray} {m' : Nat} {r' : Option FieldType} {rm : Room} {idx W : Nat} {argsL : List Value} {P : Heap → Prop} (D : Dc bytes pc (.invokestatic idx) 3 pc') (hM : Con false l Z y' b' m' r' rm argsL.toArray h n0 (R0 P))
    (w1 : (Cond.methodLink y.cls idx y').before a0 Z = true) (w2 : (Cond.static y').before a0 Z = true) (w3 : (Cond.initialized y'.cls).before a0 Z = true) (w4 : (Cond.code y' b' m' r').before a0 Z = true) (hy : y'.cls ≠ "java/lang/invoke/MethodHandle" ∧ y'.cls ≠ "java/lang/invoke/VarHandle")
    (hlen : ∀ sig, parseMethodDescriptor y'.desc = some sig → argsL.length = sig.parameters.length) {st₀ : List Value} (hst : st₀ = argsL.reverse ++ st) (hW : (st.map fun v => v.category).sum = W) (hf : rm.frames + 1 ≤ R.frames) (hlo : W + (m' + 11) + rm.locals ≤ R.locals) (hk : k + rm.cells ≤ R.cells) (hn : n + rm.slots ≤ R.slots) (hls : ls.length = ml)
    (G : ∀ h', P h' → Go wd K₀ l Z R y bytes ml ret n0 kc ks Q h' (k + rm.cells) (n + rm.slots) pc' ls st) : Go wd K₀ l Z R y bytes ml ret n0 kc ks Q h k n pc ls st₀ := by
  subst hst
  intro p e s0 s m args below meth c T L Bs C X hh N
  obtain ⟨hd, rfl⟩ := D
  have hZ := C.2.2.2.2.1
  obtain ⟨v, vm₁, ⟨B, Lb, kb, nb⟩, -, X', ⟨Lq, ⟨⟨hQ, hsz⟩, Ns⟩, e1, e2, e3⟩, st'⟩ := Jvm.LawKit.callS X C.1 (y := y') C.2.2.2.1 (mvT hZ w1) (mvT hZ w2) (mvT hZ w3) (mvT hZ w4) hy (backOf (W := W) (Q := fun v h' L => ((R0 P) v h' ∧ h.size ≤ h'.size) ∧ Fr n0 L) (hM []) hZ w4 w3 hf hlo) (g := mkF m pc ls.toArray (argsL.reverse ++ st)) rfl
    (by rw [C.2.2.1]; simpa using hls) (argsL := argsL) (rest := st) hlen rfl (by show 2 * 0 + _ ≤ W; rw [← hW]; omega) (hb C.2.1 hd) (fun _ _ => ⟨rfl, hh, hk, hn⟩)
  dsimp only [Pt.U, Pt.locs, Pt.cells, Pt.slots] at X' hQ hsz e1 e2 e3 st'
  subst e1 e2 e3
  obtain ⟨rfl, hP⟩ := hQ
  exact (G B.heap hP p e s0 s m args below meth c B _ (Bs.mono hsz) C X' rfl (N.app Ns)).pre st'
theorem go_callN0 {y' : MethodName} {b' : ByteArray} {m' : Nat} {r' : Option FieldType} {rm : Room} {idx W : Nat} {argsL : List Value} {P : Heap → Prop} {a : Addr} (D : Dc bytes pc (.invokespecial idx) 3 pc') (hi : y'.name = "<init>") (hr' : r' = none) (hM : Con false l Z y' b' m' r' rm (.ref a :: argsL).toArray h n0 (R0 P))
    (w1 : (Cond.methodLink y.cls idx y').before a0 Z = true) (w2 : (Cond.instanceMethod y').before a0 Z = true) (w3 : (Cond.initialized y'.cls).before a0 Z = true) (w4 : (Cond.code y' b' m' r').before a0 Z = true) (hy : y'.cls ≠ "java/lang/invoke/MethodHandle" ∧ y'.cls ≠ "java/lang/invoke/VarHandle")
    (hlen : ∀ sig, parseMethodDescriptor y'.desc = some sig → argsL.length = sig.parameters.length) {st₀ : List Value} (hst : st₀ = argsL.reverse ++ .ref a :: st) (hW : (st.map fun v => v.category).sum = W) (hf : rm.frames + 1 ≤ R.frames) (hlo : W + (m' + 11) + rm.locals ≤ R.locals) (hk : k + rm.cells ≤ R.cells) (hn : n + rm.slots ≤ R.slots) (hls : ls.length = ml)
    (G : ∀ h', P h' → Go wd K₀ l Z R y bytes ml ret n0 kc ks Q h' (k + rm.cells) (n + rm.slots) pc' ls st) : Go wd K₀ l Z R y bytes ml ret n0 kc ks Q h k n pc ls st₀ := by
  subst hst hr'
  intro p e s0 s m args below meth c T L Bs C X hh N
  obtain ⟨hd, rfl⟩ := D
  have hZ := C.2.2.2.2.1
  obtain ⟨v, vm₁, ⟨B, Lb, kb, nb⟩, -, X', ⟨Lq, ⟨⟨hQ, hsz⟩, Ns⟩, e1, e2, e3⟩, st'⟩ := X.specialBack C.1 (y := y') hi C.2.2.2.1 (mvT hZ w1) (mvT hZ w2) (mvT hZ w4) hy (backOf (W := W) (Q := fun v h' L => ((R0 P) v h' ∧ h.size ≤ h'.size) ∧ Fr n0 L) (hM []) hZ w4 w3 hf hlo) (g := mkF m pc ls.toArray (argsL.reverse ++ .ref a :: st)) rfl
    (by rw [C.2.2.1]; simpa using hls) (Steps.refl _) (a := a) (argsL := argsL) (rest := st) hlen rfl (by show 2 * 0 + _ ≤ W; rw [← hW]; omega) (hb C.2.1 hd) (fun _ _ => ⟨rfl, hh, hk, hn⟩)
  dsimp only [Pt.U, Pt.locs, Pt.cells, Pt.slots] at X' hQ hsz e1 e2 e3 st'
  subst e1 e2 e3
  obtain ⟨rfl, hP⟩ := hQ
  exact (G B.heap hP p e s0 s m args below meth c B _ (Bs.mono hsz) C X' rfl (N.app Ns)).pre (fun t q => st'.trans q)
theorem go_callV0 {y' : MethodName} {b' : ByteArray} {m' : Nat} {r' : Option FieldType} {rm : Room} {idx W : Nat} {argsL : List Value} {P : Heap → Prop} {x' : MethodName} {K : String} {a : Addr} (D : Dc bytes pc (.invokevirtual idx) 3 pc') (hM : Con false l Z y' b' m' r' rm (.ref a :: argsL).toArray h n0 (R0 P)) (E : Exa Z h a K)
    (w1 : (Cond.methodLink y.cls idx x').before a0 Z = true) (w5 : (Cond.declares x').before a0 Z = true) (nf : ∀ s : State, Z.Warmed39 s.vm → NotFace s x') (w6 : (Cond.selects K x' y').before a0 Z = true) (w2 : (Cond.instanceMethod y').before a0 Z = true) (w3 : (Cond.initialized y'.cls).before a0 Z = true) (w4 : (Cond.code y' b' m' r').before a0 Z = true)
    (hy : x'.cls ≠ "java/lang/invoke/MethodHandle" ∧ x'.cls ≠ "java/lang/invoke/VarHandle") (hlen : ∀ sig, parseMethodDescriptor x'.desc = some sig → argsL.length = sig.parameters.length) {st₀ : List Value} (hst : st₀ = argsL.reverse ++ .ref a :: st) (hW : (st.map fun v => v.category).sum = W) (hf : rm.frames + 1 ≤ R.frames) (hlo : W + (m' + 11) + rm.locals ≤ R.locals) (hk : k + rm.cells ≤ R.cells) (hn : n + rm.slots ≤ R.slots) (hls : ls.length = ml)
    (G : ∀ h', P h' → Go wd K₀ l Z R y bytes ml ret n0 kc ks Q h' (k + rm.cells) (n + rm.slots) pc' ls st) : Go wd K₀ l Z R y bytes ml ret n0 kc ks Q h k n pc ls st₀ := by
  subst hst
  intro p e s0 s m args below meth c T L Bs C X hh N
  obtain ⟨hd, rfl⟩ := D
  have hZ := C.2.2.2.2.1
  obtain ⟨cq, kq, qa, qb, qc⟩ := isOf (T := T) hZ hh E
  obtain ⟨v, vm₁, ⟨B, Lb, kb, nb⟩, -, X', ⟨Lq, ⟨⟨hQ, hsz⟩, Ns⟩, e1, e2, e3⟩, st'⟩ := X.virtualBack C.1 (y := x') (z := y') C.2.2.2.1 (mvT hZ w1) (mvT hZ w5) (nf s hZ) (mvT hZ w6) (mvT hZ w2) hy (backOf (W := W) (Q := fun v h' L => ((R0 P) v h' ∧ h.size ≤ h'.size) ∧ Fr n0 L) (hM []) hZ w4 w3 hf hlo) qa qc (g := mkF m pc ls.toArray (argsL.reverse ++ .ref a :: st)) rfl
    (by rw [C.2.2.1]; simpa using hls) (Steps.refl _) (argsL := argsL) (rest := st) hlen rfl (by show 2 * 0 + _ ≤ W; rw [← hW]; omega) (hb C.2.1 hd) (fun _ _ => ⟨rfl, hh, hk, hn⟩)
  dsimp only [Pt.U, Pt.locs, Pt.cells, Pt.slots] at X' hQ hsz e1 e2 e3 st'
  subst e1 e2 e3
  obtain ⟨rfl, hP⟩ := hQ
  exact (G B.heap hP p e s0 s m args below meth c B _ (Bs.mono hsz) C X' rfl (N.app Ns)).pre (fun t q => st'.trans q)
theorem go_callP0 {y' : MethodName} {b' : ByteArray} {m' : Nat} {r' : Option FieldType} {rm : Room} {idx W : Nat} {argsL : List Value} {P : Heap → Prop} {K : String} {a : Addr} (D : Dc bytes pc (.invokevirtual idx) 3 pc') (hM : Con false l Z y' b' m' r' rm (.ref a :: argsL).toArray h n0 (R0 P)) (E : Exa Z h a K)
    (w1 : (Cond.methodLink y.cls idx y').before a0 Z = true) (w2 : (Cond.instanceMethod y').before a0 Z = true) {kk : Nat} (wi : (Cond.instantiable y'.cls kk).before a0 Z = true) (w5 : (Cond.privateMethod y').before a0 Z = true) (w3 : (Cond.initialized y'.cls).before a0 Z = true) (w4 : (Cond.code y' b' m' r').before a0 Z = true) (hy : y'.cls ≠ "java/lang/invoke/MethodHandle" ∧ y'.cls ≠ "java/lang/invoke/VarHandle")
    (hlen : ∀ sig, parseMethodDescriptor y'.desc = some sig → argsL.length = sig.parameters.length) {st₀ : List Value} (hst : st₀ = argsL.reverse ++ .ref a :: st) (hW : (st.map fun v => v.category).sum = W) (hf : rm.frames + 1 ≤ R.frames) (hlo : W + (m' + 11) + rm.locals ≤ R.locals) (hk : k + rm.cells ≤ R.cells) (hn : n + rm.slots ≤ R.slots) (hls : ls.length = ml)
    (G : ∀ h', P h' → Go wd K₀ l Z R y bytes ml ret n0 kc ks Q h' (k + rm.cells) (n + rm.slots) pc' ls st) : Go wd K₀ l Z R y bytes ml ret n0 kc ks Q h k n pc ls st₀ := by
  subst hst
  intro p e s0 s m args below meth c T L Bs C X hh N
  obtain ⟨hd, rfl⟩ := D
  have hZ := C.2.2.2.2.1
  obtain ⟨cq, q1, q2⟩ := E.cell
  have wi' : (Cond.instantiable y'.cls kk).before args s = true := mvT hZ wi
  obtain ⟨c2, k2, i1, i2, -, i4, -⟩ := Cond.instantiable_spec wi'
  have hpa : s.PrivateAt y' := Cond.privateMethod_at (mvP hZ w5 (args := #[]))
  have w6 : (Cond.selects y'.cls y' y').before args s = true := selects_self_of_private i1 i2 (Bool.or_eq_false_iff.mp i4).1 hpa (mvT hZ w2) hy
  obtain ⟨v, vm₁, ⟨B, Lb, kb, nb⟩, -, X', ⟨Lq, ⟨⟨hQ, hsz⟩, Ns⟩, e1, e2, e3⟩, st'⟩ := X.privateBack C.1 (y := y') C.2.2.2.1 (mvT hZ w1) (mvT hZ w2) w6 hpa (mvT hZ w4) hy (backOf (W := W) (Q := fun v h' L => ((R0 P) v h' ∧ h.size ≤ h'.size) ∧ Fr n0 L) (hM []) hZ w4 w3 hf hlo) (g := mkF m pc ls.toArray (argsL.reverse ++ .ref a :: st)) rfl
    (by rw [C.2.2.1]; simpa using hls) (Steps.refl _) (a := a) (by rw [hh]; exact q1) q2 (argsL := argsL) (rest := st) hlen rfl (by show 2 * 0 + _ ≤ W; rw [← hW]; omega) (hb C.2.1 hd) (fun _ _ => ⟨rfl, hh, hk, hn⟩)
  dsimp only [Pt.U, Pt.locs, Pt.cells, Pt.slots] at X' hQ hsz e1 e2 e3 st'
  subst e1 e2 e3
  obtain ⟨rfl, hP⟩ := hQ
  exact (G B.heap hP p e s0 s m args below meth c B _ (Bs.mono hsz) C X' rfl (N.app Ns)).pre (fun t q => st'.trans q)
theorem go_callI1 {y' : MethodName} {b' : ByteArray} {m' : Nat} {r' : Option FieldType} {rm : Room} {idx W : Nat} {argsL : List Value} {P : Value → Heap → Prop} {x' : MethodName} {K : String} {a : Addr} {cnt : Nat} (D : Dc bytes pc (.invokeinterface idx cnt) 5 pc') (hM : Con false l Z y' b' m' r' rm (.ref a :: argsL).toArray h n0 (R1 P)) (E : Exa Z h a K)
    (w1 : (Cond.methodLink y.cls idx x').before a0 Z = true) (w5 : (Cond.declares x').before a0 Z = true) (w7 : (Cond.interfaceMethod x'.cls x'.cls x'.name x'.desc).before a0 Z = true) (w6 : (Cond.selects K x' y').before a0 Z = true) (w2 : (Cond.instanceMethod y').before a0 Z = true) (w8 : (Cond.publicMethod y').before a0 Z = true) (w9 : (Cond.unhidden K x'.name x'.desc).before a0 Z = true) (w10 : (Cond.castable K x'.cls).before a0 Z = true) (hd7 : ((Cond.interfaceMethod x'.cls x'.cls x'.name x'.desc).onTables && (Cond.interfaceMethod x'.cls x'.cls x'.name x'.desc).keepsFace) = true) (w3 : (Cond.initialized y'.cls).before a0 Z = true) (w4 : (Cond.code y' b' m' r').before a0 Z = true)
    (hy : x'.cls ≠ "java/lang/invoke/MethodHandle" ∧ x'.cls ≠ "java/lang/invoke/VarHandle") (hlen : ∀ sig, parseMethodDescriptor x'.desc = some sig → argsL.length = sig.parameters.length) {st₀ : List Value} (hst : st₀ = argsL.reverse ++ .ref a :: st) (hW : (st.map fun v => v.category).sum = W) (hf : rm.frames + 1 ≤ R.frames) (hlo : W + (m' + 11) + rm.locals ≤ R.locals) (hk : k + rm.cells ≤ R.cells) (hn : n + rm.slots ≤ R.slots) (hls : ls.length = ml)
    (G : ∀ w h', P w h' → Go wd K₀ l Z R y bytes ml ret n0 kc ks Q h' (k + rm.cells) (n + rm.slots) pc' ls (w :: st)) : Go wd K₀ l Z R y bytes ml ret n0 kc ks Q h k n pc ls st₀ := by
  subst hst
  intro p e s0 s m args below meth c T L Bs C X hh N
  obtain ⟨hd, rfl⟩ := D
  have hZ := C.2.2.2.2.1
  obtain ⟨cq, kq, qa, qb, qc⟩ := isOf (T := T) hZ hh E
  obtain ⟨v, vm₁, ⟨B, Lb, kb, nb⟩, -, X', ⟨Lq, ⟨⟨hQ, hsz⟩, Ns⟩, e1, e2, e3⟩, st'⟩ := X.interfaceBack C.1 (xi := x') (y := y') C.2.2.2.1 (mvT hZ w1) (mvT hZ w5) (mvT hZ w7 hd7) (mvT hZ w6) (mvT hZ w2) (mvT hZ w8) (mvT hZ w9) (mvT hZ w10) hy (backOf (W := W) (Q := fun v h' L => ((R1 P) v h' ∧ h.size ≤ h'.size) ∧ Fr n0 L) (hM []) hZ w4 w3 hf hlo) qa qb qc (g := mkF m pc ls.toArray (argsL.reverse ++ .ref a :: st)) rfl
    (by rw [C.2.2.1]; simpa using hls) (Steps.refl _) (argsL := argsL) (rest := st) hlen rfl (by show 2 * 0 + _ ≤ W; rw [← hW]; omega) (hb C.2.1 hd) (fun _ _ => ⟨rfl, hh, hk, hn⟩)
  dsimp only [Pt.U, Pt.locs, Pt.cells, Pt.slots] at X' hQ hsz e1 e2 e3 st'
  subst e1 e2 e3
  obtain ⟨w, rfl, hP⟩ := hQ
  exact (G w B.heap hP p e s0 s m args below meth c B _ (Bs.mono hsz) C X' rfl (N.app Ns)).pre (fun t q => st'.trans q)
theorem go_callU1 {y' : MethodName} {b' : ByteArray} {m' : Nat} {r' : Option FieldType} {rm : Room} {idx W : Nat} {argsL : List Value} {P : Value → Heap → Prop} {x' : MethodName} {K owner : String} {a : Addr} (D : Dc bytes pc (.invokevirtual idx) 3 pc') (hM : Con false l Z y' b' m' r' rm (.ref a :: argsL).toArray h n0 (R1 P)) (E : Exa Z h a K)
    (w1 : (Cond.methodLink y.cls idx x').before a0 Z = true) (w7 : (Cond.sameMethod x'.cls owner x'.name x'.desc).before a0 Z = true) (w5 : (Cond.declares ⟨owner, x'.name, x'.desc⟩).before a0 Z = true) (w6 : (Cond.selects K x' y').before a0 Z = true) (w2 : (Cond.instanceMethod y').before a0 Z = true) (w3 : (Cond.initialized y'.cls).before a0 Z = true) (w4 : (Cond.code y' b' m' r').before a0 Z = true)
    (hy : owner ≠ "java/lang/invoke/MethodHandle" ∧ owner ≠ "java/lang/invoke/VarHandle") (hlen : ∀ sig, parseMethodDescriptor x'.desc = some sig → argsL.length = sig.parameters.length) {st₀ : List Value} (hst : st₀ = argsL.reverse ++ .ref a :: st) (hW : (st.map fun v => v.category).sum = W) (hf : rm.frames + 1 ≤ R.frames) (hlo : W + (m' + 11) + rm.locals ≤ R.locals) (hk : k + rm.cells ≤ R.cells) (hn : n + rm.slots ≤ R.slots) (hls : ls.length = ml)
    (G : ∀ w h', P w h' → Go wd K₀ l Z R y bytes ml ret n0 kc ks Q h' (k + rm.cells) (n + rm.slots) pc' ls (w :: st)) : Go wd K₀ l Z R y bytes ml ret n0 kc ks Q h k n pc ls st₀ := by
  subst hst
  intro p e s0 s m args below meth c T L Bs C X hh N
  obtain ⟨hd, rfl⟩ := D
  have hZ := C.2.2.2.2.1
  obtain ⟨cq, kq, qa, qb, qc⟩ := isOf (T := T) hZ hh E
  obtain ⟨v, vm₁, ⟨B, Lb, kb, nb⟩, -, X', ⟨Lq, ⟨⟨hQ, hsz⟩, Ns⟩, e1, e2, e3⟩, st'⟩ := X.virtualBackUp C.1 (x := x') (y := y') C.2.2.2.1 (mvT hZ w1) (mvT hZ w7) (mvT hZ w5) hy (mvT hZ w6) (mvT hZ w2) (backOf (W := W) (Q := fun v h' L => ((R1 P) v h' ∧ h.size ≤ h'.size) ∧ Fr n0 L) (hM []) hZ w4 w3 hf hlo) qa qc (g := mkF m pc ls.toArray (argsL.reverse ++ .ref a :: st)) rfl
    (by rw [C.2.2.1]; simpa using hls) (Steps.refl _) (argsL := argsL) (rest := st) hlen rfl (by show 2 * 0 + _ ≤ W; rw [← hW]; omega) (hb C.2.1 hd) (fun _ _ => ⟨rfl, hh, hk, hn⟩)
  dsimp only [Pt.U, Pt.locs, Pt.cells, Pt.slots] at X' hQ hsz e1 e2 e3 st'
  subst e1 e2 e3
  obtain ⟨w, rfl, hP⟩ := hQ
  exact (G w B.heap hP p e s0 s m args below meth c B _ (Bs.mono hsz) C X' rfl (N.app Ns)).pre (fun t q => st'.trans q)
theorem go_ldcF {v : UInt32} {idx : Nat} (D : Dc bytes pc (.ldc idx) 2 pc') (w : (Cond.constantFloat y.cls idx v).before a0 Z = true) (G : Go wd K₀ l Z R y bytes ml ret n0 kc ks Q h k n pc' ls (.float v :: st)) : Go wd K₀ l Z R y bytes ml ret n0 kc ks Q h k n pc ls st := by
  obtain ⟨hd, rfl⟩ := D
  exact go_pure G (fun C X t => X.ldcFloatC C.1 C.2.2.2.1 (mvT C.2.2.2.2.1 w) (g := mkF _ pc ls.toArray st) rfl (hb C.2.1 hd) t)
theorem Base.since {s0 s : State} {vm' : Vm} {h' : Heap} (B : Base true s0 s h) (q : s.Since vm' h'.size) (g : h.size ≤ h'.size) : Base true s0 (s.setVm vm') h' := by
  obtain ⟨vm0, k0, rfl, hS, hk⟩ := B
  exact ⟨vm', h'.size, rfl, hS.trans q (Nat.le_trans hk g), Nat.le_refl _⟩
theorem Ctx.since {p : Program} {s : State} {m : MethodId} {meth : Method} {c : Code} {vm' : Vm} {k' : Nat} (C : Ctx K₀ Z y bytes ml ret p s m meth c) (q : s.Since vm' k') : Ctx KT Z y bytes ml ret p (s.setVm vm') m meth c :=
  ⟨C.1, C.2.1, C.2.2.1, by rw [show (s.setVm vm').vm = vm' from rfl, q.1.alike.findClass]; exact C.2.2.2.1, State.Warmed39.trans C.2.2.2.2.1 q.1, C.2.2.2.2.2.1, C.2.2.2.2.2.2.1, C.2.2.2.2.2.2.2.1, trivial⟩
theorem go_ldcS {idx nn : Nat} {text : String} (D : Dc bytes pc (.ldc idx) 2 pc') (w : (Cond.stringLink y.cls idx text).before a0 Z = true) (wS : ∀ a ∈ Bundle.stringAtoms, a.before a0 Z = true) (hn : 4 * text.toList.length ≤ nn) (hbig : nn ≤ 536870912) (hc : k + 2 ≤ R.cells) (hl : n + (nn + 4) ≤ R.slots)
    (G : ∀ (a : Addr) h', Ext h h' → Go true KT l Z R y bytes ml ret n0 kc ks Q h' (k + 2) (n + (nn + 4)) pc' ls (.ref a :: st)) : Go true K₀ l Z R y bytes ml ret n0 kc ks Q h k n pc ls st := by
  intro p e s0 s m args below meth c T L Bs C X hh N
  obtain ⟨hd, rfl⟩ := D
  obtain ⟨vm0, k0, rfl, hS, hk⟩ := Bs
  obtain ⟨a, T', h', k1, X', e', E, hS', hk', hZ', hf', st'⟩ := ldcS X C.1 C.2.2.2.2.1 C.2.2.2.1 w wS hh hS hk (g := mkF m pc ls.toArray st) rfl (hb C.2.1 hd) hn hbig hc hl
  exact (G a h' E p e s0 _ m args below meth c T' L ⟨_, k1, rfl, hS', hk'⟩ ⟨C.1, C.2.1, C.2.2.1, hf', hZ', C.2.2.2.2.2.1, C.2.2.2.2.2.2.1, C.2.2.2.2.2.2.2.1, trivial⟩ X' e' N).pre st'
theorem go_K (G : Go true KT l Z R y bytes ml ret n0 kc ks Q h k n pc ls st) : Go true K₀ l Z R y bytes ml ret n0 kc ks Q h k n pc ls st := fun p e s0 s m args below meth c T L B C X hh N => G p e s0 s m args below meth c T L B ⟨C.1, C.2.1, C.2.2.1, C.2.2.2.1, C.2.2.2.2.1, C.2.2.2.2.2.1, C.2.2.2.2.2.2.1, C.2.2.2.2.2.2.2.1, trivial⟩ X hh N
theorem go_ldcV {idx nn : Nat} {text : String} {vs : List Value} {z : Int32} (D : Dc bytes pc (.ldc idx) 2 pc') (w : (Cond.stringLink y.cls idx text).before a0 Z = true) (wS : ∀ a ∈ Bundle.stringAtoms, a.before a0 Z = true) (hld : Jvm.Lit.constHeld Z y.cls idx) (hcw : Jvm.Lit.compactW.before a0 Z = true)
    (ht : (∀ c ∈ text.toList, c.toNat < 256) ∧ text.toList.map (fun c => Value.int (Jvm.Lit.byteI c.toNat.toUInt16)) = vs) (hz : ¬ z < 0) (hlv : z.toNatClampNeg = vs.length) (hn : 4 * text.toList.length ≤ nn) (hbig : nn ≤ 536870912) (hc : k + 2 ≤ R.cells) (hl : n + (nn + 4) ≤ R.slots) (hn0 : Z.heap.size = n0)
    (G : ∀ (a b : Addr) (kb : ClassId) h', Ext h h' → Exa Z h' a "java/lang/String" → Fld Z h' a "java/lang/String" "coder" "B" (.int 0) → Fld Z h' a "java/lang/String" "value" "[B" (.ref b) → Arv Z h' b kb .byte z vs (.int 0) → Go true KT l Z R y bytes ml ret n0 kc ks Q h' (k + 2) (n + (nn + 4)) pc' ls (.ref a :: st)) : Go true (fun s _ => s = Z) l Z R y bytes ml ret n0 kc ks Q h k n pc ls st := by
  intro p e s0 s m args below meth c T L Bs C X hh N
  obtain ⟨hd, rfl⟩ := D
  obtain ⟨vm0, k0, rfl, hS, hk⟩ := Bs
  have hZs : s0.setVm vm0 = Z := C.2.2.2.2.2.2.2.2
  subst hZs
  obtain ⟨a, T', h', k1, b, kb, X', e', E, hS', hk', hZ', hf', F1, F2, F3, F4, -, -, -, -, st'⟩ := ldcSVL (Z := s0.setVm vm0) (s := s0) (vm0 := vm0) (Ts := []) X C.1 C.2.2.2.2.1 C.2.2.2.1 w wS hh hS hk (hn0 ▸ N) (fun _ _ q => q) IB.start (by simp) hld hcw ht hz hlv (g := mkF m pc ls.toArray st) rfl (hb C.2.1 hd) hn hbig hc hl
  exact (G a b kb h' E F1 F2 F3 F4 p e s0 _ m args below meth c T' L ⟨_, k1, rfl, hS', hk'⟩ ⟨C.1, C.2.1, C.2.2.1, hf', hZ', C.2.2.2.2.2.1, C.2.2.2.2.2.2.1, C.2.2.2.2.2.2.2.1, trivial⟩ X' e' N).pre st'
theorem con_ofZ {as' : Array Value} (hp : plainFor y = true) (he : Jvm.Sym.laidSlots as'.toList ++ List.replicate (ml - (Jvm.Sym.laidSlots as'.toList).length) .unset = ls) (G : Go wd (fun s _ => s = Z) l Z R y bytes ml ret n0 R.cells R.slots Q Z.heap 0 0 0 ls []) (ws : List Cond) :
    MetFree l y (head1 (Cond.code y bytes ml ret :: ws) R) (fun a U => a = as' ∧ U = Z) (fun _ _ _ _ _ => True) (fun _ U o U' => ∃ v L, o = .returned v ∧ ((Q v U'.heap ∧ Z.heap.size ≤ U'.heap.size) ∧ Fr n0 L) ∧ EndK wd U o U' L R.cells R.slots) := by
  refine MetFree.of_bodySF hp hisR ?_
  intro p e s m args below meth c s₁ Bd hml hP hK
  obtain ⟨rfl, hZ⟩ := hP
  subst hZ
  have X0 : Stand p l e R s m args below meth c s₁ [] 0 0 := Stand.of_body Bd
  have e0 : s₁.heap = s.heap := by rw [Bd.state]; rfl
  obtain ⟨s₂, o, h1, h2, h3, v, L, e1, ⟨q1, q2⟩, q3⟩ := G p e s s m args below meth c s₁ [] (Base.start s rfl) ⟨Bd.exec, Bd.bytes, hml, findClass_of_methodNamed Bd.named, State.Warmed39.refl s, Bd.returns, Bd.notSynchronized, (name_of_methodNamed Bd.named Bd.method).1, rfl⟩ X0 e0 (Fr.nil n0)
  exact ⟨s₂, o, (XT.entry (Ls := ls.toArray) (by simpa using he)).trans h1, h2, h3, v, L, e1, ⟨⟨q1, q3.size⟩, q2⟩, q3⟩
theorem go_cast {idx : Nat} {C0 : String} {a : Addr} (D : Dc bytes pc (.checkcast idx) 3 pc') (w : (Cond.classLink y.cls idx C0).before a0 Z = true) (F : Ins Z h a C0 true) (G : Go wd K₀ l Z R y bytes ml ret n0 kc ks Q h k n pc' ls (.ref a :: st)) : Go wd K₀ l Z R y bytes ml ret n0 kc ks Q h k n pc ls (.ref a :: st) := by
  intro p e s0 s m args below meth c T L Bs C X hh N
  obtain ⟨hd, rfl⟩ := D
  obtain ⟨T', X', e', st'⟩ := castY X C.1 C.2.2.2.2.1 C.2.2.2.1 w hh F (g := mkF m pc ls.toArray (.ref a :: st)) rfl rfl (hb C.2.1 hd)
  exact (G p e s0 s m args below meth c T' L Bs C X' e' N).pre st'
theorem go_inst {idx : Nat} {C0 : String} {a : Addr} (D : Dc bytes pc (.instanceof idx) 3 pc') (w : (Cond.classLink y.cls idx C0).before a0 Z = true) (F : Ins Z h a C0 true) (G : Go wd K₀ l Z R y bytes ml ret n0 kc ks Q h k n pc' ls (.int 1 :: st)) : Go wd K₀ l Z R y bytes ml ret n0 kc ks Q h k n pc ls (.ref a :: st) := by
  intro p e s0 s m args below meth c T L Bs C X hh N
  obtain ⟨hd, rfl⟩ := D
  obtain ⟨T', X', e', st'⟩ := instY X C.1 C.2.2.2.2.1 C.2.2.2.1 w hh F (g := mkF m pc ls.toArray (.ref a :: st)) rfl rfl (hb C.2.1 hd)
  exact (G p e s0 s m args below meth c T' L Bs C X' e' N).pre st'
theorem go_wcallS1 {y' : MethodName} {b' : ByteArray} {m' : Nat} {r' : Option FieldType} {rm : Room} {idx W : Nat} {argsL : List Value} {P : Value → Heap → Prop} (D : Dc bytes pc (.invokestatic idx) 3 pc') (hM : Con true l Z y' b' m' r' rm argsL.toArray h n0 (R1 P))
    (w1 : (Cond.methodLink y.cls idx y').before a0 Z = true) (w2 : (Cond.static y').before a0 Z = true) (w3 : (Cond.initialized y'.cls).before a0 Z = true) (w4 : (Cond.code y' b' m' r').before a0 Z = true) (hy : y'.cls ≠ "java/lang/invoke/MethodHandle" ∧ y'.cls ≠ "java/lang/invoke/VarHandle")
    (hlen : ∀ sig, parseMethodDescriptor y'.desc = some sig → argsL.length = sig.parameters.length) {st₀ : List Value} (hst : st₀ = argsL.reverse ++ st) (hW : (st.map fun v => v.category).sum = W) (hf : rm.frames + 1 ≤ R.frames) (hlo : W + (m' + 11) + rm.locals ≤ R.locals) (hk : k + rm.cells ≤ R.cells) (hn : n + rm.slots ≤ R.slots) (hls : ls.length = ml)
    (G : ∀ w h', P w h' → Go true KT l Z R y bytes ml ret n0 kc ks Q h' (k + rm.cells) (n + rm.slots) pc' ls (w :: st)) : Go true K₀ l Z R y bytes ml ret n0 kc ks Q h k n pc ls st₀ := by
  subst hst
  intro p e s0 s m args below meth c T L Bs C X hh N
  obtain ⟨hd, rfl⟩ := D
  have hZ := C.2.2.2.2.1
  obtain ⟨v, vm₁, ⟨B, Lb, kb, nb⟩, -, X', hSi, -, ⟨Lq, ⟨⟨hQ, hsz⟩, Ns⟩, e1, e2, e3⟩, st'⟩ := callSS X C.1 (y := y') C.2.2.2.1 (mvT hZ w1) (mvT hZ w2) (mvT hZ w3) (mvT hZ w4) hy (backOfS (W := W) (Q := fun v h' L => ((R1 P) v h' ∧ h.size ≤ h'.size) ∧ Fr n0 L) (hM []) hZ w4 w3 hf hlo) (g := mkF m pc ls.toArray (argsL.reverse ++ st)) rfl
    (by rw [C.2.2.1]; simpa using hls) (argsL := argsL) (rest := st) hlen rfl (by show 2 * 0 + _ ≤ W; rw [← hW]; omega) (hb C.2.1 hd) (fun _ _ => ⟨rfl, hh, hk, hn⟩)
  dsimp only [Pt.U, Pt.locs, Pt.cells, Pt.slots] at X' hSi hQ hsz e1 e2 e3 st'
  subst e1 e2 e3
  obtain ⟨w, rfl, hP⟩ := hQ
  exact (G w B.heap hP p e s0 _ m args below meth c B _ (Bs.since hSi hsz) (C.since hSi) X' rfl (N.app Ns)).pre (fun t q => st'.trans q)
theorem go_wcallV1 {y' : MethodName} {b' : ByteArray} {m' : Nat} {r' : Option FieldType} {rm : Room} {idx W : Nat} {argsL : List Value} {P : Value → Heap → Prop} {x' : MethodName} {K : String} {a : Addr} (D : Dc bytes pc (.invokevirtual idx) 3 pc') (hM : Con true l Z y' b' m' r' rm (.ref a :: argsL).toArray h n0 (R1 P)) (E : Exa Z h a K)
    (w1 : (Cond.methodLink y.cls idx x').before a0 Z = true) (w5 : (Cond.declares x').before a0 Z = true) (nf : ∀ s : State, Z.Warmed39 s.vm → NotFace s x') (w6 : (Cond.selects K x' y').before a0 Z = true) (w2 : (Cond.instanceMethod y').before a0 Z = true) (w3 : (Cond.initialized y'.cls).before a0 Z = true) (w4 : (Cond.code y' b' m' r').before a0 Z = true)
    (hy : x'.cls ≠ "java/lang/invoke/MethodHandle" ∧ x'.cls ≠ "java/lang/invoke/VarHandle") (hlen : ∀ sig, parseMethodDescriptor x'.desc = some sig → argsL.length = sig.parameters.length) {st₀ : List Value} (hst : st₀ = argsL.reverse ++ .ref a :: st) (hW : (st.map fun v => v.category).sum = W) (hf : rm.frames + 1 ≤ R.frames) (hlo : W + (m' + 11) + rm.locals ≤ R.locals) (hk : k + rm.cells ≤ R.cells) (hn : n + rm.slots ≤ R.slots) (hls : ls.length = ml)
    (G : ∀ w h', P w h' → Go true KT l Z R y bytes ml ret n0 kc ks Q h' (k + rm.cells) (n + rm.slots) pc' ls (w :: st)) : Go true K₀ l Z R y bytes ml ret n0 kc ks Q h k n pc ls st₀ := by
  subst hst
  intro p e s0 s m args below meth c T L Bs C X hh N
  obtain ⟨hd, rfl⟩ := D
  have hZ := C.2.2.2.2.1
  obtain ⟨cq, kq, qa, qb, qc⟩ := isOf (T := T) hZ hh E
  obtain ⟨v, vm₁, ⟨B, Lb, kb, nb⟩, -, X', hSi, -, ⟨Lq, ⟨⟨hQ, hsz⟩, Ns⟩, e1, e2, e3⟩, st'⟩ := X.virtualBackS C.1 (y := x') (z := y') C.2.2.2.1 (mvT hZ w1) (mvT hZ w5) (nf s hZ) (mvT hZ w6) (mvT hZ w2) hy (backOfS (W := W) (Q := fun v h' L => ((R1 P) v h' ∧ h.size ≤ h'.size) ∧ Fr n0 L) (hM []) hZ w4 w3 hf hlo) qa qc (g := mkF m pc ls.toArray (argsL.reverse ++ .ref a :: st)) rfl
    (by rw [C.2.2.1]; simpa using hls) (Steps.refl _) (argsL := argsL) (rest := st) hlen rfl (by show 2 * 0 + _ ≤ W; rw [← hW]; omega) (hb C.2.1 hd) (fun _ _ => ⟨rfl, hh, hk, hn⟩)
  dsimp only [Pt.U, Pt.locs, Pt.cells, Pt.slots] at X' hSi hQ hsz e1 e2 e3 st'
  subst e1 e2 e3
  obtain ⟨w, rfl, hP⟩ := hQ
  exact (G w B.heap hP p e s0 _ m args below meth c B _ (Bs.since hSi hsz) (C.since hSi) X' rfl (N.app Ns)).pre (fun t q => st'.trans q)
theorem go_wcallP1 {y' : MethodName} {b' : ByteArray} {m' : Nat} {r' : Option FieldType} {rm : Room} {idx W : Nat} {argsL : List Value} {P : Value → Heap → Prop} {K : String} {a : Addr} (D : Dc bytes pc (.invokevirtual idx) 3 pc') (hM : Con true l Z y' b' m' r' rm (.ref a :: argsL).toArray h n0 (R1 P)) (E : Exa Z h a K)
    (w1 : (Cond.methodLink y.cls idx y').before a0 Z = true) (w2 : (Cond.instanceMethod y').before a0 Z = true) {kk : Nat} (wi : (Cond.instantiable y'.cls kk).before a0 Z = true) (w5 : (Cond.privateMethod y').before a0 Z = true) (w3 : (Cond.initialized y'.cls).before a0 Z = true) (w4 : (Cond.code y' b' m' r').before a0 Z = true) (hy : y'.cls ≠ "java/lang/invoke/MethodHandle" ∧ y'.cls ≠ "java/lang/invoke/VarHandle")
    (hlen : ∀ sig, parseMethodDescriptor y'.desc = some sig → argsL.length = sig.parameters.length) {st₀ : List Value} (hst : st₀ = argsL.reverse ++ .ref a :: st) (hW : (st.map fun v => v.category).sum = W) (hf : rm.frames + 1 ≤ R.frames) (hlo : W + (m' + 11) + rm.locals ≤ R.locals) (hk : k + rm.cells ≤ R.cells) (hn : n + rm.slots ≤ R.slots) (hls : ls.length = ml)
    (G : ∀ w h', P w h' → Go true KT l Z R y bytes ml ret n0 kc ks Q h' (k + rm.cells) (n + rm.slots) pc' ls (w :: st)) : Go true K₀ l Z R y bytes ml ret n0 kc ks Q h k n pc ls st₀ := by
  subst hst
  intro p e s0 s m args below meth c T L Bs C X hh N
  obtain ⟨hd, rfl⟩ := D
  have hZ := C.2.2.2.2.1
  obtain ⟨cq, q1, q2⟩ := E.cell
  have wi' : (Cond.instantiable y'.cls kk).before args s = true := mvT hZ wi
  obtain ⟨c2, k2, i1, i2, -, i4, -⟩ := Cond.instantiable_spec wi'
  have hpa : s.PrivateAt y' := Cond.privateMethod_at (mvP hZ w5 (args := #[]))
  have w6 : (Cond.selects y'.cls y' y').before args s = true := selects_self_of_private i1 i2 (Bool.or_eq_false_iff.mp i4).1 hpa (mvT hZ w2) hy
  obtain ⟨v, vm₁, ⟨B, Lb, kb, nb⟩, -, X', hSi, -, ⟨Lq, ⟨⟨hQ, hsz⟩, Ns⟩, e1, e2, e3⟩, st'⟩ := X.privateBackS C.1 (y := y') C.2.2.2.1 (mvT hZ w1) (mvT hZ w2) w6 hpa (mvT hZ w4) hy (backOfS (W := W) (Q := fun v h' L => ((R1 P) v h' ∧ h.size ≤ h'.size) ∧ Fr n0 L) (hM []) hZ w4 w3 hf hlo) (g := mkF m pc ls.toArray (argsL.reverse ++ .ref a :: st)) rfl
    (by rw [C.2.2.1]; simpa using hls) (Steps.refl _) (a := a) (by rw [hh]; exact q1) q2 (argsL := argsL) (rest := st) hlen rfl (by show 2 * 0 + _ ≤ W; rw [← hW]; omega) (hb C.2.1 hd) (fun _ _ => ⟨rfl, hh, hk, hn⟩)
  dsimp only [Pt.U, Pt.locs, Pt.cells, Pt.slots] at X' hSi hQ hsz e1 e2 e3 st'
  subst e1 e2 e3
  obtain ⟨w, rfl, hP⟩ := hQ
  exact (G w B.heap hP p e s0 _ m args below meth c B _ (Bs.since hSi hsz) (C.since hSi) X' rfl (N.app Ns)).pre (fun t q => st'.trans q)
theorem go_wcallS0 {y' : MethodName} {b' : ByteArray} {m' : Nat} {r' : Option FieldType} {rm : Room} {idx W : Nat} {argsL : List Value} {P : Heap → Prop} (D : Dc bytes pc (.invokestatic idx) 3 pc') (hM : Con true l Z y' b' m' r' rm argsL.toArray h n0 (R0 P))
    (w1 : (Cond.methodLink y.cls idx y').before a0 Z = true) (w2 : (Cond.static y').before a0 Z = true) (w3 : (Cond.initialized y'.cls).before a0 Z = true) (w4 : (Cond.code y' b' m' r').before a0 Z = true) (hy : y'.cls ≠ "java/lang/invoke/MethodHandle" ∧ y'.cls ≠ "java/lang/invoke/VarHandle")
    (hlen : ∀ sig, parseMethodDescriptor y'.desc = some sig → argsL.length = sig.parameters.length) {st₀ : List Value} (hst : st₀ = argsL.reverse ++ st) (hW : (st.map fun v => v.category).sum = W) (hf : rm.frames + 1 ≤ R.frames) (hlo : W + (m' + 11) + rm.locals ≤ R.locals) (hk : k + rm.cells ≤ R.cells) (hn : n + rm.slots ≤ R.slots) (hls : ls.length = ml)
    (G : ∀ h', P h' → Go true KT l Z R y bytes ml ret n0 kc ks Q h' (k + rm.cells) (n + rm.slots) pc' ls st) : Go true K₀ l Z R y bytes ml ret n0 kc ks Q h k n pc ls st₀ := by
  subst hst
  intro p e s0 s m args below meth c T L Bs C X hh N
  obtain ⟨hd, rfl⟩ := D
  have hZ := C.2.2.2.2.1
  obtain ⟨v, vm₁, ⟨B, Lb, kb, nb⟩, -, X', hSi, -, ⟨Lq, ⟨⟨hQ, hsz⟩, Ns⟩, e1, e2, e3⟩, st'⟩ := callSS X C.1 (y := y') C.2.2.2.1 (mvT hZ w1) (mvT hZ w2) (mvT hZ w3) (mvT hZ w4) hy (backOfS (W := W) (Q := fun v h' L => ((R0 P) v h' ∧ h.size ≤ h'.size) ∧ Fr n0 L) (hM []) hZ w4 w3 hf hlo) (g := mkF m pc ls.toArray (argsL.reverse ++ st)) rfl
    (by rw [C.2.2.1]; simpa using hls) (argsL := argsL) (rest := st) hlen rfl (by show 2 * 0 + _ ≤ W; rw [← hW]; omega) (hb C.2.1 hd) (fun _ _ => ⟨rfl, hh, hk, hn⟩)
  dsimp only [Pt.U, Pt.locs, Pt.cells, Pt.slots] at X' hSi hQ hsz e1 e2 e3 st'
  subst e1 e2 e3
  obtain ⟨rfl, hP⟩ := hQ
  exact (G B.heap hP p e s0 _ m args below meth c B _ (Bs.since hSi hsz) (C.since hSi) X' rfl (N.app Ns)).pre (fun t q => st'.trans q)
theorem go_wcallN0 {y' : MethodName} {b' : ByteArray} {m' : Nat} {r' : Option FieldType} {rm : Room} {idx W : Nat} {argsL : List Value} {P : Heap → Prop} {a : Addr} (D : Dc bytes pc (.invokespecial idx) 3 pc') (hi : y'.name = "<init>") (hr' : r' = none) (hM : Con true l Z y' b' m' r' rm (.ref a :: argsL).toArray h n0 (R0 P))
    (w1 : (Cond.methodLink y.cls idx y').before a0 Z = true) (w2 : (Cond.instanceMethod y').before a0 Z = true) (w3 : (Cond.initialized y'.cls).before a0 Z = true) (w4 : (Cond.code y' b' m' r').before a0 Z = true) (hy : y'.cls ≠ "java/lang/invoke/MethodHandle" ∧ y'.cls ≠ "java/lang/invoke/VarHandle")
    (hlen : ∀ sig, parseMethodDescriptor y'.desc = some sig → argsL.length = sig.parameters.length) {st₀ : List Value} (hst : st₀ = argsL.reverse ++ .ref a :: st) (hW : (st.map fun v => v.category).sum = W) (hf : rm.frames + 1 ≤ R.frames) (hlo : W + (m' + 11) + rm.locals ≤ R.locals) (hk : k + rm.cells ≤ R.cells) (hn : n + rm.slots ≤ R.slots) (hls : ls.length = ml)
    (G : ∀ h', P h' → Go true KT l Z R y bytes ml ret n0 kc ks Q h' (k + rm.cells) (n + rm.slots) pc' ls st) : Go true K₀ l Z R y bytes ml ret n0 kc ks Q h k n pc ls st₀ := by
  subst hst hr'
  intro p e s0 s m args below meth c T L Bs C X hh N
  obtain ⟨hd, rfl⟩ := D
  have hZ := C.2.2.2.2.1
  obtain ⟨v, vm₁, ⟨B, Lb, kb, nb⟩, -, X', hSi, -, ⟨Lq, ⟨⟨hQ, hsz⟩, Ns⟩, e1, e2, e3⟩, st'⟩ := X.specialBackS C.1 (y := y') hi C.2.2.2.1 (mvT hZ w1) (mvT hZ w2) (mvT hZ w4) hy (backOfS (W := W) (Q := fun v h' L => ((R0 P) v h' ∧ h.size ≤ h'.size) ∧ Fr n0 L) (hM []) hZ w4 w3 hf hlo) (g := mkF m pc ls.toArray (argsL.reverse ++ .ref a :: st)) rfl
    (by rw [C.2.2.1]; simpa using hls) (Steps.refl _) (a := a) (argsL := argsL) (rest := st) hlen rfl (by show 2 * 0 + _ ≤ W; rw [← hW]; omega) (hb C.2.1 hd) (fun _ _ => ⟨rfl, hh, hk, hn⟩)
  dsimp only [Pt.U, Pt.locs, Pt.cells, Pt.slots] at X' hSi hQ hsz e1 e2 e3 st'
  subst e1 e2 e3
  obtain ⟨rfl, hP⟩ := hQ
  exact (G B.heap hP p e s0 _ m args below meth c B _ (Bs.since hSi hsz) (C.since hSi) X' rfl (N.app Ns)).pre (fun t q => st'.trans q)
theorem go_wcallV0 {y' : MethodName} {b' : ByteArray} {m' : Nat} {r' : Option FieldType} {rm : Room} {idx W : Nat} {argsL : List Value} {P : Heap → Prop} {x' : MethodName} {K : String} {a : Addr} (D : Dc bytes pc (.invokevirtual idx) 3 pc') (hM : Con true l Z y' b' m' r' rm (.ref a :: argsL).toArray h n0 (R0 P)) (E : Exa Z h a K)
    (w1 : (Cond.methodLink y.cls idx x').before a0 Z = true) (w5 : (Cond.declares x').before a0 Z = true) (nf : ∀ s : State, Z.Warmed39 s.vm → NotFace s x') (w6 : (Cond.selects K x' y').before a0 Z = true) (w2 : (Cond.instanceMethod y').before a0 Z = true) (w3 : (Cond.initialized y'.cls).before a0 Z = true) (w4 : (Cond.code y' b' m' r').before a0 Z = true)
    (hy : x'.cls ≠ "java/lang/invoke/MethodHandle" ∧ x'.cls ≠ "java/lang/invoke/VarHandle") (hlen : ∀ sig, parseMethodDescriptor x'.desc = some sig → argsL.length = sig.parameters.length) {st₀ : List Value} (hst : st₀ = argsL.reverse ++ .ref a :: st) (hW : (st.map fun v => v.category).sum = W) (hf : rm.frames + 1 ≤ R.frames) (hlo : W + (m' + 11) + rm.locals ≤ R.locals) (hk : k + rm.cells ≤ R.cells) (hn : n + rm.slots ≤ R.slots) (hls : ls.length = ml)
    (G : ∀ h', P h' → Go true KT l Z R y bytes ml ret n0 kc ks Q h' (k + rm.cells) (n + rm.slots) pc' ls st) : Go true K₀ l Z R y bytes ml ret n0 kc ks Q h k n pc ls st₀ := by
  subst hst
  intro p e s0 s m args below meth c T L Bs C X hh N
  obtain ⟨hd, rfl⟩ := D
  have hZ := C.2.2.2.2.1
  obtain ⟨cq, kq, qa, qb, qc⟩ := isOf (T := T) hZ hh E
  obtain ⟨v, vm₁, ⟨B, Lb, kb, nb⟩, -, X', hSi, -, ⟨Lq, ⟨⟨hQ, hsz⟩, Ns⟩, e1, e2, e3⟩, st'⟩ := X.virtualBackS C.1 (y := x') (z := y') C.2.2.2.1 (mvT hZ w1) (mvT hZ w5) (nf s hZ) (mvT hZ w6) (mvT hZ w2) hy (backOfS (W := W) (Q := fun v h' L => ((R0 P) v h' ∧ h.size ≤ h'.size) ∧ Fr n0 L) (hM []) hZ w4 w3 hf hlo) qa qc (g := mkF m pc ls.toArray (argsL.reverse ++ .ref a :: st)) rfl
    (by rw [C.2.2.1]; simpa using hls) (Steps.refl _) (argsL := argsL) (rest := st) hlen rfl (by show 2 * 0 + _ ≤ W; rw [← hW]; omega) (hb C.2.1 hd) (fun _ _ => ⟨rfl, hh, hk, hn⟩)
  dsimp only [Pt.U, Pt.locs, Pt.cells, Pt.slots] at X' hSi hQ hsz e1 e2 e3 st'
  subst e1 e2 e3
  obtain ⟨rfl, hP⟩ := hQ
  exact (G B.heap hP p e s0 _ m args below meth c B _ (Bs.since hSi hsz) (C.since hSi) X' rfl (N.app Ns)).pre (fun t q => st'.trans q)
theorem go_wcallP0 {y' : MethodName} {b' : ByteArray} {m' : Nat} {r' : Option FieldType} {rm : Room} {idx W : Nat} {argsL : List Value} {P : Heap → Prop} {K : String} {a : Addr} (D : Dc bytes pc (.invokevirtual idx) 3 pc') (hM : Con true l Z y' b' m' r' rm (.ref a :: argsL).toArray h n0 (R0 P)) (E : Exa Z h a K)
    (w1 : (Cond.methodLink y.cls idx y').before a0 Z = true) (w2 : (Cond.instanceMethod y').before a0 Z = true) {kk : Nat} (wi : (Cond.instantiable y'.cls kk).before a0 Z = true) (w5 : (Cond.privateMethod y').before a0 Z = true) (w3 : (Cond.initialized y'.cls).before a0 Z = true) (w4 : (Cond.code y' b' m' r').before a0 Z = true) (hy : y'.cls ≠ "java/lang/invoke/MethodHandle" ∧ y'.cls ≠ "java/lang/invoke/VarHandle")
    (hlen : ∀ sig, parseMethodDescriptor y'.desc = some sig → argsL.length = sig.parameters.length) {st₀ : List Value} (hst : st₀ = argsL.reverse ++ .ref a :: st) (hW : (st.map fun v => v.category).sum = W) (hf : rm.frames + 1 ≤ R.frames) (hlo : W + (m' + 11) + rm.locals ≤ R.locals) (hk : k + rm.cells ≤ R.cells) (hn : n + rm.slots ≤ R.slots) (hls : ls.length = ml)
    (G : ∀ h', P h' → Go true KT l Z R y bytes ml ret n0 kc ks Q h' (k + rm.cells) (n + rm.slots) pc' ls st) : Go true K₀ l Z R y bytes ml ret n0 kc ks Q h k n pc ls st₀ := by
  subst hst
  intro p e s0 s m args below meth c T L Bs C X hh N
  obtain ⟨hd, rfl⟩ := D
  have hZ := C.2.2.2.2.1
  obtain ⟨cq, q1, q2⟩ := E.cell
  have wi' : (Cond.instantiable y'.cls kk).before args s = true := mvT hZ wi
  obtain ⟨c2, k2, i1, i2, -, i4, -⟩ := Cond.instantiable_spec wi'
  have hpa : s.PrivateAt y' := Cond.privateMethod_at (mvP hZ w5 (args := #[]))
  have w6 : (Cond.selects y'.cls y' y').before args s = true := selects_self_of_private i1 i2 (Bool.or_eq_false_iff.mp i4).1 hpa (mvT hZ w2) hy
  obtain ⟨v, vm₁, ⟨B, Lb, kb, nb⟩, -, X', hSi, -, ⟨Lq, ⟨⟨hQ, hsz⟩, Ns⟩, e1, e2, e3⟩, st'⟩ := X.privateBackS C.1 (y := y') C.2.2.2.1 (mvT hZ w1) (mvT hZ w2) w6 hpa (mvT hZ w4) hy (backOfS (W := W) (Q := fun v h' L => ((R0 P) v h' ∧ h.size ≤ h'.size) ∧ Fr n0 L) (hM []) hZ w4 w3 hf hlo) (g := mkF m pc ls.toArray (argsL.reverse ++ .ref a :: st)) rfl
    (by rw [C.2.2.1]; simpa using hls) (Steps.refl _) (a := a) (by rw [hh]; exact q1) q2 (argsL := argsL) (rest := st) hlen rfl (by show 2 * 0 + _ ≤ W; rw [← hW]; omega) (hb C.2.1 hd) (fun _ _ => ⟨rfl, hh, hk, hn⟩)
  dsimp only [Pt.U, Pt.locs, Pt.cells, Pt.slots] at X' hSi hQ hsz e1 e2 e3 st'
  subst e1 e2 e3
  obtain ⟨rfl, hP⟩ := hQ
  exact (G B.heap hP p e s0 _ m args below meth c B _ (Bs.since hSi hsz) (C.since hSi) X' rfl (N.app Ns)).pre (fun t q => st'.trans q)
theorem go_initO {idx W : Nat} {a : Addr} (D : Dc bytes pc (.invokespecial idx) 3 pc') (w1 : (Cond.methodLink y.cls idx Lib.objectInit).before a0 Z = true) (w2 : (Cond.instanceMethod Lib.objectInit).before a0 Z = true) (w3 : (Cond.code Lib.objectInit ⟨#[0xb1]⟩ 1 none).before a0 Z = true)
    (hls : ls.length = ml) (hf : 1 ≤ R.frames) (hW : (st.map fun v => v.category).sum = W) (hlo : W + 12 ≤ R.locals) (G : Go wd K₀ l Z R y bytes ml ret n0 kc ks Q h k n pc' ls st) : Go wd K₀ l Z R y bytes ml ret n0 kc ks Q h k n pc ls (.ref a :: st) := by
  intro p e s0 s m args below meth c T L Bs C X hh N
  obtain ⟨hd, rfl⟩ := D
  obtain ⟨T', X', e', st'⟩ := initO X C.1 C.2.2.2.2.1 C.2.2.2.1 w1 w2 w3 hh (g := mkF m pc ls.toArray (.ref a :: st)) rfl (by rw [C.2.2.1]; simpa using hls) rfl (hb C.2.1 hd) hf (W := W) (by show 2 * 0 + _ ≤ W; rw [← hW]; omega) hlo
  exact (G p e s0 s m args below meth c T' L Bs C X' e' N).pre st'
/-! ## 2. fields, objects, arrays, by the library's own facts -/
theorem go_getF {idx : Nat} {R0 O nm d host : String} {a : Addr} {v : Value} (D : Dc bytes pc (.getfield idx) 3 pc') (w : (Cond.fieldLink y.cls idx R0 nm d).before a0 Z = true ∨ (Cond.fieldLinkNest y.cls idx R0 nm d host).before a0 Z = true) (via : Via Z R0 O nm d) (F : Fld Z h a O nm d v) (G : Go wd K₀ l Z R y bytes ml ret n0 kc ks Q h k n pc' ls (v :: st)) : Go wd K₀ l Z R y bytes ml ret n0 kc ks Q h k n pc ls (.ref a :: st) := by
  intro p e s0 s m args below meth c T L Bs C X hh N
  obtain ⟨hd, rfl⟩ := D
  obtain ⟨T', X', e', st'⟩ := getF X C.1 C.2.2.2.2.1 C.2.2.2.1 w via hh F (g := mkF m pc ls.toArray (.ref a :: st)) rfl rfl (hb C.2.1 hd)
  exact (G p e s0 s m args below meth c T' L Bs C X' e' N).pre st'
theorem go_getS {idx : Nat} {R0 O nm d host : String} {v : Value} (D : Dc bytes pc (.getstatic idx) 3 pc') (w : (Cond.fieldLink y.cls idx R0 nm d).before a0 Z = true ∨ (Cond.fieldLinkNest y.cls idx R0 nm d host).before a0 Z = true) (via : Via Z R0 O nm d) (F : Sta Z h O nm d v) (G : Go wd K₀ l Z R y bytes ml ret n0 kc ks Q h k n pc' ls (v :: st)) : Go wd K₀ l Z R y bytes ml ret n0 kc ks Q h k n pc ls st := by
  intro p e s0 s m args below meth c T L Bs C X hh N
  obtain ⟨hd, rfl⟩ := D
  obtain ⟨T', X', e', st'⟩ := getS2 X C.1 C.2.2.2.2.1 C.2.2.2.1 w via hh F (g := mkF m pc ls.toArray st) rfl (hb C.2.1 hd)
  exact (G p e s0 s m args below meth c T' L Bs C X' e' N).pre st'
theorem go_putF {idx kk : Nat} {R0 O nm d host K : String} {ty : FieldType} {a : Addr} {v old : Value} (D : Dc bytes pc (.putfield idx) 3 pc') (w : (Cond.fieldLink y.cls idx R0 nm d).before a0 Z = true ∨ (Cond.fieldLinkNest y.cls idx R0 nm d host).before a0 Z = true) (via : Via Z R0 O nm d) (F : Fld Z h a O nm d old) (E : Exa Z h a K)
    (Lw : (Cond.lays K O nm d).before a0 Z = true ∨ ((Cond.laysFinal K O nm d).before a0 Z = true ∧ y.cls = O ∧ y.name = "<init>")) (wi : (Cond.instantiable K kk).before a0 Z = true) (hty : parseFieldDescriptor d = some ty) (hnr : narrow ty v = v) (hfi : fits ty v = true) (ha : n0 ≤ a)
    (G : ∀ h', Wr h h' a (Jvm.RoadKit.slotOf Z O nm d) v → Go wd K₀ l Z R y bytes ml ret n0 kc ks Q h' k n pc' ls st) : Go wd K₀ l Z R y bytes ml ret n0 kc ks Q h k n pc ls (v :: .ref a :: st) := by
  intro p e s0 s m args below meth c T L Bs C X hh N
  obtain ⟨hd, rfl⟩ := D
  obtain ⟨T', h', X', e', W', st'⟩ := putF X C.1 C.2.2.2.2.1 C.2.2.2.1 w via hh F E (Lw.imp id fun q => ⟨q.1, q.2.1, C.2.2.2.2.2.2.2.1.trans q.2.2⟩) wi hty hnr hfi (g := mkF m pc ls.toArray (v :: .ref a :: st)) rfl rfl (hb C.2.1 hd)
  exact (G h' W' p e s0 s m args below meth c T' _ (Bs.mono (Nat.le_of_eq W'.size.symm)) C X' e' (Fr.snoc X' N ha)).pre st'
theorem go_newO {idx sl : Nat} {K : String} (D : Dc bytes pc (.new idx) 3 pc') (w : (Cond.classLink y.cls idx K).before a0 Z = true) (wi : (Cond.instantiable K sl).before a0 Z = true) (wz : (Cond.initialized K).before a0 Z = true) (hk : k + 1 ≤ R.cells) (hn : n + sl ≤ R.slots)
    (G : ∀ h', Ext h h' → Exa Z h' h.size K → (∀ {O nm d : String} {ty : FieldType}, Laid Z a0 K O nm d → parseFieldDescriptor d = some ty → Fld Z h' h.size O nm d (defaultValue ty)) → Go wd K₀ l Z R y bytes ml ret n0 kc ks Q h' (k + 1) (n + sl) pc' ls (.ref h.size :: st)) : Go wd K₀ l Z R y bytes ml ret n0 kc ks Q h k n pc ls st := by
  intro p e s0 s m args below meth c T L Bs C X hh N
  obtain ⟨hd, rfl⟩ := D
  obtain ⟨T', h', X', e', E', A', F', -, st'⟩ := newO X C.1 C.2.2.2.2.1 C.2.2.2.1 w wi wz hh (g := mkF m pc ls.toArray st) rfl (hb C.2.1 hd) hk hn
  exact (G h' E' A' F' p e s0 s m args below meth c T' _ (Bs.mono E'.1) C X' e' N).pre st'
theorem go_newP {aty : ArrayType} {z : Int32} {ad : String} (D : Dc bytes pc (.newarray aty) 2 pc') (w : (Cond.arrayClass (newarray.typeOf aty)).before a0 Z = true) (hz : ¬ z < 0) (cap : Nat) (hcap : z.toNatClampNeg ≤ cap) (hb8 : cap * 8 ≤ 536870912) (hk : k + 1 ≤ R.cells) (hn : n + cap ≤ R.slots) (had : "[" ++ (newarray.typeOf aty).toString = ad)
    (G : ∀ h' cA, Ext h h' → Arr Z h' h.size (newA cA (newarray.typeOf aty) z) (newarray.typeOf aty) → Exa Z h' h.size ad → Go wd K₀ l Z R y bytes ml ret n0 kc ks Q h' (k + 1) (n + cap) pc' ls (.ref h.size :: st)) : Go wd K₀ l Z R y bytes ml ret n0 kc ks Q h k n pc ls (.int z :: st) := by
  intro p e s0 s m args below meth c T L Bs C X hh N
  obtain ⟨hd, rfl⟩ := D
  obtain ⟨T', h', cA, X', e', E', A', F', st'⟩ := newPE X C.1 C.2.2.2.2.1 w hh (g := mkF m pc ls.toArray (.int z :: st)) rfl (hb C.2.1 hd) rfl hz hcap hb8 hk hn had
  exact (G h' cA E' A' F' p e s0 s m args below meth c T' _ (Bs.mono E'.1) C X' e' N).pre st'
theorem go_newR {idx : Nat} {K : String} {z : Int32} {ad : String} (D : Dc bytes pc (.anewarray idx) 3 pc') (w1 : (Cond.classLink y.cls idx K).before a0 Z = true) (w2 : (Cond.arrayOver (.object K)).before a0 Z = true) (hz : ¬ z < 0) (cap : Nat) (hcap : z.toNatClampNeg ≤ cap) (hb8 : cap * 8 ≤ 536870912) (hk : k + 1 ≤ R.cells) (hn : n + cap ≤ R.slots) (had : "[" ++ (FieldType.object K).toString = ad)
    (G : ∀ h' cA, Ext h h' → Arr Z h' h.size (newA cA (.object K) z) (.object K) → Exa Z h' h.size ad → Ovr Z cA K → Go wd K₀ l Z R y bytes ml ret n0 kc ks Q h' (k + 1) (n + cap) pc' ls (.ref h.size :: st)) : Go wd K₀ l Z R y bytes ml ret n0 kc ks Q h k n pc ls (.int z :: st) := by
  intro p e s0 s m args below meth c T L Bs C X hh N
  obtain ⟨hd, rfl⟩ := D
  obtain ⟨T', h', cA, X', e', E', A', F', O', st'⟩ := newRE X C.1 C.2.2.2.2.1 C.2.2.2.1 w1 w2 hh (g := mkF m pc ls.toArray (.int z :: st)) rfl (hb C.2.1 hd) rfl hz hcap hb8 hk hn had
  exact (G h' cA E' A' F' O' p e s0 s m args below meth c T' _ (Bs.mono E'.1) C X' e' N).pre st'
theorem go_len {a : Addr} {cl : Cell} {ty : FieldType} {z : Int32} (D : Dc bytes pc .arraylength 1 pc') (A : Arr Z h a cl ty) (hz : cl.slots.size.toInt32 = z) (G : Go wd K₀ l Z R y bytes ml ret n0 kc ks Q h k n pc' ls (.int z :: st)) : Go wd K₀ l Z R y bytes ml ret n0 kc ks Q h k n pc ls (.ref a :: st) := by
  intro p e s0 s m args below meth c T L Bs C X hh N
  obtain ⟨hd, rfl⟩ := D
  subst hz
  exact (G p e s0 s m args below meth c T L Bs C X hh N).pre fun t q => X.arraylength C.1 (by rw [hh]; exact A.1) (State.isArrayOf_alike C.2.2.2.2.1.alike A.2.1) (g := mkF m pc ls.toArray (.ref a :: st)) rfl rfl (hb C.2.1 hd) _ q
theorem go_iaload {a : Addr} {cl : Cell} {j : Int32} {v : Value} (D : Dc bytes pc .iaload 1 pc') (A : Arr Z h a cl .int) (hj : ¬ (j < 0 ∨ cl.slots.size ≤ j.toNatClampNeg)) (hv : cl.slots[j.toNatClampNeg]? = some v) (G : Go wd K₀ l Z R y bytes ml ret n0 kc ks Q h k n pc' ls (v :: st)) : Go wd K₀ l Z R y bytes ml ret n0 kc ks Q h k n pc ls (.int j :: .ref a :: st) := by
  intro p e s0 s m args below meth c T L Bs C X hh N
  obtain ⟨hd, rfl⟩ := D
  exact (G p e s0 s m args below meth c T L Bs C X hh N).pre fun t q => X.iaload C.1 (j := j) (v := v) (by rw [hh]; exact A.1) (State.isArrayOf_alike C.2.2.2.2.1.alike A.2.1) A.2.2 hj hv (g := mkF m pc ls.toArray (.int j :: .ref a :: st)) rfl rfl (hb C.2.1 hd) _ q
theorem go_caload {a : Addr} {cl : Cell} {j : Int32} {v : Value} (D : Dc bytes pc .caload 1 pc') (A : Arr Z h a cl .char) (hj : ¬ (j < 0 ∨ cl.slots.size ≤ j.toNatClampNeg)) (hv : cl.slots[j.toNatClampNeg]? = some v) (G : Go wd K₀ l Z R y bytes ml ret n0 kc ks Q h k n pc' ls (v :: st)) : Go wd K₀ l Z R y bytes ml ret n0 kc ks Q h k n pc ls (.int j :: .ref a :: st) := by
  intro p e s0 s m args below meth c T L Bs C X hh N
  obtain ⟨hd, rfl⟩ := D
  exact (G p e s0 s m args below meth c T L Bs C X hh N).pre fun t q => X.caload C.1 (j := j) (v := v) (by rw [hh]; exact A.1) (State.isArrayOf_alike C.2.2.2.2.1.alike A.2.1) A.2.2 hj hv (g := mkF m pc ls.toArray (.int j :: .ref a :: st)) rfl rfl (hb C.2.1 hd) _ q
theorem go_baload {a : Addr} {cl : Cell} {j : Int32} {v : Value} (D : Dc bytes pc .baload 1 pc') (A : Arr Z h a cl .byte) (hj : ¬ (j < 0 ∨ cl.slots.size ≤ j.toNatClampNeg)) (hv : cl.slots[j.toNatClampNeg]? = some v) (G : Go wd K₀ l Z R y bytes ml ret n0 kc ks Q h k n pc' ls (v :: st)) : Go wd K₀ l Z R y bytes ml ret n0 kc ks Q h k n pc ls (.int j :: .ref a :: st) := by
  intro p e s0 s m args below meth c T L Bs C X hh N
  obtain ⟨hd, rfl⟩ := D
  exact (G p e s0 s m args below meth c T L Bs C X hh N).pre fun t q => X.baloadBytes C.1 (j := j) (v := v) (by rw [hh]; exact A.1) (State.isArrayOf_alike C.2.2.2.2.1.alike A.2.1) A.2.2 hj hv (g := mkF m pc ls.toArray (.int j :: .ref a :: st)) rfl rfl (hb C.2.1 hd) _ q
theorem go_laload {a : Addr} {cl : Cell} {j : Int32} {v : Value} (D : Dc bytes pc .laload 1 pc') (A : Arr Z h a cl .long) (hj : ¬ (j < 0 ∨ cl.slots.size ≤ j.toNatClampNeg)) (hv : cl.slots[j.toNatClampNeg]? = some v) (G : Go wd K₀ l Z R y bytes ml ret n0 kc ks Q h k n pc' ls (v :: st)) : Go wd K₀ l Z R y bytes ml ret n0 kc ks Q h k n pc ls (.int j :: .ref a :: st) := by
  intro p e s0 s m args below meth c T L Bs C X hh N
  obtain ⟨hd, rfl⟩ := D
  exact (G p e s0 s m args below meth c T L Bs C X hh N).pre fun t q => X.laload C.1 (j := j) (v := v) (by rw [hh]; exact A.1) (State.isArrayOf_alike C.2.2.2.2.1.alike A.2.1) A.2.2 hj hv (g := mkF m pc ls.toArray (.int j :: .ref a :: st)) rfl rfl (hb C.2.1 hd) _ q
theorem go_aaload {a : Addr} {cl : Cell} {ty : FieldType} {j : Int32} {v : Value} (D : Dc bytes pc .aaload 1 pc') (A : Arr Z h a cl ty) (hty : ty.isReference = true) (hj : ¬ (j < 0 ∨ cl.slots.size ≤ j.toNatClampNeg)) (hv : cl.slots[j.toNatClampNeg]? = some v) (G : Go wd K₀ l Z R y bytes ml ret n0 kc ks Q h k n pc' ls (v :: st)) : Go wd K₀ l Z R y bytes ml ret n0 kc ks Q h k n pc ls (.int j :: .ref a :: st) := by
  intro p e s0 s m args below meth c T L Bs C X hh N
  obtain ⟨hd, rfl⟩ := D
  exact (G p e s0 s m args below meth c T L Bs C X hh N).pre fun t q => X.aaload C.1 (j := j) (v := v) (by rw [hh]; exact A.1) (State.isArrayOf_alike C.2.2.2.2.1.alike A.2.1) hty A.2.2 hj hv (g := mkF m pc ls.toArray (.int j :: .ref a :: st)) rfl rfl (hb C.2.1 hd) _ q
theorem go_iastore {a : Addr} {cl : Cell} {j : Int32} {x : Int32} (D : Dc bytes pc .iastore 1 pc') (A : Arr Z h a cl .int) (hj : ¬ (j < 0 ∨ cl.slots.size ≤ j.toNatClampNeg)) (ha : n0 ≤ a) (G : ∀ h', Wr h h' a j.toNatClampNeg (.int x) → Go wd K₀ l Z R y bytes ml ret n0 kc ks Q h' k n pc' ls st) : Go wd K₀ l Z R y bytes ml ret n0 kc ks Q h k n pc ls (.int x :: .int j :: .ref a :: st) := by
  intro p e s0 s m args below meth c T L Bs C X hh N
  obtain ⟨hd, rfl⟩ := D
  obtain ⟨T', h', X', e', W', st'⟩ := stI X C.1 C.2.2.2.2.1 hh A hj (g := mkF m pc ls.toArray (.int x :: .int j :: .ref a :: st)) rfl rfl (hb C.2.1 hd)
  exact (G h' W' p e s0 s m args below meth c T' _ (Bs.mono (Nat.le_of_eq W'.size.symm)) C X' e' (Fr.snoc X' N ha)).pre st'
theorem go_lastore {a : Addr} {cl : Cell} {j : Int32} {x : Int64} (D : Dc bytes pc .lastore 1 pc') (A : Arr Z h a cl .long) (hj : ¬ (j < 0 ∨ cl.slots.size ≤ j.toNatClampNeg)) (ha : n0 ≤ a) (G : ∀ h', Wr h h' a j.toNatClampNeg (.long x) → Go wd K₀ l Z R y bytes ml ret n0 kc ks Q h' k n pc' ls st) : Go wd K₀ l Z R y bytes ml ret n0 kc ks Q h k n pc ls (.long x :: .int j :: .ref a :: st) := by
  intro p e s0 s m args below meth c T L Bs C X hh N
  obtain ⟨hd, rfl⟩ := D
  obtain ⟨T', h', X', e', W', st'⟩ := stJ X C.1 C.2.2.2.2.1 hh A hj (g := mkF m pc ls.toArray (.long x :: .int j :: .ref a :: st)) rfl rfl (hb C.2.1 hd)
  exact (G h' W' p e s0 s m args below meth c T' _ (Bs.mono (Nat.le_of_eq W'.size.symm)) C X' e' (Fr.snoc X' N ha)).pre st'
theorem go_castore {a : Addr} {cl : Cell} {j : Int32} {x : Int32} (D : Dc bytes pc .castore 1 pc') (A : Arr Z h a cl .char) (hj : ¬ (j < 0 ∨ cl.slots.size ≤ j.toNatClampNeg)) (ha : n0 ≤ a) (G : ∀ h', Wr h h' a j.toNatClampNeg (.int (nar .char x)) → Go wd K₀ l Z R y bytes ml ret n0 kc ks Q h' k n pc' ls st) : Go wd K₀ l Z R y bytes ml ret n0 kc ks Q h k n pc ls (.int x :: .int j :: .ref a :: st) := by
  intro p e s0 s m args below meth c T L Bs C X hh N
  obtain ⟨hd, rfl⟩ := D
  obtain ⟨T', h', X', e', W', st'⟩ := stC X C.1 C.2.2.2.2.1 hh A hj (g := mkF m pc ls.toArray (.int x :: .int j :: .ref a :: st)) rfl rfl (hb C.2.1 hd)
  exact (G h' W' p e s0 s m args below meth c T' _ (Bs.mono (Nat.le_of_eq W'.size.symm)) C X' e' (Fr.snoc X' N ha)).pre st'
theorem go_bastore {a : Addr} {cl : Cell} {j : Int32} {x : Int32} (D : Dc bytes pc .bastore 1 pc') (A : Arr Z h a cl .byte) (hj : ¬ (j < 0 ∨ cl.slots.size ≤ j.toNatClampNeg)) (ha : n0 ≤ a) (G : ∀ h', Wr h h' a j.toNatClampNeg (.int (nar .byte x)) → Go wd K₀ l Z R y bytes ml ret n0 kc ks Q h' k n pc' ls st) : Go wd K₀ l Z R y bytes ml ret n0 kc ks Q h k n pc ls (.int x :: .int j :: .ref a :: st) := by
  intro p e s0 s m args below meth c T L Bs C X hh N
  obtain ⟨hd, rfl⟩ := D
  obtain ⟨T', h', X', e', W', st'⟩ := stB X C.1 C.2.2.2.2.1 hh A hj (g := mkF m pc ls.toArray (.int x :: .int j :: .ref a :: st)) rfl rfl (hb C.2.1 hd)
  exact (G h' W' p e s0 s m args below meth c T' _ (Bs.mono (Nat.le_of_eq W'.size.symm)) C X' e' (Fr.snoc X' N ha)).pre st'
theorem go_zastore {a : Addr} {cl : Cell} {j : Int32} {x : Int32} (D : Dc bytes pc .bastore 1 pc') (A : Arr Z h a cl .boolean) (hj : ¬ (j < 0 ∨ cl.slots.size ≤ j.toNatClampNeg)) (ha : n0 ≤ a) (G : ∀ h', Wr h h' a j.toNatClampNeg (.int (nar .boolean x)) → Go wd K₀ l Z R y bytes ml ret n0 kc ks Q h' k n pc' ls st) : Go wd K₀ l Z R y bytes ml ret n0 kc ks Q h k n pc ls (.int x :: .int j :: .ref a :: st) := by
  intro p e s0 s m args below meth c T L Bs C X hh N
  obtain ⟨hd, rfl⟩ := D
  obtain ⟨T', h', X', e', W', st'⟩ := stZ X C.1 C.2.2.2.2.1 hh A hj (g := mkF m pc ls.toArray (.int x :: .int j :: .ref a :: st)) rfl rfl (hb C.2.1 hd)
  exact (G h' W' p e s0 s m args below meth c T' _ (Bs.mono (Nat.le_of_eq W'.size.symm)) C X' e' (Fr.snoc X' N ha)).pre st'
theorem go_aastore {a : Addr} {cl : Cell} {ty : FieldType} {j : Int32} {v : Value} (D : Dc bytes pc .aastore 1 pc') (A : Arr Z h a cl ty) (hj : ¬ (j < 0 ∨ cl.slots.size ≤ j.toNatClampNeg)) (hty : ty.isReference = true) (F : Sto Z h a v) (ha : n0 ≤ a) (G : ∀ h', Wr h h' a j.toNatClampNeg v → Go wd K₀ l Z R y bytes ml ret n0 kc ks Q h' k n pc' ls st) : Go wd K₀ l Z R y bytes ml ret n0 kc ks Q h k n pc ls (v :: .int j :: .ref a :: st) := by
  intro p e s0 s m args below meth c T L Bs C X hh N
  obtain ⟨hd, rfl⟩ := D
  obtain ⟨T', h', X', e', W', st'⟩ := stR X C.1 C.2.2.2.2.1 hh A hj hty F (g := mkF m pc ls.toArray (v :: .int j :: .ref a :: st)) rfl rfl (hb C.2.1 hd)
  exact (G h' W' p e s0 s m args below meth c T' _ (Bs.mono (Nat.le_of_eq W'.size.symm)) C X' e' (Fr.snoc X' N ha)).pre st'
end Walk
end Jvm.OwnGo
namespace Jvm.OwnGo
open Jvm Sem ClassFile Op Lib Jvm.Stand Jvm.Free Jvm.LawKit Jvm.RoadKit
/-! ## 3. the heap since the start, as a list of what lies where -/
abbrev FD := (String × String × String) × Value
abbrev Desc := (String × List FD) ⊕ (FieldType × String × List Value)
def slotF (Z : State) (f : FD) : Nat := Jvm.RoadKit.slotOf Z f.1.1 f.1.2.1 f.1.2.2
def Is (Z : State) (h : Heap) (a : Addr) : Desc → Prop
  | .inl (K, fs) => Exa Z h a K ∧ (fs.map (slotF Z)).Nodup ∧ ∀ f ∈ fs, Fld Z h a f.1.1 f.1.2.1 f.1.2.2 f.2
  | .inr (ty, ad, vs) => Exa Z h a ad ∧ ∃ c : Cell, Arr Z h a c ty ∧ c.slots = vs.toArray ∧ vs.length < 2 ^ 31 ∧ (∀ v ∈ vs, fits ty v = true) ∧ ∀ K, ty = .object K → Ovr Z c.cls K
def Hp (Z : State) (n0 : Nat) (h : Heap) (L : List (Addr × Desc)) : Prop := Old Z n0 h ∧ (L.map Prod.fst).Nodup ∧ ∀ x ∈ L, n0 ≤ x.1 ∧ Is Z h x.1 x.2
def LaysD (Z : State) (a0 : Array Value) (K : String) : List FD → Prop
  | [] => True
  | f :: r => (Laid Z a0 K f.1.1 f.1.2.1 f.1.2.2 ∧ ∃ t, parseFieldDescriptor f.1.2.2 = some t ∧ defaultValue t = f.2) ∧ LaysD Z a0 K r
def front {α : Type} (L : List α) (i : Nat) : List α := match L[i]? with | some x => x :: L.eraseIdx i | none => L
section Hp
variable {Z : State} {n0 : Nat} {h h' : Heap} {L : List (Addr × Desc)} {a b : Addr} {K ad O nm d : String} {fs : List FD} {vs : List Value} {ty : FieldType} {v old : Value} {i j sl : Nat} {a0 : Array Value}
theorem Is.ext {D : Desc} (E : Ext h h') (F : Is Z h a D) : Is Z h' a D := by
  rcases D with ⟨K, fs⟩ | ⟨ty, ad, vs⟩
  · obtain ⟨h1, h2, h3⟩ := F; exact ⟨h1.ext E, h2, fun f hf => (h3 f hf).ext E⟩
  · obtain ⟨h1, c, h2, r⟩ := F; exact ⟨h1.ext E, c, h2.ext E, r⟩
theorem Is.other {D : Desc} (W : Wr h h' b sl v) (ne : a ≠ b) (F : Is Z h a D) : Is Z h' a D := by
  rcases D with ⟨K, fs⟩ | ⟨ty, ad, vs⟩
  · obtain ⟨h1, h2, h3⟩ := F; exact ⟨h1.wr W, h2, fun f hf => (h3 f hf).other W (Or.inl ne)⟩
  · obtain ⟨h1, c, h2, r⟩ := F; exact ⟨h1.wr W, c, h2.other W ne, r⟩
theorem Is.exa {D : Desc} (F : Is Z h a D) : ∃ K, Exa Z h a K := by
  rcases D with ⟨K, fs⟩ | ⟨ty, ad, vs⟩
  · exact ⟨K, F.1⟩
  · exact ⟨ad, F.1⟩
theorem mem_upd {α : Type} {L : List α} {i : Nat} {x y : α} (hx : x ∈ lupd L i y) : x = y ∨ ∃ q, q ≠ i ∧ L[q]? = some x := by
  rw [upd_set] at hx
  obtain ⟨q, hq⟩ := List.mem_iff_getElem?.mp hx
  rw [List.getElem?_set] at hq
  split at hq
  · rename_i e
    split at hq
    · left; exact (Option.some.inj hq).symm
    · cases hq
  · rename_i e
    exact Or.inr ⟨q, fun u => e u.symm, hq⟩
theorem Hp.mem (hi : L[i]? = some (a, D)) : (a, D) ∈ L := List.mem_of_getElem? hi
theorem Hp.is {D : Desc} (P : Hp Z n0 h L) (hi : L[i]? = some (a, D)) : Is Z h a D := (P.2.2 _ (List.mem_of_getElem? hi)).2
theorem Hp.ge {D : Desc} (P : Hp Z n0 h L) (hi : L[i]? = some (a, D)) : n0 ≤ a := (P.2.2 _ (List.mem_of_getElem? hi)).1
theorem Hp.exa (P : Hp Z n0 h L) (hi : L[i]? = some (a, .inl (K, fs))) : Exa Z h a K := (P.is hi).1
theorem Hp.exaA (P : Hp Z n0 h L) (hi : L[i]? = some (a, .inr (ty, ad, vs))) : Exa Z h a ad := (P.is hi).1
theorem Hp.fld (P : Hp Z n0 h L) (hi : L[i]? = some (a, .inl (K, fs))) (hj : fs[j]? = some ((O, nm, d), v)) : Fld Z h a O nm d v := (P.is hi).2.2 _ (List.mem_of_getElem? hj)
theorem Hp.lt {D : Desc} (P : Hp Z n0 h L) (hx : (a, D) ∈ L) : a < h.size := by
  obtain ⟨K, E⟩ := (P.2.2 _ hx).2.exa; exact E.lt
theorem Hp.ne {D D' : Desc} (P : Hp Z n0 h L) (hi : L[i]? = some (a, D)) (hj : L[j]? = some (b, D')) (q : i ≠ j) : a ≠ b := fun e => q (by
  have hl : i < (L.map Prod.fst).length := by rw [List.length_map]; exact (List.getElem?_eq_some_iff.mp hi).1
  refine (List.getElem?_inj hl P.2.1).mp ?_
  rw [List.getElem?_map, List.getElem?_map, hi, hj]; simp [e])
theorem map_upd {α β : Type} {f : α → β} {L : List α} {i : Nat} {x y : α} (hi : L[i]? = some x) (e : f y = f x) : (lupd L i y).map f = L.map f := by
  rw [upd_set]
  apply List.ext_getElem?
  intro q
  rw [List.getElem?_map, List.getElem?_map, List.getElem?_set]
  split
  · rename_i u
    subst u
    obtain ⟨hl, -⟩ := List.getElem?_eq_some_iff.mp hi
    rw [if_pos hl, hi]; simp [e]
  · rfl
theorem Hp.wr {D D' : Desc} (P : Hp Z n0 h L) (hi : L[i]? = some (a, D)) (W : Wr h h' a sl v) (I : Is Z h' a D') : Hp Z n0 h' (lupd L i (a, D')) := by
  have ha := P.ge hi
  refine ⟨P.1.wr W ha, by rw [map_upd (f := Prod.fst) (y := (a, D')) hi rfl]; exact P.2.1, fun x hx => ?_⟩
  rcases mem_upd hx with rfl | ⟨q, hq, hx'⟩
  · exact ⟨ha, I⟩
  · obtain ⟨b, D2⟩ := x
    exact ⟨P.ge hx', (P.is hx').other W (P.ne hx' hi hq)⟩
theorem Hp.put (P : Hp Z n0 h L) (hi : L[i]? = some (a, .inl (K, fs))) (hj : fs[j]? = some ((O, nm, d), old)) (W : Wr h h' a (Jvm.RoadKit.slotOf Z O nm d) v) : Hp Z n0 h' (lupd L i (a, .inl (K, lupd fs j ((O, nm, d), v)))) := by
  obtain ⟨h1, h2, h3⟩ := P.is hi
  refine P.wr hi W ⟨h1.wr W, by rw [map_upd (f := slotF Z) (y := ((O, nm, d), v)) hj rfl]; exact h2, fun f hf => ?_⟩
  rcases mem_upd hf with rfl | ⟨q, hq, hf'⟩
  · exact (h3 _ (List.mem_of_getElem? hj)).same W
  · refine (h3 _ (List.mem_of_getElem? hf')).other W (Or.inr fun e => hq ?_)
    have hl : q < (fs.map (slotF Z)).length := by rw [List.length_map]; exact (List.getElem?_eq_some_iff.mp hf').1
    refine (List.getElem?_inj hl h2).mp ?_
    rw [List.getElem?_map, List.getElem?_map, hf', hj]; simp [slotF, e]
theorem Hp.aput (P : Hp Z n0 h L) (hi : L[i]? = some (a, .inr (ty, ad, vs))) (hv : fits ty v = true) (W : Wr h h' a j v) : Hp Z n0 h' (lupd L i (a, .inr (ty, ad, lupd vs j v))) := by
  obtain ⟨h1, c, h2, h3, h4, h5, h6⟩ := P.is hi
  refine P.wr hi W ⟨h1.wr W, c.setSlot j v, h2.same W, ?_, ?_, fun w hw => ?_, h6⟩
  · rw [upd_set]; show c.slots.setIfInBounds j v = _; rw [h3]; simp
  · rw [upd_set]; simpa using h4
  · rcases mem_upd hw with rfl | ⟨q, -, hq⟩
    · exact hv
    · exact h5 _ (List.mem_of_getElem? hq)
theorem Hp.grow {D : Desc} (P : Hp Z n0 h L) (E : Ext h h') (I : Is Z h' h.size D) : Hp Z n0 h' ((h.size, D) :: L) := by
  have hs : n0 ≤ h.size := by have := P.1.1; have := P.1.2.1; omega
  refine ⟨P.1.ext E, ?_, fun x hx => ?_⟩
  · rw [List.map_cons, List.nodup_cons]
    refine ⟨fun hm => ?_, P.2.1⟩
    obtain ⟨⟨b, D2⟩, hb, e⟩ := List.mem_map.mp hm
    have q := P.lt hb
    have e' : b = h.size := e
    rw [e'] at q
    exact Nat.lt_irrefl _ q
  · rcases List.mem_cons.mp hx with rfl | hx'
    · exact ⟨hs, I⟩
    · exact ⟨(P.2.2 _ hx').1, (P.2.2 _ hx').2.ext E⟩
theorem lays_mem : ∀ {fs : List FD}, LaysD Z a0 K fs → ∀ f ∈ fs, Laid Z a0 K f.1.1 f.1.2.1 f.1.2.2 ∧ ∃ t, parseFieldDescriptor f.1.2.2 = some t ∧ defaultValue t = f.2
  | [], _, _, hf => nomatch hf
  | _ :: _, H, f, hf => (List.mem_cons.mp hf).elim (fun e => e ▸ H.1) (lays_mem H.2 f)
theorem lays_nodup : ∀ {fs : List FD}, LaysD Z a0 K fs → (fs.map fun f => f.1.2.1).Nodup → (fs.map (slotF Z)).Nodup
  | [], _, _ => List.nodup_nil
  | f :: r, H, N => by
    rw [List.map_cons, List.nodup_cons] at N ⊢
    refine ⟨fun hm => ?_, lays_nodup H.2 N.2⟩
    obtain ⟨g, hg, e⟩ := List.mem_map.mp hm
    obtain ⟨Lg, t', ht', -⟩ := lays_mem H.2 g hg
    obtain ⟨Lf, t, ht, -⟩ := H.1
    exact slot_ne Lf Lg (fun q => N.1 (List.mem_map.mpr ⟨g, hg, q.symm⟩)) ht ht' e.symm
theorem Hp.new (P : Hp Z n0 h L) (E : Ext h h') (A : Exa Z h' h.size K) (F : ∀ {O nm d : String} {ty : FieldType}, Laid Z a0 K O nm d → parseFieldDescriptor d = some ty → Fld Z h' h.size O nm d (defaultValue ty)) (Ld : LaysD Z a0 K fs) (nd : (fs.map fun f => f.1.2.1).Nodup) : Hp Z n0 h' ((h.size, .inl (K, fs)) :: L) :=
  P.grow E ⟨A, lays_nodup Ld nd, fun f hf => by
    obtain ⟨Lf, t, ht, e⟩ := lays_mem Ld f hf
    rw [← e]; exact F Lf ht⟩
theorem Hp.newA {cA : ClassId} {z : Int32} (P : Hp Z n0 h L) (E : Ext h h') (A : Arr Z h' h.size (newA cA ty z) ty) (X : Exa Z h' h.size ad) (O : ∀ K, ty = .object K → Ovr Z cA K) (hvs : List.replicate z.toNatClampNeg (defaultValue ty) = vs) (hz : ¬ z < 0) : Hp Z n0 h' ((h.size, .inr (ty, ad, vs)) :: L) :=
  P.grow E ⟨X, _, A, by rw [← hvs]; simp [Jvm.RoadKit.newA], by rw [← hvs, List.length_replicate]; exact (back32 hz).2, fun w hw => by
    rw [← hvs] at hw; rw [List.eq_of_mem_replicate hw]; cases ty <;> rfl, O⟩
theorem Hp.perm {L' : List (Addr × Desc)} (P : Hp Z n0 h L) (q : L'.Perm L) : Hp Z n0 h L' := ⟨P.1, ((q.map Prod.fst).nodup_iff).mpr P.2.1, fun x hx => P.2.2 x (q.mem_iff.mp hx)⟩
theorem erase_perm {α : Type} : ∀ (L : List α) (i : Nat) (h : i < L.length), (L[i] :: L.eraseIdx i).Perm L
  | [], _, h => absurd h (Nat.not_lt_zero _)
  | _ :: _, 0, _ => List.Perm.refl _
  | a :: l, i + 1, h => by
    have hl : i < l.length := Nat.lt_of_succ_lt_succ h
    show (l[i] :: a :: l.eraseIdx i).Perm (a :: l)
    exact (List.Perm.swap _ _ _).trans ((erase_perm l i hl).cons a)
theorem front_perm {α : Type} (L : List α) (i : Nat) : (front L i).Perm L := by
  unfold front
  cases hx : L[i]? with
  | none => exact List.Perm.refl _
  | some x =>
    obtain ⟨hl, rfl⟩ := List.getElem?_eq_some_iff.mp hx
    exact erase_perm L i hl
theorem Hp.front (P : Hp Z n0 h L) (i : Nat) : Hp Z n0 h (front L i) := P.perm (front_perm L i)
theorem Hp.tail {x : Addr × Desc} (P : Hp Z n0 h (x :: L)) : Hp Z n0 h L := ⟨P.1, (List.nodup_cons.mp P.2.1).2, fun z hz => P.2.2 z (List.mem_cons_of_mem _ hz)⟩
theorem Hp.ext (P : Hp Z n0 h L) (E : Ext h h') : Hp Z n0 h' L := ⟨P.1.ext E, P.2.1, fun x hx => ⟨(P.2.2 _ hx).1, (P.2.2 _ hx).2.ext E⟩⟩
theorem Hp.nil (P : Hp Z n0 h L) : Hp Z n0 h [] := ⟨P.1, List.nodup_nil, fun z hz => nomatch hz⟩
theorem Hp.start (s : State) : Hp s s.heap.size s.heap [] := ⟨Old.start s, List.nodup_nil, fun z hz => nomatch hz⟩
theorem Hp.sto {y : Addr} {fs : List FD} (P : Hp Z n0 h L) (hi : L[i]? = some (a, .inr (.object K, ad, vs))) (hj : L[j]? = some (y, .inl (K, fs))) : Sto Z h a (.ref y) := by
  obtain ⟨-, c, h2, -, -, -, h6⟩ := P.is hi
  exact Sto.of h2 (h6 K rfl) (Ins.self (P.exa hj))
theorem Hp.stoI {y : Addr} (P : Hp Z n0 h L) (hi : L[i]? = some (a, .inr (.object K, ad, vs))) (I : Ins Z h y K true) : Sto Z h a (.ref y) := by
  obtain ⟨-, c, h2, -, -, -, h6⟩ := P.is hi
  exact Sto.of h2 (h6 K rfl) I
theorem inb {c : Cell} {j : Int32} (hc : c.slots = vs.toArray) (hj : ¬ j < 0) (hv : vs[j.toNatClampNeg]? = some v) : ¬ (j < 0 ∨ c.slots.size ≤ j.toNatClampNeg) := by
  have := (List.getElem?_eq_some_iff.mp hv).1
  rw [hc]; simp; exact ⟨by simpa using Int32.not_lt.mp hj, this⟩
theorem inb' {c : Cell} {j : Int32} (hc : c.slots = vs.toArray) (hj : ¬ j < 0) (hv : j.toNatClampNeg < vs.length) : ¬ (j < 0 ∨ c.slots.size ≤ j.toNatClampNeg) := by
  rw [hc]; simp; exact ⟨by simpa using Int32.not_lt.mp hj, hv⟩
end Hp
section WalkHp
variable {wd : Bool} {K₀ : State → MethodId → Prop} {l : Launch} {Z : State} {R : Room} {y : MethodName} {bytes : ByteArray} {ml : Nat} {ret : Option FieldType} {n0 kc ks : Nat} {Q : Option Value → Heap → Prop} {h : Heap} {k n pc pc' tg : Nat} {ls : List Slot} {st : List Value} {a0 : Array Value} {L : List (Addr × Desc)} {i j : Nat} {K ad O nm d R0 host : String} {fs : List FD} {vs : List Value} {a : Addr} {ty : FieldType} {v old : Value}
theorem go_get {idx : Nat} (P : Hp Z n0 h L) (i j : Nat) (D : Dc bytes pc (.getfield idx) 3 pc') (hi : L[i]? = some (a, .inl (K, fs))) (hj : fs[j]? = some ((O, nm, d), v)) (w : (Cond.fieldLink y.cls idx O nm d).before a0 Z = true) (G : Go wd K₀ l Z R y bytes ml ret n0 kc ks Q h k n pc' ls (v :: st)) : Go wd K₀ l Z R y bytes ml ret n0 kc ks Q h k n pc ls (.ref a :: st) :=
  go_getF (host := "") D (Or.inl w) Via.refl (P.fld hi hj) G
theorem go_getN {idx : Nat} (P : Hp Z n0 h L) (i j : Nat) (D : Dc bytes pc (.getfield idx) 3 pc') (hi : L[i]? = some (a, .inl (K, fs))) (hj : fs[j]? = some ((O, nm, d), v)) (w : (Cond.fieldLinkNest y.cls idx O nm d host).before a0 Z = true) (G : Go wd K₀ l Z R y bytes ml ret n0 kc ks Q h k n pc' ls (v :: st)) : Go wd K₀ l Z R y bytes ml ret n0 kc ks Q h k n pc ls (.ref a :: st) :=
  go_getF (host := host) D (Or.inr w) Via.refl (P.fld hi hj) G
theorem go_put {idx kk : Nat} (P : Hp Z n0 h L) (i j : Nat) (ty : FieldType) (D : Dc bytes pc (.putfield idx) 3 pc') (hi : L[i]? = some (a, .inl (K, fs))) (hj : fs[j]? = some ((O, nm, d), old)) (w : (Cond.fieldLink y.cls idx O nm d).before a0 Z = true)
    (Lw : (Cond.lays K O nm d).before a0 Z = true ∨ ((Cond.laysFinal K O nm d).before a0 Z = true ∧ y.cls = O ∧ y.name = "<init>")) (wi : (Cond.instantiable K kk).before a0 Z = true) (hty : parseFieldDescriptor d = some ty) (hnr : narrow ty v = v) (hfi : fits ty v = true)
    (G : ∀ h', Hp Z n0 h' (lupd L i (a, .inl (K, lupd fs j ((O, nm, d), v)))) → Go wd K₀ l Z R y bytes ml ret n0 kc ks Q h' k n pc' ls st) : Go wd K₀ l Z R y bytes ml ret n0 kc ks Q h k n pc ls (v :: .ref a :: st) :=
  go_putF (host := "") D (Or.inl w) Via.refl (P.fld hi hj) (P.exa hi) Lw wi hty hnr hfi (P.ge hi) fun h' W => G h' (P.put hi hj W)
theorem go_new {idx sl : Nat} (P : Hp Z n0 h L) (fs : List FD) (D : Dc bytes pc (.new idx) 3 pc') (w : (Cond.classLink y.cls idx K).before a0 Z = true) (wi : (Cond.instantiable K sl).before a0 Z = true) (wz : (Cond.initialized K).before a0 Z = true) (Ld : LaysD Z a0 K fs) (nd : (fs.map fun f => f.1.2.1).Nodup) (hk : k + 1 ≤ R.cells) (hn : n + sl ≤ R.slots)
    (G : ∀ h' a, Hp Z n0 h' ((a, .inl (K, fs)) :: L) → Go wd K₀ l Z R y bytes ml ret n0 kc ks Q h' (k + 1) (n + sl) pc' ls (.ref a :: st)) : Go wd K₀ l Z R y bytes ml ret n0 kc ks Q h k n pc ls st :=
  go_newO D w wi wz hk hn fun h' E A F => G h' h.size (P.new E A F Ld nd)
theorem go_newarr {aty : ArrayType} {z : Int32} (P : Hp Z n0 h L) (ad : String) (vs : List Value) (cap : Nat) (D : Dc bytes pc (.newarray aty) 2 pc') (w : (Cond.arrayClass (newarray.typeOf aty)).before a0 Z = true) (hz : ¬ z < 0) (hcap : z.toNatClampNeg ≤ cap) (hb8 : cap * 8 ≤ 536870912) (had : "[" ++ (newarray.typeOf aty).toString = ad) (hty : newarray.typeOf aty = ty) (hvs : List.replicate z.toNatClampNeg (defaultValue ty) = vs) (hk : k + 1 ≤ R.cells) (hn : n + cap ≤ R.slots)
    (G : ∀ h' a, Hp Z n0 h' ((a, .inr (ty, ad, vs)) :: L) → Go wd K₀ l Z R y bytes ml ret n0 kc ks Q h' (k + 1) (n + cap) pc' ls (.ref a :: st)) : Go wd K₀ l Z R y bytes ml ret n0 kc ks Q h k n pc ls (.int z :: st) :=
  go_newP D w hz cap hcap hb8 hk hn had fun h' cA E A X => G h' h.size (P.newA E (hty ▸ A) X (fun K q => by subst hty; cases aty <;> cases q) hvs hz)
theorem go_newobjarr {idx : Nat} {z : Int32} (P : Hp Z n0 h L) (ad : String) (vs : List Value) (cap : Nat) (D : Dc bytes pc (.anewarray idx) 3 pc') (w1 : (Cond.classLink y.cls idx K).before a0 Z = true) (w2 : (Cond.arrayOver (.object K)).before a0 Z = true) (hz : ¬ z < 0) (hcap : z.toNatClampNeg ≤ cap) (hb8 : cap * 8 ≤ 536870912) (had : "[" ++ (FieldType.object K).toString = ad) (hvs : List.replicate z.toNatClampNeg Value.null = vs) (hk : k + 1 ≤ R.cells) (hn : n + cap ≤ R.slots)
    (G : ∀ h' a, Hp Z n0 h' ((a, .inr (.object K, ad, vs)) :: L) → Go wd K₀ l Z R y bytes ml ret n0 kc ks Q h' (k + 1) (n + cap) pc' ls (.ref a :: st)) : Go wd K₀ l Z R y bytes ml ret n0 kc ks Q h k n pc ls (.int z :: st) :=
  go_newR D w1 w2 hz cap hcap hb8 hk hn had fun h' cA E A X O => G h' h.size (P.newA E A X (fun K' q => by cases q; exact O) hvs hz)
theorem go_alen {z : Int32} (P : Hp Z n0 h L) (i : Nat) (D : Dc bytes pc .arraylength 1 pc') (hi : L[i]? = some (a, .inr (ty, ad, vs))) (hz : vs.length.toInt32 = z) (G : Go wd K₀ l Z R y bytes ml ret n0 kc ks Q h k n pc' ls (.int z :: st)) : Go wd K₀ l Z R y bytes ml ret n0 kc ks Q h k n pc ls (.ref a :: st) := by
  obtain ⟨-, c, h2, h3, -⟩ := P.is hi
  exact go_len D h2 (by rw [h3]; simpa using hz) G
theorem go_ialoadH {q : Int32} (P : Hp Z n0 h L) (i : Nat) (D : Dc bytes pc .iaload 1 pc') (hi : L[i]? = some (a, .inr (.int, ad, vs))) (hq : ¬ q < 0) (hv : vs[q.toNatClampNeg]? = some v) (G : Go wd K₀ l Z R y bytes ml ret n0 kc ks Q h k n pc' ls (v :: st)) : Go wd K₀ l Z R y bytes ml ret n0 kc ks Q h k n pc ls (.int q :: .ref a :: st) := by
  obtain ⟨-, c, h2, h3, -⟩ := P.is hi
  exact go_iaload D h2 (inb h3 hq hv) (by rw [h3]; simpa using hv) G
theorem go_caloadH {q : Int32} (P : Hp Z n0 h L) (i : Nat) (D : Dc bytes pc .caload 1 pc') (hi : L[i]? = some (a, .inr (.char, ad, vs))) (hq : ¬ q < 0) (hv : vs[q.toNatClampNeg]? = some v) (G : Go wd K₀ l Z R y bytes ml ret n0 kc ks Q h k n pc' ls (v :: st)) : Go wd K₀ l Z R y bytes ml ret n0 kc ks Q h k n pc ls (.int q :: .ref a :: st) := by
  obtain ⟨-, c, h2, h3, -⟩ := P.is hi
  exact go_caload D h2 (inb h3 hq hv) (by rw [h3]; simpa using hv) G
theorem go_baloadH {q : Int32} (P : Hp Z n0 h L) (i : Nat) (D : Dc bytes pc .baload 1 pc') (hi : L[i]? = some (a, .inr (.byte, ad, vs))) (hq : ¬ q < 0) (hv : vs[q.toNatClampNeg]? = some v) (G : Go wd K₀ l Z R y bytes ml ret n0 kc ks Q h k n pc' ls (v :: st)) : Go wd K₀ l Z R y bytes ml ret n0 kc ks Q h k n pc ls (.int q :: .ref a :: st) := by
  obtain ⟨-, c, h2, h3, -⟩ := P.is hi
  exact go_baload D h2 (inb h3 hq hv) (by rw [h3]; simpa using hv) G
theorem go_laloadH {q : Int32} (P : Hp Z n0 h L) (i : Nat) (D : Dc bytes pc .laload 1 pc') (hi : L[i]? = some (a, .inr (.long, ad, vs))) (hq : ¬ q < 0) (hv : vs[q.toNatClampNeg]? = some v) (G : Go wd K₀ l Z R y bytes ml ret n0 kc ks Q h k n pc' ls (v :: st)) : Go wd K₀ l Z R y bytes ml ret n0 kc ks Q h k n pc ls (.int q :: .ref a :: st) := by
  obtain ⟨-, c, h2, h3, -⟩ := P.is hi
  exact go_laload D h2 (inb h3 hq hv) (by rw [h3]; simpa using hv) G
theorem go_aaloadH {q : Int32} (P : Hp Z n0 h L) (i : Nat) (D : Dc bytes pc .aaload 1 pc') (hi : L[i]? = some (a, .inr (ty, ad, vs))) (hty : ty.isReference = true) (hq : ¬ q < 0) (hv : vs[q.toNatClampNeg]? = some v) (G : Go wd K₀ l Z R y bytes ml ret n0 kc ks Q h k n pc' ls (v :: st)) : Go wd K₀ l Z R y bytes ml ret n0 kc ks Q h k n pc ls (.int q :: .ref a :: st) := by
  obtain ⟨-, c, h2, h3, -⟩ := P.is hi
  exact go_aaload D h2 hty (inb h3 hq hv) (by rw [h3]; simpa using hv) G
theorem go_iastoreH {q : Int32} {x : Int32} (P : Hp Z n0 h L) (i : Nat) (D : Dc bytes pc .iastore 1 pc') (hi : L[i]? = some (a, .inr (.int, ad, vs))) (hq : ¬ q < 0) (hv : q.toNatClampNeg < vs.length) (G : ∀ h', Hp Z n0 h' (lupd L i (a, .inr (.int, ad, lupd vs q.toNatClampNeg (.int x)))) → Go wd K₀ l Z R y bytes ml ret n0 kc ks Q h' k n pc' ls st) : Go wd K₀ l Z R y bytes ml ret n0 kc ks Q h k n pc ls (.int x :: .int q :: .ref a :: st) := by
  obtain ⟨-, c, h2, h3, -⟩ := P.is hi
  exact go_iastore D h2 (inb' h3 hq hv) (P.ge hi) fun h' W => G h' (P.aput hi rfl W)
theorem go_lastoreH {q : Int32} {x : Int64} (P : Hp Z n0 h L) (i : Nat) (D : Dc bytes pc .lastore 1 pc') (hi : L[i]? = some (a, .inr (.long, ad, vs))) (hq : ¬ q < 0) (hv : q.toNatClampNeg < vs.length) (G : ∀ h', Hp Z n0 h' (lupd L i (a, .inr (.long, ad, lupd vs q.toNatClampNeg (.long x)))) → Go wd K₀ l Z R y bytes ml ret n0 kc ks Q h' k n pc' ls st) : Go wd K₀ l Z R y bytes ml ret n0 kc ks Q h k n pc ls (.long x :: .int q :: .ref a :: st) := by
  obtain ⟨-, c, h2, h3, -⟩ := P.is hi
  exact go_lastore D h2 (inb' h3 hq hv) (P.ge hi) fun h' W => G h' (P.aput hi rfl W)
theorem go_castoreH {q : Int32} {x : Int32} (P : Hp Z n0 h L) (i : Nat) (D : Dc bytes pc .castore 1 pc') (hi : L[i]? = some (a, .inr (.char, ad, vs))) (hq : ¬ q < 0) (hv : q.toNatClampNeg < vs.length) (G : ∀ h', Hp Z n0 h' (lupd L i (a, .inr (.char, ad, lupd vs q.toNatClampNeg (.int (nar .char x))))) → Go wd K₀ l Z R y bytes ml ret n0 kc ks Q h' k n pc' ls st) : Go wd K₀ l Z R y bytes ml ret n0 kc ks Q h k n pc ls (.int x :: .int q :: .ref a :: st) := by
  obtain ⟨-, c, h2, h3, -⟩ := P.is hi
  exact go_castore D h2 (inb' h3 hq hv) (P.ge hi) fun h' W => G h' (P.aput hi (fits_nar_char x) W)
theorem go_bastoreH {q : Int32} {x : Int32} (P : Hp Z n0 h L) (i : Nat) (D : Dc bytes pc .bastore 1 pc') (hi : L[i]? = some (a, .inr (.byte, ad, vs))) (hq : ¬ q < 0) (hv : q.toNatClampNeg < vs.length) (G : ∀ h', Hp Z n0 h' (lupd L i (a, .inr (.byte, ad, lupd vs q.toNatClampNeg (.int (nar .byte x))))) → Go wd K₀ l Z R y bytes ml ret n0 kc ks Q h' k n pc' ls st) : Go wd K₀ l Z R y bytes ml ret n0 kc ks Q h k n pc ls (.int x :: .int q :: .ref a :: st) := by
  obtain ⟨-, c, h2, h3, -⟩ := P.is hi
  exact go_bastore D h2 (inb' h3 hq hv) (P.ge hi) fun h' W => G h' (P.aput hi (fits_nar_byte x) W)
theorem go_zastoreH {q : Int32} {x : Int32} (P : Hp Z n0 h L) (i : Nat) (D : Dc bytes pc .bastore 1 pc') (hi : L[i]? = some (a, .inr (.boolean, ad, vs))) (hq : ¬ q < 0) (hv : q.toNatClampNeg < vs.length) (G : ∀ h', Hp Z n0 h' (lupd L i (a, .inr (.boolean, ad, lupd vs q.toNatClampNeg (.int (nar .boolean x))))) → Go wd K₀ l Z R y bytes ml ret n0 kc ks Q h' k n pc' ls st) : Go wd K₀ l Z R y bytes ml ret n0 kc ks Q h k n pc ls (.int x :: .int q :: .ref a :: st) := by
  obtain ⟨-, c, h2, h3, -⟩ := P.is hi
  exact go_zastore D h2 (inb' h3 hq hv) (P.ge hi) fun h' W => G h' (P.aput hi (fits_nar_bool x) W)
theorem go_clone {idx W : Nat} (P : Hp Z n0 h L) (i : Nat) (cap : Nat) (D : Dc bytes pc (.invokevirtual idx) 3 pc') (hi : L[i]? = some (a, .inr (ty, ad, vs)))
    (w1 : (Cond.methodLink y.cls idx ⟨ad, "clone", "()Ljava/lang/Object;"⟩).before a0 Z = true) (w2 : (Cond.sameMethod ad "java/lang/Object" "clone" "()Ljava/lang/Object;").before a0 Z = true) (w3 : (Cond.native ⟨"java/lang/Object", "clone", "()Ljava/lang/Object;"⟩).before a0 Z = true)
    (w4 : (Cond.instanceMethod ⟨"java/lang/Object", "clone", "()Ljava/lang/Object;"⟩).before a0 Z = true) (w5 : (Cond.selects ad ⟨ad, "clone", "()Ljava/lang/Object;"⟩ ⟨"java/lang/Object", "clone", "()Ljava/lang/Object;"⟩).before a0 Z = true) (w6 : (Cond.castable ad "java/lang/Cloneable").before a0 Z = true)
    (hlen : vs.length ≤ cap) (hls : ls.length = ml) (hf : 1 ≤ R.frames) (hW : (st.map fun v => v.category).sum = W) (hlo : W + 14 ≤ R.locals) (hk : k + 1 ≤ R.cells) (hn : n + cap ≤ R.slots)
    (G : ∀ h' b, Hp Z n0 h' ((b, .inr (ty, ad, vs)) :: L) → Go wd K₀ l Z R y bytes ml ret n0 kc ks Q h' (k + 1) (n + cap) pc' ls (.ref b :: st)) : Go wd K₀ l Z R y bytes ml ret n0 kc ks Q h k n pc ls (.ref a :: st) := by
  obtain ⟨E, cl, A, hs, hl31, hfit, hov⟩ := P.is hi
  intro p e s0 s m args below meth c T L' Bs C X hh N
  obtain ⟨hd, rfl⟩ := D
  have FC : FitC Z cl := fitC_of A fun q hq v hv => hfit v (by rw [hs] at hv; exact List.mem_of_getElem? (by simpa using hv))
  obtain ⟨T', h', X', e', ex, A', E', st'⟩ := cloneA X C.1 C.2.2.2.2.1 C.2.2.2.1 w1 w2 w3 w4 w5 w6 hh A E FC (g := mkF m pc ls.toArray (.ref a :: st)) rfl (by rw [C.2.2.1]; simpa using hls) rfl (hb C.2.1 hd) hf (W := W) (cap := cap) (by show 2 * 0 + _ ≤ W; rw [← hW]; omega) hlo (by rw [hs]; simpa using hlen) hk hn
  exact (G h' h.size (P.grow ex ⟨E', cloneOf cl, A', hs, hl31, hfit, hov⟩) p e s0 s m args below meth c T' L' (Bs.mono ex.1) C X' e' N).pre st'
def Dts (bytes : ByteArray) (pc : Nat) (x : Int32) (tg : Nat) : Prop := ∃ (d lo hi : Int) (offs : Array Int) (len : Nat) (o : Int), decode bytes pc = .ok (.tableswitch d lo hi offs, len) ∧ ¬ (x.toInt < lo ∨ x.toInt > hi) ∧ offs[(x.toInt - lo).toNat]? = some o ∧ 0 ≤ (pc : Int) + o ∧ ((pc : Int) + o).toNat = tg
def Dlk (bytes : ByteArray) (pc : Nat) (x : Int32) (tg : Nat) : Prop := ∃ (d : Int) (prs : Array (Int × Int)) (len : Nat), decode bytes pc = .ok (.lookupswitch d prs, len) ∧ (prs.toList.zip (prs.toList.drop 1)).all (fun (a, next) => a.1 < next.1) = true ∧ 0 ≤ (pc : Int) + lookupswitch.offset prs.toList d x.toInt ∧ ((pc : Int) + lookupswitch.offset prs.toList d x.toInt).toNat = tg
theorem lswX {tb : Tables} [Ours tb] {e : Env} {below : List Frame} {T target : State} {m : MethodId} {c : Code} {g : JFrame} (h : At T m c below) (hx : tb.exec = Jvm.exec) (hg : g.method = m) {d : Int} {prs : Array (Int × Int)} {len : Nat} {pc0 pc' : Nat} (hpc : g.pc = pc0) (hd : decode c.code g.pc = .ok (.lookupswitch d prs, len)) {i : Int32} {rest : List Value} (hs : g.stack = .int i :: rest)
    (hor : (prs.toList.zip (prs.toList.drop 1)).all (fun (a, next) => a.1 < next.1) = true) (ho : 0 ≤ (pc0 : Int) + lookupswitch.offset prs.toList d i.toInt) (hp : ((pc0 : Int) + lookupswitch.offset prs.toList d i.toInt).toNat = pc')
    (hr : Steps tb e below (T.setTop { g with pc := pc', stack := rest }) target) : Steps tb e below (T.setTop g) target := by
  subst hg hpc hp
  jvm_step h [h.top, hx, hd, hs, hor, ho, lookupswitch.wp_chain]
  exact ⟨by simpa using hor, hr⟩
theorem go_tsw {x : Int32} (D : Dts bytes pc x tg) (G : Go wd K₀ l Z R y bytes ml ret n0 kc ks Q h k n tg ls st) : Go wd K₀ l Z R y bytes ml ret n0 kc ks Q h k n pc ls (.int x :: st) := by
  obtain ⟨d, lo, hi, offs, len, o, hd, h1, h2, h3, h4⟩ := D
  exact go_pure G (fun C X t => XS.tswIn X.here C.1 (g := mkF _ pc ls.toArray (.int x :: st)) rfl (pc0 := pc) rfl (hb C.2.1 hd) rfl h1 h2 h3 h4)
theorem go_lsw {x : Int32} (D : Dlk bytes pc x tg) (G : Go wd K₀ l Z R y bytes ml ret n0 kc ks Q h k n tg ls st) : Go wd K₀ l Z R y bytes ml ret n0 kc ks Q h k n pc ls (.int x :: st) := by
  obtain ⟨d, prs, len, hd, h1, h3, h4⟩ := D
  exact go_pure G (fun C X t => lswX X.here C.1 (g := mkF _ pc ls.toArray (.int x :: st)) rfl (pc0 := pc) rfl (hb C.2.1 hd) rfl h1 h3 h4)
theorem Hp.insA {i : Nat} (P : Hp Z n0 h L) (hi : L[i]? = some (a, .inr (ty, ad, vs))) : Ins Z h a ad true := Ins.self (P.exaA hi)
theorem go_aastoreH {q : Int32} (P : Hp Z n0 h L) (i : Nat) (D : Dc bytes pc .aastore 1 pc') (hi : L[i]? = some (a, .inr (ty, ad, vs))) (hty : ty.isReference = true) (hf : fits ty v = true) (hq : ¬ q < 0) (hv : q.toNatClampNeg < vs.length) (F : Sto Z h a v) (G : ∀ h', Hp Z n0 h' (lupd L i (a, .inr (ty, ad, lupd vs q.toNatClampNeg v))) → Go wd K₀ l Z R y bytes ml ret n0 kc ks Q h' k n pc' ls st) : Go wd K₀ l Z R y bytes ml ret n0 kc ks Q h k n pc ls (v :: .int q :: .ref a :: st) := by
  obtain ⟨-, c, h2, h3, -⟩ := P.is hi
  exact go_aastore D h2 (inb' h3 hq hv) hty F (P.ge hi) fun h' W => G h' (P.aput hi hf W)
end WalkHp
end Jvm.OwnGo
namespace Jvm.OwnGo
open Jvm Sem ClassFile Op Lib Jvm.Stand Jvm.Free Jvm.LawKit Jvm.RoadKit
/-! ## 4. a walk that knows its tables to be the start's, warmed: function objects -/
def KW (Z : State) (y : MethodName) : State → MethodId → Prop := fun s m => Z.WarmedH s.vm ∧ s.methodNamed? y = some m
def ConW (l : Launch) (Z : State) (y : MethodName) (bytes : ByteArray) (ml : Nat) (ret : Option FieldType) (rm : Room) (as' : Array Value) (h : Heap) (n0 : Nat) (Q : Option Value → Heap → Prop) : Prop :=
  ∀ ws : List Cond, MetFree l y (head1 (Cond.code y bytes ml ret :: ws) rm) (fun a U => a = as' ∧ Z.WarmedH U.vm ∧ U.heap = h) (fun _ _ _ _ _ => True)
    (fun _ U o U' => ∃ v L, o = .returned v ∧ ((Q v U'.heap ∧ h.size ≤ U'.heap.size) ∧ Fr n0 L) ∧ FrameEnd U o U' L rm.cells rm.slots)
section WalkW
variable {wd : Bool} {K₀ : State → MethodId → Prop} {l : Launch} {Z : State} {R : Room} {y : MethodName} {bytes : ByteArray} {ml : Nat} {ret : Option FieldType} {n0 kc ks : Nat} {Q : Option Value → Heap → Prop} {h : Heap} {k n pc pc' : Nat} {ls : List Slot} {st : List Value} {a0 : Array Value}
theorem con_ofW {as' : Array Value} (hp : plainFor y = true) (he : Jvm.Sym.laidSlots as'.toList ++ List.replicate (ml - (Jvm.Sym.laidSlots as'.toList).length) .unset = ls) (G : Go false (KW Z y) l Z R y bytes ml ret n0 R.cells R.slots Q h 0 0 0 ls []) : ConW l Z y bytes ml ret R as' h n0 Q := by
  intro ws
  refine MetFree.of_bodySF hp hisR ?_
  intro p e s m args below meth c s₁ Bd hml hP hK
  obtain ⟨rfl, hZ, hh⟩ := hP
  have X0 : Stand p l e R s m args below meth c s₁ [] 0 0 := Stand.of_body Bd
  have e0 : s₁.heap = h := by rw [← hh, Bd.state]; rfl
  obtain ⟨s₂, o, h1, h2, h3, v, L, e1, ⟨q1, q2⟩, q3⟩ := G p e s s m args below meth c s₁ [] (Base.start s hh) ⟨Bd.exec, Bd.bytes, hml, findClass_of_methodNamed Bd.named, hZ.wide, Bd.returns, Bd.notSynchronized, (name_of_methodNamed Bd.named Bd.method).1, ⟨hZ, Bd.named⟩⟩ X0 e0 (Fr.nil n0)
  exact ⟨s₂, o, (XT.entry (Ls := ls.toArray) (by simpa using he)).trans h1, h2, h3, v, L, e1, ⟨⟨q1, by rw [← hh]; exact q3.size⟩, q2⟩, q3⟩
theorem backOfW {p : Program} {e : Env} {below : List Frame} {s : State} {args : Array Value} {maxL : Nat} {rm : Room} {len W : Nat} {as' : Array Value} {Q : Option Value → Heap → List Loc → Prop}
    (hM : MetFree l y (head1 [Cond.code y bytes maxL ret] rm) (fun a U => a = as' ∧ Z.WarmedH U.vm ∧ U.heap = h) (fun _ _ _ _ _ => True) (fun _ U o U' => ∃ v L, o = .returned v ∧ Q v U'.heap L ∧ FrameEnd U o U' L rm.cells rm.slots))
    (hZ : Z.WarmedH s.vm) (wc : (Cond.code y bytes maxL ret).before a0 Z = true) (wz : (Cond.initialized y.cls).before a0 Z = true) (hf : rm.frames + 1 ≤ R.frames) (hl : W + (maxL + 11) + rm.locals ≤ R.locals) :
    Back l R p e below s args y len W (fun A a => a = as' ∧ A.U.heap = h ∧ A.cells + rm.cells ≤ R.cells ∧ A.slots + rm.slots ≤ R.slots)
      (fun A _ v B => ∃ L, Q v B.U.heap L ∧ B.locs = A.locs ++ L ∧ B.cells = A.cells + rm.cells ∧ B.slots = A.slots + rm.slots) := by
  refine Back.of_free (bytes := bytes) (maxL := maxL) (ret := ret) (E := fun _ _ o t L k n => k = rm.cells ∧ n = rm.slots ∧ ∃ v, o = .returned v ∧ Q v t.heap L) hM hf hl ?_ ?_ (fun _ _ _ _ _ _ _ _ _ => trivial) ?_ ?_
  · intro m meth c A a Y hp
    have hU : Z.Warmed39 A.U.vm := (State.WarmedH.trans hZ Y.warmed).wide
    refine ⟨?_, mv hU wc, mv hU wz, hp.2.2.1, hp.2.2.2⟩
    show (Cond.and _ .tt).before a A.U = true
    rw [Cond.before_and, mv hU wc]; rfl
  · intro m meth c A a g mk Y hp
    exact ⟨hp.1, State.WarmedH.trans hZ Y.warmed, hp.2.1⟩
  · intro a first o t hq
    obtain ⟨v, L, h1, h2, h3⟩ := hq
    exact ⟨L, _, _, h3, rfl, rfl, v, h1, h2⟩
  · intro m meth c A a g mk v t L k n Y hp _ _ hE
    obtain ⟨e1, e2, v', e3, e4⟩ := hE
    cases e3; subst e1 e2
    exact ⟨L, e4, rfl, rfl, rfl⟩
theorem go_callSW0 {y' : MethodName} {b' : ByteArray} {m' : Nat} {r' : Option FieldType} {rm : Room} {idx W : Nat} {argsL : List Value} {P : Heap → Prop} (D : Dc bytes pc (.invokestatic idx) 3 pc') (hM : ConW l Z y' b' m' r' rm argsL.toArray h n0 (R0 P))
    (w1 : (Cond.methodLink y.cls idx y').before a0 Z = true) (w2 : (Cond.static y').before a0 Z = true) (w3 : (Cond.initialized y'.cls).before a0 Z = true) (w4 : (Cond.code y' b' m' r').before a0 Z = true) (hy : y'.cls ≠ "java/lang/invoke/MethodHandle" ∧ y'.cls ≠ "java/lang/invoke/VarHandle")
    (hlen : ∀ sig, parseMethodDescriptor y'.desc = some sig → argsL.length = sig.parameters.length) {st₀ : List Value} (hst : st₀ = argsL.reverse ++ st) (hW : (st.map fun v => v.category).sum = W) (hf : rm.frames + 1 ≤ R.frames) (hlo : W + (m' + 11) + rm.locals ≤ R.locals) (hk : k + rm.cells ≤ R.cells) (hn : n + rm.slots ≤ R.slots) (hls : ls.length = ml)
    (G : ∀ h', P h' → Go false (KW Z y) l Z R y bytes ml ret n0 kc ks Q h' (k + rm.cells) (n + rm.slots) pc' ls st) : Go false (KW Z y) l Z R y bytes ml ret n0 kc ks Q h k n pc ls st₀ := by
  subst hst
  intro p e s0 s m args below meth c T L Bs C X hh N
  obtain ⟨hd, rfl⟩ := D
  have hZ := C.2.2.2.2.1
  have hKW : Z.WarmedH s.vm ∧ s.methodNamed? y = some m := C.2.2.2.2.2.2.2.2
  obtain ⟨v, vm₁, ⟨B, Lb, kb, nb⟩, -, X', ⟨Lq, ⟨⟨hQ, hsz⟩, Ns⟩, e1, e2, e3⟩, st'⟩ := Jvm.LawKit.callS X C.1 (y := y') C.2.2.2.1 (mvT hZ w1) (mvT hZ w2) (mvT hZ w3) (mvT hZ w4) hy (backOfW (W := W) (Q := fun v h' L => ((R0 P) v h' ∧ h.size ≤ h'.size) ∧ Fr n0 L) (hM []) hKW.1 w4 w3 hf hlo) (g := mkF m pc ls.toArray (argsL.reverse ++ st)) rfl
    (by rw [C.2.2.1]; simpa using hls) (argsL := argsL) (rest := st) hlen rfl (by show 2 * 0 + _ ≤ W; rw [← hW]; omega) (hb C.2.1 hd) (fun _ _ => ⟨rfl, hh, hk, hn⟩)
  dsimp only [Pt.U, Pt.locs, Pt.cells, Pt.slots] at X' hQ hsz e1 e2 e3 st'
  subst e1 e2 e3
  obtain ⟨rfl, hP⟩ := hQ
  exact (G B.heap hP p e s0 s m args below meth c B _ (Bs.mono hsz) C X' rfl (N.app Ns)).pre st'
theorem go_callNW0 {y' : MethodName} {b' : ByteArray} {m' : Nat} {r' : Option FieldType} {rm : Room} {idx W : Nat} {argsL : List Value} {P : Heap → Prop} {a : Addr} (D : Dc bytes pc (.invokespecial idx) 3 pc') (hi : y'.name = "<init>") (hr' : r' = none) (hM : ConW l Z y' b' m' r' rm (.ref a :: argsL).toArray h n0 (R0 P))
    (w1 : (Cond.methodLink y.cls idx y').before a0 Z = true) (w2 : (Cond.instanceMethod y').before a0 Z = true) (w3 : (Cond.initialized y'.cls).before a0 Z = true) (w4 : (Cond.code y' b' m' r').before a0 Z = true) (hy : y'.cls ≠ "java/lang/invoke/MethodHandle" ∧ y'.cls ≠ "java/lang/invoke/VarHandle")
    (hlen : ∀ sig, parseMethodDescriptor y'.desc = some sig → argsL.length = sig.parameters.length) {st₀ : List Value} (hst : st₀ = argsL.reverse ++ .ref a :: st) (hW : (st.map fun v => v.category).sum = W) (hf : rm.frames + 1 ≤ R.frames) (hlo : W + (m' + 11) + rm.locals ≤ R.locals) (hk : k + rm.cells ≤ R.cells) (hn : n + rm.slots ≤ R.slots) (hls : ls.length = ml)
    (G : ∀ h', P h' → Go false (KW Z y) l Z R y bytes ml ret n0 kc ks Q h' (k + rm.cells) (n + rm.slots) pc' ls st) : Go false (KW Z y) l Z R y bytes ml ret n0 kc ks Q h k n pc ls st₀ := by
  subst hst hr'
  intro p e s0 s m args below meth c T L Bs C X hh N
  obtain ⟨hd, rfl⟩ := D
  have hZ := C.2.2.2.2.1
  have hKW : Z.WarmedH s.vm ∧ s.methodNamed? y = some m := C.2.2.2.2.2.2.2.2
  obtain ⟨v, vm₁, ⟨B, Lb, kb, nb⟩, -, X', ⟨Lq, ⟨⟨hQ, hsz⟩, Ns⟩, e1, e2, e3⟩, st'⟩ := X.specialBack C.1 (y := y') hi C.2.2.2.1 (mvT hZ w1) (mvT hZ w2) (mvT hZ w4) hy (backOfW (W := W) (Q := fun v h' L => ((R0 P) v h' ∧ h.size ≤ h'.size) ∧ Fr n0 L) (hM []) hKW.1 w4 w3 hf hlo) (g := mkF m pc ls.toArray (argsL.reverse ++ .ref a :: st)) rfl
    (by rw [C.2.2.1]; simpa using hls) (Steps.refl _) (a := a) (argsL := argsL) (rest := st) hlen rfl (by show 2 * 0 + _ ≤ W; rw [← hW]; omega) (hb C.2.1 hd) (fun _ _ => ⟨rfl, hh, hk, hn⟩)
  dsimp only [Pt.U, Pt.locs, Pt.cells, Pt.slots] at X' hQ hsz e1 e2 e3 st'
  subst e1 e2 e3
  obtain ⟨rfl, hP⟩ := hQ
  exact (G B.heap hP p e s0 s m args below meth c B _ (Bs.mono hsz) C X' rfl (N.app Ns)).pre (fun t q => st'.trans q)
theorem made_w {s : State} {host : String} {σ : Lambda.Shape} {cK : ClassId} (hZ : Z.WarmedH s.vm) (M : Jvm.LamKit.Made Z host σ cK) : Jvm.LamKit.Made s host σ cK := by
  obtain ⟨d, dk, hd, hn, hm, hc⟩ := M
  obtain ⟨dk', hd', he⟩ := hZ.alike.2.2 _ _ hd
  have hA := hZ.alike
  refine ⟨d, dk', hd', by rw [he]; exact hn, Lambda.isMade_warmer hZ hm, ?_⟩
  simp only [State.lambdaCallable, hA.findClass, hA.assignable, hA.superclasses, hA.declaredIn] at hc ⊢
  exact hc
theorem go_indy {idx W : Nat} {σ : Lambda.Shape} (D : Dc bytes pc (.invokedynamic idx) 5 pc') (w : (Cond.lambdaSite y pc idx σ).before a0 Z = true) (hcap : σ.captured = []) (hls : ls.length = ml) (hW : (st.map fun v => v.category).sum = W) (hlo : W + 3072 ≤ R.locals)
    (G : ∀ (a : Addr) (cK : ClassId), Jvm.LamKit.Made Z y.cls σ cK → Jvm.LamKit.FnAt Z.heap a cK → Go false (KW Z y) l Z R y bytes ml ret n0 kc ks Q h k n pc' ls (.ref a :: st)) : Go false (KW Z y) l Z R y bytes ml ret n0 kc ks Q h k n pc ls st := by
  intro p e s0 s m args below meth c T L Bs C X hh N
  obtain ⟨hd, rfl⟩ := D
  have hKW : Z.WarmedH s.vm ∧ s.methodNamed? y = some m := C.2.2.2.2.2.2.2.2
  obtain ⟨cK, one, hat⟩ := Cond.lambdaSite_spec w
  obtain ⟨mD, kD, cfD, i0, p0, lk, hmD, hkD, -, -, -, hfind, hmade, hcan, hl⟩ := State.lambdaAt?_spec hat
  have hm : s.methodNamed? y = some mD := by
    have q := State.methodNamed?_setVm (s := Z) hKW.1.alike y
    rw [hmD] at q
    exact q
  have em : m = mD := Option.some.inj (hKW.2.symm.trans hm)
  subst em
  obtain ⟨kD', hkD', he⟩ := hKW.1.alike.2.2 _ _ hkD
  obtain ⟨kn, hkn, hname⟩ := className_of_methodNamed hmD
  have ek : kD = kn := Option.some.inj (hkD.symm.trans hkn)
  subst ek
  rcases hl with ⟨a, cell, rfl, -, -, hcell, hcls, hvm, -⟩ | ⟨-, -, hne⟩
  · have hw : e.platform.lambdaLinkWords = 3072 := by rw [X.admits.platform]
    refine (G a cK ⟨_, kD, hkD, hname, hmade, hcan⟩ ⟨cell, hcell, hcls, hvm⟩ p e s0 s m args below meth c T L Bs C X hh N).pre fun t q => ?_
    exact X.lambdaConstant C.1 (g := mkF m pc ls.toArray st) rfl (by rw [C.2.2.1]; simpa using hls) (hb C.2.1 hd) hkD' (by rw [he]; exact hfind) (by rw [hw]; show 2 * 0 + _ + 3072 ≤ R.locals; rw [hW]; omega) q
  · exact absurd hcap hne
theorem go_lam {idx cnt W : Nat} {xi yt : MethodName} {σ : Lambda.Shape} {host : String} {tb fcode : ByteArray} {fidx fci : Nat} {a : Addr} {cK : ClassId} {v : Int32} (D : Dc bytes pc (.invokeinterface idx cnt) 5 pc')
    (hM : Met l yt [Cond.code yt tb 1 (some .int)] { frames := 0, cells := 0, slots := 0, locals := 0 } (fun args _ => args = #[.int v]) (fun _ st o t => o = .returned (some (.int v)) ∧ t.heap = st.heap) 0 0 (fun _ => False))
    (hmd : Jvm.LamKit.Made Z host σ cK) (hfn : Jvm.LamKit.FnAt Z.heap a cK) (hE : Ext Z.heap h)
    (w1 : (Cond.methodLink y.cls idx xi).before a0 Z = true) (w5 : (Cond.declares xi).before a0 Z = true) (w7 : (Cond.interfaceMethod xi.cls xi.cls xi.name xi.desc).before a0 Z = true) (hd7 : ((Cond.interfaceMethod xi.cls xi.cls xi.name xi.desc).onTables && (Cond.interfaceMethod xi.cls xi.cls xi.name xi.desc).keepsFace) = true)
    (w4 : (Cond.code yt tb 1 (some .int)).before a0 Z = true) (w2 : (Cond.static yt).before a0 Z = true) (w3 : (Cond.initialized yt.cls).before a0 Z = true)
    (hxi : xi.cls = σ.iface ∧ xi.name = σ.name ∧ xi.desc = σ.sam.toString) (hyt : yt.cls = σ.implClass ∧ yt.name = σ.implName ∧ yt.desc = σ.implDesc.toString)
    (hpoly : (xi.cls ≠ "java/lang/invoke/MethodHandle" ∧ xi.cls ≠ "java/lang/invoke/VarHandle") ∧ yt.cls ≠ "java/lang/invoke/MethodHandle" ∧ yt.cls ≠ "java/lang/invoke/VarHandle")
    (hok : Jvm.LamKit.fwdOK σ host fcode 2 (some .int) fidx fci = true) (f0 : decode fcode 0 = .ok (.iload_n 1, 1)) (f1 : decode fcode 1 = .ok (.invokestatic fidx, 3)) (f4 : decode fcode 4 = .ok (.ireturn, 1))
    (hlx : ∀ sig, parseMethodDescriptor xi.desc = some sig → ([Value.int v]).length = sig.parameters.length) (hlt : ∀ sig, parseMethodDescriptor yt.desc = some sig → ([Value.int v]).length = sig.parameters.length)
    (hls : ls.length = ml) (hW : (st.map fun v => v.category).sum = W) (hf : 2 ≤ R.frames) (hlo : W + 25 ≤ R.locals) (hk : k ≤ R.cells) (hn : n ≤ R.slots)
    (G : Go false (KW Z y) l Z R y bytes ml ret n0 kc ks Q h k n pc' ls (.int v :: st)) : Go false (KW Z y) l Z R y bytes ml ret n0 kc ks Q h k n pc ls (.int v :: .ref a :: st) := by
  intro p e s0 s m args below meth c T L Bs C X hh N
  obtain ⟨hd, rfl⟩ := D
  have hZ := C.2.2.2.2.1
  have hKW : Z.WarmedH s.vm ∧ s.methodNamed? y = some m := C.2.2.2.2.2.2.2.2
  have hfnT : Jvm.LamKit.FnAt T.heap a cK := by
    obtain ⟨cl, q1, q2, q3⟩ := hfn
    exact ⟨cl, by rw [hh]; exact hE.2 _ _ q1, q2, q3⟩
  obtain ⟨w, sg, t, T', L', X', hL, e1, e2, hq, st'⟩ := Jvm.LamKit.callLamS X C.1 (own := y.cls) (host := host) (index := idx) (count := cnt) (xi := xi) (y := yt) (σ := σ) hM (fun _ _ _ _ h => h) rfl rfl
    (fun w hw' a' U hU => by rw [List.mem_singleton.mp hw']; exact mvT (wtrans hZ hU) w4) (List.mem_singleton.mpr rfl)
    C.2.2.2.1 (mvT hZ w1) (mvT hZ w5) (mvT hZ w7 hd7) (mvT hZ w4) (mvT hZ w2) (mvT hZ w3) hxi hyt hpoly (made_w hKW.1 hmd) hfnT hok f1 f4
    (g := mkF m pc ls.toArray (.int v :: .ref a :: st)) rfl (by rw [C.2.2.1]; simpa using hls) (argsL := [.int v]) (argsT := [.int v]) (rest := st) (L0 := #[.val (.ref a), .val (.int v)])
    hlx hlt rfl (hb C.2.1 hd) (fun _ => rfl) rfl
    (fun U ck bl target hU hck _ _ q => XS.iloadN hU C.1 rfl (hb hck f0) rfl q)
    (fun sg' w' t' h' => by cases h'.1; exact Or.inl ⟨.int, _, rfl, Or.inl rfl, rfl, rfl, rfl⟩) hf (by show 2 * 0 + _ + (2 + 11) + (1 + 11 + 0) ≤ R.locals; rw [hW]; omega) hk hn (fun _ _ _ => rfl)
  have hq1 : Outcome.returned w = .returned (some (.int v)) := hq.1
  have hq2 : t.heap = sg.heap := hq.2
  cases hq1
  have X'' := Stand.forget (extra := L') X' (fun q hq => (hL q hq).elim)
  exact (G p e s0 s m args below meth c T' L Bs C X'' (by rw [e1, hq2, e2]; exact hh) N).pre st'
/-! ## 5. arrays of arrays; boolean arrays read -/
theorem stoAA {ty t0 : FieldType} {C ad : String} {a b : Addr} {cl : Cell} (w : (Cond.arrayOver (.array ty)).before a0 Z = true) (hC : (FieldType.array ty).toString = C) (had : "[" ++ C = ad) (A : Arr Z h a cl t0) (E : Exa Z h a ad) (I : Ins Z h b C true) : Sto Z h a (.ref b) := by
  subst hC had
  obtain ⟨comp, c, kk, h1, -, h2, h3, h4⟩ := Jvm.Stand.arrayOver_specB w
  obtain ⟨cell, k', e1, e2, -⟩ := E
  have ec : cl = cell := Option.some.inj (A.1.symm.trans e1)
  subst ec
  have ei : c = cl.cls := Option.some.inj (h4.symm.trans e2)
  exact Sto.ofVA A ei.symm ⟨kk, comp, h2, h3, h1⟩ I
theorem Hp.stoA {L : List (Addr × Desc)} {i j : Nat} {ty t2 : FieldType} {C ad : String} {a b : Addr} {vs vs2 : List Value} (P : Hp Z n0 h L) (w : (Cond.arrayOver (.array ty)).before a0 Z = true) (hC : (FieldType.array ty).toString = C) (had : "[" ++ C = ad) (hi : L[i]? = some (a, .inr (.array ty, ad, vs))) (hj : L[j]? = some (b, .inr (t2, C, vs2))) : Sto Z h a (.ref b) := by
  obtain ⟨E, c, A, -⟩ := P.is hi
  exact stoAA w hC had A E (P.insA hj)
theorem go_newarrA {L : List (Addr × Desc)} {idx : Nat} {z : Int32} {ty : FieldType} (P : Hp Z n0 h L) (C ad : String) (vs : List Value) (cap : Nat) (D : Dc bytes pc (.anewarray idx) 3 pc') (hC : (FieldType.array ty).toString = C) (w1 : (Cond.classLink y.cls idx C).before a0 Z = true) (w2 : (Cond.arrayOver (.array ty)).before a0 Z = true) (hz : ¬ z < 0) (hcap : z.toNatClampNeg ≤ cap) (hb8 : cap * 8 ≤ 536870912) (had : "[" ++ C = ad) (hvs : List.replicate z.toNatClampNeg Value.null = vs) (hk : k + 1 ≤ R.cells) (hn : n + cap ≤ R.slots)
    (G : ∀ h' a, Hp Z n0 h' ((a, .inr (.array ty, ad, vs)) :: L) → Go wd K₀ l Z R y bytes ml ret n0 kc ks Q h' (k + 1) (n + cap) pc' ls (.ref a :: st)) : Go wd K₀ l Z R y bytes ml ret n0 kc ks Q h k n pc ls (.int z :: st) := by
  intro p e s0 s m args below meth c T Lo Bs C0 X hh N
  obtain ⟨hd, rfl⟩ := D
  obtain ⟨T', h', cA, X', e', E', A', F', O', st'⟩ := newRA X C0.1 C0.2.2.2.2.1 C0.2.2.2.1 hC w1 w2 hh (g := mkF m pc ls.toArray (.int z :: st)) rfl (hb C0.2.1 hd) rfl hz hcap hb8 hk hn had
  exact (G h' h.size (P.newA E' A' F' (fun K' q => by cases q) hvs hz) p e s0 s m args below meth c T' _ (Bs.mono E'.1) C0 X' e' N).pre st'
theorem go_zaload {a : Addr} {cl : Cell} {j : Int32} {v : Value} (D : Dc bytes pc .baload 1 pc') (A : Arr Z h a cl .boolean) (hj : ¬ (j < 0 ∨ cl.slots.size ≤ j.toNatClampNeg)) (hv : cl.slots[j.toNatClampNeg]? = some v) (G : Go wd K₀ l Z R y bytes ml ret n0 kc ks Q h k n pc' ls (v :: st)) : Go wd K₀ l Z R y bytes ml ret n0 kc ks Q h k n pc ls (.int j :: .ref a :: st) := by
  intro p e s0 s m args below meth c T L Bs C X hh N
  obtain ⟨hd, rfl⟩ := D
  exact (G p e s0 s m args below meth c T L Bs C X hh N).pre fun t q => X.baloadBooleans C.1 (j := j) (v := v) (by rw [hh]; exact A.1) (State.isArrayOf_alike C.2.2.2.2.1.alike A.2.1) A.2.2 hj hv (g := mkF m pc ls.toArray (.int j :: .ref a :: st)) rfl rfl (hb C.2.1 hd) _ q
theorem go_zaloadH {L : List (Addr × Desc)} {q : Int32} {a : Addr} {ad : String} {vs : List Value} {v : Value} (P : Hp Z n0 h L) (i : Nat) (D : Dc bytes pc .baload 1 pc') (hi : L[i]? = some (a, .inr (.boolean, ad, vs))) (hq : ¬ q < 0) (hv : vs[q.toNatClampNeg]? = some v) (G : Go wd K₀ l Z R y bytes ml ret n0 kc ks Q h k n pc' ls (v :: st)) : Go wd K₀ l Z R y bytes ml ret n0 kc ks Q h k n pc ls (.int q :: .ref a :: st) := by
  obtain ⟨-, c, h2, h3, -⟩ := P.is hi
  exact go_zaload D h2 (inb h3 hq hv) (by rw [h3]; simpa using hv) G
end WalkW
end Jvm.OwnGo
namespace Jvm.Pilot.@@N@@
open Jvm Jvm.ClassFile Sem Op Lib Jvm.Free Jvm.Stand Jvm.LawKit Jvm.RoadKit Bundle Jvm.OwnGo Jvm.Pilot.@@N@@.Jvm.D
theorem t0 {Z : State} {a0 : Array Value} (hw : ∀ d ∈ tables_1, d.before a0 Z = true) : (Jvm.Cond.constant "com/example/cropped_view/croppedview/BroadcastMovesPinLaw" (7 : Nat) (2147483647 : Int32)).before a0 Z = true := hw _ (List.mem_of_getElem? (i := 0) rfl)
theorem t1 {Z : State} {a0 : Array Value} (hw : ∀ d ∈ tables_1, d.before a0 Z = true) : (Jvm.Cond.arrayClass Jvm.ClassFile.FieldType.int).before a0 Z = true := hw _ (List.mem_of_getElem? (i := 1) rfl)
theorem t2 {Z : State} {a0 : Array Value} (hw : ∀ d ∈ tables_1, d.before a0 Z = true) : (Jvm.Cond.classLink "com/example/cropped_view/croppedview/BroadcastMovesPinLaw" (8 : Nat) "com/example/cropped_view/croppedview/Broadcast").before a0 Z = true := hw _ (List.mem_of_getElem? (i := 2) rfl)
theorem t3 {Z : State} {a0 : Array Value} (hw : ∀ d ∈ tables_1, d.before a0 Z = true) : (Jvm.Cond.instantiable "com/example/cropped_view/croppedview/Broadcast" (3 : Nat)).before a0 Z = true := hw _ (List.mem_of_getElem? (i := 3) rfl)
theorem t4 {Z : State} {a0 : Array Value} (hw : ∀ d ∈ tables_1, d.before a0 Z = true) : (Jvm.Cond.initialized "com/example/cropped_view/croppedview/Broadcast").before a0 Z = true := hw _ (List.mem_of_getElem? (i := 4) rfl)
theorem t5 {Z : State} {a0 : Array Value} (hw : ∀ d ∈ tables_1, d.before a0 Z = true) : (Jvm.Cond.methodLink "com/example/cropped_view/croppedview/BroadcastMovesPinLaw" (10 : Nat) ({ cls := "com/example/cropped_view/croppedview/Broadcast", name := "<init>", desc := "([I[II)V" } : Jvm.MethodName)).before a0 Z = true := hw _ (List.mem_of_getElem? (i := 5) rfl)
theorem t6 {Z : State} {a0 : Array Value} (hw : ∀ d ∈ tables_1, d.before a0 Z = true) : (Jvm.Cond.instanceMethod ({ cls := "com/example/cropped_view/croppedview/Broadcast", name := "<init>", desc := "([I[II)V" } : Jvm.MethodName)).before a0 Z = true := hw _ (List.mem_of_getElem? (i := 6) rfl)
theorem t7 {Z : State} {a0 : Array Value} (hw : ∀ d ∈ tables_1, d.before a0 Z = true) : (Jvm.Cond.code ({ cls := "com/example/cropped_view/croppedview/Broadcast", name := "<init>", desc := "([I[II)V" } : Jvm.MethodName) prog_7_method_1_code (8 : Nat) (Option.none : Option Jvm.ClassFile.FieldType)).before a0 Z = true := hw _ (List.mem_of_getElem? (i := 7) rfl)
theorem t8 {Z : State} {a0 : Array Value} (hw : ∀ d ∈ tables_1, d.before a0 Z = true) : (Jvm.Cond.methodLink "com/example/cropped_view/croppedview/Broadcast" (1 : Nat) ({ cls := "java/lang/Object", name := "<init>", desc := "()V" } : Jvm.MethodName)).before a0 Z = true := hw _ (List.mem_of_getElem? (i := 8) rfl)
theorem t9 {Z : State} {a0 : Array Value} (hw : ∀ d ∈ tables_1, d.before a0 Z = true) : (Jvm.Cond.instanceMethod ({ cls := "java/lang/Object", name := "<init>", desc := "()V" } : Jvm.MethodName)).before a0 Z = true := hw _ (List.mem_of_getElem? (i := 9) rfl)
theorem t10 {Z : State} {a0 : Array Value} (hw : ∀ d ∈ tables_1, d.before a0 Z = true) : (Jvm.Cond.code ({ cls := "java/lang/Object", name := "<init>", desc := "()V" } : Jvm.MethodName) object_method_1_code (1 : Nat) (Option.none : Option Jvm.ClassFile.FieldType)).before a0 Z = true := hw _ (List.mem_of_getElem? (i := 10) rfl)
theorem t11 {Z : State} {a0 : Array Value} (hw : ∀ d ∈ tables_1, d.before a0 Z = true) : (Jvm.Cond.lambdaSite ({ cls := "com/example/cropped_view/croppedview/Broadcast", name := "<init>", desc := "([I[II)V" } : Jvm.MethodName) (40 : Nat) (16 : Nat) (Jvm.Lambda.Shape.mk "java/util/function/IntUnaryOperator" "applyAsInt" (Jvm.ClassFile.MethodDescriptor.mk ([Jvm.ClassFile.FieldType.int] : List Jvm.ClassFile.FieldType) (Option.some Jvm.ClassFile.FieldType.int)) ([] : List Jvm.ClassFile.FieldType) (6 : Nat) "com/example/cropped_view/croppedview/Broadcast" "lambda$new$0" (Jvm.ClassFile.MethodDescriptor.mk ([Jvm.ClassFile.FieldType.int] : List Jvm.ClassFile.FieldType) (Option.some Jvm.ClassFile.FieldType.int)) false (Jvm.ClassFile.MethodDescriptor.mk ([Jvm.ClassFile.FieldType.int] : List Jvm.ClassFile.FieldType) (Option.some Jvm.ClassFile.FieldType.int)))).before a0 Z = true := hw _ (List.mem_of_getElem? (i := 11) rfl)
theorem t14 {Z : State} {a0 : Array Value} (hw : ∀ d ∈ tables_1, d.before a0 Z = true) : (Jvm.Cond.methodLink "com/example/cropped_view/croppedview/Broadcast" (20 : Nat) ({ cls := "java/util/Arrays", name := "setAll", desc := "([ILjava/util/function/IntUnaryOperator;)V" } : Jvm.MethodName)).before a0 Z = true := hw _ (List.mem_of_getElem? (i := 14) rfl)
theorem t15 {Z : State} {a0 : Array Value} (hw : ∀ d ∈ tables_1, d.before a0 Z = true) : (Jvm.Cond.static ({ cls := "java/util/Arrays", name := "setAll", desc := "([ILjava/util/function/IntUnaryOperator;)V" } : Jvm.MethodName)).before a0 Z = true := hw _ (List.mem_of_getElem? (i := 15) rfl)
theorem t16 {Z : State} {a0 : Array Value} (hw : ∀ d ∈ tables_1, d.before a0 Z = true) : (Jvm.Cond.initialized "java/util/Arrays").before a0 Z = true := hw _ (List.mem_of_getElem? (i := 16) rfl)
theorem t17 {Z : State} {a0 : Array Value} (hw : ∀ d ∈ tables_1, d.before a0 Z = true) : (Jvm.Cond.code ({ cls := "java/util/Arrays", name := "setAll", desc := "([ILjava/util/function/IntUnaryOperator;)V" } : Jvm.MethodName) jdk_65_method_175_code (3 : Nat) (Option.none : Option Jvm.ClassFile.FieldType)).before a0 Z = true := hw _ (List.mem_of_getElem? (i := 17) rfl)
theorem t18 {Z : State} {a0 : Array Value} (hw : ∀ d ∈ tables_1, d.before a0 Z = true) : (Jvm.Cond.methodLink "java/util/Arrays" (175 : Nat) ({ cls := "java/util/Objects", name := "requireNonNull", desc := "(Ljava/lang/Object;)Ljava/lang/Object;" } : Jvm.MethodName)).before a0 Z = true := hw _ (List.mem_of_getElem? (i := 18) rfl)
theorem t19 {Z : State} {a0 : Array Value} (hw : ∀ d ∈ tables_1, d.before a0 Z = true) : (Jvm.Cond.static ({ cls := "java/util/Objects", name := "requireNonNull", desc := "(Ljava/lang/Object;)Ljava/lang/Object;" } : Jvm.MethodName)).before a0 Z = true := hw _ (List.mem_of_getElem? (i := 19) rfl)
theorem t20 {Z : State} {a0 : Array Value} (hw : ∀ d ∈ tables_1, d.before a0 Z = true) : (Jvm.Cond.initialized "java/util/Objects").before a0 Z = true := hw _ (List.mem_of_getElem? (i := 20) rfl)
theorem t21 {Z : State} {a0 : Array Value} (hw : ∀ d ∈ tables_1, d.before a0 Z = true) : (Jvm.Cond.code ({ cls := "java/util/Objects", name := "requireNonNull", desc := "(Ljava/lang/Object;)Ljava/lang/Object;" } : Jvm.MethodName) jdk_31_method_10_code (1 : Nat) (Option.some (Jvm.ClassFile.FieldType.object "java/lang/Object"))).before a0 Z = true := hw _ (List.mem_of_getElem? (i := 21) rfl)
theorem t22 {Z : State} {a0 : Array Value} (hw : ∀ d ∈ tables_1, d.before a0 Z = true) : (Jvm.Cond.methodLink "java/util/Arrays" (582 : Nat) ({ cls := "java/util/function/IntUnaryOperator", name := "applyAsInt", desc := "(I)I" } : Jvm.MethodName)).before a0 Z = true := hw _ (List.mem_of_getElem? (i := 22) rfl)
theorem t23 {Z : State} {a0 : Array Value} (hw : ∀ d ∈ tables_1, d.before a0 Z = true) : (Jvm.Cond.declares ({ cls := "java/util/function/IntUnaryOperator", name := "applyAsInt", desc := "(I)I" } : Jvm.MethodName)).before a0 Z = true := hw _ (List.mem_of_getElem? (i := 23) rfl)
theorem t24 {Z : State} {a0 : Array Value} (hw : ∀ d ∈ tables_1, d.before a0 Z = true) : (Jvm.Cond.interfaceMethod "java/util/function/IntUnaryOperator" "java/util/function/IntUnaryOperator" "applyAsInt" "(I)I").before a0 Z = true := hw _ (List.mem_of_getElem? (i := 24) rfl)
theorem t25 {Z : State} {a0 : Array Value} (hw : ∀ d ∈ tables_1, d.before a0 Z = true) : (Jvm.Cond.static ({ cls := "com/example/cropped_view/croppedview/Broadcast", name := "lambda$new$0", desc := "(I)I" } : Jvm.MethodName)).before a0 Z = true := hw _ (List.mem_of_getElem? (i := 25) rfl)
theorem t26 {Z : State} {a0 : Array Value} (hw : ∀ d ∈ tables_1, d.before a0 Z = true) : (Jvm.Cond.code ({ cls := "com/example/cropped_view/croppedview/Broadcast", name := "lambda$new$0", desc := "(I)I" } : Jvm.MethodName) prog_7_method_12_code (1 : Nat) (Option.some Jvm.ClassFile.FieldType.int)).before a0 Z = true := hw _ (List.mem_of_getElem? (i := 26) rfl)
theorem t27 {Z : State} {a0 : Array Value} (hw : ∀ d ∈ tables_1, d.before a0 Z = true) : (Jvm.Cond.classLink "com/example/cropped_view/croppedview/Broadcast" (28 : Nat) "[I").before a0 Z = true := hw _ (List.mem_of_getElem? (i := 27) rfl)
theorem t28 {Z : State} {a0 : Array Value} (hw : ∀ d ∈ tables_1, d.before a0 Z = true) : (Jvm.Cond.arrayOver (Jvm.ClassFile.FieldType.array Jvm.ClassFile.FieldType.int)).before a0 Z = true := hw _ (List.mem_of_getElem? (i := 28) rfl)
theorem t29 {Z : State} {a0 : Array Value} (hw : ∀ d ∈ tables_1, d.before a0 Z = true) : (Jvm.Cond.fieldLink "com/example/cropped_view/croppedview/Broadcast" (30 : Nat) "com/example/cropped_view/croppedview/Broadcast" "m_reactions" "[[I").before a0 Z = true := hw _ (List.mem_of_getElem? (i := 29) rfl)
theorem t30 {Z : State} {a0 : Array Value} (hw : ∀ d ∈ tables_1, d.before a0 Z = true) : (Jvm.Cond.laysFinal "com/example/cropped_view/croppedview/Broadcast" "com/example/cropped_view/croppedview/Broadcast" "m_reactions" "[[I").before a0 Z = true := hw _ (List.mem_of_getElem? (i := 30) rfl)
theorem t31 {Z : State} {a0 : Array Value} (hw : ∀ d ∈ tables_1, d.before a0 Z = true) : (Jvm.Cond.methodLink "com/example/cropped_view/croppedview/Broadcast" (36 : Nat) ({ cls := "java/util/Arrays", name := "fill", desc := "([Ljava/lang/Object;Ljava/lang/Object;)V" } : Jvm.MethodName)).before a0 Z = true := hw _ (List.mem_of_getElem? (i := 31) rfl)
theorem t32 {Z : State} {a0 : Array Value} (hw : ∀ d ∈ tables_1, d.before a0 Z = true) : (Jvm.Cond.static ({ cls := "java/util/Arrays", name := "fill", desc := "([Ljava/lang/Object;Ljava/lang/Object;)V" } : Jvm.MethodName)).before a0 Z = true := hw _ (List.mem_of_getElem? (i := 32) rfl)
theorem t33 {Z : State} {a0 : Array Value} (hw : ∀ d ∈ tables_1, d.before a0 Z = true) : (Jvm.Cond.code ({ cls := "java/util/Arrays", name := "fill", desc := "([Ljava/lang/Object;Ljava/lang/Object;)V" } : Jvm.MethodName) jdk_65_method_117_code (4 : Nat) (Option.none : Option Jvm.ClassFile.FieldType)).before a0 Z = true := hw _ (List.mem_of_getElem? (i := 33) rfl)
theorem t35 {Z : State} {a0 : Array Value} (hw : ∀ d ∈ tables_1, d.before a0 Z = true) : (Jvm.Cond.arrayClass Jvm.ClassFile.FieldType.boolean).before a0 Z = true := hw _ (List.mem_of_getElem? (i := 35) rfl)
theorem t36 {Z : State} {a0 : Array Value} (hw : ∀ d ∈ tables_1, d.before a0 Z = true) : (Jvm.Cond.fieldLink "com/example/cropped_view/croppedview/Broadcast" (40 : Nat) "com/example/cropped_view/croppedview/Broadcast" "m_deletes" "[Z").before a0 Z = true := hw _ (List.mem_of_getElem? (i := 36) rfl)
theorem t37 {Z : State} {a0 : Array Value} (hw : ∀ d ∈ tables_1, d.before a0 Z = true) : (Jvm.Cond.laysFinal "com/example/cropped_view/croppedview/Broadcast" "com/example/cropped_view/croppedview/Broadcast" "m_deletes" "[Z").before a0 Z = true := hw _ (List.mem_of_getElem? (i := 37) rfl)
theorem t38 {Z : State} {a0 : Array Value} (hw : ∀ d ∈ tables_1, d.before a0 Z = true) : (Jvm.Cond.fieldLink "com/example/cropped_view/croppedview/Broadcast" (49 : Nat) "com/example/cropped_view/croppedview/Broadcast" "m_deletesAny" "Z").before a0 Z = true := hw _ (List.mem_of_getElem? (i := 38) rfl)
theorem t39 {Z : State} {a0 : Array Value} (hw : ∀ d ∈ tables_1, d.before a0 Z = true) : (Jvm.Cond.laysFinal "com/example/cropped_view/croppedview/Broadcast" "com/example/cropped_view/croppedview/Broadcast" "m_deletesAny" "Z").before a0 Z = true := hw _ (List.mem_of_getElem? (i := 39) rfl)
theorem t40 {Z : State} {a0 : Array Value} (hw : ∀ d ∈ tables_1, d.before a0 Z = true) : (Jvm.Cond.methodLink "com/example/cropped_view/croppedview/BroadcastMovesPinLaw" (13 : Nat) ({ cls := "com/example/cropped_view/croppedview/Broadcast", name := "moves", desc := "(I)Z" } : Jvm.MethodName)).before a0 Z = true := hw _ (List.mem_of_getElem? (i := 40) rfl)
theorem t41 {Z : State} {a0 : Array Value} (hw : ∀ d ∈ tables_1, d.before a0 Z = true) : (Jvm.Cond.declares ({ cls := "com/example/cropped_view/croppedview/Broadcast", name := "moves", desc := "(I)Z" } : Jvm.MethodName)).before a0 Z = true := hw _ (List.mem_of_getElem? (i := 41) rfl)
theorem t42 {Z : State} {a0 : Array Value} (hw : ∀ d ∈ tables_1, d.before a0 Z = true) : (Jvm.Cond.instanceMethod ({ cls := "com/example/cropped_view/croppedview/Broadcast", name := "moves", desc := "(I)Z" } : Jvm.MethodName)).before a0 Z = true := hw _ (List.mem_of_getElem? (i := 42) rfl)
theorem t43 {Z : State} {a0 : Array Value} (hw : ∀ d ∈ tables_1, d.before a0 Z = true) : (Jvm.Cond.selects "com/example/cropped_view/croppedview/Broadcast" ({ cls := "com/example/cropped_view/croppedview/Broadcast", name := "moves", desc := "(I)Z" } : Jvm.MethodName) ({ cls := "com/example/cropped_view/croppedview/Broadcast", name := "moves", desc := "(I)Z" } : Jvm.MethodName)).before a0 Z = true := hw _ (List.mem_of_getElem? (i := 43) rfl)
theorem t44 {Z : State} {a0 : Array Value} (hw : ∀ d ∈ tables_1, d.before a0 Z = true) : (Jvm.Cond.code ({ cls := "com/example/cropped_view/croppedview/Broadcast", name := "moves", desc := "(I)Z" } : Jvm.MethodName) prog_7_method_3_code (6 : Nat) (Option.some Jvm.ClassFile.FieldType.boolean)).before a0 Z = true := hw _ (List.mem_of_getElem? (i := 44) rfl)
theorem pd0 : parseMethodDescriptor "(Ljava/lang/Object;)Ljava/lang/Object;" = some ⟨[(.object "java/lang/Object")], some (.object "java/lang/Object")⟩ := by decide +kernel
theorem pd1 : parseMethodDescriptor "(I)I" = some ⟨[.int], some .int⟩ := by decide +kernel
theorem pd2 : parseMethodDescriptor "([ILjava/util/function/IntUnaryOperator;)V" = some ⟨[(.array .int), (.object "java/util/function/IntUnaryOperator")], none⟩ := by decide +kernel
theorem pd3 : parseMethodDescriptor "([Ljava/lang/Object;Ljava/lang/Object;)V" = some ⟨[(.array (.object "java/lang/Object")), (.object "java/lang/Object")], none⟩ := by decide +kernel
theorem pd4 : parseMethodDescriptor "(I)Z" = some ⟨[.int], some .boolean⟩ := by decide +kernel
theorem pd5 : parseMethodDescriptor "([I[II)V" = some ⟨[(.array .int), (.array .int), .int], none⟩ := by decide +kernel
theorem pn0 : plainName "com/example/cropped_view/croppedview/Broadcast" = true := by first | (simp [plainName, overriddenIn]; done) | decide +kernel
theorem pn1 : plainName "java/util/Objects" = true := by first | (simp [plainName, overriddenIn]; done) | decide +kernel
theorem pn2 : plainName "java/util/Arrays" = true := by first | (simp [plainName, overriddenIn]; done) | decide +kernel
theorem pn3 : plainName "com/example/cropped_view/croppedview/BroadcastMovesPinLaw" = true := by first | (simp [plainName, overriddenIn]; done) | decide +kernel
theorem c4_0 : Dal jdk_31_method_10_code 0 0 1 := Or.inr ⟨0, (by decide +kernel), rfl, rfl⟩
theorem c4_1 : Db jdk_31_method_10_code 1 .ifnonnull 4 12 := ⟨11, (by decide +kernel), rfl, by decide, by decide⟩
theorem c4_4 : Dc jdk_31_method_10_code 4 (.new 84) 3 7 := ⟨(by decide +kernel), rfl⟩
theorem c4_7 : Dc jdk_31_method_10_code 7 .dup 1 8 := ⟨(by decide +kernel), rfl⟩
theorem c4_8 : Dc jdk_31_method_10_code 8 (.invokespecial 86) 3 11 := ⟨(by decide +kernel), rfl⟩
theorem c4_11 : Dc jdk_31_method_10_code 11 .athrow 1 12 := ⟨(by decide +kernel), rfl⟩
theorem c4_12 : Dal jdk_31_method_10_code 12 0 13 := Or.inr ⟨0, (by decide +kernel), rfl, rfl⟩
theorem c4_13 : Dc jdk_31_method_10_code 13 .areturn 1 14 := ⟨(by decide +kernel), rfl⟩
theorem c3_0 : Dal jdk_65_method_175_code 0 1 1 := Or.inr ⟨1, (by decide +kernel), rfl, rfl⟩
theorem c3_1 : Dc jdk_65_method_175_code 1 (.invokestatic 175) 3 4 := ⟨(by decide +kernel), rfl⟩
theorem c3_4 : Dc jdk_65_method_175_code 4 .pop 1 5 := ⟨(by decide +kernel), rfl⟩
theorem c3_5 : Dp jdk_65_method_175_code 5 0 6 := Or.inl ⟨0, (by decide +kernel), by decide, rfl⟩
theorem c3_6 : Dis jdk_65_method_175_code 6 2 7 := Or.inr ⟨2, (by decide +kernel), rfl, rfl⟩
theorem c3_7 : Dil jdk_65_method_175_code 7 2 8 := Or.inr ⟨2, (by decide +kernel), rfl, rfl⟩
theorem c3_8 : Dal jdk_65_method_175_code 8 0 9 := Or.inr ⟨0, (by decide +kernel), rfl, rfl⟩
theorem c3_9 : Dc jdk_65_method_175_code 9 .arraylength 1 10 := ⟨(by decide +kernel), rfl⟩
theorem c3_10 : Db jdk_65_method_175_code 10 (.if_icmp .ge) 13 29 := ⟨19, (by decide +kernel), rfl, by decide, by decide⟩
theorem c3_13 : Dal jdk_65_method_175_code 13 0 14 := Or.inr ⟨0, (by decide +kernel), rfl, rfl⟩
theorem c3_14 : Dil jdk_65_method_175_code 14 2 15 := Or.inr ⟨2, (by decide +kernel), rfl, rfl⟩
theorem c3_15 : Dal jdk_65_method_175_code 15 1 16 := Or.inr ⟨1, (by decide +kernel), rfl, rfl⟩
theorem c3_16 : Dil jdk_65_method_175_code 16 2 17 := Or.inr ⟨2, (by decide +kernel), rfl, rfl⟩
theorem c3_17 : Dc jdk_65_method_175_code 17 (.invokeinterface 582 2) 5 22 := ⟨(by decide +kernel), rfl⟩
theorem c3_22 : Dc jdk_65_method_175_code 22 .iastore 1 23 := ⟨(by decide +kernel), rfl⟩
theorem c3_23 : Dinc jdk_65_method_175_code 23 2 1 26 := ⟨1, (by decide +kernel), by decide, rfl⟩
theorem c3_26 : Db jdk_65_method_175_code 26 .goto 29 7 := ⟨(-19), (by decide +kernel), rfl, by decide, by decide⟩
theorem c3_29 : Dc jdk_65_method_175_code 29 .return_ 1 30 := ⟨(by decide +kernel), rfl⟩
theorem c6_0 : Dp jdk_65_method_117_code 0 0 1 := Or.inl ⟨0, (by decide +kernel), by decide, rfl⟩
theorem c6_1 : Dis jdk_65_method_117_code 1 2 2 := Or.inr ⟨2, (by decide +kernel), rfl, rfl⟩
theorem c6_2 : Dal jdk_65_method_117_code 2 0 3 := Or.inr ⟨0, (by decide +kernel), rfl, rfl⟩
theorem c6_3 : Dc jdk_65_method_117_code 3 .arraylength 1 4 := ⟨(by decide +kernel), rfl⟩
theorem c6_4 : Dis jdk_65_method_117_code 4 3 5 := Or.inr ⟨3, (by decide +kernel), rfl, rfl⟩
theorem c6_5 : Dil jdk_65_method_117_code 5 2 6 := Or.inr ⟨2, (by decide +kernel), rfl, rfl⟩
theorem c6_6 : Dil jdk_65_method_117_code 6 3 7 := Or.inr ⟨3, (by decide +kernel), rfl, rfl⟩
theorem c6_7 : Db jdk_65_method_117_code 7 (.if_icmp .ge) 10 20 := ⟨13, (by decide +kernel), rfl, by decide, by decide⟩
theorem c6_10 : Dal jdk_65_method_117_code 10 0 11 := Or.inr ⟨0, (by decide +kernel), rfl, rfl⟩
theorem c6_11 : Dil jdk_65_method_117_code 11 2 12 := Or.inr ⟨2, (by decide +kernel), rfl, rfl⟩
theorem c6_12 : Dal jdk_65_method_117_code 12 1 13 := Or.inr ⟨1, (by decide +kernel), rfl, rfl⟩
theorem c6_13 : Dc jdk_65_method_117_code 13 .aastore 1 14 := ⟨(by decide +kernel), rfl⟩
theorem c6_14 : Dinc jdk_65_method_117_code 14 2 1 17 := ⟨1, (by decide +kernel), by decide, rfl⟩
theorem c6_17 : Db jdk_65_method_117_code 17 .goto 20 5 := ⟨(-12), (by decide +kernel), rfl, by decide, by decide⟩
theorem c6_20 : Dc jdk_65_method_117_code 20 .return_ 1 21 := ⟨(by decide +kernel), rfl⟩
theorem c7_0 : Dal prog_7_method_3_code 0 0 1 := Or.inr ⟨0, (by decide +kernel), rfl, rfl⟩
theorem c7_1 : Dc prog_7_method_3_code 1 (.getfield 30) 3 4 := ⟨(by decide +kernel), rfl⟩
theorem c7_4 : Das prog_7_method_3_code 4 2 5 := Or.inr ⟨2, (by decide +kernel), rfl, rfl⟩
theorem c7_5 : Dal prog_7_method_3_code 5 2 6 := Or.inr ⟨2, (by decide +kernel), rfl, rfl⟩
theorem c7_6 : Dc prog_7_method_3_code 6 .arraylength 1 7 := ⟨(by decide +kernel), rfl⟩
theorem c7_7 : Dis prog_7_method_3_code 7 3 8 := Or.inr ⟨3, (by decide +kernel), rfl, rfl⟩
theorem c7_8 : Dp prog_7_method_3_code 8 0 9 := Or.inl ⟨0, (by decide +kernel), by decide, rfl⟩
theorem c7_9 : Dis prog_7_method_3_code 9 4 11 := Or.inl ⟨(by decide +kernel), rfl⟩
theorem c7_11 : Dil prog_7_method_3_code 11 4 13 := Or.inl ⟨(by decide +kernel), rfl⟩
theorem c7_13 : Dil prog_7_method_3_code 13 3 14 := Or.inr ⟨3, (by decide +kernel), rfl, rfl⟩
theorem c7_14 : Db prog_7_method_3_code 14 (.if_icmp .ge) 17 39 := ⟨25, (by decide +kernel), rfl, by decide, by decide⟩
theorem c7_17 : Dal prog_7_method_3_code 17 2 18 := Or.inr ⟨2, (by decide +kernel), rfl, rfl⟩
theorem c7_18 : Dil prog_7_method_3_code 18 4 20 := Or.inl ⟨(by decide +kernel), rfl⟩
theorem c7_20 : Dc prog_7_method_3_code 20 .aaload 1 21 := ⟨(by decide +kernel), rfl⟩
theorem c7_21 : Das prog_7_method_3_code 21 5 23 := Or.inl ⟨(by decide +kernel), rfl⟩
theorem c7_23 : Dal prog_7_method_3_code 23 5 25 := Or.inl ⟨(by decide +kernel), rfl⟩
theorem c7_25 : Dil prog_7_method_3_code 25 1 26 := Or.inr ⟨1, (by decide +kernel), rfl, rfl⟩
theorem c7_26 : Dc prog_7_method_3_code 26 .iaload 1 27 := ⟨(by decide +kernel), rfl⟩
theorem c7_27 : Dil prog_7_method_3_code 27 1 28 := Or.inr ⟨1, (by decide +kernel), rfl, rfl⟩
theorem c7_28 : Db prog_7_method_3_code 28 (.if_icmp .eq) 31 33 := ⟨5, (by decide +kernel), rfl, by decide, by decide⟩
theorem c7_31 : Dp prog_7_method_3_code 31 1 32 := Or.inl ⟨1, (by decide +kernel), by decide, rfl⟩
theorem c7_32 : Dc prog_7_method_3_code 32 .ireturn 1 33 := ⟨(by decide +kernel), rfl⟩
theorem c7_33 : Dinc prog_7_method_3_code 33 4 1 36 := ⟨1, (by decide +kernel), by decide, rfl⟩
theorem c7_36 : Db prog_7_method_3_code 36 .goto 39 11 := ⟨(-25), (by decide +kernel), rfl, by decide, by decide⟩
theorem c7_39 : Dal prog_7_method_3_code 39 0 40 := Or.inr ⟨0, (by decide +kernel), rfl, rfl⟩
theorem c7_40 : Dc prog_7_method_3_code 40 (.getfield 40) 3 43 := ⟨(by decide +kernel), rfl⟩
theorem c7_43 : Dil prog_7_method_3_code 43 1 44 := Or.inr ⟨1, (by decide +kernel), rfl, rfl⟩
theorem c7_44 : Dc prog_7_method_3_code 44 .baload 1 45 := ⟨(by decide +kernel), rfl⟩
theorem c7_45 : Dc prog_7_method_3_code 45 .ireturn 1 46 := ⟨(by decide +kernel), rfl⟩
theorem c1_0 : Dal prog_7_method_1_code 0 0 1 := Or.inr ⟨0, (by decide +kernel), rfl, rfl⟩
theorem c1_1 : Dc prog_7_method_1_code 1 (.invokespecial 1) 3 4 := ⟨(by decide +kernel), rfl⟩
theorem c1_4 : Dal prog_7_method_1_code 4 1 5 := Or.inr ⟨1, (by decide +kernel), rfl, rfl⟩
theorem c1_5 : Dc prog_7_method_1_code 5 .arraylength 1 6 := ⟨(by decide +kernel), rfl⟩
theorem c1_6 : Db prog_7_method_1_code 6 (.ifCond .eq) 9 16 := ⟨10, (by decide +kernel), rfl, by decide, by decide⟩
theorem c1_9 : Dal prog_7_method_1_code 9 2 10 := Or.inr ⟨2, (by decide +kernel), rfl, rfl⟩
theorem c1_10 : Dc prog_7_method_1_code 10 .arraylength 1 11 := ⟨(by decide +kernel), rfl⟩
theorem c1_11 : Dal prog_7_method_1_code 11 1 12 := Or.inr ⟨1, (by decide +kernel), rfl, rfl⟩
theorem c1_12 : Dc prog_7_method_1_code 12 .arraylength 1 13 := ⟨(by decide +kernel), rfl⟩
theorem c1_13 : Db prog_7_method_1_code 13 (.if_icmp .eq) 16 33 := ⟨20, (by decide +kernel), rfl, by decide, by decide⟩
theorem c1_16 : Dc prog_7_method_1_code 16 (.new 7) 3 19 := ⟨(by decide +kernel), rfl⟩
theorem c1_19 : Dc prog_7_method_1_code 19 .dup 1 20 := ⟨(by decide +kernel), rfl⟩
theorem c1_20 : Dal prog_7_method_1_code 20 1 21 := Or.inr ⟨1, (by decide +kernel), rfl, rfl⟩
theorem c1_21 : Dc prog_7_method_1_code 21 .arraylength 1 22 := ⟨(by decide +kernel), rfl⟩
theorem c1_22 : Dal prog_7_method_1_code 22 2 23 := Or.inr ⟨2, (by decide +kernel), rfl, rfl⟩
theorem c1_23 : Dc prog_7_method_1_code 23 .arraylength 1 24 := ⟨(by decide +kernel), rfl⟩
theorem c1_29 : Dc prog_7_method_1_code 29 (.invokespecial 13) 3 32 := ⟨(by decide +kernel), rfl⟩
theorem c1_32 : Dc prog_7_method_1_code 32 .athrow 1 33 := ⟨(by decide +kernel), rfl⟩
theorem c1_33 : Dil prog_7_method_1_code 33 3 34 := Or.inr ⟨3, (by decide +kernel), rfl, rfl⟩
theorem c1_34 : Dc prog_7_method_1_code 34 (.newarray .int) 2 36 := ⟨(by decide +kernel), rfl⟩
theorem c1_36 : Das prog_7_method_1_code 36 4 38 := Or.inl ⟨(by decide +kernel), rfl⟩
theorem c1_38 : Dal prog_7_method_1_code 38 4 40 := Or.inl ⟨(by decide +kernel), rfl⟩
theorem c1_45 : Dc prog_7_method_1_code 45 (.invokestatic 20) 3 48 := ⟨(by decide +kernel), rfl⟩
theorem c1_48 : Dal prog_7_method_1_code 48 0 49 := Or.inr ⟨0, (by decide +kernel), rfl, rfl⟩
theorem c1_49 : Dp prog_7_method_1_code 49 4 50 := Or.inl ⟨4, (by decide +kernel), by decide, rfl⟩
theorem c1_50 : Dc prog_7_method_1_code 50 (.anewarray 28) 3 53 := ⟨(by decide +kernel), rfl⟩
theorem c1_53 : Dc prog_7_method_1_code 53 (.putfield 30) 3 56 := ⟨(by decide +kernel), rfl⟩
theorem c1_56 : Dal prog_7_method_1_code 56 0 57 := Or.inr ⟨0, (by decide +kernel), rfl, rfl⟩
theorem c1_57 : Dc prog_7_method_1_code 57 (.getfield 30) 3 60 := ⟨(by decide +kernel), rfl⟩
theorem c1_60 : Dal prog_7_method_1_code 60 4 62 := Or.inl ⟨(by decide +kernel), rfl⟩
theorem c1_62 : Dc prog_7_method_1_code 62 (.invokestatic 36) 3 65 := ⟨(by decide +kernel), rfl⟩
theorem c1_65 : Dal prog_7_method_1_code 65 0 66 := Or.inr ⟨0, (by decide +kernel), rfl, rfl⟩
theorem c1_66 : Dil prog_7_method_1_code 66 3 67 := Or.inr ⟨3, (by decide +kernel), rfl, rfl⟩
theorem c1_67 : Dc prog_7_method_1_code 67 (.newarray .boolean) 2 69 := ⟨(by decide +kernel), rfl⟩
theorem c1_69 : Dc prog_7_method_1_code 69 (.putfield 40) 3 72 := ⟨(by decide +kernel), rfl⟩
theorem c1_72 : Dil prog_7_method_1_code 72 3 73 := Or.inr ⟨3, (by decide +kernel), rfl, rfl⟩
theorem c1_73 : Dc prog_7_method_1_code 73 (.newarray .boolean) 2 75 := ⟨(by decide +kernel), rfl⟩
theorem c1_75 : Das prog_7_method_1_code 75 5 77 := Or.inl ⟨(by decide +kernel), rfl⟩
theorem c1_77 : Dp prog_7_method_1_code 77 0 78 := Or.inl ⟨0, (by decide +kernel), by decide, rfl⟩
theorem c1_78 : Dis prog_7_method_1_code 78 6 80 := Or.inl ⟨(by decide +kernel), rfl⟩
theorem c1_80 : Dp prog_7_method_1_code 80 0 81 := Or.inl ⟨0, (by decide +kernel), by decide, rfl⟩
theorem c1_81 : Dis prog_7_method_1_code 81 7 83 := Or.inl ⟨(by decide +kernel), rfl⟩
theorem c1_83 : Dil prog_7_method_1_code 83 7 85 := Or.inl ⟨(by decide +kernel), rfl⟩
theorem c1_85 : Dal prog_7_method_1_code 85 1 86 := Or.inr ⟨1, (by decide +kernel), rfl, rfl⟩
theorem c1_86 : Dc prog_7_method_1_code 86 .arraylength 1 87 := ⟨(by decide +kernel), rfl⟩
theorem c1_87 : Db prog_7_method_1_code 87 (.if_icmp .ge) 90 202 := ⟨115, (by decide +kernel), rfl, by decide, by decide⟩
theorem c1_90 : Dal prog_7_method_1_code 90 1 91 := Or.inr ⟨1, (by decide +kernel), rfl, rfl⟩
theorem c1_91 : Dil prog_7_method_1_code 91 7 93 := Or.inl ⟨(by decide +kernel), rfl⟩
theorem c1_93 : Dc prog_7_method_1_code 93 .iaload 1 94 := ⟨(by decide +kernel), rfl⟩
theorem c1_94 : Db prog_7_method_1_code 94 (.ifCond .lt) 97 131 := ⟨37, (by decide +kernel), rfl, by decide, by decide⟩
theorem c1_97 : Dal prog_7_method_1_code 97 1 98 := Or.inr ⟨1, (by decide +kernel), rfl, rfl⟩
theorem c1_98 : Dil prog_7_method_1_code 98 7 100 := Or.inl ⟨(by decide +kernel), rfl⟩
theorem c1_100 : Dc prog_7_method_1_code 100 .iaload 1 101 := ⟨(by decide +kernel), rfl⟩
theorem c1_101 : Dil prog_7_method_1_code 101 3 102 := Or.inr ⟨3, (by decide +kernel), rfl, rfl⟩
theorem c1_102 : Db prog_7_method_1_code 102 (.if_icmp .ge) 105 131 := ⟨29, (by decide +kernel), rfl, by decide, by decide⟩
theorem c1_105 : Dal prog_7_method_1_code 105 2 106 := Or.inr ⟨2, (by decide +kernel), rfl, rfl⟩
theorem c1_106 : Dil prog_7_method_1_code 106 7 108 := Or.inl ⟨(by decide +kernel), rfl⟩
theorem c1_108 : Dc prog_7_method_1_code 108 .iaload 1 109 := ⟨(by decide +kernel), rfl⟩
theorem c1_109 : Dp prog_7_method_1_code 109 (-1) 110 := Or.inl ⟨(-1), (by decide +kernel), by decide, rfl⟩
theorem c1_110 : Db prog_7_method_1_code 110 (.if_icmp .lt) 113 131 := ⟨21, (by decide +kernel), rfl, by decide, by decide⟩
theorem c1_113 : Dal prog_7_method_1_code 113 2 114 := Or.inr ⟨2, (by decide +kernel), rfl, rfl⟩
theorem c1_114 : Dil prog_7_method_1_code 114 7 116 := Or.inl ⟨(by decide +kernel), rfl⟩
theorem c1_116 : Dc prog_7_method_1_code 116 .iaload 1 117 := ⟨(by decide +kernel), rfl⟩
theorem c1_117 : Dil prog_7_method_1_code 117 3 118 := Or.inr ⟨3, (by decide +kernel), rfl, rfl⟩
theorem c1_118 : Db prog_7_method_1_code 118 (.if_icmp .ge) 121 131 := ⟨13, (by decide +kernel), rfl, by decide, by decide⟩
theorem c1_121 : Dal prog_7_method_1_code 121 5 123 := Or.inl ⟨(by decide +kernel), rfl⟩
theorem c1_123 : Dal prog_7_method_1_code 123 1 124 := Or.inr ⟨1, (by decide +kernel), rfl, rfl⟩
theorem c1_124 : Dil prog_7_method_1_code 124 7 126 := Or.inl ⟨(by decide +kernel), rfl⟩
theorem c1_126 : Dc prog_7_method_1_code 126 .iaload 1 127 := ⟨(by decide +kernel), rfl⟩
theorem c1_127 : Dc prog_7_method_1_code 127 .baload 1 128 := ⟨(by decide +kernel), rfl⟩
theorem c1_128 : Db prog_7_method_1_code 128 (.ifCond .eq) 131 153 := ⟨25, (by decide +kernel), rfl, by decide, by decide⟩
theorem c1_131 : Dc prog_7_method_1_code 131 (.new 7) 3 134 := ⟨(by decide +kernel), rfl⟩
theorem c1_134 : Dc prog_7_method_1_code 134 .dup 1 135 := ⟨(by decide +kernel), rfl⟩
theorem c1_135 : Dal prog_7_method_1_code 135 1 136 := Or.inr ⟨1, (by decide +kernel), rfl, rfl⟩
theorem c1_136 : Dil prog_7_method_1_code 136 7 138 := Or.inl ⟨(by decide +kernel), rfl⟩
theorem c1_138 : Dc prog_7_method_1_code 138 .iaload 1 139 := ⟨(by decide +kernel), rfl⟩
theorem c1_139 : Dal prog_7_method_1_code 139 2 140 := Or.inr ⟨2, (by decide +kernel), rfl, rfl⟩
theorem c1_140 : Dil prog_7_method_1_code 140 7 142 := Or.inl ⟨(by decide +kernel), rfl⟩
theorem c1_142 : Dc prog_7_method_1_code 142 .iaload 1 143 := ⟨(by decide +kernel), rfl⟩
theorem c1_143 : Dil prog_7_method_1_code 143 3 144 := Or.inr ⟨3, (by decide +kernel), rfl, rfl⟩
theorem c1_149 : Dc prog_7_method_1_code 149 (.invokespecial 13) 3 152 := ⟨(by decide +kernel), rfl⟩
theorem c1_152 : Dc prog_7_method_1_code 152 .athrow 1 153 := ⟨(by decide +kernel), rfl⟩
theorem c1_153 : Dal prog_7_method_1_code 153 5 155 := Or.inl ⟨(by decide +kernel), rfl⟩
theorem c1_155 : Dal prog_7_method_1_code 155 1 156 := Or.inr ⟨1, (by decide +kernel), rfl, rfl⟩
theorem c1_156 : Dil prog_7_method_1_code 156 7 158 := Or.inl ⟨(by decide +kernel), rfl⟩
theorem c1_158 : Dc prog_7_method_1_code 158 .iaload 1 159 := ⟨(by decide +kernel), rfl⟩
theorem c1_159 : Dp prog_7_method_1_code 159 1 160 := Or.inl ⟨1, (by decide +kernel), by decide, rfl⟩
theorem c1_160 : Dc prog_7_method_1_code 160 .bastore 1 161 := ⟨(by decide +kernel), rfl⟩
theorem c1_161 : Dal prog_7_method_1_code 161 2 162 := Or.inr ⟨2, (by decide +kernel), rfl, rfl⟩
theorem c1_162 : Dil prog_7_method_1_code 162 7 164 := Or.inl ⟨(by decide +kernel), rfl⟩
theorem c1_164 : Dc prog_7_method_1_code 164 .iaload 1 165 := ⟨(by decide +kernel), rfl⟩
theorem c1_165 : Dp prog_7_method_1_code 165 (-1) 166 := Or.inl ⟨(-1), (by decide +kernel), by decide, rfl⟩
theorem c1_166 : Db prog_7_method_1_code 166 (.if_icmp .ne) 169 185 := ⟨19, (by decide +kernel), rfl, by decide, by decide⟩
theorem c1_169 : Dal prog_7_method_1_code 169 0 170 := Or.inr ⟨0, (by decide +kernel), rfl, rfl⟩
theorem c1_170 : Dc prog_7_method_1_code 170 (.getfield 40) 3 173 := ⟨(by decide +kernel), rfl⟩
theorem c1_173 : Dal prog_7_method_1_code 173 1 174 := Or.inr ⟨1, (by decide +kernel), rfl, rfl⟩
theorem c1_174 : Dil prog_7_method_1_code 174 7 176 := Or.inl ⟨(by decide +kernel), rfl⟩
theorem c1_176 : Dc prog_7_method_1_code 176 .iaload 1 177 := ⟨(by decide +kernel), rfl⟩
theorem c1_177 : Dp prog_7_method_1_code 177 1 178 := Or.inl ⟨1, (by decide +kernel), by decide, rfl⟩
theorem c1_178 : Dc prog_7_method_1_code 178 .bastore 1 179 := ⟨(by decide +kernel), rfl⟩
theorem c1_179 : Dp prog_7_method_1_code 179 1 180 := Or.inl ⟨1, (by decide +kernel), by decide, rfl⟩
theorem c1_180 : Dis prog_7_method_1_code 180 6 182 := Or.inl ⟨(by decide +kernel), rfl⟩
theorem c1_182 : Db prog_7_method_1_code 182 .goto 185 196 := ⟨14, (by decide +kernel), rfl, by decide, by decide⟩
theorem c1_185 : Dal prog_7_method_1_code 185 4 187 := Or.inl ⟨(by decide +kernel), rfl⟩
theorem c1_187 : Dal prog_7_method_1_code 187 1 188 := Or.inr ⟨1, (by decide +kernel), rfl, rfl⟩
theorem c1_188 : Dil prog_7_method_1_code 188 7 190 := Or.inl ⟨(by decide +kernel), rfl⟩
theorem c1_190 : Dc prog_7_method_1_code 190 .iaload 1 191 := ⟨(by decide +kernel), rfl⟩
theorem c1_191 : Dal prog_7_method_1_code 191 2 192 := Or.inr ⟨2, (by decide +kernel), rfl, rfl⟩
theorem c1_192 : Dil prog_7_method_1_code 192 7 194 := Or.inl ⟨(by decide +kernel), rfl⟩
theorem c1_194 : Dc prog_7_method_1_code 194 .iaload 1 195 := ⟨(by decide +kernel), rfl⟩
theorem c1_195 : Dc prog_7_method_1_code 195 .iastore 1 196 := ⟨(by decide +kernel), rfl⟩
theorem c1_196 : Dinc prog_7_method_1_code 196 7 1 199 := ⟨1, (by decide +kernel), by decide, rfl⟩
theorem c1_199 : Db prog_7_method_1_code 199 .goto 202 83 := ⟨(-116), (by decide +kernel), rfl, by decide, by decide⟩
theorem c1_202 : Dal prog_7_method_1_code 202 0 203 := Or.inr ⟨0, (by decide +kernel), rfl, rfl⟩
theorem c1_203 : Dil prog_7_method_1_code 203 6 205 := Or.inl ⟨(by decide +kernel), rfl⟩
theorem c1_205 : Dc prog_7_method_1_code 205 (.putfield 49) 3 208 := ⟨(by decide +kernel), rfl⟩
theorem c1_208 : Dc prog_7_method_1_code 208 .return_ 1 209 := ⟨(by decide +kernel), rfl⟩
theorem c0_0 : Dp code 0 1 1 := Or.inl ⟨1, at_0, by decide, rfl⟩
theorem c0_1 : Dil code 1 0 2 := Or.inr ⟨0, at_1, rfl, rfl⟩
theorem c0_2 : Dp code 2 3 3 := Or.inl ⟨3, at_2, by decide, rfl⟩
theorem c0_3 : Dc code 3 .iand 1 4 := ⟨at_3, rfl⟩
theorem c0_4 : Dc code 4 .iadd 1 5 := ⟨at_4, rfl⟩
theorem c0_5 : Dis code 5 6 7 := Or.inl ⟨at_5, rfl⟩
theorem c0_7 : Dil code 7 0 8 := Or.inr ⟨0, at_7, rfl, rfl⟩
theorem c0_8 : Dp code 8 2 9 := Or.inl ⟨2, at_8, by decide, rfl⟩
theorem c0_9 : Dc code 9 .ishr 1 10 := ⟨at_9, rfl⟩
theorem c0_10 : Dp code 10 1 11 := Or.inl ⟨1, at_10, by decide, rfl⟩
theorem c0_11 : Dc code 11 .iand 1 12 := ⟨at_11, rfl⟩
theorem c0_12 : Db code 12 (.ifCond .eq) 15 25 := ⟨13, at_12, rfl, by decide, by decide⟩
theorem c0_15 : Dil code 15 6 17 := Or.inl ⟨at_15, rfl⟩
theorem c0_17 : Dp code 17 2 18 := Or.inl ⟨2, at_17, by decide, rfl⟩
theorem c0_18 : Db code 18 (.if_icmp .lt) 21 25 := ⟨7, at_18, rfl, by decide, by decide⟩
theorem c0_21 : Dp code 21 1 22 := Or.inl ⟨1, at_21, by decide, rfl⟩
theorem c0_22 : Db code 22 .goto 25 26 := ⟨4, at_22, rfl, by decide, by decide⟩
theorem c0_25 : Dp code 25 0 26 := Or.inl ⟨0, at_25, by decide, rfl⟩
theorem c0_26 : Dis code 26 7 28 := Or.inl ⟨at_26, rfl⟩
theorem c0_28 : Dil code 28 1 29 := Or.inr ⟨1, at_28, rfl, rfl⟩
theorem c0_29 : Dc code 29 (.ldc 7) 2 31 := ⟨at_29, rfl⟩
theorem c0_31 : Dc code 31 .iand 1 32 := ⟨at_31, rfl⟩
theorem c0_32 : Dil code 32 6 34 := Or.inl ⟨at_32, rfl⟩
theorem c0_34 : Dc code 34 .irem 1 35 := ⟨at_34, rfl⟩
theorem c0_35 : Dis code 35 8 37 := Or.inl ⟨at_35, rfl⟩
theorem c0_37 : Dil code 37 6 39 := Or.inl ⟨at_37, rfl⟩
theorem c0_39 : Dp code 39 2 40 := Or.inl ⟨2, at_39, by decide, rfl⟩
theorem c0_40 : Db code 40 (.if_icmp .lt) 43 63 := ⟨23, at_40, rfl, by decide, by decide⟩
theorem c0_43 : Dil code 43 8 45 := Or.inl ⟨at_43, rfl⟩
theorem c0_45 : Dp code 45 1 46 := Or.inl ⟨1, at_45, by decide, rfl⟩
theorem c0_46 : Dc code 46 .iadd 1 47 := ⟨at_46, rfl⟩
theorem c0_47 : Dil code 47 2 48 := Or.inr ⟨2, at_47, rfl, rfl⟩
theorem c0_48 : Dc code 48 (.ldc 7) 2 50 := ⟨at_48, rfl⟩
theorem c0_50 : Dc code 50 .iand 1 51 := ⟨at_50, rfl⟩
theorem c0_51 : Dil code 51 6 53 := Or.inl ⟨at_51, rfl⟩
theorem c0_53 : Dp code 53 1 54 := Or.inl ⟨1, at_53, by decide, rfl⟩
theorem c0_54 : Dc code 54 .isub 1 55 := ⟨at_54, rfl⟩
theorem c0_55 : Dc code 55 .irem 1 56 := ⟨at_55, rfl⟩
theorem c0_56 : Dc code 56 .iadd 1 57 := ⟨at_56, rfl⟩
theorem c0_57 : Dil code 57 6 59 := Or.inl ⟨at_57, rfl⟩
theorem c0_59 : Dc code 59 .irem 1 60 := ⟨at_59, rfl⟩
theorem c0_60 : Db code 60 .goto 63 65 := ⟨5, at_60, rfl, by decide, by decide⟩
theorem c0_63 : Dil code 63 8 65 := Or.inl ⟨at_63, rfl⟩
theorem c0_65 : Dis code 65 9 67 := Or.inl ⟨at_65, rfl⟩
theorem c0_67 : Dil code 67 3 68 := Or.inr ⟨3, at_67, rfl, rfl⟩
theorem c0_68 : Dc code 68 (.ldc 7) 2 70 := ⟨at_68, rfl⟩
theorem c0_70 : Dc code 70 .iand 1 71 := ⟨at_70, rfl⟩
theorem c0_71 : Dil code 71 6 73 := Or.inl ⟨at_71, rfl⟩
theorem c0_73 : Dp code 73 1 74 := Or.inl ⟨1, at_73, by decide, rfl⟩
theorem c0_74 : Dc code 74 .iadd 1 75 := ⟨at_74, rfl⟩
theorem c0_75 : Dc code 75 .irem 1 76 := ⟨at_75, rfl⟩
theorem c0_76 : Dp code 76 1 77 := Or.inl ⟨1, at_76, by decide, rfl⟩
theorem c0_77 : Dc code 77 .isub 1 78 := ⟨at_77, rfl⟩
theorem c0_78 : Dis code 78 10 80 := Or.inl ⟨at_78, rfl⟩
theorem c0_80 : Dil code 80 4 82 := Or.inl ⟨at_80, rfl⟩
theorem c0_82 : Dc code 82 (.ldc 7) 2 84 := ⟨at_82, rfl⟩
theorem c0_84 : Dc code 84 .iand 1 85 := ⟨at_84, rfl⟩
theorem c0_85 : Dil code 85 6 87 := Or.inl ⟨at_85, rfl⟩
theorem c0_87 : Dp code 87 1 88 := Or.inl ⟨1, at_87, by decide, rfl⟩
theorem c0_88 : Dc code 88 .iadd 1 89 := ⟨at_88, rfl⟩
theorem c0_89 : Dc code 89 .irem 1 90 := ⟨at_89, rfl⟩
theorem c0_90 : Dp code 90 1 91 := Or.inl ⟨1, at_90, by decide, rfl⟩
theorem c0_91 : Dc code 91 .isub 1 92 := ⟨at_91, rfl⟩
theorem c0_92 : Dis code 92 11 94 := Or.inl ⟨at_92, rfl⟩
theorem c0_94 : Dil code 94 5 96 := Or.inl ⟨at_94, rfl⟩
theorem c0_96 : Dc code 96 (.ldc 7) 2 98 := ⟨at_96, rfl⟩
theorem c0_98 : Dc code 98 .iand 1 99 := ⟨at_98, rfl⟩
theorem c0_99 : Dil code 99 6 101 := Or.inl ⟨at_99, rfl⟩
theorem c0_101 : Dc code 101 .irem 1 102 := ⟨at_101, rfl⟩
theorem c0_102 : Dis code 102 12 104 := Or.inl ⟨at_102, rfl⟩
theorem c0_104 : Dp code 104 1 105 := Or.inl ⟨1, at_104, by decide, rfl⟩
theorem c0_105 : Dc code 105 (.newarray .int) 2 107 := ⟨at_105, rfl⟩
theorem c0_107 : Dc code 107 .dup 1 108 := ⟨at_107, rfl⟩
theorem c0_108 : Dp code 108 0 109 := Or.inl ⟨0, at_108, by decide, rfl⟩
theorem c0_109 : Dil code 109 8 111 := Or.inl ⟨at_109, rfl⟩
theorem c0_111 : Dc code 111 .iastore 1 112 := ⟨at_111, rfl⟩
theorem c0_112 : Das code 112 13 114 := Or.inl ⟨at_112, rfl⟩
theorem c0_114 : Dp code 114 1 115 := Or.inl ⟨1, at_114, by decide, rfl⟩
theorem c0_115 : Dc code 115 (.newarray .int) 2 117 := ⟨at_115, rfl⟩
theorem c0_117 : Dc code 117 .dup 1 118 := ⟨at_117, rfl⟩
theorem c0_118 : Dp code 118 0 119 := Or.inl ⟨0, at_118, by decide, rfl⟩
theorem c0_119 : Dil code 119 10 121 := Or.inl ⟨at_119, rfl⟩
theorem c0_121 : Dc code 121 .iastore 1 122 := ⟨at_121, rfl⟩
theorem c0_122 : Das code 122 14 124 := Or.inl ⟨at_122, rfl⟩
theorem c0_124 : Dp code 124 2 125 := Or.inl ⟨2, at_124, by decide, rfl⟩
theorem c0_125 : Dc code 125 (.newarray .int) 2 127 := ⟨at_125, rfl⟩
theorem c0_127 : Dc code 127 .dup 1 128 := ⟨at_127, rfl⟩
theorem c0_128 : Dp code 128 0 129 := Or.inl ⟨0, at_128, by decide, rfl⟩
theorem c0_129 : Dil code 129 8 131 := Or.inl ⟨at_129, rfl⟩
theorem c0_131 : Dc code 131 .iastore 1 132 := ⟨at_131, rfl⟩
theorem c0_132 : Dc code 132 .dup 1 133 := ⟨at_132, rfl⟩
theorem c0_133 : Dp code 133 1 134 := Or.inl ⟨1, at_133, by decide, rfl⟩
theorem c0_134 : Dil code 134 9 136 := Or.inl ⟨at_134, rfl⟩
theorem c0_136 : Dc code 136 .iastore 1 137 := ⟨at_136, rfl⟩
theorem c0_137 : Das code 137 15 139 := Or.inl ⟨at_137, rfl⟩
theorem c0_139 : Dp code 139 2 140 := Or.inl ⟨2, at_139, by decide, rfl⟩
theorem c0_140 : Dc code 140 (.newarray .int) 2 142 := ⟨at_140, rfl⟩
theorem c0_142 : Dc code 142 .dup 1 143 := ⟨at_142, rfl⟩
theorem c0_143 : Dp code 143 0 144 := Or.inl ⟨0, at_143, by decide, rfl⟩
theorem c0_144 : Dil code 144 10 146 := Or.inl ⟨at_144, rfl⟩
theorem c0_146 : Dc code 146 .iastore 1 147 := ⟨at_146, rfl⟩
theorem c0_147 : Dc code 147 .dup 1 148 := ⟨at_147, rfl⟩
theorem c0_148 : Dp code 148 1 149 := Or.inl ⟨1, at_148, by decide, rfl⟩
theorem c0_149 : Dil code 149 11 151 := Or.inl ⟨at_149, rfl⟩
theorem c0_151 : Dc code 151 .iastore 1 152 := ⟨at_151, rfl⟩
theorem c0_152 : Das code 152 16 154 := Or.inl ⟨at_152, rfl⟩
theorem c0_154 : Dil code 154 7 156 := Or.inl ⟨at_154, rfl⟩
theorem c0_156 : Db code 156 (.ifCond .eq) 159 175 := ⟨19, at_156, rfl, by decide, by decide⟩
theorem c0_159 : Dc code 159 (.new 8) 3 162 := ⟨at_159, rfl⟩
theorem c0_162 : Dc code 162 .dup 1 163 := ⟨at_162, rfl⟩
theorem c0_163 : Dal code 163 15 165 := Or.inl ⟨at_163, rfl⟩
theorem c0_165 : Dal code 165 16 167 := Or.inl ⟨at_165, rfl⟩
theorem c0_167 : Dil code 167 6 169 := Or.inl ⟨at_167, rfl⟩
theorem c0_169 : Dc code 169 (.invokespecial 10) 3 172 := ⟨at_169, rfl⟩
theorem c0_172 : Db code 172 .goto 175 188 := ⟨16, at_172, rfl, by decide, by decide⟩
theorem c0_175 : Dc code 175 (.new 8) 3 178 := ⟨at_175, rfl⟩
theorem c0_178 : Dc code 178 .dup 1 179 := ⟨at_178, rfl⟩
theorem c0_179 : Dal code 179 13 181 := Or.inl ⟨at_179, rfl⟩
theorem c0_181 : Dal code 181 14 183 := Or.inl ⟨at_181, rfl⟩
theorem c0_183 : Dil code 183 6 185 := Or.inl ⟨at_183, rfl⟩
theorem c0_185 : Dc code 185 (.invokespecial 10) 3 188 := ⟨at_185, rfl⟩
theorem c0_188 : Das code 188 17 190 := Or.inl ⟨at_188, rfl⟩
theorem c0_190 : Dil code 190 12 192 := Or.inl ⟨at_190, rfl⟩
theorem c0_192 : Dil code 192 8 194 := Or.inl ⟨at_192, rfl⟩
theorem c0_194 : Db code 194 (.if_icmp .ne) 197 204 := ⟨10, at_194, rfl, by decide, by decide⟩
theorem c0_197 : Dil code 197 10 199 := Or.inl ⟨at_197, rfl⟩
theorem c0_199 : Dil code 199 12 201 := Or.inl ⟨at_199, rfl⟩
theorem c0_201 : Db code 201 (.if_icmp .ne) 204 223 := ⟨22, at_201, rfl, by decide, by decide⟩
theorem c0_204 : Dil code 204 7 206 := Or.inl ⟨at_204, rfl⟩
theorem c0_206 : Db code 206 (.ifCond .eq) 209 227 := ⟨21, at_206, rfl, by decide, by decide⟩
theorem c0_209 : Dil code 209 12 211 := Or.inl ⟨at_209, rfl⟩
theorem c0_211 : Dil code 211 9 213 := Or.inl ⟨at_211, rfl⟩
theorem c0_213 : Db code 213 (.if_icmp .ne) 216 227 := ⟨14, at_213, rfl, by decide, by decide⟩
theorem c0_216 : Dil code 216 11 218 := Or.inl ⟨at_216, rfl⟩
theorem c0_218 : Dil code 218 12 220 := Or.inl ⟨at_218, rfl⟩
theorem c0_220 : Db code 220 (.if_icmp .eq) 223 227 := ⟨7, at_220, rfl, by decide, by decide⟩
theorem c0_223 : Dp code 223 1 224 := Or.inl ⟨1, at_223, by decide, rfl⟩
theorem c0_224 : Db code 224 .goto 227 228 := ⟨4, at_224, rfl, by decide, by decide⟩
theorem c0_227 : Dp code 227 0 228 := Or.inl ⟨0, at_227, by decide, rfl⟩
theorem c0_228 : Dis code 228 18 230 := Or.inl ⟨at_228, rfl⟩
theorem c0_230 : Dal code 230 17 232 := Or.inl ⟨at_230, rfl⟩
theorem c0_232 : Dil code 232 12 234 := Or.inl ⟨at_232, rfl⟩
theorem c0_234 : Dc code 234 (.invokevirtual 13) 3 237 := ⟨at_234, rfl⟩
theorem c0_237 : Dil code 237 18 239 := Or.inl ⟨at_237, rfl⟩
theorem c0_239 : Db code 239 (.if_icmp .ne) 242 246 := ⟨7, at_239, rfl, by decide, by decide⟩
theorem c0_242 : Dp code 242 1 243 := Or.inl ⟨1, at_242, by decide, rfl⟩
theorem c0_243 : Db code 243 .goto 246 247 := ⟨4, at_243, rfl, by decide, by decide⟩
theorem c0_246 : Dp code 246 0 247 := Or.inl ⟨0, at_246, by decide, rfl⟩
theorem c0_247 : Dc code 247 .ireturn 1 248 := ⟨at_247, rfl⟩
theorem c1_40 : Dc prog_7_method_1_code 40 (.invokedynamic 16) 5 45 := ⟨by decide +kernel, rfl⟩
/-! ## the plain law (no program in sight) -/
theorem own_rng (x : Int32) (n : Int32) (hn : 0 < n.toInt) (hb : n.toInt ≤ 8) : 0 ≤ ((x &&& 2147483647) % n).toInt ∧ ((x &&& 2147483647) % n).toInt < n.toInt := by
  have h : (x &&& 2147483647).toBitVec.toNat ≤ 2147483647 := by
    rw [Int32.toBitVec_and, BitVec.toNat_and]; exact Nat.and_le_right
  have h0 : 0 ≤ (x &&& 2147483647).toInt := by
    show 0 ≤ (x &&& 2147483647).toBitVec.toInt
    rw [BitVec.toInt_eq_toNat_of_lt (by omega)]; omega
  rw [Int32.toInt_mod, Int.tmod_eq_emod_of_nonneg h0]
  exact ⟨Int.emod_nonneg _ (by omega), Int.emod_lt_of_pos _ hn⟩
theorem own_c4 (x : Int32) (h0 : 0 ≤ x.toInt) (h4 : x.toInt < 5) : x = 0 ∨ x = 1 ∨ x = 2 ∨ x = 3 ∨ x = 4 := by
  have e : ∀ k : Int32, x.toInt = k.toInt → x = k := fun k h => Int32.toInt_inj.mp h
  have a0 : (0 : Int32).toInt = 0 := by decide
  have a1 : (1 : Int32).toInt = 1 := by decide
  have a2 : (2 : Int32).toInt = 2 := by decide
  have a3 : (3 : Int32).toInt = 3 := by decide
  have a4 : (4 : Int32).toInt = 4 := by decide
  by_cases q0 : x.toInt = 0
  · exact Or.inl (e 0 (by omega))
  by_cases q1 : x.toInt = 1
  · exact Or.inr (Or.inl (e 1 (by omega)))
  by_cases q2 : x.toInt = 2
  · exact Or.inr (Or.inr (Or.inl (e 2 (by omega))))
  by_cases q3 : x.toInt = 3
  · exact Or.inr (Or.inr (Or.inr (Or.inl (e 3 (by omega)))))
  · exact Or.inr (Or.inr (Or.inr (Or.inr (e 4 (by omega)))))
/-- a number of 0 to n-1 -/
def own_in (x n : Int32) : Prop := ¬ x < 0 ∧ x < n
theorem own_mod (x n : Int32) (hn : 0 < n.toInt) (hb : n.toInt ≤ 8) : own_in ((x &&& 2147483647) % n) n := by
  have h := own_rng x n hn hb
  have z : (0 : Int32).toInt = 0 := by decide
  exact ⟨fun q => by rw [Int32.lt_iff_toInt_lt] at q; omega, by rw [Int32.lt_iff_toInt_lt]; omega⟩
theorem own_in4 {x n : Int32} (h : own_in x n) (hb : n.toInt ≤ 5) : x = 0 ∨ x = 1 ∨ x = 2 ∨ x = 3 ∨ x = 4 := by
  have z : (0 : Int32).toInt = 0 := by decide
  obtain ⟨h1, h2⟩ := h
  rw [Int32.lt_iff_toInt_lt] at h1 h2
  exact own_c4 x (by omega) (by omega)
theorem own_n4 (x : Int32) : 1 + (x &&& 3) = 1 ∨ 1 + (x &&& 3) = 2 ∨ 1 + (x &&& 3) = 3 ∨ 1 + (x &&& 3) = 4 := by
  have h : (x &&& 3).toBitVec.toNat ≤ 3 := by rw [Int32.toBitVec_and, BitVec.toNat_and]; exact Nat.and_le_right
  have h0 : 0 ≤ (x &&& 3).toInt ∧ (x &&& 3).toInt < 4 := by
    show 0 ≤ (x &&& 3).toBitVec.toInt ∧ (x &&& 3).toBitVec.toInt < 4
    rw [BitVec.toInt_eq_toNat_of_lt (by omega)]; omega
  have h5 : (x &&& 3).toInt < 5 := by omega
  rcases own_c4 _ h0.1 h5 with e | e | e | e | e
  · rw [e]; decide
  · rw [e]; decide
  · rw [e]; decide
  · rw [e]; decide
  · rw [e] at h0; exact absurd h0.2 (by decide)
/-- the place to go to: -1 to n-1 -/
def own_to (t n : Int32) : Prop := ¬ t < -1 ∧ t < n
theorem own_tos (n m : Int32) (hm : n + 1 = m) (hn : 0 < n.toInt) (hb : n.toInt ≤ 4) (x : Int32) : own_to ((x &&& 2147483647) % m - 1) n := by
  have e1 : (1 : Int32).toInt = 1 := by decide
  have em : m.toInt = n.toInt + 1 := by
    rw [← hm, Int32.toInt_add, e1]
    exact Int.bmod_eq_of_le_mul_two (by omega) (by omega)
  have h := own_mod x m (by omega) (by omega)
  have hb5 : m.toInt ≤ 5 := by omega
  generalize (x &&& 2147483647) % m = r at h
  have h2 := h.2
  rw [Int32.lt_iff_toInt_lt, em] at h2
  unfold own_to
  rw [Int32.lt_iff_toInt_lt (y := n)]
  rcases own_in4 h hb5 with e | e | e | e | e <;> subst e
  · exact ⟨by decide, by show (-1 : Int) < _; omega⟩
  · exact ⟨by decide, by show (0 : Int) < _; omega⟩
  · exact ⟨by decide, by rw [show (2 : Int32).toInt = 2 from (by decide)] at h2; show (1 : Int) < _; omega⟩
  · exact ⟨by decide, by rw [show (3 : Int32).toInt = 3 from (by decide)] at h2; show (2 : Int) < _; omega⟩
  · exact ⟨by decide, by rw [show (4 : Int32).toInt = 4 from (by decide)] at h2; show (3 : Int) < _; omega⟩
/-- the second place: another than the first -/
theorem own_snd2 (x0 r : Int32) (h0 : own_in x0 2) (h1 : own_in r 1) : own_in ((x0 + 1 + r) % 2) 2 ∧ (x0 + 1 + r) % 2 ≠ x0 := by
  rcases own_in4 h0 (by decide) with e | e | e | e | e <;> rcases own_in4 h1 (by decide) with e' | e' | e' | e' | e' <;> subst e <;> subst e' <;> revert h0 h1 <;> unfold own_in <;> decide
theorem own_snd3 (x0 r : Int32) (h0 : own_in x0 3) (h1 : own_in r 2) : own_in ((x0 + 1 + r) % 3) 3 ∧ (x0 + 1 + r) % 3 ≠ x0 := by
  rcases own_in4 h0 (by decide) with e | e | e | e | e <;> rcases own_in4 h1 (by decide) with e' | e' | e' | e' | e' <;> subst e <;> subst e' <;> revert h0 h1 <;> unfold own_in <;> decide
theorem own_snd4 (x0 r : Int32) (h0 : own_in x0 4) (h1 : own_in r 3) : own_in ((x0 + 1 + r) % 4) 4 ∧ (x0 + 1 + r) % 4 ≠ x0 := by
  rcases own_in4 h0 (by decide) with e | e | e | e | e <;> rcases own_in4 h1 (by decide) with e' | e' | e' | e' | e' <;> subst e <;> subst e' <;> revert h0 h1 <;> unfold own_in <;> decide
def own_mv (rv dv q : Int32) : Int32 := if rv = q then dv else 1
/-- what the law waits for, one pair and two -/
def own_ex1 (q f0 t0 : Int32) : Int32 := if q = f0 then (if t0 = q then 0 else 1) else 0
def own_s2 (q f1 t1 : Int32) : Int32 := if q = f1 then (if t1 = q then 0 else 1) else 0
def own_ex2 (q f0 t0 f1 t1 : Int32) : Int32 := if q = f0 then (if t0 = q then own_s2 q f1 t1 else 1) else own_s2 q f1 t1
/-- at every place q of 0 to n-1 the lists hold rv and dv, of which the method's answer is ex q -/
def own_good (n : Int32) (vr vd : List Value) (ex : Int32 → Int32) : Prop := ∀ q : Int32, own_in q n → ∃ rv dv : Int32, vr[q.toNatClampNeg]? = some (.int rv) ∧ vd[q.toNatClampNeg]? = some (.int dv) ∧ (dv = 0 ∨ dv = 1) ∧ own_mv rv dv q = ex q
def own_fresh (n : Int32) (vr vd : List Value) : Prop := (∀ q : Int32, own_in q n → vr[q.toNatClampNeg]? = some (.int q)) ∧ ∀ q : Int32, own_in q n → vd[q.toNatClampNeg]? = some (.int 0)
theorem own_inj {q f n : Int32} (hq : own_in q n) (hf : own_in f n) (hb : n.toInt ≤ 5) (e : q.toNatClampNeg = f.toNatClampNeg) : q = f := by
  rcases own_in4 hq hb with a | a | a | a | a <;> rcases own_in4 hf hb with b | b | b | b | b <;> subst a <;> subst b <;> first | rfl | (exact absurd e (by decide))
theorem own_lk {n q f : Int32} {vs : List Value} {x : Value} {o : Value} (hq : own_in q n) (hf : own_in f n) (hb : n.toInt ≤ 5) (hv : vs[q.toNatClampNeg]? = some o) : (lupd vs f.toNatClampNeg x)[q.toNatClampNeg]? = some (if q = f then x else o) := by
  rw [upd_set, List.getElem?_set]
  by_cases e : q = f
  · subst e
    rw [if_pos rfl, if_pos rfl, if_pos (List.getElem?_eq_some_iff.mp hv).1]
  · rw [if_neg e, if_neg (fun u => e (own_inj hq hf hb u.symm)), hv]
/-- one pair (f, t) laid: t = -1 marks f, any other t is written at f -/
theorem own_1m {n f t : Int32} {vr vd : List Value} (hb : n.toInt ≤ 5) (hf : own_in f n) (F : own_fresh n vr vd) (ht : t = -1) : own_good n vr (lupd vd f.toNatClampNeg (.int 1)) (fun q => own_ex1 q f t) := fun q hq => by
  refine ⟨q, if q = f then 1 else 0, F.1 q hq, ?_, ?_, ?_⟩
  · rw [own_lk hq hf hb (F.2 q hq)]; split <;> rfl
  · split <;> simp
  · have : t ≠ q := fun e => hq.1 (by rw [← e, ht]; decide)
    simp [own_mv, own_ex1, this]
theorem own_1w {n f t : Int32} {vr vd : List Value} (hb : n.toInt ≤ 5) (hf : own_in f n) (F : own_fresh n vr vd) : own_good n (lupd vr f.toNatClampNeg (.int t)) vd (fun q => own_ex1 q f t) := fun q hq => by
  refine ⟨if q = f then t else q, 0, ?_, F.2 q hq, Or.inl rfl, ?_⟩
  · rw [own_lk hq hf hb (F.1 q hq)]; split <;> rfl
  · by_cases e : q = f
    · simp [own_mv, own_ex1, e]
    · simp [own_mv, own_ex1, e]
theorem own_2 {n f0 t0 f1 t1 : Int32} {vr vd : List Value} (hb : n.toInt ≤ 5) (hf0 : own_in f0 n) (hf1 : own_in f1 n) (ne : f1 ≠ f0) (G : own_good n vr vd (fun q => own_ex1 q f0 t0)) (hr : ∀ rv, vr[f1.toNatClampNeg]? = some (.int rv) → rv = f1) (hd : vd[f1.toNatClampNeg]? = some (.int 0)) :
    (t1 = -1 → own_good n vr (lupd vd f1.toNatClampNeg (.int 1)) (fun q => own_ex2 q f0 t0 f1 t1)) ∧ own_good n (lupd vr f1.toNatClampNeg (.int t1)) vd (fun q => own_ex2 q f0 t0 f1 t1) := by
  refine ⟨fun ht q hq => ?_, fun q hq => ?_⟩
  · obtain ⟨rv, dv, h1, h2, h3, h4⟩ := G q hq
    refine ⟨rv, if q = f1 then 1 else dv, h1, ?_, ?_, ?_⟩
    · rw [own_lk hq hf1 hb h2]; split <;> rfl
    · split
      · exact Or.inr rfl
      · exact h3
    · by_cases e : q = f1
      · subst e
        have : t1 ≠ q := fun u => hq.1 (by rw [← u, ht]; decide)
        simp [own_mv, own_ex2, own_s2, ne, hr rv h1, this]
      · have e4 : own_mv rv dv q = own_ex1 q f0 t0 := h4
        rw [if_neg e, e4]
        simp [own_ex1, own_ex2, own_s2, e]
  · obtain ⟨rv, dv, h1, h2, h3, h4⟩ := G q hq
    refine ⟨if q = f1 then t1 else rv, dv, ?_, h2, h3, ?_⟩
    · rw [own_lk hq hf1 hb h1]; split <;> rfl
    · by_cases e : q = f1
      · subst e
        have hdv : dv = 0 := by rw [h2] at hd; cases hd; rfl
        subst hdv
        simp [own_mv, own_ex2, own_s2, ne]
      · have e4 : own_mv rv dv q = own_ex1 q f0 t0 := h4
        rw [if_neg e, e4]
        simp [own_ex1, own_ex2, own_s2, e]
/-- after the first pair the second's place is as it was -/
theorem own_left {n f0 f1 : Int32} {vr vd : List Value} {x : Value} (hb : n.toInt ≤ 5) (hf0 : own_in f0 n) (hf1 : own_in f1 n) (ne : f1 ≠ f0) (F : own_fresh n vr vd) :
    (∀ rv, (lupd vr f0.toNatClampNeg x)[f1.toNatClampNeg]? = some (.int rv) → rv = f1) ∧ (∀ rv, vr[f1.toNatClampNeg]? = some (.int rv) → rv = f1) ∧ (lupd vd f0.toNatClampNeg x)[f1.toNatClampNeg]? = some (.int 0) ∧ vd[f1.toNatClampNeg]? = some (.int 0) := by
  refine ⟨fun rv h => ?_, fun rv h => ?_, ?_, F.2 f1 hf1⟩
  · rw [own_lk hf1 hf0 hb (F.1 f1 hf1), if_neg ne] at h; cases h; rfl
  · rw [F.1 f1 hf1] at h; cases h; rfl
  · rw [own_lk hf1 hf0 hb (F.2 f1 hf1), if_neg ne]
theorem own_f1 : own_fresh 1 [.int 0] [.int 0] := by
  refine ⟨fun q hq => ?_, fun q hq => ?_⟩ <;> rcases own_in4 hq (by decide) with a | a | a | a | a <;> subst a <;> first | rfl | (exact absurd hq.2 (by decide))
theorem own_f2 : own_fresh 2 [.int 0, .int 1] [.int 0, .int 0] := by
  refine ⟨fun q hq => ?_, fun q hq => ?_⟩ <;> rcases own_in4 hq (by decide) with a | a | a | a | a <;> subst a <;> first | rfl | (exact absurd hq.2 (by decide))
theorem own_f3 : own_fresh 3 [.int 0, .int 1, .int 2] [.int 0, .int 0, .int 0] := by
  refine ⟨fun q hq => ?_, fun q hq => ?_⟩ <;> rcases own_in4 hq (by decide) with a | a | a | a | a <;> subst a <;> first | rfl | (exact absurd hq.2 (by decide))
theorem own_f4 : own_fresh 4 [.int 0, .int 1, .int 2, .int 3] [.int 0, .int 0, .int 0, .int 0] := by
  refine ⟨fun q hq => ?_, fun q hq => ?_⟩ <;> rcases own_in4 hq (by decide) with a | a | a | a | a <;> subst a <;> first | rfl | (exact absurd hq.2 (by decide))

theorem own_lt {l : List Value} {i j : Nat} {x : Value} (q : i < l.length) : i < (lupd l j x).length := by rw [upd_set, List.length_set]; exact q
theorem own_lenr {n f : Int32} {vr vd : List Value} (F : own_fresh n vr vd) (hf : own_in f n) : f.toNatClampNeg < vr.length := (List.getElem?_eq_some_iff.mp (F.1 f hf)).1
theorem own_lend {n f : Int32} {vr vd : List Value} (F : own_fresh n vr vd) (hf : own_in f n) : f.toNatClampNeg < vd.length := (List.getElem?_eq_some_iff.mp (F.2 f hf)).1
abbrev own_sig : Lambda.Shape := Lambda.Shape.mk "java/util/function/IntUnaryOperator" "applyAsInt" ⟨[.int], some .int⟩ [] 6 "com/example/cropped_view/croppedview/Broadcast" "lambda$new$0" ⟨[.int], some .int⟩ false ⟨[.int], some .int⟩
def own_fcode : ByteArray := ⟨#[0x1b, 0xb8, 0x00, 0x11, 0xac]⟩
theorem own_fwd : Jvm.LamKit.fwdOK own_sig "com/example/cropped_view/croppedview/Broadcast" own_fcode 2 (some .int) 17 14 = true := by decide +kernel
theorem own_g0 : decode own_fcode 0 = .ok (.iload_n 1, 1) := by decide +kernel
theorem own_g1 : decode own_fcode 1 = .ok (.invokestatic 17, 3) := by decide +kernel
theorem own_g4 : decode own_fcode 4 = .ok (.ireturn, 1) := by decide +kernel
theorem own_l0 : decode prog_7_method_12_code 0 = .ok (.iload_n 0, 1) := by decide +kernel
theorem own_l1 : decode prog_7_method_12_code 1 = .ok (.ireturn, 1) := by decide +kernel
theorem own_target (l : Launch) (v : Int32) : Met l (⟨"com/example/cropped_view/croppedview/Broadcast", "lambda$new$0", "(I)I"⟩ : MethodName) [Cond.code (⟨"com/example/cropped_view/croppedview/Broadcast", "lambda$new$0", "(I)I"⟩ : MethodName) prog_7_method_12_code 1 (some .int)] { frames := 0, cells := 0, slots := 0, locals := 0 } (fun args _ => args = #[.int v]) (fun _ st o t => o = .returned (some (.int v)) ∧ t.heap = st.heap) 0 0 (fun _ => False) := by
  refine MetFree.of_bodyS (code := prog_7_method_12_code) (maxLocals := 1) (ret := some .int) pn0 (Jvm.LamKit.hisOf (List.mem_singleton.mpr rfl)) ?_
  intro p e s m args below meth c s₁ Bd hml hP _
  obtain rfl : args = #[.int v] := hP
  have X := Stand.of_body Bd
  obtain ⟨fs, hr, hrun, hended, hW, hsame⟩ := X.leave (v := some (.int v)) (fun h => by rw [Bd.returns] at h; cases h)
  refine ⟨s₁.setFrames fs, _, ?_, hrun, hended, ⟨rfl, by rw [Bd.state]; rfl⟩, [], ⟨⟨_, rfl⟩, hW, hsame⟩, fun q hq => nomatch hq⟩
  show Steps p.tables e below (s₁.setTop (mkF m 0 #[.val (.int v)] [])) _
  refine XS.iloadN X.here Bd.exec rfl (hb Bd.bytes own_l0) rfl ?_
  exact X.ireturnOut Bd.exec Bd.returns rfl (Or.inl rfl) (hb Bd.bytes own_l1) hr
set_option maxRecDepth 65536 in
set_option maxHeartbeats 4000000 in
theorem rm_rn (l : Launch) (Z : State) (a0 : Array Value) (hw : ∀ d ∈ tables_1, d.before a0 Z = true) (h0 : Heap) (n0 : Nat) (f : Addr) :
    Con false l Z (⟨"java/util/Objects", "requireNonNull", "(Ljava/lang/Object;)Ljava/lang/Object;"⟩ : MethodName) jdk_31_method_10_code 1 (some (.object "java/lang/Object")) ({ frames := 0, cells := 0, slots := 0, locals := 0 } : Room) #[(.ref f)] h0 n0 (Ret (.ref f) h0) := by
  refine con_of (ls := [.val (.ref f)]) (plainFor_of_name pn1) rfl ?_
  refine go_aload c4_0 rfl rfl ?_
  refine go_nonnullT c4_1 ?_
  refine go_aload c4_12 rfl rfl ?_
  exact go_aret rfl rfl rfl c4_13 (by decide) (by decide) ⟨_, rfl, rfl, rfl⟩
set_option maxRecDepth 65536 in
set_option maxHeartbeats 4000000 in
theorem rm_sa_1 (l : Launch) (Z : State) (a0 : Array Value) (hw : ∀ d ∈ tables_1, d.before a0 Z = true) (h0 : Heap) (n0 : Nat) (M : List (Addr × Desc)) (r : Addr) (f : Addr) (cK : ClassId) (hMade : Jvm.LamKit.Made Z "com/example/cropped_view/croppedview/Broadcast" own_sig cK) (hFn : Jvm.LamKit.FnAt Z.heap f cK) (P0 : Hp Z n0 h0 ((r, (.inr (.int, "[I", [(.int 0)]))) :: M)) :
    ConW l Z (⟨"java/util/Arrays", "setAll", "([ILjava/util/function/IntUnaryOperator;)V"⟩ : MethodName) jdk_65_method_175_code 3 none ({ frames := 2, cells := 0, slots := 0, locals := 40 } : Room) #[(.ref r), (.ref f)] h0 n0 (R0 fun h' => Hp Z n0 h' ((r, (.inr (.int, "[I", [(.int 0)]))) :: M)) := by
  refine con_ofW (ls := [.val (.ref r), .val (.ref f), .unset]) (plainFor_of_name pn2) rfl ?_
  refine go_aload c3_0 rfl rfl ?_
  refine go_callS1 (y := (⟨"java/util/Arrays", "setAll", "([ILjava/util/function/IntUnaryOperator;)V"⟩ : MethodName)) (W := 0) (argsL := [(.ref f)]) (st := []) c3_1 (rm_rn l Z a0 hw h0 n0 f) (t18 hw) (t19 hw) (t20 hw) (t21 hw) (by decide) (lenOf pd0 rfl) rfl rfl (by decide) (by decide) (by decide) (by decide) rfl ?_
  rintro _ _ ⟨rfl, rfl⟩
  refine go_more (k' := 0) (n' := 0) (by decide) (by decide) ?_
  refine go_pop c3_4 rfl ?_
  refine go_push c3_5 ?_
  refine go_istore c3_6 rfl rfl ?_
  dsimp only [setl]
  refine go_iload c3_7 rfl ?_
  refine go_aload c3_8 rfl rfl ?_
  refine go_alen (z := 1) P0 (0) c3_9 rfl rfl ?_
  refine go_icmp_ge c3_10 (fun q => absurd q (by decide)) (fun _ => ?_)
  refine go_aload c3_13 rfl rfl ?_
  refine go_iload c3_14 rfl ?_
  refine go_aload c3_15 rfl rfl ?_
  refine go_iload c3_16 rfl ?_
  refine go_lam (y := (⟨"java/util/Arrays", "setAll", "([ILjava/util/function/IntUnaryOperator;)V"⟩ : MethodName)) (W := 2) (xi := (⟨"java/util/function/IntUnaryOperator", "applyAsInt", "(I)I"⟩ : MethodName)) (yt := (⟨"com/example/cropped_view/croppedview/Broadcast", "lambda$new$0", "(I)I"⟩ : MethodName)) (σ := own_sig) (host := "com/example/cropped_view/croppedview/Broadcast") (tb := prog_7_method_12_code) (fcode := own_fcode) (a := f) (v := 0) (st := [(.int 0), (.ref r)]) c3_17 (own_target l 0) hMade hFn P0.1.2 (t22 hw) (t23 hw) (t24 hw) (by decide) (t26 hw) (t25 hw) (t4 hw) (by decide +kernel) (by decide +kernel) (by decide) own_fwd own_g0 own_g1 own_g4 (lenOf pd1 rfl) (lenOf pd1 rfl) rfl rfl (by decide) (by decide) (by decide) (by decide) ?_
  refine go_iastoreH P0 0 c3_22 rfl (by decide) (Nat.le_of_ble_eq_true rfl) ?_
  intro h1 P2
  dsimp only [lupd] at P2
  refine go_iincX (x' := 1) c3_23 rfl (by decide) ?_
  dsimp only [setl]
  refine go_goto c3_26 ?_
  refine go_iload c3_7 rfl ?_
  refine go_aload c3_8 rfl rfl ?_
  refine go_alen (z := 1) P2 (0) c3_9 rfl rfl ?_
  refine go_icmp_ge c3_10 (fun _ => ?_) (fun q => absurd q (by decide))
  exact go_ret rfl c3_29 (by decide) (by decide) ⟨rfl, P2⟩
set_option maxRecDepth 65536 in
set_option maxHeartbeats 4000000 in
theorem rm_sa_2 (l : Launch) (Z : State) (a0 : Array Value) (hw : ∀ d ∈ tables_1, d.before a0 Z = true) (h0 : Heap) (n0 : Nat) (M : List (Addr × Desc)) (r : Addr) (f : Addr) (cK : ClassId) (hMade : Jvm.LamKit.Made Z "com/example/cropped_view/croppedview/Broadcast" own_sig cK) (hFn : Jvm.LamKit.FnAt Z.heap f cK) (P0 : Hp Z n0 h0 ((r, (.inr (.int, "[I", [(.int 0), (.int 0)]))) :: M)) :
    ConW l Z (⟨"java/util/Arrays", "setAll", "([ILjava/util/function/IntUnaryOperator;)V"⟩ : MethodName) jdk_65_method_175_code 3 none ({ frames := 2, cells := 0, slots := 0, locals := 40 } : Room) #[(.ref r), (.ref f)] h0 n0 (R0 fun h' => Hp Z n0 h' ((r, (.inr (.int, "[I", [(.int 0), (.int 1)]))) :: M)) := by
  refine con_ofW (ls := [.val (.ref r), .val (.ref f), .unset]) (plainFor_of_name pn2) rfl ?_
  refine go_aload c3_0 rfl rfl ?_
  refine go_callS1 (y := (⟨"java/util/Arrays", "setAll", "([ILjava/util/function/IntUnaryOperator;)V"⟩ : MethodName)) (W := 0) (argsL := [(.ref f)]) (st := []) c3_1 (rm_rn l Z a0 hw h0 n0 f) (t18 hw) (t19 hw) (t20 hw) (t21 hw) (by decide) (lenOf pd0 rfl) rfl rfl (by decide) (by decide) (by decide) (by decide) rfl ?_
  rintro _ _ ⟨rfl, rfl⟩
  refine go_more (k' := 0) (n' := 0) (by decide) (by decide) ?_
  refine go_pop c3_4 rfl ?_
  refine go_push c3_5 ?_
  refine go_istore c3_6 rfl rfl ?_
  dsimp only [setl]
  refine go_iload c3_7 rfl ?_
  refine go_aload c3_8 rfl rfl ?_
  refine go_alen (z := 2) P0 (0) c3_9 rfl rfl ?_
  refine go_icmp_ge c3_10 (fun q => absurd q (by decide)) (fun _ => ?_)
  refine go_aload c3_13 rfl rfl ?_
  refine go_iload c3_14 rfl ?_
  refine go_aload c3_15 rfl rfl ?_
  refine go_iload c3_16 rfl ?_
  refine go_lam (y := (⟨"java/util/Arrays", "setAll", "([ILjava/util/function/IntUnaryOperator;)V"⟩ : MethodName)) (W := 2) (xi := (⟨"java/util/function/IntUnaryOperator", "applyAsInt", "(I)I"⟩ : MethodName)) (yt := (⟨"com/example/cropped_view/croppedview/Broadcast", "lambda$new$0", "(I)I"⟩ : MethodName)) (σ := own_sig) (host := "com/example/cropped_view/croppedview/Broadcast") (tb := prog_7_method_12_code) (fcode := own_fcode) (a := f) (v := 0) (st := [(.int 0), (.ref r)]) c3_17 (own_target l 0) hMade hFn P0.1.2 (t22 hw) (t23 hw) (t24 hw) (by decide) (t26 hw) (t25 hw) (t4 hw) (by decide +kernel) (by decide +kernel) (by decide) own_fwd own_g0 own_g1 own_g4 (lenOf pd1 rfl) (lenOf pd1 rfl) rfl rfl (by decide) (by decide) (by decide) (by decide) ?_
  refine go_iastoreH P0 0 c3_22 rfl (by decide) (Nat.le_of_ble_eq_true rfl) ?_
  intro h1 P2
  dsimp only [lupd] at P2
  refine go_iincX (x' := 1) c3_23 rfl (by decide) ?_
  dsimp only [setl]
  refine go_goto c3_26 ?_
  refine go_iload c3_7 rfl ?_
  refine go_aload c3_8 rfl rfl ?_
  refine go_alen (z := 2) P2 (0) c3_9 rfl rfl ?_
  refine go_icmp_ge c3_10 (fun q => absurd q (by decide)) (fun _ => ?_)
  refine go_aload c3_13 rfl rfl ?_
  refine go_iload c3_14 rfl ?_
  refine go_aload c3_15 rfl rfl ?_
  refine go_iload c3_16 rfl ?_
  refine go_lam (y := (⟨"java/util/Arrays", "setAll", "([ILjava/util/function/IntUnaryOperator;)V"⟩ : MethodName)) (W := 2) (xi := (⟨"java/util/function/IntUnaryOperator", "applyAsInt", "(I)I"⟩ : MethodName)) (yt := (⟨"com/example/cropped_view/croppedview/Broadcast", "lambda$new$0", "(I)I"⟩ : MethodName)) (σ := own_sig) (host := "com/example/cropped_view/croppedview/Broadcast") (tb := prog_7_method_12_code) (fcode := own_fcode) (a := f) (v := 1) (st := [(.int 1), (.ref r)]) c3_17 (own_target l 1) hMade hFn P2.1.2 (t22 hw) (t23 hw) (t24 hw) (by decide) (t26 hw) (t25 hw) (t4 hw) (by decide +kernel) (by decide +kernel) (by decide) own_fwd own_g0 own_g1 own_g4 (lenOf pd1 rfl) (lenOf pd1 rfl) rfl rfl (by decide) (by decide) (by decide) (by decide) ?_
  refine go_iastoreH P2 0 c3_22 rfl (by decide) (Nat.le_of_ble_eq_true rfl) ?_
  intro h3 P4
  dsimp only [lupd] at P4
  refine go_iincX (x' := 2) c3_23 rfl (by decide) ?_
  dsimp only [setl]
  refine go_goto c3_26 ?_
  refine go_iload c3_7 rfl ?_
  refine go_aload c3_8 rfl rfl ?_
  refine go_alen (z := 2) P4 (0) c3_9 rfl rfl ?_
  refine go_icmp_ge c3_10 (fun _ => ?_) (fun q => absurd q (by decide))
  exact go_ret rfl c3_29 (by decide) (by decide) ⟨rfl, P4⟩
set_option maxRecDepth 65536 in
set_option maxHeartbeats 4000000 in
theorem rm_sa_3 (l : Launch) (Z : State) (a0 : Array Value) (hw : ∀ d ∈ tables_1, d.before a0 Z = true) (h0 : Heap) (n0 : Nat) (M : List (Addr × Desc)) (r : Addr) (f : Addr) (cK : ClassId) (hMade : Jvm.LamKit.Made Z "com/example/cropped_view/croppedview/Broadcast" own_sig cK) (hFn : Jvm.LamKit.FnAt Z.heap f cK) (P0 : Hp Z n0 h0 ((r, (.inr (.int, "[I", [(.int 0), (.int 0), (.int 0)]))) :: M)) :
    ConW l Z (⟨"java/util/Arrays", "setAll", "([ILjava/util/function/IntUnaryOperator;)V"⟩ : MethodName) jdk_65_method_175_code 3 none ({ frames := 2, cells := 0, slots := 0, locals := 40 } : Room) #[(.ref r), (.ref f)] h0 n0 (R0 fun h' => Hp Z n0 h' ((r, (.inr (.int, "[I", [(.int 0), (.int 1), (.int 2)]))) :: M)) := by
  refine con_ofW (ls := [.val (.ref r), .val (.ref f), .unset]) (plainFor_of_name pn2) rfl ?_
  refine go_aload c3_0 rfl rfl ?_
  refine go_callS1 (y := (⟨"java/util/Arrays", "setAll", "([ILjava/util/function/IntUnaryOperator;)V"⟩ : MethodName)) (W := 0) (argsL := [(.ref f)]) (st := []) c3_1 (rm_rn l Z a0 hw h0 n0 f) (t18 hw) (t19 hw) (t20 hw) (t21 hw) (by decide) (lenOf pd0 rfl) rfl rfl (by decide) (by decide) (by decide) (by decide) rfl ?_
  rintro _ _ ⟨rfl, rfl⟩
  refine go_more (k' := 0) (n' := 0) (by decide) (by decide) ?_
  refine go_pop c3_4 rfl ?_
  refine go_push c3_5 ?_
  refine go_istore c3_6 rfl rfl ?_
  dsimp only [setl]
  refine go_iload c3_7 rfl ?_
  refine go_aload c3_8 rfl rfl ?_
  refine go_alen (z := 3) P0 (0) c3_9 rfl rfl ?_
  refine go_icmp_ge c3_10 (fun q => absurd q (by decide)) (fun _ => ?_)
  refine go_aload c3_13 rfl rfl ?_
  refine go_iload c3_14 rfl ?_
  refine go_aload c3_15 rfl rfl ?_
  refine go_iload c3_16 rfl ?_
  refine go_lam (y := (⟨"java/util/Arrays", "setAll", "([ILjava/util/function/IntUnaryOperator;)V"⟩ : MethodName)) (W := 2) (xi := (⟨"java/util/function/IntUnaryOperator", "applyAsInt", "(I)I"⟩ : MethodName)) (yt := (⟨"com/example/cropped_view/croppedview/Broadcast", "lambda$new$0", "(I)I"⟩ : MethodName)) (σ := own_sig) (host := "com/example/cropped_view/croppedview/Broadcast") (tb := prog_7_method_12_code) (fcode := own_fcode) (a := f) (v := 0) (st := [(.int 0), (.ref r)]) c3_17 (own_target l 0) hMade hFn P0.1.2 (t22 hw) (t23 hw) (t24 hw) (by decide) (t26 hw) (t25 hw) (t4 hw) (by decide +kernel) (by decide +kernel) (by decide) own_fwd own_g0 own_g1 own_g4 (lenOf pd1 rfl) (lenOf pd1 rfl) rfl rfl (by decide) (by decide) (by decide) (by decide) ?_
  refine go_iastoreH P0 0 c3_22 rfl (by decide) (Nat.le_of_ble_eq_true rfl) ?_
  intro h1 P2
  dsimp only [lupd] at P2
  refine go_iincX (x' := 1) c3_23 rfl (by decide) ?_
  dsimp only [setl]
  refine go_goto c3_26 ?_
  refine go_iload c3_7 rfl ?_
  refine go_aload c3_8 rfl rfl ?_
  refine go_alen (z := 3) P2 (0) c3_9 rfl rfl ?_
  refine go_icmp_ge c3_10 (fun q => absurd q (by decide)) (fun _ => ?_)
  refine go_aload c3_13 rfl rfl ?_
  refine go_iload c3_14 rfl ?_
  refine go_aload c3_15 rfl rfl ?_
  refine go_iload c3_16 rfl ?_
  refine go_lam (y := (⟨"java/util/Arrays", "setAll", "([ILjava/util/function/IntUnaryOperator;)V"⟩ : MethodName)) (W := 2) (xi := (⟨"java/util/function/IntUnaryOperator", "applyAsInt", "(I)I"⟩ : MethodName)) (yt := (⟨"com/example/cropped_view/croppedview/Broadcast", "lambda$new$0", "(I)I"⟩ : MethodName)) (σ := own_sig) (host := "com/example/cropped_view/croppedview/Broadcast") (tb := prog_7_method_12_code) (fcode := own_fcode) (a := f) (v := 1) (st := [(.int 1), (.ref r)]) c3_17 (own_target l 1) hMade hFn P2.1.2 (t22 hw) (t23 hw) (t24 hw) (by decide) (t26 hw) (t25 hw) (t4 hw) (by decide +kernel) (by decide +kernel) (by decide) own_fwd own_g0 own_g1 own_g4 (lenOf pd1 rfl) (lenOf pd1 rfl) rfl rfl (by decide) (by decide) (by decide) (by decide) ?_
  refine go_iastoreH P2 0 c3_22 rfl (by decide) (Nat.le_of_ble_eq_true rfl) ?_
  intro h3 P4
  dsimp only [lupd] at P4
  refine go_iincX (x' := 2) c3_23 rfl (by decide) ?_
  dsimp only [setl]
  refine go_goto c3_26 ?_
  refine go_iload c3_7 rfl ?_
  refine go_aload c3_8 rfl rfl ?_
  refine go_alen (z := 3) P4 (0) c3_9 rfl rfl ?_
  refine go_icmp_ge c3_10 (fun q => absurd q (by decide)) (fun _ => ?_)
  refine go_aload c3_13 rfl rfl ?_
  refine go_iload c3_14 rfl ?_
  refine go_aload c3_15 rfl rfl ?_
  refine go_iload c3_16 rfl ?_
  refine go_lam (y := (⟨"java/util/Arrays", "setAll", "([ILjava/util/function/IntUnaryOperator;)V"⟩ : MethodName)) (W := 2) (xi := (⟨"java/util/function/IntUnaryOperator", "applyAsInt", "(I)I"⟩ : MethodName)) (yt := (⟨"com/example/cropped_view/croppedview/Broadcast", "lambda$new$0", "(I)I"⟩ : MethodName)) (σ := own_sig) (host := "com/example/cropped_view/croppedview/Broadcast") (tb := prog_7_method_12_code) (fcode := own_fcode) (a := f) (v := 2) (st := [(.int 2), (.ref r)]) c3_17 (own_target l 2) hMade hFn P4.1.2 (t22 hw) (t23 hw) (t24 hw) (by decide) (t26 hw) (t25 hw) (t4 hw) (by decide +kernel) (by decide +kernel) (by decide) own_fwd own_g0 own_g1 own_g4 (lenOf pd1 rfl) (lenOf pd1 rfl) rfl rfl (by decide) (by decide) (by decide) (by decide) ?_
  refine go_iastoreH P4 0 c3_22 rfl (by decide) (Nat.le_of_ble_eq_true rfl) ?_
  intro h5 P6
  dsimp only [lupd] at P6
  refine go_iincX (x' := 3) c3_23 rfl (by decide) ?_
  dsimp only [setl]
  refine go_goto c3_26 ?_
  refine go_iload c3_7 rfl ?_
  refine go_aload c3_8 rfl rfl ?_
  refine go_alen (z := 3) P6 (0) c3_9 rfl rfl ?_
  refine go_icmp_ge c3_10 (fun _ => ?_) (fun q => absurd q (by decide))
  exact go_ret rfl c3_29 (by decide) (by decide) ⟨rfl, P6⟩
set_option maxRecDepth 65536 in
set_option maxHeartbeats 4000000 in
theorem rm_sa_4 (l : Launch) (Z : State) (a0 : Array Value) (hw : ∀ d ∈ tables_1, d.before a0 Z = true) (h0 : Heap) (n0 : Nat) (M : List (Addr × Desc)) (r : Addr) (f : Addr) (cK : ClassId) (hMade : Jvm.LamKit.Made Z "com/example/cropped_view/croppedview/Broadcast" own_sig cK) (hFn : Jvm.LamKit.FnAt Z.heap f cK) (P0 : Hp Z n0 h0 ((r, (.inr (.int, "[I", [(.int 0), (.int 0), (.int 0), (.int 0)]))) :: M)) :
    ConW l Z (⟨"java/util/Arrays", "setAll", "([ILjava/util/function/IntUnaryOperator;)V"⟩ : MethodName) jdk_65_method_175_code 3 none ({ frames := 2, cells := 0, slots := 0, locals := 40 } : Room) #[(.ref r), (.ref f)] h0 n0 (R0 fun h' => Hp Z n0 h' ((r, (.inr (.int, "[I", [(.int 0), (.int 1), (.int 2), (.int 3)]))) :: M)) := by
  refine con_ofW (ls := [.val (.ref r), .val (.ref f), .unset]) (plainFor_of_name pn2) rfl ?_
  refine go_aload c3_0 rfl rfl ?_
  refine go_callS1 (y := (⟨"java/util/Arrays", "setAll", "([ILjava/util/function/IntUnaryOperator;)V"⟩ : MethodName)) (W := 0) (argsL := [(.ref f)]) (st := []) c3_1 (rm_rn l Z a0 hw h0 n0 f) (t18 hw) (t19 hw) (t20 hw) (t21 hw) (by decide) (lenOf pd0 rfl) rfl rfl (by decide) (by decide) (by decide) (by decide) rfl ?_
  rintro _ _ ⟨rfl, rfl⟩
  refine go_more (k' := 0) (n' := 0) (by decide) (by decide) ?_
  refine go_pop c3_4 rfl ?_
  refine go_push c3_5 ?_
  refine go_istore c3_6 rfl rfl ?_
  dsimp only [setl]
  refine go_iload c3_7 rfl ?_
  refine go_aload c3_8 rfl rfl ?_
  refine go_alen (z := 4) P0 (0) c3_9 rfl rfl ?_
  refine go_icmp_ge c3_10 (fun q => absurd q (by decide)) (fun _ => ?_)
  refine go_aload c3_13 rfl rfl ?_
  refine go_iload c3_14 rfl ?_
  refine go_aload c3_15 rfl rfl ?_
  refine go_iload c3_16 rfl ?_
  refine go_lam (y := (⟨"java/util/Arrays", "setAll", "([ILjava/util/function/IntUnaryOperator;)V"⟩ : MethodName)) (W := 2) (xi := (⟨"java/util/function/IntUnaryOperator", "applyAsInt", "(I)I"⟩ : MethodName)) (yt := (⟨"com/example/cropped_view/croppedview/Broadcast", "lambda$new$0", "(I)I"⟩ : MethodName)) (σ := own_sig) (host := "com/example/cropped_view/croppedview/Broadcast") (tb := prog_7_method_12_code) (fcode := own_fcode) (a := f) (v := 0) (st := [(.int 0), (.ref r)]) c3_17 (own_target l 0) hMade hFn P0.1.2 (t22 hw) (t23 hw) (t24 hw) (by decide) (t26 hw) (t25 hw) (t4 hw) (by decide +kernel) (by decide +kernel) (by decide) own_fwd own_g0 own_g1 own_g4 (lenOf pd1 rfl) (lenOf pd1 rfl) rfl rfl (by decide) (by decide) (by decide) (by decide) ?_
  refine go_iastoreH P0 0 c3_22 rfl (by decide) (Nat.le_of_ble_eq_true rfl) ?_
  intro h1 P2
  dsimp only [lupd] at P2
  refine go_iincX (x' := 1) c3_23 rfl (by decide) ?_
  dsimp only [setl]
  refine go_goto c3_26 ?_
  refine go_iload c3_7 rfl ?_
  refine go_aload c3_8 rfl rfl ?_
  refine go_alen (z := 4) P2 (0) c3_9 rfl rfl ?_
  refine go_icmp_ge c3_10 (fun q => absurd q (by decide)) (fun _ => ?_)
  refine go_aload c3_13 rfl rfl ?_
  refine go_iload c3_14 rfl ?_
  refine go_aload c3_15 rfl rfl ?_
  refine go_iload c3_16 rfl ?_
  refine go_lam (y := (⟨"java/util/Arrays", "setAll", "([ILjava/util/function/IntUnaryOperator;)V"⟩ : MethodName)) (W := 2) (xi := (⟨"java/util/function/IntUnaryOperator", "applyAsInt", "(I)I"⟩ : MethodName)) (yt := (⟨"com/example/cropped_view/croppedview/Broadcast", "lambda$new$0", "(I)I"⟩ : MethodName)) (σ := own_sig) (host := "com/example/cropped_view/croppedview/Broadcast") (tb := prog_7_method_12_code) (fcode := own_fcode) (a := f) (v := 1) (st := [(.int 1), (.ref r)]) c3_17 (own_target l 1) hMade hFn P2.1.2 (t22 hw) (t23 hw) (t24 hw) (by decide) (t26 hw) (t25 hw) (t4 hw) (by decide +kernel) (by decide +kernel) (by decide) own_fwd own_g0 own_g1 own_g4 (lenOf pd1 rfl) (lenOf pd1 rfl) rfl rfl (by decide) (by decide) (by decide) (by decide) ?_
  refine go_iastoreH P2 0 c3_22 rfl (by decide) (Nat.le_of_ble_eq_true rfl) ?_
  intro h3 P4
  dsimp only [lupd] at P4
  refine go_iincX (x' := 2) c3_23 rfl (by decide) ?_
  dsimp only [setl]
  refine go_goto c3_26 ?_
  refine go_iload c3_7 rfl ?_
  refine go_aload c3_8 rfl rfl ?_
  refine go_alen (z := 4) P4 (0) c3_9 rfl rfl ?_
  refine go_icmp_ge c3_10 (fun q => absurd q (by decide)) (fun _ => ?_)
  refine go_aload c3_13 rfl rfl ?_
  refine go_iload c3_14 rfl ?_
  refine go_aload c3_15 rfl rfl ?_
  refine go_iload c3_16 rfl ?_
  refine go_lam (y := (⟨"java/util/Arrays", "setAll", "([ILjava/util/function/IntUnaryOperator;)V"⟩ : MethodName)) (W := 2) (xi := (⟨"java/util/function/IntUnaryOperator", "applyAsInt", "(I)I"⟩ : MethodName)) (yt := (⟨"com/example/cropped_view/croppedview/Broadcast", "lambda$new$0", "(I)I"⟩ : MethodName)) (σ := own_sig) (host := "com/example/cropped_view/croppedview/Broadcast") (tb := prog_7_method_12_code) (fcode := own_fcode) (a := f) (v := 2) (st := [(.int 2), (.ref r)]) c3_17 (own_target l 2) hMade hFn P4.1.2 (t22 hw) (t23 hw) (t24 hw) (by decide) (t26 hw) (t25 hw) (t4 hw) (by decide +kernel) (by decide +kernel) (by decide) own_fwd own_g0 own_g1 own_g4 (lenOf pd1 rfl) (lenOf pd1 rfl) rfl rfl (by decide) (by decide) (by decide) (by decide) ?_
  refine go_iastoreH P4 0 c3_22 rfl (by decide) (Nat.le_of_ble_eq_true rfl) ?_
  intro h5 P6
  dsimp only [lupd] at P6
  refine go_iincX (x' := 3) c3_23 rfl (by decide) ?_
  dsimp only [setl]
  refine go_goto c3_26 ?_
  refine go_iload c3_7 rfl ?_
  refine go_aload c3_8 rfl rfl ?_
  refine go_alen (z := 4) P6 (0) c3_9 rfl rfl ?_
  refine go_icmp_ge c3_10 (fun q => absurd q (by decide)) (fun _ => ?_)
  refine go_aload c3_13 rfl rfl ?_
  refine go_iload c3_14 rfl ?_
  refine go_aload c3_15 rfl rfl ?_
  refine go_iload c3_16 rfl ?_
  refine go_lam (y := (⟨"java/util/Arrays", "setAll", "([ILjava/util/function/IntUnaryOperator;)V"⟩ : MethodName)) (W := 2) (xi := (⟨"java/util/function/IntUnaryOperator", "applyAsInt", "(I)I"⟩ : MethodName)) (yt := (⟨"com/example/cropped_view/croppedview/Broadcast", "lambda$new$0", "(I)I"⟩ : MethodName)) (σ := own_sig) (host := "com/example/cropped_view/croppedview/Broadcast") (tb := prog_7_method_12_code) (fcode := own_fcode) (a := f) (v := 3) (st := [(.int 3), (.ref r)]) c3_17 (own_target l 3) hMade hFn P6.1.2 (t22 hw) (t23 hw) (t24 hw) (by decide) (t26 hw) (t25 hw) (t4 hw) (by decide +kernel) (by decide +kernel) (by decide) own_fwd own_g0 own_g1 own_g4 (lenOf pd1 rfl) (lenOf pd1 rfl) rfl rfl (by decide) (by decide) (by decide) (by decide) ?_
  refine go_iastoreH P6 0 c3_22 rfl (by decide) (Nat.le_of_ble_eq_true rfl) ?_
  intro h7 P8
  dsimp only [lupd] at P8
  refine go_iincX (x' := 4) c3_23 rfl (by decide) ?_
  dsimp only [setl]
  refine go_goto c3_26 ?_
  refine go_iload c3_7 rfl ?_
  refine go_aload c3_8 rfl rfl ?_
  refine go_alen (z := 4) P8 (0) c3_9 rfl rfl ?_
  refine go_icmp_ge c3_10 (fun _ => ?_) (fun q => absurd q (by decide))
  exact go_ret rfl c3_29 (by decide) (by decide) ⟨rfl, P8⟩
set_option maxRecDepth 65536 in
set_option maxHeartbeats 4000000 in
theorem rm_fi (l : Launch) (Z : State) (a0 : Array Value) (hw : ∀ d ∈ tables_1, d.before a0 Z = true) (h0 : Heap) (n0 : Nat) (M : List (Addr × Desc)) (g r : Addr) (vr : List Value) (P0 : Hp Z n0 h0 ((g, (.inr ((.array .int), "[[I", [.null, .null, .null, .null]))) :: (r, (.inr (.int, "[I", vr))) :: M)) :
    Con false l Z (⟨"java/util/Arrays", "fill", "([Ljava/lang/Object;Ljava/lang/Object;)V"⟩ : MethodName) jdk_65_method_117_code 4 none ({ frames := 0, cells := 0, slots := 0, locals := 0 } : Room) #[(.ref g), (.ref r)] h0 n0 (R0 fun h' => Hp Z n0 h' ((g, (.inr ((.array .int), "[[I", [(.ref r), (.ref r), (.ref r), (.ref r)]))) :: (r, (.inr (.int, "[I", vr))) :: M)) := by
  refine con_of (ls := [.val (.ref g), .val (.ref r), .unset, .unset]) (plainFor_of_name pn2) rfl ?_
  refine go_push c6_0 ?_
  refine go_istore c6_1 rfl rfl ?_
  dsimp only [setl]
  refine go_aload c6_2 rfl rfl ?_
  refine go_alen (z := 4) P0 (0) c6_3 rfl rfl ?_
  refine go_istore c6_4 rfl rfl ?_
  dsimp only [setl]
  refine go_iload c6_5 rfl ?_
  refine go_iload c6_6 rfl ?_
  refine go_icmp_ge c6_7 (fun q => absurd q (by decide)) (fun _ => ?_)
  refine go_aload c6_10 rfl rfl ?_
  refine go_iload c6_11 rfl ?_
  refine go_aload c6_12 rfl rfl ?_
  refine go_aastoreH (y := (⟨"java/util/Arrays", "fill", "([Ljava/lang/Object;Ljava/lang/Object;)V"⟩ : MethodName)) P0 0 c6_13 rfl rfl rfl (by decide) (Nat.le_of_ble_eq_true rfl) (P0.stoA (i := 0) (j := 1) (t28 hw) (by decide) (by decide) rfl rfl) ?_
  intro h1 P2
  dsimp only [lupd] at P2
  refine go_iincX (x' := 1) c6_14 rfl (by decide) ?_
  dsimp only [setl]
  refine go_goto c6_17 ?_
  refine go_iload c6_5 rfl ?_
  refine go_iload c6_6 rfl ?_
  refine go_icmp_ge c6_7 (fun q => absurd q (by decide)) (fun _ => ?_)
  refine go_aload c6_10 rfl rfl ?_
  refine go_iload c6_11 rfl ?_
  refine go_aload c6_12 rfl rfl ?_
  refine go_aastoreH (y := (⟨"java/util/Arrays", "fill", "([Ljava/lang/Object;Ljava/lang/Object;)V"⟩ : MethodName)) P2 0 c6_13 rfl rfl rfl (by decide) (Nat.le_of_ble_eq_true rfl) (P2.stoA (i := 0) (j := 1) (t28 hw) (by decide) (by decide) rfl rfl) ?_
  intro h3 P4
  dsimp only [lupd] at P4
  refine go_iincX (x' := 2) c6_14 rfl (by decide) ?_
  dsimp only [setl]
  refine go_goto c6_17 ?_
  refine go_iload c6_5 rfl ?_
  refine go_iload c6_6 rfl ?_
  refine go_icmp_ge c6_7 (fun q => absurd q (by decide)) (fun _ => ?_)
  refine go_aload c6_10 rfl rfl ?_
  refine go_iload c6_11 rfl ?_
  refine go_aload c6_12 rfl rfl ?_
  refine go_aastoreH (y := (⟨"java/util/Arrays", "fill", "([Ljava/lang/Object;Ljava/lang/Object;)V"⟩ : MethodName)) P4 0 c6_13 rfl rfl rfl (by decide) (Nat.le_of_ble_eq_true rfl) (P4.stoA (i := 0) (j := 1) (t28 hw) (by decide) (by decide) rfl rfl) ?_
  intro h5 P6
  dsimp only [lupd] at P6
  refine go_iincX (x' := 3) c6_14 rfl (by decide) ?_
  dsimp only [setl]
  refine go_goto c6_17 ?_
  refine go_iload c6_5 rfl ?_
  refine go_iload c6_6 rfl ?_
  refine go_icmp_ge c6_7 (fun q => absurd q (by decide)) (fun _ => ?_)
  refine go_aload c6_10 rfl rfl ?_
  refine go_iload c6_11 rfl ?_
  refine go_aload c6_12 rfl rfl ?_
  refine go_aastoreH (y := (⟨"java/util/Arrays", "fill", "([Ljava/lang/Object;Ljava/lang/Object;)V"⟩ : MethodName)) P6 0 c6_13 rfl rfl rfl (by decide) (Nat.le_of_ble_eq_true rfl) (P6.stoA (i := 0) (j := 1) (t28 hw) (by decide) (by decide) rfl rfl) ?_
  intro h7 P8
  dsimp only [lupd] at P8
  refine go_iincX (x' := 4) c6_14 rfl (by decide) ?_
  dsimp only [setl]
  refine go_goto c6_17 ?_
  refine go_iload c6_5 rfl ?_
  refine go_iload c6_6 rfl ?_
  refine go_icmp_ge c6_7 (fun _ => ?_) (fun q => absurd q (by decide))
  exact go_ret rfl c6_20 (by decide) (by decide) ⟨rfl, P8⟩
set_option maxRecDepth 65536 in
set_option maxHeartbeats 4000000 in
theorem rm_mv (l : Launch) (Z : State) (a0 : Array Value) (hw : ∀ d ∈ tables_1, d.before a0 Z = true) (h0 : Heap) (n0 : Nat) (M : List (Addr × Desc)) (b g r d : Addr) (vr vd : List Value) (an rv dv q : Int32) (hq0 : ¬ q < 0) (hrv : vr[q.toNatClampNeg]? = some (.int rv)) (hdv : vd[q.toNatClampNeg]? = some (.int dv)) (h01 : dv = 0 ∨ dv = 1) (P0 : Hp Z n0 h0 ((b, (.inl ("com/example/cropped_view/croppedview/Broadcast", [(("com/example/cropped_view/croppedview/Broadcast", "m_reactions", "[[I"), (.ref g)), (("com/example/cropped_view/croppedview/Broadcast", "m_deletes", "[Z"), (.ref d)), (("com/example/cropped_view/croppedview/Broadcast", "m_deletesAny", "Z"), (.int an))]))) :: (g, (.inr ((.array .int), "[[I", [(.ref r), (.ref r), (.ref r), (.ref r)]))) :: (r, (.inr (.int, "[I", vr))) :: (d, (.inr (.boolean, "[Z", vd))) :: M)) :
    Con false l Z (⟨"com/example/cropped_view/croppedview/Broadcast", "moves", "(I)Z"⟩ : MethodName) prog_7_method_3_code 6 (some .boolean) ({ frames := 0, cells := 0, slots := 0, locals := 0 } : Room) #[(.ref b), (.int q)] h0 n0 (Ret (.int (own_mv rv dv q)) h0) := by
  by_cases hne : rv = q
  · have hqv : q = rv := hne.symm
    subst hqv
    refine con_of (ls := [.val (.ref b), .val (.int q), .unset, .unset, .unset, .unset]) (plainFor_of_name pn0) rfl ?_
    refine go_aload c7_0 rfl rfl ?_
    refine go_get (y := (⟨"com/example/cropped_view/croppedview/Broadcast", "moves", "(I)Z"⟩ : MethodName)) P0 (0) 0 c7_1 rfl rfl (t29 hw) ?_
    refine go_astore c7_4 rfl rfl rfl ?_
    dsimp only [setl]
    refine go_aload c7_5 rfl rfl ?_
    refine go_alen (z := 4) P0 (1) c7_6 rfl rfl ?_
    refine go_istore c7_7 rfl rfl ?_
    dsimp only [setl]
    refine go_push c7_8 ?_
    refine go_istore c7_9 rfl rfl ?_
    dsimp only [setl]
    refine go_iload c7_11 rfl ?_
    refine go_iload c7_13 rfl ?_
    refine go_icmp_ge c7_14 (fun q => absurd q (by decide)) (fun _ => ?_)
    refine go_aload c7_17 rfl rfl ?_
    refine go_iload c7_18 rfl ?_
    refine go_aaloadH P0 (1) c7_20 rfl rfl (by decide) rfl ?_
    refine go_astore c7_21 rfl rfl rfl ?_
    dsimp only [setl]
    refine go_aload c7_23 rfl rfl ?_
    refine go_iload c7_25 rfl ?_
    refine go_ialoadH P0 2 c7_26 rfl hq0 hrv ?_
    refine go_iload c7_27 rfl ?_
    refine go_icmp_eq c7_28 (fun _ => ?_) (fun q => absurd rfl q)
    refine go_iincX (x' := 1) c7_33 rfl (by decide) ?_
    dsimp only [setl]
    refine go_goto c7_36 ?_
    refine go_iload c7_11 rfl ?_
    refine go_iload c7_13 rfl ?_
    refine go_icmp_ge c7_14 (fun q => absurd q (by decide)) (fun _ => ?_)
    refine go_aload c7_17 rfl rfl ?_
    refine go_iload c7_18 rfl ?_
    refine go_aaloadH P0 (1) c7_20 rfl rfl (by decide) rfl ?_
    refine go_astore c7_21 rfl rfl rfl ?_
    dsimp only [setl]
    refine go_aload c7_23 rfl rfl ?_
    refine go_iload c7_25 rfl ?_
    refine go_ialoadH P0 2 c7_26 rfl hq0 hrv ?_
    refine go_iload c7_27 rfl ?_
    refine go_icmp_eq c7_28 (fun _ => ?_) (fun q => absurd rfl q)
    refine go_iincX (x' := 2) c7_33 rfl (by decide) ?_
    dsimp only [setl]
    refine go_goto c7_36 ?_
    refine go_iload c7_11 rfl ?_
    refine go_iload c7_13 rfl ?_
    refine go_icmp_ge c7_14 (fun q => absurd q (by decide)) (fun _ => ?_)
    refine go_aload c7_17 rfl rfl ?_
    refine go_iload c7_18 rfl ?_
    refine go_aaloadH P0 (1) c7_20 rfl rfl (by decide) rfl ?_
    refine go_astore c7_21 rfl rfl rfl ?_
    dsimp only [setl]
    refine go_aload c7_23 rfl rfl ?_
    refine go_iload c7_25 rfl ?_
    refine go_ialoadH P0 2 c7_26 rfl hq0 hrv ?_
    refine go_iload c7_27 rfl ?_
    refine go_icmp_eq c7_28 (fun _ => ?_) (fun q => absurd rfl q)
    refine go_iincX (x' := 3) c7_33 rfl (by decide) ?_
    dsimp only [setl]
    refine go_goto c7_36 ?_
    refine go_iload c7_11 rfl ?_
    refine go_iload c7_13 rfl ?_
    refine go_icmp_ge c7_14 (fun q => absurd q (by decide)) (fun _ => ?_)
    refine go_aload c7_17 rfl rfl ?_
    refine go_iload c7_18 rfl ?_
    refine go_aaloadH P0 (1) c7_20 rfl rfl (by decide) rfl ?_
    refine go_astore c7_21 rfl rfl rfl ?_
    dsimp only [setl]
    refine go_aload c7_23 rfl rfl ?_
    refine go_iload c7_25 rfl ?_
    refine go_ialoadH P0 2 c7_26 rfl hq0 hrv ?_
    refine go_iload c7_27 rfl ?_
    refine go_icmp_eq c7_28 (fun _ => ?_) (fun q => absurd rfl q)
    refine go_iincX (x' := 4) c7_33 rfl (by decide) ?_
    dsimp only [setl]
    refine go_goto c7_36 ?_
    refine go_iload c7_11 rfl ?_
    refine go_iload c7_13 rfl ?_
    refine go_icmp_ge c7_14 (fun _ => ?_) (fun q => absurd q (by decide))
    refine go_aload c7_39 rfl rfl ?_
    refine go_get (y := (⟨"com/example/cropped_view/croppedview/Broadcast", "moves", "(I)Z"⟩ : MethodName)) P0 (0) 1 c7_40 rfl rfl (t36 hw) ?_
    refine go_iload c7_43 rfl ?_
    refine go_zaloadH P0 3 c7_44 rfl hq0 hdv ?_
    exact go_bret rfl c7_45 (by decide) (by decide) h01 ⟨_, rfl, (by rw [own_mv, if_pos rfl]), rfl⟩
  · refine con_of (ls := [.val (.ref b), .val (.int q), .unset, .unset, .unset, .unset]) (plainFor_of_name pn0) rfl ?_
    refine go_aload c7_0 rfl rfl ?_
    refine go_get (y := (⟨"com/example/cropped_view/croppedview/Broadcast", "moves", "(I)Z"⟩ : MethodName)) P0 (0) 0 c7_1 rfl rfl (t29 hw) ?_
    refine go_astore c7_4 rfl rfl rfl ?_
    dsimp only [setl]
    refine go_aload c7_5 rfl rfl ?_
    refine go_alen (z := 4) P0 (1) c7_6 rfl rfl ?_
    refine go_istore c7_7 rfl rfl ?_
    dsimp only [setl]
    refine go_push c7_8 ?_
    refine go_istore c7_9 rfl rfl ?_
    dsimp only [setl]
    refine go_iload c7_11 rfl ?_
    refine go_iload c7_13 rfl ?_
    refine go_icmp_ge c7_14 (fun q => absurd q (by decide)) (fun _ => ?_)
    refine go_aload c7_17 rfl rfl ?_
    refine go_iload c7_18 rfl ?_
    refine go_aaloadH P0 (1) c7_20 rfl rfl (by decide) rfl ?_
    refine go_astore c7_21 rfl rfl rfl ?_
    dsimp only [setl]
    refine go_aload c7_23 rfl rfl ?_
    refine go_iload c7_25 rfl ?_
    refine go_ialoadH P0 2 c7_26 rfl hq0 hrv ?_
    refine go_iload c7_27 rfl ?_
    refine go_icmp_eq c7_28 (fun u => absurd u hne) (fun _ => ?_)
    refine go_push c7_31 ?_
    exact go_bret rfl c7_32 (by decide) (by decide) (Or.inr rfl) ⟨_, rfl, (by rw [own_mv, if_neg hne]), rfl⟩
set_option maxRecDepth 65536 in
set_option maxHeartbeats 4000000 in
theorem own_turn_1_0 (l : Launch) (Z : State) (a0 : Array Value) (hw : ∀ d ∈ tables_1, d.before a0 Z = true) (h0 : Heap) (n0 : Nat) (M : List (Addr × Desc)) {R : Room} {kc ks k n : Nat} {Q : Option Value → Heap → Prop} (s d g r b fr to : Addr) (vs vd vr : List Value) (nn an f0 v0 : Int32) (hf : own_in f0 nn) (ht : own_to v0 nn) (hvs : vs[f0.toNatClampNeg]? = some (.int 0)) (hld : f0.toNatClampNeg < vd.length) (hlr : f0.toNatClampNeg < vr.length) (P0 : Hp Z n0 h0 ((s, (.inr (.boolean, "[Z", vs))) :: (d, (.inr (.boolean, "[Z", vd))) :: (g, (.inr ((.array .int), "[[I", [(.ref r), (.ref r), (.ref r), (.ref r)]))) :: (r, (.inr (.int, "[I", vr))) :: (b, (.inl ("com/example/cropped_view/croppedview/Broadcast", [(("com/example/cropped_view/croppedview/Broadcast", "m_reactions", "[[I"), (.ref g)), (("com/example/cropped_view/croppedview/Broadcast", "m_deletes", "[Z"), (.ref d)), (("com/example/cropped_view/croppedview/Broadcast", "m_deletesAny", "Z"), (.int 0))]))) :: (fr, (.inr (.int, "[I", [(.int f0)]))) :: (to, (.inr (.int, "[I", [(.int v0)]))) :: M))
    (Gm : v0 = -1 → ∀ h', Hp Z n0 h' ((s, (.inr (.boolean, "[Z", (lupd vs f0.toNatClampNeg (.int 1))))) :: (d, (.inr (.boolean, "[Z", (lupd vd f0.toNatClampNeg (.int 1))))) :: (g, (.inr ((.array .int), "[[I", [(.ref r), (.ref r), (.ref r), (.ref r)]))) :: (r, (.inr (.int, "[I", vr))) :: (b, (.inl ("com/example/cropped_view/croppedview/Broadcast", [(("com/example/cropped_view/croppedview/Broadcast", "m_reactions", "[[I"), (.ref g)), (("com/example/cropped_view/croppedview/Broadcast", "m_deletes", "[Z"), (.ref d)), (("com/example/cropped_view/croppedview/Broadcast", "m_deletesAny", "Z"), (.int 0))]))) :: (fr, (.inr (.int, "[I", [(.int f0)]))) :: (to, (.inr (.int, "[I", [(.int v0)]))) :: M) → Go false (KW Z (⟨"com/example/cropped_view/croppedview/Broadcast", "<init>", "([I[II)V"⟩ : MethodName)) l Z R (⟨"com/example/cropped_view/croppedview/Broadcast", "<init>", "([I[II)V"⟩ : MethodName) prog_7_method_1_code 8 none n0 kc ks Q h' k n 83 [.val (.ref b), .val (.ref fr), .val (.ref to), .val (.int nn), .val (.ref r), .val (.ref s), .val (.int 1), .val (.int 1)] [])
    (Gw : ¬ v0 = -1 → ∀ h', Hp Z n0 h' ((s, (.inr (.boolean, "[Z", (lupd vs f0.toNatClampNeg (.int 1))))) :: (d, (.inr (.boolean, "[Z", vd))) :: (g, (.inr ((.array .int), "[[I", [(.ref r), (.ref r), (.ref r), (.ref r)]))) :: (r, (.inr (.int, "[I", (lupd vr f0.toNatClampNeg (.int v0))))) :: (b, (.inl ("com/example/cropped_view/croppedview/Broadcast", [(("com/example/cropped_view/croppedview/Broadcast", "m_reactions", "[[I"), (.ref g)), (("com/example/cropped_view/croppedview/Broadcast", "m_deletes", "[Z"), (.ref d)), (("com/example/cropped_view/croppedview/Broadcast", "m_deletesAny", "Z"), (.int 0))]))) :: (fr, (.inr (.int, "[I", [(.int f0)]))) :: (to, (.inr (.int, "[I", [(.int v0)]))) :: M) → Go false (KW Z (⟨"com/example/cropped_view/croppedview/Broadcast", "<init>", "([I[II)V"⟩ : MethodName)) l Z R (⟨"com/example/cropped_view/croppedview/Broadcast", "<init>", "([I[II)V"⟩ : MethodName) prog_7_method_1_code 8 none n0 kc ks Q h' k n 83 [.val (.ref b), .val (.ref fr), .val (.ref to), .val (.int nn), .val (.ref r), .val (.ref s), .val (.int an), .val (.int 1)] []) :
    Go false (KW Z (⟨"com/example/cropped_view/croppedview/Broadcast", "<init>", "([I[II)V"⟩ : MethodName)) l Z R (⟨"com/example/cropped_view/croppedview/Broadcast", "<init>", "([I[II)V"⟩ : MethodName) prog_7_method_1_code 8 none n0 kc ks Q h0 k n 83 [.val (.ref b), .val (.ref fr), .val (.ref to), .val (.int nn), .val (.ref r), .val (.ref s), .val (.int an), .val (.int 0)] [] := by
  refine go_iload c1_83 rfl ?_
  refine go_aload c1_85 rfl rfl ?_
  refine go_alen (z := 1) P0 (5) c1_86 rfl rfl ?_
  refine go_icmp_ge c1_87 (fun q => absurd q (by decide)) (fun _ => ?_)
  refine go_aload c1_90 rfl rfl ?_
  refine go_iload c1_91 rfl ?_
  refine go_ialoadH P0 (5) c1_93 rfl (by decide) rfl ?_
  refine go_if_lt c1_94 (fun u => absurd u hf.1) (fun _ => ?_)
  refine go_aload c1_97 rfl rfl ?_
  refine go_iload c1_98 rfl ?_
  refine go_ialoadH P0 (5) c1_100 rfl (by decide) rfl ?_
  refine go_iload c1_101 rfl ?_
  refine go_icmp_ge c1_102 (fun u => absurd hf.2 u) (fun _ => ?_)
  refine go_aload c1_105 rfl rfl ?_
  refine go_iload c1_106 rfl ?_
  refine go_ialoadH P0 (6) c1_108 rfl (by decide) rfl ?_
  refine go_push c1_109 ?_
  refine go_icmp_lt c1_110 (fun u => absurd u ht.1) (fun _ => ?_)
  refine go_aload c1_113 rfl rfl ?_
  refine go_iload c1_114 rfl ?_
  refine go_ialoadH P0 (6) c1_116 rfl (by decide) rfl ?_
  refine go_iload c1_117 rfl ?_
  refine go_icmp_ge c1_118 (fun u => absurd ht.2 u) (fun _ => ?_)
  refine go_aload c1_121 rfl rfl ?_
  refine go_aload c1_123 rfl rfl ?_
  refine go_iload c1_124 rfl ?_
  refine go_ialoadH P0 (5) c1_126 rfl (by decide) rfl ?_
  refine go_zaloadH P0 0 c1_127 rfl hf.1 hvs ?_
  refine go_if_eq c1_128 (fun _ => ?_) (fun q => absurd q (by decide))
  refine go_aload c1_153 rfl rfl ?_
  refine go_aload c1_155 rfl rfl ?_
  refine go_iload c1_156 rfl ?_
  refine go_ialoadH P0 (5) c1_158 rfl (by decide) rfl ?_
  refine go_push c1_159 ?_
  refine go_zastoreH P0 0 c1_160 rfl hf.1 (List.getElem?_eq_some_iff.mp hvs).1 ?_
  intro h1 P2
  dsimp only [lupd] at P2
  rw [show nar .boolean 1 = 1 from by decide] at P2
  refine go_aload c1_161 rfl rfl ?_
  refine go_iload c1_162 rfl ?_
  refine go_ialoadH P2 (6) c1_164 rfl (by decide) rfl ?_
  refine go_push c1_165 ?_
  refine go_icmp_ne c1_166 (fun hne => ?_) (fun heq => ?_)
  · refine go_aload c1_185 rfl rfl ?_
    refine go_aload c1_187 rfl rfl ?_
    refine go_iload c1_188 rfl ?_
    refine go_ialoadH P2 (5) c1_190 rfl (by decide) rfl ?_
    refine go_aload c1_191 rfl rfl ?_
    refine go_iload c1_192 rfl ?_
    refine go_ialoadH P2 (6) c1_194 rfl (by decide) rfl ?_
    refine go_iastoreH P2 3 c1_195 rfl hf.1 hlr ?_
    intro h3 P4
    dsimp only [lupd] at P4
    refine go_iincX (x' := 1) c1_196 rfl (by decide) ?_
    dsimp only [setl]
    refine go_goto c1_199 ?_
    exact Gw hne h3 P4
  · refine go_aload c1_169 rfl rfl ?_
    refine go_get (y := (⟨"com/example/cropped_view/croppedview/Broadcast", "<init>", "([I[II)V"⟩ : MethodName)) P2 (4) 1 c1_170 rfl rfl (t36 hw) ?_
    refine go_aload c1_173 rfl rfl ?_
    refine go_iload c1_174 rfl ?_
    refine go_ialoadH P2 (5) c1_176 rfl (by decide) rfl ?_
    refine go_push c1_177 ?_
    refine go_zastoreH P2 1 c1_178 rfl hf.1 hld ?_
    intro h5 P6
    dsimp only [lupd] at P6
    rw [show nar .boolean 1 = 1 from by decide] at P6
    refine go_push c1_179 ?_
    refine go_istore c1_180 rfl rfl ?_
    dsimp only [setl]
    refine go_goto c1_182 ?_
    refine go_iincX (x' := 1) c1_196 rfl (by decide) ?_
    dsimp only [setl]
    refine go_goto c1_199 ?_
    exact Gm heq h5 P6
set_option maxRecDepth 65536 in
set_option maxHeartbeats 4000000 in
theorem own_turn_2_0 (l : Launch) (Z : State) (a0 : Array Value) (hw : ∀ d ∈ tables_1, d.before a0 Z = true) (h0 : Heap) (n0 : Nat) (M : List (Addr × Desc)) {R : Room} {kc ks k n : Nat} {Q : Option Value → Heap → Prop} (s d g r b fr to : Addr) (vs vd vr : List Value) (nn an f0 v0 f1 v1 : Int32) (hf : own_in f0 nn) (ht : own_to v0 nn) (hvs : vs[f0.toNatClampNeg]? = some (.int 0)) (hld : f0.toNatClampNeg < vd.length) (hlr : f0.toNatClampNeg < vr.length) (P0 : Hp Z n0 h0 ((s, (.inr (.boolean, "[Z", vs))) :: (d, (.inr (.boolean, "[Z", vd))) :: (g, (.inr ((.array .int), "[[I", [(.ref r), (.ref r), (.ref r), (.ref r)]))) :: (r, (.inr (.int, "[I", vr))) :: (b, (.inl ("com/example/cropped_view/croppedview/Broadcast", [(("com/example/cropped_view/croppedview/Broadcast", "m_reactions", "[[I"), (.ref g)), (("com/example/cropped_view/croppedview/Broadcast", "m_deletes", "[Z"), (.ref d)), (("com/example/cropped_view/croppedview/Broadcast", "m_deletesAny", "Z"), (.int 0))]))) :: (fr, (.inr (.int, "[I", [(.int f0), (.int f1)]))) :: (to, (.inr (.int, "[I", [(.int v0), (.int v1)]))) :: M))
    (Gm : v0 = -1 → ∀ h', Hp Z n0 h' ((s, (.inr (.boolean, "[Z", (lupd vs f0.toNatClampNeg (.int 1))))) :: (d, (.inr (.boolean, "[Z", (lupd vd f0.toNatClampNeg (.int 1))))) :: (g, (.inr ((.array .int), "[[I", [(.ref r), (.ref r), (.ref r), (.ref r)]))) :: (r, (.inr (.int, "[I", vr))) :: (b, (.inl ("com/example/cropped_view/croppedview/Broadcast", [(("com/example/cropped_view/croppedview/Broadcast", "m_reactions", "[[I"), (.ref g)), (("com/example/cropped_view/croppedview/Broadcast", "m_deletes", "[Z"), (.ref d)), (("com/example/cropped_view/croppedview/Broadcast", "m_deletesAny", "Z"), (.int 0))]))) :: (fr, (.inr (.int, "[I", [(.int f0), (.int f1)]))) :: (to, (.inr (.int, "[I", [(.int v0), (.int v1)]))) :: M) → Go false (KW Z (⟨"com/example/cropped_view/croppedview/Broadcast", "<init>", "([I[II)V"⟩ : MethodName)) l Z R (⟨"com/example/cropped_view/croppedview/Broadcast", "<init>", "([I[II)V"⟩ : MethodName) prog_7_method_1_code 8 none n0 kc ks Q h' k n 83 [.val (.ref b), .val (.ref fr), .val (.ref to), .val (.int nn), .val (.ref r), .val (.ref s), .val (.int 1), .val (.int 1)] [])
    (Gw : ¬ v0 = -1 → ∀ h', Hp Z n0 h' ((s, (.inr (.boolean, "[Z", (lupd vs f0.toNatClampNeg (.int 1))))) :: (d, (.inr (.boolean, "[Z", vd))) :: (g, (.inr ((.array .int), "[[I", [(.ref r), (.ref r), (.ref r), (.ref r)]))) :: (r, (.inr (.int, "[I", (lupd vr f0.toNatClampNeg (.int v0))))) :: (b, (.inl ("com/example/cropped_view/croppedview/Broadcast", [(("com/example/cropped_view/croppedview/Broadcast", "m_reactions", "[[I"), (.ref g)), (("com/example/cropped_view/croppedview/Broadcast", "m_deletes", "[Z"), (.ref d)), (("com/example/cropped_view/croppedview/Broadcast", "m_deletesAny", "Z"), (.int 0))]))) :: (fr, (.inr (.int, "[I", [(.int f0), (.int f1)]))) :: (to, (.inr (.int, "[I", [(.int v0), (.int v1)]))) :: M) → Go false (KW Z (⟨"com/example/cropped_view/croppedview/Broadcast", "<init>", "([I[II)V"⟩ : MethodName)) l Z R (⟨"com/example/cropped_view/croppedview/Broadcast", "<init>", "([I[II)V"⟩ : MethodName) prog_7_method_1_code 8 none n0 kc ks Q h' k n 83 [.val (.ref b), .val (.ref fr), .val (.ref to), .val (.int nn), .val (.ref r), .val (.ref s), .val (.int an), .val (.int 1)] []) :
    Go false (KW Z (⟨"com/example/cropped_view/croppedview/Broadcast", "<init>", "([I[II)V"⟩ : MethodName)) l Z R (⟨"com/example/cropped_view/croppedview/Broadcast", "<init>", "([I[II)V"⟩ : MethodName) prog_7_method_1_code 8 none n0 kc ks Q h0 k n 83 [.val (.ref b), .val (.ref fr), .val (.ref to), .val (.int nn), .val (.ref r), .val (.ref s), .val (.int an), .val (.int 0)] [] := by
  refine go_iload c1_83 rfl ?_
  refine go_aload c1_85 rfl rfl ?_
  refine go_alen (z := 2) P0 (5) c1_86 rfl rfl ?_
  refine go_icmp_ge c1_87 (fun q => absurd q (by decide)) (fun _ => ?_)
  refine go_aload c1_90 rfl rfl ?_
  refine go_iload c1_91 rfl ?_
  refine go_ialoadH P0 (5) c1_93 rfl (by decide) rfl ?_
  refine go_if_lt c1_94 (fun u => absurd u hf.1) (fun _ => ?_)
  refine go_aload c1_97 rfl rfl ?_
  refine go_iload c1_98 rfl ?_
  refine go_ialoadH P0 (5) c1_100 rfl (by decide) rfl ?_
  refine go_iload c1_101 rfl ?_
  refine go_icmp_ge c1_102 (fun u => absurd hf.2 u) (fun _ => ?_)
  refine go_aload c1_105 rfl rfl ?_
  refine go_iload c1_106 rfl ?_
  refine go_ialoadH P0 (6) c1_108 rfl (by decide) rfl ?_
  refine go_push c1_109 ?_
  refine go_icmp_lt c1_110 (fun u => absurd u ht.1) (fun _ => ?_)
  refine go_aload c1_113 rfl rfl ?_
  refine go_iload c1_114 rfl ?_
  refine go_ialoadH P0 (6) c1_116 rfl (by decide) rfl ?_
  refine go_iload c1_117 rfl ?_
  refine go_icmp_ge c1_118 (fun u => absurd ht.2 u) (fun _ => ?_)
  refine go_aload c1_121 rfl rfl ?_
  refine go_aload c1_123 rfl rfl ?_
  refine go_iload c1_124 rfl ?_
  refine go_ialoadH P0 (5) c1_126 rfl (by decide) rfl ?_
  refine go_zaloadH P0 0 c1_127 rfl hf.1 hvs ?_
  refine go_if_eq c1_128 (fun _ => ?_) (fun q => absurd q (by decide))
  refine go_aload c1_153 rfl rfl ?_
  refine go_aload c1_155 rfl rfl ?_
  refine go_iload c1_156 rfl ?_
  refine go_ialoadH P0 (5) c1_158 rfl (by decide) rfl ?_
  refine go_push c1_159 ?_
  refine go_zastoreH P0 0 c1_160 rfl hf.1 (List.getElem?_eq_some_iff.mp hvs).1 ?_
  intro h1 P2
  dsimp only [lupd] at P2
  rw [show nar .boolean 1 = 1 from by decide] at P2
  refine go_aload c1_161 rfl rfl ?_
  refine go_iload c1_162 rfl ?_
  refine go_ialoadH P2 (6) c1_164 rfl (by decide) rfl ?_
  refine go_push c1_165 ?_
  refine go_icmp_ne c1_166 (fun hne => ?_) (fun heq => ?_)
  · refine go_aload c1_185 rfl rfl ?_
    refine go_aload c1_187 rfl rfl ?_
    refine go_iload c1_188 rfl ?_
    refine go_ialoadH P2 (5) c1_190 rfl (by decide) rfl ?_
    refine go_aload c1_191 rfl rfl ?_
    refine go_iload c1_192 rfl ?_
    refine go_ialoadH P2 (6) c1_194 rfl (by decide) rfl ?_
    refine go_iastoreH P2 3 c1_195 rfl hf.1 hlr ?_
    intro h3 P4
    dsimp only [lupd] at P4
    refine go_iincX (x' := 1) c1_196 rfl (by decide) ?_
    dsimp only [setl]
    refine go_goto c1_199 ?_
    exact Gw hne h3 P4
  · refine go_aload c1_169 rfl rfl ?_
    refine go_get (y := (⟨"com/example/cropped_view/croppedview/Broadcast", "<init>", "([I[II)V"⟩ : MethodName)) P2 (4) 1 c1_170 rfl rfl (t36 hw) ?_
    refine go_aload c1_173 rfl rfl ?_
    refine go_iload c1_174 rfl ?_
    refine go_ialoadH P2 (5) c1_176 rfl (by decide) rfl ?_
    refine go_push c1_177 ?_
    refine go_zastoreH P2 1 c1_178 rfl hf.1 hld ?_
    intro h5 P6
    dsimp only [lupd] at P6
    rw [show nar .boolean 1 = 1 from by decide] at P6
    refine go_push c1_179 ?_
    refine go_istore c1_180 rfl rfl ?_
    dsimp only [setl]
    refine go_goto c1_182 ?_
    refine go_iincX (x' := 1) c1_196 rfl (by decide) ?_
    dsimp only [setl]
    refine go_goto c1_199 ?_
    exact Gm heq h5 P6
set_option maxRecDepth 65536 in
set_option maxHeartbeats 4000000 in
theorem own_turn_2_1 (l : Launch) (Z : State) (a0 : Array Value) (hw : ∀ d ∈ tables_1, d.before a0 Z = true) (h0 : Heap) (n0 : Nat) (M : List (Addr × Desc)) {R : Room} {kc ks k n : Nat} {Q : Option Value → Heap → Prop} (s d g r b fr to : Addr) (vs vd vr : List Value) (nn an f0 v0 f1 v1 : Int32) (hf : own_in f1 nn) (ht : own_to v1 nn) (hvs : vs[f1.toNatClampNeg]? = some (.int 0)) (hld : f1.toNatClampNeg < vd.length) (hlr : f1.toNatClampNeg < vr.length) (P0 : Hp Z n0 h0 ((s, (.inr (.boolean, "[Z", vs))) :: (d, (.inr (.boolean, "[Z", vd))) :: (g, (.inr ((.array .int), "[[I", [(.ref r), (.ref r), (.ref r), (.ref r)]))) :: (r, (.inr (.int, "[I", vr))) :: (b, (.inl ("com/example/cropped_view/croppedview/Broadcast", [(("com/example/cropped_view/croppedview/Broadcast", "m_reactions", "[[I"), (.ref g)), (("com/example/cropped_view/croppedview/Broadcast", "m_deletes", "[Z"), (.ref d)), (("com/example/cropped_view/croppedview/Broadcast", "m_deletesAny", "Z"), (.int 0))]))) :: (fr, (.inr (.int, "[I", [(.int f0), (.int f1)]))) :: (to, (.inr (.int, "[I", [(.int v0), (.int v1)]))) :: M))
    (Gm : v1 = -1 → ∀ h', Hp Z n0 h' ((s, (.inr (.boolean, "[Z", (lupd vs f1.toNatClampNeg (.int 1))))) :: (d, (.inr (.boolean, "[Z", (lupd vd f1.toNatClampNeg (.int 1))))) :: (g, (.inr ((.array .int), "[[I", [(.ref r), (.ref r), (.ref r), (.ref r)]))) :: (r, (.inr (.int, "[I", vr))) :: (b, (.inl ("com/example/cropped_view/croppedview/Broadcast", [(("com/example/cropped_view/croppedview/Broadcast", "m_reactions", "[[I"), (.ref g)), (("com/example/cropped_view/croppedview/Broadcast", "m_deletes", "[Z"), (.ref d)), (("com/example/cropped_view/croppedview/Broadcast", "m_deletesAny", "Z"), (.int 0))]))) :: (fr, (.inr (.int, "[I", [(.int f0), (.int f1)]))) :: (to, (.inr (.int, "[I", [(.int v0), (.int v1)]))) :: M) → Go false (KW Z (⟨"com/example/cropped_view/croppedview/Broadcast", "<init>", "([I[II)V"⟩ : MethodName)) l Z R (⟨"com/example/cropped_view/croppedview/Broadcast", "<init>", "([I[II)V"⟩ : MethodName) prog_7_method_1_code 8 none n0 kc ks Q h' k n 83 [.val (.ref b), .val (.ref fr), .val (.ref to), .val (.int nn), .val (.ref r), .val (.ref s), .val (.int 1), .val (.int 2)] [])
    (Gw : ¬ v1 = -1 → ∀ h', Hp Z n0 h' ((s, (.inr (.boolean, "[Z", (lupd vs f1.toNatClampNeg (.int 1))))) :: (d, (.inr (.boolean, "[Z", vd))) :: (g, (.inr ((.array .int), "[[I", [(.ref r), (.ref r), (.ref r), (.ref r)]))) :: (r, (.inr (.int, "[I", (lupd vr f1.toNatClampNeg (.int v1))))) :: (b, (.inl ("com/example/cropped_view/croppedview/Broadcast", [(("com/example/cropped_view/croppedview/Broadcast", "m_reactions", "[[I"), (.ref g)), (("com/example/cropped_view/croppedview/Broadcast", "m_deletes", "[Z"), (.ref d)), (("com/example/cropped_view/croppedview/Broadcast", "m_deletesAny", "Z"), (.int 0))]))) :: (fr, (.inr (.int, "[I", [(.int f0), (.int f1)]))) :: (to, (.inr (.int, "[I", [(.int v0), (.int v1)]))) :: M) → Go false (KW Z (⟨"com/example/cropped_view/croppedview/Broadcast", "<init>", "([I[II)V"⟩ : MethodName)) l Z R (⟨"com/example/cropped_view/croppedview/Broadcast", "<init>", "([I[II)V"⟩ : MethodName) prog_7_method_1_code 8 none n0 kc ks Q h' k n 83 [.val (.ref b), .val (.ref fr), .val (.ref to), .val (.int nn), .val (.ref r), .val (.ref s), .val (.int an), .val (.int 2)] []) :
    Go false (KW Z (⟨"com/example/cropped_view/croppedview/Broadcast", "<init>", "([I[II)V"⟩ : MethodName)) l Z R (⟨"com/example/cropped_view/croppedview/Broadcast", "<init>", "([I[II)V"⟩ : MethodName) prog_7_method_1_code 8 none n0 kc ks Q h0 k n 83 [.val (.ref b), .val (.ref fr), .val (.ref to), .val (.int nn), .val (.ref r), .val (.ref s), .val (.int an), .val (.int 1)] [] := by
  refine go_iload c1_83 rfl ?_
  refine go_aload c1_85 rfl rfl ?_
  refine go_alen (z := 2) P0 (5) c1_86 rfl rfl ?_
  refine go_icmp_ge c1_87 (fun q => absurd q (by decide)) (fun _ => ?_)
  refine go_aload c1_90 rfl rfl ?_
  refine go_iload c1_91 rfl ?_
  refine go_ialoadH P0 (5) c1_93 rfl (by decide) rfl ?_
  refine go_if_lt c1_94 (fun u => absurd u hf.1) (fun _ => ?_)
  refine go_aload c1_97 rfl rfl ?_
  refine go_iload c1_98 rfl ?_
  refine go_ialoadH P0 (5) c1_100 rfl (by decide) rfl ?_
  refine go_iload c1_101 rfl ?_
  refine go_icmp_ge c1_102 (fun u => absurd hf.2 u) (fun _ => ?_)
  refine go_aload c1_105 rfl rfl ?_
  refine go_iload c1_106 rfl ?_
  refine go_ialoadH P0 (6) c1_108 rfl (by decide) rfl ?_
  refine go_push c1_109 ?_
  refine go_icmp_lt c1_110 (fun u => absurd u ht.1) (fun _ => ?_)
  refine go_aload c1_113 rfl rfl ?_
  refine go_iload c1_114 rfl ?_
  refine go_ialoadH P0 (6) c1_116 rfl (by decide) rfl ?_
  refine go_iload c1_117 rfl ?_
  refine go_icmp_ge c1_118 (fun u => absurd ht.2 u) (fun _ => ?_)
  refine go_aload c1_121 rfl rfl ?_
  refine go_aload c1_123 rfl rfl ?_
  refine go_iload c1_124 rfl ?_
  refine go_ialoadH P0 (5) c1_126 rfl (by decide) rfl ?_
  refine go_zaloadH P0 0 c1_127 rfl hf.1 hvs ?_
  refine go_if_eq c1_128 (fun _ => ?_) (fun q => absurd q (by decide))
  refine go_aload c1_153 rfl rfl ?_
  refine go_aload c1_155 rfl rfl ?_
  refine go_iload c1_156 rfl ?_
  refine go_ialoadH P0 (5) c1_158 rfl (by decide) rfl ?_
  refine go_push c1_159 ?_
  refine go_zastoreH P0 0 c1_160 rfl hf.1 (List.getElem?_eq_some_iff.mp hvs).1 ?_
  intro h1 P2
  dsimp only [lupd] at P2
  rw [show nar .boolean 1 = 1 from by decide] at P2
  refine go_aload c1_161 rfl rfl ?_
  refine go_iload c1_162 rfl ?_
  refine go_ialoadH P2 (6) c1_164 rfl (by decide) rfl ?_
  refine go_push c1_165 ?_
  refine go_icmp_ne c1_166 (fun hne => ?_) (fun heq => ?_)
  · refine go_aload c1_185 rfl rfl ?_
    refine go_aload c1_187 rfl rfl ?_
    refine go_iload c1_188 rfl ?_
    refine go_ialoadH P2 (5) c1_190 rfl (by decide) rfl ?_
    refine go_aload c1_191 rfl rfl ?_
    refine go_iload c1_192 rfl ?_
    refine go_ialoadH P2 (6) c1_194 rfl (by decide) rfl ?_
    refine go_iastoreH P2 3 c1_195 rfl hf.1 hlr ?_
    intro h3 P4
    dsimp only [lupd] at P4
    refine go_iincX (x' := 2) c1_196 rfl (by decide) ?_
    dsimp only [setl]
    refine go_goto c1_199 ?_
    exact Gw hne h3 P4
  · refine go_aload c1_169 rfl rfl ?_
    refine go_get (y := (⟨"com/example/cropped_view/croppedview/Broadcast", "<init>", "([I[II)V"⟩ : MethodName)) P2 (4) 1 c1_170 rfl rfl (t36 hw) ?_
    refine go_aload c1_173 rfl rfl ?_
    refine go_iload c1_174 rfl ?_
    refine go_ialoadH P2 (5) c1_176 rfl (by decide) rfl ?_
    refine go_push c1_177 ?_
    refine go_zastoreH P2 1 c1_178 rfl hf.1 hld ?_
    intro h5 P6
    dsimp only [lupd] at P6
    rw [show nar .boolean 1 = 1 from by decide] at P6
    refine go_push c1_179 ?_
    refine go_istore c1_180 rfl rfl ?_
    dsimp only [setl]
    refine go_goto c1_182 ?_
    refine go_iincX (x' := 2) c1_196 rfl (by decide) ?_
    dsimp only [setl]
    refine go_goto c1_199 ?_
    exact Gm heq h5 P6
set_option maxRecDepth 65536 in
set_option maxHeartbeats 4000000 in
theorem rm_ct_1_1 (l : Launch) (Z : State) (a0 : Array Value) (hw : ∀ d ∈ tables_1, d.before a0 Z = true) (h0 : Heap) (n0 : Nat) (M : List (Addr × Desc)) (b fr to : Addr) (f0 v0 : Int32) (hf0 : own_in f0 1) (ht0 : own_to v0 1) (P0 : Hp Z n0 h0 ((b, (.inl ("com/example/cropped_view/croppedview/Broadcast", [(("com/example/cropped_view/croppedview/Broadcast", "m_reactions", "[[I"), .null), (("com/example/cropped_view/croppedview/Broadcast", "m_deletes", "[Z"), .null), (("com/example/cropped_view/croppedview/Broadcast", "m_deletesAny", "Z"), (.int 0))]))) :: (fr, (.inr (.int, "[I", [(.int f0)]))) :: (to, (.inr (.int, "[I", [(.int v0)]))) :: M)) :
    ConW l Z (⟨"com/example/cropped_view/croppedview/Broadcast", "<init>", "([I[II)V"⟩ : MethodName) prog_7_method_1_code 8 none ({ frames := 3, cells := 4, slots := 7, locals := 3100 } : Room) #[(.ref b), (.ref fr), (.ref to), (.int 1)] h0 n0 (R0 fun h' => ∃ (s d g r : Addr) (vs vd vr : List Value) (an : Int32), Hp Z n0 h' ((s, (.inr (.boolean, "[Z", vs))) :: (d, (.inr (.boolean, "[Z", vd))) :: (g, (.inr ((.array .int), "[[I", [(.ref r), (.ref r), (.ref r), (.ref r)]))) :: (r, (.inr (.int, "[I", vr))) :: (b, (.inl ("com/example/cropped_view/croppedview/Broadcast", [(("com/example/cropped_view/croppedview/Broadcast", "m_reactions", "[[I"), (.ref g)), (("com/example/cropped_view/croppedview/Broadcast", "m_deletes", "[Z"), (.ref d)), (("com/example/cropped_view/croppedview/Broadcast", "m_deletesAny", "Z"), (.int an))]))) :: (fr, (.inr (.int, "[I", [(.int f0)]))) :: (to, (.inr (.int, "[I", [(.int v0)]))) :: M) ∧ own_good 1 vr vd (fun q => own_ex1 q f0 v0)) := by
  refine con_ofW (ls := [.val (.ref b), .val (.ref fr), .val (.ref to), .val (.int 1), .unset, .unset, .unset, .unset]) (plainFor_of_name pn0) rfl ?_
  refine go_aload c1_0 rfl rfl ?_
  refine go_initO (y := (⟨"com/example/cropped_view/croppedview/Broadcast", "<init>", "([I[II)V"⟩ : MethodName)) (W := 0) c1_1 (t8 hw) (t9 hw) (t10 hw) rfl (by decide) rfl (by decide) ?_
  refine go_aload c1_4 rfl rfl ?_
  refine go_alen (z := 1) P0 (1) c1_5 rfl rfl ?_
  refine go_if_eq c1_6 (fun q => absurd q (by decide)) (fun _ => ?_)
  refine go_aload c1_9 rfl rfl ?_
  refine go_alen (z := 1) P0 (2) c1_10 rfl rfl ?_
  refine go_aload c1_11 rfl rfl ?_
  refine go_alen (z := 1) P0 (1) c1_12 rfl rfl ?_
  refine go_icmp_eq c1_13 (fun _ => ?_) (fun q => absurd q (by decide))
  refine go_iload c1_33 rfl ?_
  refine go_newarr (y := (⟨"com/example/cropped_view/croppedview/Broadcast", "<init>", "([I[II)V"⟩ : MethodName)) P0 "[I" [(.int 0)] 1 c1_34 (t1 hw) (by decide) (by decide) (by decide) (by decide) rfl rfl (by decide) (by decide) ?_
  intro h1 a3 P2
  refine go_more (k' := 1) (n' := 1) (by decide) (by decide) ?_
  refine go_astore c1_36 rfl rfl rfl ?_
  dsimp only [setl]
  refine go_aload c1_38 rfl rfl ?_
  refine go_indy (y := (⟨"com/example/cropped_view/croppedview/Broadcast", "<init>", "([I[II)V"⟩ : MethodName)) (W := 1) (σ := own_sig) c1_40 (t11 hw) rfl rfl rfl (by decide) ?_
  intro fo cK hMade hFn
  refine go_callSW0 (y := (⟨"com/example/cropped_view/croppedview/Broadcast", "<init>", "([I[II)V"⟩ : MethodName)) (W := 0) (argsL := [(.ref a3), (.ref fo)]) (st := []) c1_45 (rm_sa_1 l Z a0 hw h1 n0 _ a3 fo cK hMade hFn P2) (t14 hw) (t15 hw) (t16 hw) (t17 hw) (by decide) (lenOf pd2 rfl) rfl rfl (by decide) (by decide) (by decide) (by decide) rfl ?_
  intro h4 P5
  refine go_more (k' := 1) (n' := 1) (by decide) (by decide) ?_
  refine go_aload c1_48 rfl rfl ?_
  refine go_push c1_49 ?_
  refine go_newarrA (y := (⟨"com/example/cropped_view/croppedview/Broadcast", "<init>", "([I[II)V"⟩ : MethodName)) (ty := .int) P5 "[I" "[[I" [.null, .null, .null, .null] 4 c1_50 (by decide) (t27 hw) (t28 hw) (by decide) (by decide) (by decide) (by decide) rfl (by decide) (by decide) ?_
  intro h6 a8 P7
  refine go_more (k' := 2) (n' := 5) (by decide) (by decide) ?_
  refine go_put (y := (⟨"com/example/cropped_view/croppedview/Broadcast", "<init>", "([I[II)V"⟩ : MethodName)) P7 2 0 (.array (.array .int)) c1_53 rfl rfl (t29 hw) (Or.inr ⟨(t30 hw), rfl, rfl⟩) (t3 hw) (by decide) rfl rfl ?_
  intro h9 P10
  dsimp only [lupd] at P10
  refine go_aload c1_56 rfl rfl ?_
  refine go_get (y := (⟨"com/example/cropped_view/croppedview/Broadcast", "<init>", "([I[II)V"⟩ : MethodName)) P10 (2) 0 c1_57 rfl rfl (t29 hw) ?_
  refine go_aload c1_60 rfl rfl ?_
  refine go_callS0 (y := (⟨"com/example/cropped_view/croppedview/Broadcast", "<init>", "([I[II)V"⟩ : MethodName)) (W := 0) (argsL := [(.ref a8), (.ref a3)]) (st := []) c1_62 (rm_fi l Z a0 hw h9 n0 _ a8 a3 _ P10) (t31 hw) (t32 hw) (t16 hw) (t33 hw) (by decide) (lenOf pd3 rfl) rfl rfl (by decide) (by decide) (by decide) (by decide) rfl ?_
  intro h11 P12
  refine go_more (k' := 2) (n' := 5) (by decide) (by decide) ?_
  refine go_aload c1_65 rfl rfl ?_
  refine go_iload c1_66 rfl ?_
  refine go_newarr (y := (⟨"com/example/cropped_view/croppedview/Broadcast", "<init>", "([I[II)V"⟩ : MethodName)) P12 "[Z" [(.int 0)] 1 c1_67 (t35 hw) (by decide) (by decide) (by decide) (by decide) rfl rfl (by decide) (by decide) ?_
  intro h13 a15 P14
  refine go_more (k' := 3) (n' := 6) (by decide) (by decide) ?_
  refine go_put (y := (⟨"com/example/cropped_view/croppedview/Broadcast", "<init>", "([I[II)V"⟩ : MethodName)) P14 3 1 (.array .boolean) c1_69 rfl rfl (t36 hw) (Or.inr ⟨(t37 hw), rfl, rfl⟩) (t3 hw) (by decide) rfl rfl ?_
  intro h16 P17
  dsimp only [lupd] at P17
  refine go_iload c1_72 rfl ?_
  refine go_newarr (y := (⟨"com/example/cropped_view/croppedview/Broadcast", "<init>", "([I[II)V"⟩ : MethodName)) P17 "[Z" [(.int 0)] 1 c1_73 (t35 hw) (by decide) (by decide) (by decide) (by decide) rfl rfl (by decide) (by decide) ?_
  intro h18 a20 P19
  refine go_more (k' := 4) (n' := 7) (by decide) (by decide) ?_
  refine go_astore c1_75 rfl rfl rfl ?_
  dsimp only [setl]
  refine go_push c1_77 ?_
  refine go_istore c1_78 rfl rfl ?_
  dsimp only [setl]
  refine go_push c1_80 ?_
  refine go_istore c1_81 rfl rfl ?_
  dsimp only [setl]
  refine own_turn_1_0 l Z a0 hw h18 n0 M a20 a15 a8 a3 b fr to [(.int 0)] [(.int 0)] [(.int 0)] 1 0 f0 v0 hf0 ht0 (own_f1.2 f0 hf0) (own_lend own_f1 hf0) (own_lenr own_f1 hf0) P19 ?_ ?_
  · intro em0 h21 P22
    refine go_iload c1_83 rfl ?_
    refine go_aload c1_85 rfl rfl ?_
    refine go_alen (z := 1) P22 (5) c1_86 rfl rfl ?_
    refine go_icmp_ge c1_87 (fun _ => ?_) (fun q => absurd q (by decide))
    refine go_aload c1_202 rfl rfl ?_
    refine go_iload c1_203 rfl ?_
    refine go_put (y := (⟨"com/example/cropped_view/croppedview/Broadcast", "<init>", "([I[II)V"⟩ : MethodName)) P22 4 2 .boolean c1_205 rfl rfl (t38 hw) (Or.inr ⟨(t39 hw), rfl, rfl⟩) (t3 hw) (by decide) (by decide) (by decide) ?_
    intro h23 P24
    dsimp only [lupd] at P24
    exact go_ret rfl c1_208 (by decide) (by decide) ⟨rfl, _, _, _, _, _, _, _, _, P24, (own_1m (by decide) hf0 own_f1 em0)⟩
  · intro ew0 h25 P26
    refine go_iload c1_83 rfl ?_
    refine go_aload c1_85 rfl rfl ?_
    refine go_alen (z := 1) P26 (5) c1_86 rfl rfl ?_
    refine go_icmp_ge c1_87 (fun _ => ?_) (fun q => absurd q (by decide))
    refine go_aload c1_202 rfl rfl ?_
    refine go_iload c1_203 rfl ?_
    refine go_put (y := (⟨"com/example/cropped_view/croppedview/Broadcast", "<init>", "([I[II)V"⟩ : MethodName)) P26 4 2 .boolean c1_205 rfl rfl (t38 hw) (Or.inr ⟨(t39 hw), rfl, rfl⟩) (t3 hw) (by decide) (by decide) (by decide) ?_
    intro h27 P28
    dsimp only [lupd] at P28
    exact go_ret rfl c1_208 (by decide) (by decide) ⟨rfl, _, _, _, _, _, _, _, _, P28, (own_1w (by decide) hf0 own_f1)⟩
set_option maxRecDepth 65536 in
set_option maxHeartbeats 4000000 in
theorem rm_ct_2_1 (l : Launch) (Z : State) (a0 : Array Value) (hw : ∀ d ∈ tables_1, d.before a0 Z = true) (h0 : Heap) (n0 : Nat) (M : List (Addr × Desc)) (b fr to : Addr) (f0 v0 : Int32) (hf0 : own_in f0 2) (ht0 : own_to v0 2) (P0 : Hp Z n0 h0 ((b, (.inl ("com/example/cropped_view/croppedview/Broadcast", [(("com/example/cropped_view/croppedview/Broadcast", "m_reactions", "[[I"), .null), (("com/example/cropped_view/croppedview/Broadcast", "m_deletes", "[Z"), .null), (("com/example/cropped_view/croppedview/Broadcast", "m_deletesAny", "Z"), (.int 0))]))) :: (fr, (.inr (.int, "[I", [(.int f0)]))) :: (to, (.inr (.int, "[I", [(.int v0)]))) :: M)) :
    ConW l Z (⟨"com/example/cropped_view/croppedview/Broadcast", "<init>", "([I[II)V"⟩ : MethodName) prog_7_method_1_code 8 none ({ frames := 3, cells := 4, slots := 10, locals := 3100 } : Room) #[(.ref b), (.ref fr), (.ref to), (.int 2)] h0 n0 (R0 fun h' => ∃ (s d g r : Addr) (vs vd vr : List Value) (an : Int32), Hp Z n0 h' ((s, (.inr (.boolean, "[Z", vs))) :: (d, (.inr (.boolean, "[Z", vd))) :: (g, (.inr ((.array .int), "[[I", [(.ref r), (.ref r), (.ref r), (.ref r)]))) :: (r, (.inr (.int, "[I", vr))) :: (b, (.inl ("com/example/cropped_view/croppedview/Broadcast", [(("com/example/cropped_view/croppedview/Broadcast", "m_reactions", "[[I"), (.ref g)), (("com/example/cropped_view/croppedview/Broadcast", "m_deletes", "[Z"), (.ref d)), (("com/example/cropped_view/croppedview/Broadcast", "m_deletesAny", "Z"), (.int an))]))) :: (fr, (.inr (.int, "[I", [(.int f0)]))) :: (to, (.inr (.int, "[I", [(.int v0)]))) :: M) ∧ own_good 2 vr vd (fun q => own_ex1 q f0 v0)) := by
  refine con_ofW (ls := [.val (.ref b), .val (.ref fr), .val (.ref to), .val (.int 2), .unset, .unset, .unset, .unset]) (plainFor_of_name pn0) rfl ?_
  refine go_aload c1_0 rfl rfl ?_
  refine go_initO (y := (⟨"com/example/cropped_view/croppedview/Broadcast", "<init>", "([I[II)V"⟩ : MethodName)) (W := 0) c1_1 (t8 hw) (t9 hw) (t10 hw) rfl (by decide) rfl (by decide) ?_
  refine go_aload c1_4 rfl rfl ?_
  refine go_alen (z := 1) P0 (1) c1_5 rfl rfl ?_
  refine go_if_eq c1_6 (fun q => absurd q (by decide)) (fun _ => ?_)
  refine go_aload c1_9 rfl rfl ?_
  refine go_alen (z := 1) P0 (2) c1_10 rfl rfl ?_
  refine go_aload c1_11 rfl rfl ?_
  refine go_alen (z := 1) P0 (1) c1_12 rfl rfl ?_
  refine go_icmp_eq c1_13 (fun _ => ?_) (fun q => absurd q (by decide))
  refine go_iload c1_33 rfl ?_
  refine go_newarr (y := (⟨"com/example/cropped_view/croppedview/Broadcast", "<init>", "([I[II)V"⟩ : MethodName)) P0 "[I" [(.int 0), (.int 0)] 2 c1_34 (t1 hw) (by decide) (by decide) (by decide) (by decide) rfl rfl (by decide) (by decide) ?_
  intro h1 a3 P2
  refine go_more (k' := 1) (n' := 2) (by decide) (by decide) ?_
  refine go_astore c1_36 rfl rfl rfl ?_
  dsimp only [setl]
  refine go_aload c1_38 rfl rfl ?_
  refine go_indy (y := (⟨"com/example/cropped_view/croppedview/Broadcast", "<init>", "([I[II)V"⟩ : MethodName)) (W := 1) (σ := own_sig) c1_40 (t11 hw) rfl rfl rfl (by decide) ?_
  intro fo cK hMade hFn
  refine go_callSW0 (y := (⟨"com/example/cropped_view/croppedview/Broadcast", "<init>", "([I[II)V"⟩ : MethodName)) (W := 0) (argsL := [(.ref a3), (.ref fo)]) (st := []) c1_45 (rm_sa_2 l Z a0 hw h1 n0 _ a3 fo cK hMade hFn P2) (t14 hw) (t15 hw) (t16 hw) (t17 hw) (by decide) (lenOf pd2 rfl) rfl rfl (by decide) (by decide) (by decide) (by decide) rfl ?_
  intro h4 P5
  refine go_more (k' := 1) (n' := 2) (by decide) (by decide) ?_
  refine go_aload c1_48 rfl rfl ?_
  refine go_push c1_49 ?_
  refine go_newarrA (y := (⟨"com/example/cropped_view/croppedview/Broadcast", "<init>", "([I[II)V"⟩ : MethodName)) (ty := .int) P5 "[I" "[[I" [.null, .null, .null, .null] 4 c1_50 (by decide) (t27 hw) (t28 hw) (by decide) (by decide) (by decide) (by decide) rfl (by decide) (by decide) ?_
  intro h6 a8 P7
  refine go_more (k' := 2) (n' := 6) (by decide) (by decide) ?_
  refine go_put (y := (⟨"com/example/cropped_view/croppedview/Broadcast", "<init>", "([I[II)V"⟩ : MethodName)) P7 2 0 (.array (.array .int)) c1_53 rfl rfl (t29 hw) (Or.inr ⟨(t30 hw), rfl, rfl⟩) (t3 hw) (by decide) rfl rfl ?_
  intro h9 P10
  dsimp only [lupd] at P10
  refine go_aload c1_56 rfl rfl ?_
  refine go_get (y := (⟨"com/example/cropped_view/croppedview/Broadcast", "<init>", "([I[II)V"⟩ : MethodName)) P10 (2) 0 c1_57 rfl rfl (t29 hw) ?_
  refine go_aload c1_60 rfl rfl ?_
  refine go_callS0 (y := (⟨"com/example/cropped_view/croppedview/Broadcast", "<init>", "([I[II)V"⟩ : MethodName)) (W := 0) (argsL := [(.ref a8), (.ref a3)]) (st := []) c1_62 (rm_fi l Z a0 hw h9 n0 _ a8 a3 _ P10) (t31 hw) (t32 hw) (t16 hw) (t33 hw) (by decide) (lenOf pd3 rfl) rfl rfl (by decide) (by decide) (by decide) (by decide) rfl ?_
  intro h11 P12
  refine go_more (k' := 2) (n' := 6) (by decide) (by decide) ?_
  refine go_aload c1_65 rfl rfl ?_
  refine go_iload c1_66 rfl ?_
  refine go_newarr (y := (⟨"com/example/cropped_view/croppedview/Broadcast", "<init>", "([I[II)V"⟩ : MethodName)) P12 "[Z" [(.int 0), (.int 0)] 2 c1_67 (t35 hw) (by decide) (by decide) (by decide) (by decide) rfl rfl (by decide) (by decide) ?_
  intro h13 a15 P14
  refine go_more (k' := 3) (n' := 8) (by decide) (by decide) ?_
  refine go_put (y := (⟨"com/example/cropped_view/croppedview/Broadcast", "<init>", "([I[II)V"⟩ : MethodName)) P14 3 1 (.array .boolean) c1_69 rfl rfl (t36 hw) (Or.inr ⟨(t37 hw), rfl, rfl⟩) (t3 hw) (by decide) rfl rfl ?_
  intro h16 P17
  dsimp only [lupd] at P17
  refine go_iload c1_72 rfl ?_
  refine go_newarr (y := (⟨"com/example/cropped_view/croppedview/Broadcast", "<init>", "([I[II)V"⟩ : MethodName)) P17 "[Z" [(.int 0), (.int 0)] 2 c1_73 (t35 hw) (by decide) (by decide) (by decide) (by decide) rfl rfl (by decide) (by decide) ?_
  intro h18 a20 P19
  refine go_more (k' := 4) (n' := 10) (by decide) (by decide) ?_
  refine go_astore c1_75 rfl rfl rfl ?_
  dsimp only [setl]
  refine go_push c1_77 ?_
  refine go_istore c1_78 rfl rfl ?_
  dsimp only [setl]
  refine go_push c1_80 ?_
  refine go_istore c1_81 rfl rfl ?_
  dsimp only [setl]
  refine own_turn_1_0 l Z a0 hw h18 n0 M a20 a15 a8 a3 b fr to [(.int 0), (.int 0)] [(.int 0), (.int 0)] [(.int 0), (.int 1)] 2 0 f0 v0 hf0 ht0 (own_f2.2 f0 hf0) (own_lend own_f2 hf0) (own_lenr own_f2 hf0) P19 ?_ ?_
  · intro em0 h21 P22
    refine go_iload c1_83 rfl ?_
    refine go_aload c1_85 rfl rfl ?_
    refine go_alen (z := 1) P22 (5) c1_86 rfl rfl ?_
    refine go_icmp_ge c1_87 (fun _ => ?_) (fun q => absurd q (by decide))
    refine go_aload c1_202 rfl rfl ?_
    refine go_iload c1_203 rfl ?_
    refine go_put (y := (⟨"com/example/cropped_view/croppedview/Broadcast", "<init>", "([I[II)V"⟩ : MethodName)) P22 4 2 .boolean c1_205 rfl rfl (t38 hw) (Or.inr ⟨(t39 hw), rfl, rfl⟩) (t3 hw) (by decide) (by decide) (by decide) ?_
    intro h23 P24
    dsimp only [lupd] at P24
    exact go_ret rfl c1_208 (by decide) (by decide) ⟨rfl, _, _, _, _, _, _, _, _, P24, (own_1m (by decide) hf0 own_f2 em0)⟩
  · intro ew0 h25 P26
    refine go_iload c1_83 rfl ?_
    refine go_aload c1_85 rfl rfl ?_
    refine go_alen (z := 1) P26 (5) c1_86 rfl rfl ?_
    refine go_icmp_ge c1_87 (fun _ => ?_) (fun q => absurd q (by decide))
    refine go_aload c1_202 rfl rfl ?_
    refine go_iload c1_203 rfl ?_
    refine go_put (y := (⟨"com/example/cropped_view/croppedview/Broadcast", "<init>", "([I[II)V"⟩ : MethodName)) P26 4 2 .boolean c1_205 rfl rfl (t38 hw) (Or.inr ⟨(t39 hw), rfl, rfl⟩) (t3 hw) (by decide) (by decide) (by decide) ?_
    intro h27 P28
    dsimp only [lupd] at P28
    exact go_ret rfl c1_208 (by decide) (by decide) ⟨rfl, _, _, _, _, _, _, _, _, P28, (own_1w (by decide) hf0 own_f2)⟩
set_option maxRecDepth 65536 in
set_option maxHeartbeats 4000000 in
theorem rm_ct_2_2 (l : Launch) (Z : State) (a0 : Array Value) (hw : ∀ d ∈ tables_1, d.before a0 Z = true) (h0 : Heap) (n0 : Nat) (M : List (Addr × Desc)) (b fr to : Addr) (f0 v0 f1 v1 : Int32) (hf0 : own_in f0 2) (ht0 : own_to v0 2) (hf1 : own_in f1 2) (ht1 : own_to v1 2) (hne01 : f1 ≠ f0) (P0 : Hp Z n0 h0 ((b, (.inl ("com/example/cropped_view/croppedview/Broadcast", [(("com/example/cropped_view/croppedview/Broadcast", "m_reactions", "[[I"), .null), (("com/example/cropped_view/croppedview/Broadcast", "m_deletes", "[Z"), .null), (("com/example/cropped_view/croppedview/Broadcast", "m_deletesAny", "Z"), (.int 0))]))) :: (fr, (.inr (.int, "[I", [(.int f0), (.int f1)]))) :: (to, (.inr (.int, "[I", [(.int v0), (.int v1)]))) :: M)) :
    ConW l Z (⟨"com/example/cropped_view/croppedview/Broadcast", "<init>", "([I[II)V"⟩ : MethodName) prog_7_method_1_code 8 none ({ frames := 3, cells := 4, slots := 10, locals := 3100 } : Room) #[(.ref b), (.ref fr), (.ref to), (.int 2)] h0 n0 (R0 fun h' => ∃ (s d g r : Addr) (vs vd vr : List Value) (an : Int32), Hp Z n0 h' ((s, (.inr (.boolean, "[Z", vs))) :: (d, (.inr (.boolean, "[Z", vd))) :: (g, (.inr ((.array .int), "[[I", [(.ref r), (.ref r), (.ref r), (.ref r)]))) :: (r, (.inr (.int, "[I", vr))) :: (b, (.inl ("com/example/cropped_view/croppedview/Broadcast", [(("com/example/cropped_view/croppedview/Broadcast", "m_reactions", "[[I"), (.ref g)), (("com/example/cropped_view/croppedview/Broadcast", "m_deletes", "[Z"), (.ref d)), (("com/example/cropped_view/croppedview/Broadcast", "m_deletesAny", "Z"), (.int an))]))) :: (fr, (.inr (.int, "[I", [(.int f0), (.int f1)]))) :: (to, (.inr (.int, "[I", [(.int v0), (.int v1)]))) :: M) ∧ own_good 2 vr vd (fun q => own_ex2 q f0 v0 f1 v1)) := by
  refine con_ofW (ls := [.val (.ref b), .val (.ref fr), .val (.ref to), .val (.int 2), .unset, .unset, .unset, .unset]) (plainFor_of_name pn0) rfl ?_
  refine go_aload c1_0 rfl rfl ?_
  refine go_initO (y := (⟨"com/example/cropped_view/croppedview/Broadcast", "<init>", "([I[II)V"⟩ : MethodName)) (W := 0) c1_1 (t8 hw) (t9 hw) (t10 hw) rfl (by decide) rfl (by decide) ?_
  refine go_aload c1_4 rfl rfl ?_
  refine go_alen (z := 2) P0 (1) c1_5 rfl rfl ?_
  refine go_if_eq c1_6 (fun q => absurd q (by decide)) (fun _ => ?_)
  refine go_aload c1_9 rfl rfl ?_
  refine go_alen (z := 2) P0 (2) c1_10 rfl rfl ?_
  refine go_aload c1_11 rfl rfl ?_
  refine go_alen (z := 2) P0 (1) c1_12 rfl rfl ?_
  refine go_icmp_eq c1_13 (fun _ => ?_) (fun q => absurd q (by decide))
  refine go_iload c1_33 rfl ?_
  refine go_newarr (y := (⟨"com/example/cropped_view/croppedview/Broadcast", "<init>", "([I[II)V"⟩ : MethodName)) P0 "[I" [(.int 0), (.int 0)] 2 c1_34 (t1 hw) (by decide) (by decide) (by decide) (by decide) rfl rfl (by decide) (by decide) ?_
  intro h1 a3 P2
  refine go_more (k' := 1) (n' := 2) (by decide) (by decide) ?_
  refine go_astore c1_36 rfl rfl rfl ?_
  dsimp only [setl]
  refine go_aload c1_38 rfl rfl ?_
  refine go_indy (y := (⟨"com/example/cropped_view/croppedview/Broadcast", "<init>", "([I[II)V"⟩ : MethodName)) (W := 1) (σ := own_sig) c1_40 (t11 hw) rfl rfl rfl (by decide) ?_
  intro fo cK hMade hFn
  refine go_callSW0 (y := (⟨"com/example/cropped_view/croppedview/Broadcast", "<init>", "([I[II)V"⟩ : MethodName)) (W := 0) (argsL := [(.ref a3), (.ref fo)]) (st := []) c1_45 (rm_sa_2 l Z a0 hw h1 n0 _ a3 fo cK hMade hFn P2) (t14 hw) (t15 hw) (t16 hw) (t17 hw) (by decide) (lenOf pd2 rfl) rfl rfl (by decide) (by decide) (by decide) (by decide) rfl ?_
  intro h4 P5
  refine go_more (k' := 1) (n' := 2) (by decide) (by decide) ?_
  refine go_aload c1_48 rfl rfl ?_
  refine go_push c1_49 ?_
  refine go_newarrA (y := (⟨"com/example/cropped_view/croppedview/Broadcast", "<init>", "([I[II)V"⟩ : MethodName)) (ty := .int) P5 "[I" "[[I" [.null, .null, .null, .null] 4 c1_50 (by decide) (t27 hw) (t28 hw) (by decide) (by decide) (by decide) (by decide) rfl (by decide) (by decide) ?_
  intro h6 a8 P7
  refine go_more (k' := 2) (n' := 6) (by decide) (by decide) ?_
  refine go_put (y := (⟨"com/example/cropped_view/croppedview/Broadcast", "<init>", "([I[II)V"⟩ : MethodName)) P7 2 0 (.array (.array .int)) c1_53 rfl rfl (t29 hw) (Or.inr ⟨(t30 hw), rfl, rfl⟩) (t3 hw) (by decide) rfl rfl ?_
  intro h9 P10
  dsimp only [lupd] at P10
  refine go_aload c1_56 rfl rfl ?_
  refine go_get (y := (⟨"com/example/cropped_view/croppedview/Broadcast", "<init>", "([I[II)V"⟩ : MethodName)) P10 (2) 0 c1_57 rfl rfl (t29 hw) ?_
  refine go_aload c1_60 rfl rfl ?_
  refine go_callS0 (y := (⟨"com/example/cropped_view/croppedview/Broadcast", "<init>", "([I[II)V"⟩ : MethodName)) (W := 0) (argsL := [(.ref a8), (.ref a3)]) (st := []) c1_62 (rm_fi l Z a0 hw h9 n0 _ a8 a3 _ P10) (t31 hw) (t32 hw) (t16 hw) (t33 hw) (by decide) (lenOf pd3 rfl) rfl rfl (by decide) (by decide) (by decide) (by decide) rfl ?_
  intro h11 P12
  refine go_more (k' := 2) (n' := 6) (by decide) (by decide) ?_
  refine go_aload c1_65 rfl rfl ?_
  refine go_iload c1_66 rfl ?_
  refine go_newarr (y := (⟨"com/example/cropped_view/croppedview/Broadcast", "<init>", "([I[II)V"⟩ : MethodName)) P12 "[Z" [(.int 0), (.int 0)] 2 c1_67 (t35 hw) (by decide) (by decide) (by decide) (by decide) rfl rfl (by decide) (by decide) ?_
  intro h13 a15 P14
  refine go_more (k' := 3) (n' := 8) (by decide) (by decide) ?_
  refine go_put (y := (⟨"com/example/cropped_view/croppedview/Broadcast", "<init>", "([I[II)V"⟩ : MethodName)) P14 3 1 (.array .boolean) c1_69 rfl rfl (t36 hw) (Or.inr ⟨(t37 hw), rfl, rfl⟩) (t3 hw) (by decide) rfl rfl ?_
  intro h16 P17
  dsimp only [lupd] at P17
  refine go_iload c1_72 rfl ?_
  refine go_newarr (y := (⟨"com/example/cropped_view/croppedview/Broadcast", "<init>", "([I[II)V"⟩ : MethodName)) P17 "[Z" [(.int 0), (.int 0)] 2 c1_73 (t35 hw) (by decide) (by decide) (by decide) (by decide) rfl rfl (by decide) (by decide) ?_
  intro h18 a20 P19
  refine go_more (k' := 4) (n' := 10) (by decide) (by decide) ?_
  refine go_astore c1_75 rfl rfl rfl ?_
  dsimp only [setl]
  refine go_push c1_77 ?_
  refine go_istore c1_78 rfl rfl ?_
  dsimp only [setl]
  refine go_push c1_80 ?_
  refine go_istore c1_81 rfl rfl ?_
  dsimp only [setl]
  refine own_turn_2_0 l Z a0 hw h18 n0 M a20 a15 a8 a3 b fr to [(.int 0), (.int 0)] [(.int 0), (.int 0)] [(.int 0), (.int 1)] 2 0 f0 v0 f1 v1 hf0 ht0 (own_f2.2 f0 hf0) (own_lend own_f2 hf0) (own_lenr own_f2 hf0) P19 ?_ ?_
  · intro em0 h21 P22
    refine own_turn_2_1 l Z a0 hw h21 n0 M a20 a15 a8 a3 b fr to (lupd [(.int 0), (.int 0)] f0.toNatClampNeg (.int 1)) (lupd [(.int 0), (.int 0)] f0.toNatClampNeg (.int 1)) [(.int 0), (.int 1)] 2 1 f0 v0 f1 v1 hf1 ht1 (own_left (x := .int 1) (by decide) hf0 hf1 hne01 own_f2).2.2.1 (own_lt (own_lend own_f2 hf1)) (own_lenr own_f2 hf1) P22 ?_ ?_
    · intro em1 h23 P24
      refine go_iload c1_83 rfl ?_
      refine go_aload c1_85 rfl rfl ?_
      refine go_alen (z := 2) P24 (5) c1_86 rfl rfl ?_
      refine go_icmp_ge c1_87 (fun _ => ?_) (fun q => absurd q (by decide))
      refine go_aload c1_202 rfl rfl ?_
      refine go_iload c1_203 rfl ?_
      refine go_put (y := (⟨"com/example/cropped_view/croppedview/Broadcast", "<init>", "([I[II)V"⟩ : MethodName)) P24 4 2 .boolean c1_205 rfl rfl (t38 hw) (Or.inr ⟨(t39 hw), rfl, rfl⟩) (t3 hw) (by decide) (by decide) (by decide) ?_
      intro h25 P26
      dsimp only [lupd] at P26
      exact go_ret rfl c1_208 (by decide) (by decide) ⟨rfl, _, _, _, _, _, _, _, _, P26, (own_2 (t1 := v1) (by decide) hf0 hf1 hne01 (own_1m (by decide) hf0 own_f2 em0) (own_left (x := .int 1) (by decide) hf0 hf1 hne01 own_f2).2.1 (own_left (x := .int 1) (by decide) hf0 hf1 hne01 own_f2).2.2.1).1 em1⟩
    · intro ew1 h27 P28
      refine go_iload c1_83 rfl ?_
      refine go_aload c1_85 rfl rfl ?_
      refine go_alen (z := 2) P28 (5) c1_86 rfl rfl ?_
      refine go_icmp_ge c1_87 (fun _ => ?_) (fun q => absurd q (by decide))
      refine go_aload c1_202 rfl rfl ?_
      refine go_iload c1_203 rfl ?_
      refine go_put (y := (⟨"com/example/cropped_view/croppedview/Broadcast", "<init>", "([I[II)V"⟩ : MethodName)) P28 4 2 .boolean c1_205 rfl rfl (t38 hw) (Or.inr ⟨(t39 hw), rfl, rfl⟩) (t3 hw) (by decide) (by decide) (by decide) ?_
      intro h29 P30
      dsimp only [lupd] at P30
      exact go_ret rfl c1_208 (by decide) (by decide) ⟨rfl, _, _, _, _, _, _, _, _, P30, (own_2 (t1 := v1) (by decide) hf0 hf1 hne01 (own_1m (by decide) hf0 own_f2 em0) (own_left (x := .int 1) (by decide) hf0 hf1 hne01 own_f2).2.1 (own_left (x := .int 1) (by decide) hf0 hf1 hne01 own_f2).2.2.1).2⟩
  · intro ew0 h31 P32
    refine own_turn_2_1 l Z a0 hw h31 n0 M a20 a15 a8 a3 b fr to (lupd [(.int 0), (.int 0)] f0.toNatClampNeg (.int 1)) [(.int 0), (.int 0)] (lupd [(.int 0), (.int 1)] f0.toNatClampNeg (.int v0)) 2 0 f0 v0 f1 v1 hf1 ht1 (own_left (x := .int 1) (by decide) hf0 hf1 hne01 own_f2).2.2.1 (own_lend own_f2 hf1) (own_lt (own_lenr own_f2 hf1)) P32 ?_ ?_
    · intro em1 h33 P34
      refine go_iload c1_83 rfl ?_
      refine go_aload c1_85 rfl rfl ?_
      refine go_alen (z := 2) P34 (5) c1_86 rfl rfl ?_
      refine go_icmp_ge c1_87 (fun _ => ?_) (fun q => absurd q (by decide))
      refine go_aload c1_202 rfl rfl ?_
      refine go_iload c1_203 rfl ?_
      refine go_put (y := (⟨"com/example/cropped_view/croppedview/Broadcast", "<init>", "([I[II)V"⟩ : MethodName)) P34 4 2 .boolean c1_205 rfl rfl (t38 hw) (Or.inr ⟨(t39 hw), rfl, rfl⟩) (t3 hw) (by decide) (by decide) (by decide) ?_
      intro h35 P36
      dsimp only [lupd] at P36
      exact go_ret rfl c1_208 (by decide) (by decide) ⟨rfl, _, _, _, _, _, _, _, _, P36, (own_2 (t1 := v1) (by decide) hf0 hf1 hne01 (own_1w (by decide) hf0 own_f2) (own_left (x := .int v0) (by decide) hf0 hf1 hne01 own_f2).1 (own_left (x := .int v0) (by decide) hf0 hf1 hne01 own_f2).2.2.2).1 em1⟩
    · intro ew1 h37 P38
      refine go_iload c1_83 rfl ?_
      refine go_aload c1_85 rfl rfl ?_
      refine go_alen (z := 2) P38 (5) c1_86 rfl rfl ?_
      refine go_icmp_ge c1_87 (fun _ => ?_) (fun q => absurd q (by decide))
      refine go_aload c1_202 rfl rfl ?_
      refine go_iload c1_203 rfl ?_
      refine go_put (y := (⟨"com/example/cropped_view/croppedview/Broadcast", "<init>", "([I[II)V"⟩ : MethodName)) P38 4 2 .boolean c1_205 rfl rfl (t38 hw) (Or.inr ⟨(t39 hw), rfl, rfl⟩) (t3 hw) (by decide) (by decide) (by decide) ?_
      intro h39 P40
      dsimp only [lupd] at P40
      exact go_ret rfl c1_208 (by decide) (by decide) ⟨rfl, _, _, _, _, _, _, _, _, P40, (own_2 (t1 := v1) (by decide) hf0 hf1 hne01 (own_1w (by decide) hf0 own_f2) (own_left (x := .int v0) (by decide) hf0 hf1 hne01 own_f2).1 (own_left (x := .int v0) (by decide) hf0 hf1 hne01 own_f2).2.2.2).2⟩
set_option maxRecDepth 65536 in
set_option maxHeartbeats 4000000 in
theorem rm_ct_3_1 (l : Launch) (Z : State) (a0 : Array Value) (hw : ∀ d ∈ tables_1, d.before a0 Z = true) (h0 : Heap) (n0 : Nat) (M : List (Addr × Desc)) (b fr to : Addr) (f0 v0 : Int32) (hf0 : own_in f0 3) (ht0 : own_to v0 3) (P0 : Hp Z n0 h0 ((b, (.inl ("com/example/cropped_view/croppedview/Broadcast", [(("com/example/cropped_view/croppedview/Broadcast", "m_reactions", "[[I"), .null), (("com/example/cropped_view/croppedview/Broadcast", "m_deletes", "[Z"), .null), (("com/example/cropped_view/croppedview/Broadcast", "m_deletesAny", "Z"), (.int 0))]))) :: (fr, (.inr (.int, "[I", [(.int f0)]))) :: (to, (.inr (.int, "[I", [(.int v0)]))) :: M)) :
    ConW l Z (⟨"com/example/cropped_view/croppedview/Broadcast", "<init>", "([I[II)V"⟩ : MethodName) prog_7_method_1_code 8 none ({ frames := 3, cells := 4, slots := 13, locals := 3100 } : Room) #[(.ref b), (.ref fr), (.ref to), (.int 3)] h0 n0 (R0 fun h' => ∃ (s d g r : Addr) (vs vd vr : List Value) (an : Int32), Hp Z n0 h' ((s, (.inr (.boolean, "[Z", vs))) :: (d, (.inr (.boolean, "[Z", vd))) :: (g, (.inr ((.array .int), "[[I", [(.ref r), (.ref r), (.ref r), (.ref r)]))) :: (r, (.inr (.int, "[I", vr))) :: (b, (.inl ("com/example/cropped_view/croppedview/Broadcast", [(("com/example/cropped_view/croppedview/Broadcast", "m_reactions", "[[I"), (.ref g)), (("com/example/cropped_view/croppedview/Broadcast", "m_deletes", "[Z"), (.ref d)), (("com/example/cropped_view/croppedview/Broadcast", "m_deletesAny", "Z"), (.int an))]))) :: (fr, (.inr (.int, "[I", [(.int f0)]))) :: (to, (.inr (.int, "[I", [(.int v0)]))) :: M) ∧ own_good 3 vr vd (fun q => own_ex1 q f0 v0)) := by
  refine con_ofW (ls := [.val (.ref b), .val (.ref fr), .val (.ref to), .val (.int 3), .unset, .unset, .unset, .unset]) (plainFor_of_name pn0) rfl ?_
  refine go_aload c1_0 rfl rfl ?_
  refine go_initO (y := (⟨"com/example/cropped_view/croppedview/Broadcast", "<init>", "([I[II)V"⟩ : MethodName)) (W := 0) c1_1 (t8 hw) (t9 hw) (t10 hw) rfl (by decide) rfl (by decide) ?_
  refine go_aload c1_4 rfl rfl ?_
  refine go_alen (z := 1) P0 (1) c1_5 rfl rfl ?_
  refine go_if_eq c1_6 (fun q => absurd q (by decide)) (fun _ => ?_)
  refine go_aload c1_9 rfl rfl ?_
  refine go_alen (z := 1) P0 (2) c1_10 rfl rfl ?_
  refine go_aload c1_11 rfl rfl ?_
  refine go_alen (z := 1) P0 (1) c1_12 rfl rfl ?_
  refine go_icmp_eq c1_13 (fun _ => ?_) (fun q => absurd q (by decide))
  refine go_iload c1_33 rfl ?_
  refine go_newarr (y := (⟨"com/example/cropped_view/croppedview/Broadcast", "<init>", "([I[II)V"⟩ : MethodName)) P0 "[I" [(.int 0), (.int 0), (.int 0)] 3 c1_34 (t1 hw) (by decide) (by decide) (by decide) (by decide) rfl rfl (by decide) (by decide) ?_
  intro h1 a3 P2
  refine go_more (k' := 1) (n' := 3) (by decide) (by decide) ?_
  refine go_astore c1_36 rfl rfl rfl ?_
  dsimp only [setl]
  refine go_aload c1_38 rfl rfl ?_
  refine go_indy (y := (⟨"com/example/cropped_view/croppedview/Broadcast", "<init>", "([I[II)V"⟩ : MethodName)) (W := 1) (σ := own_sig) c1_40 (t11 hw) rfl rfl rfl (by decide) ?_
  intro fo cK hMade hFn
  refine go_callSW0 (y := (⟨"com/example/cropped_view/croppedview/Broadcast", "<init>", "([I[II)V"⟩ : MethodName)) (W := 0) (argsL := [(.ref a3), (.ref fo)]) (st := []) c1_45 (rm_sa_3 l Z a0 hw h1 n0 _ a3 fo cK hMade hFn P2) (t14 hw) (t15 hw) (t16 hw) (t17 hw) (by decide) (lenOf pd2 rfl) rfl rfl (by decide) (by decide) (by decide) (by decide) rfl ?_
  intro h4 P5
  refine go_more (k' := 1) (n' := 3) (by decide) (by decide) ?_
  refine go_aload c1_48 rfl rfl ?_
  refine go_push c1_49 ?_
  refine go_newarrA (y := (⟨"com/example/cropped_view/croppedview/Broadcast", "<init>", "([I[II)V"⟩ : MethodName)) (ty := .int) P5 "[I" "[[I" [.null, .null, .null, .null] 4 c1_50 (by decide) (t27 hw) (t28 hw) (by decide) (by decide) (by decide) (by decide) rfl (by decide) (by decide) ?_
  intro h6 a8 P7
  refine go_more (k' := 2) (n' := 7) (by decide) (by decide) ?_
  refine go_put (y := (⟨"com/example/cropped_view/croppedview/Broadcast", "<init>", "([I[II)V"⟩ : MethodName)) P7 2 0 (.array (.array .int)) c1_53 rfl rfl (t29 hw) (Or.inr ⟨(t30 hw), rfl, rfl⟩) (t3 hw) (by decide) rfl rfl ?_
  intro h9 P10
  dsimp only [lupd] at P10
  refine go_aload c1_56 rfl rfl ?_
  refine go_get (y := (⟨"com/example/cropped_view/croppedview/Broadcast", "<init>", "([I[II)V"⟩ : MethodName)) P10 (2) 0 c1_57 rfl rfl (t29 hw) ?_
  refine go_aload c1_60 rfl rfl ?_
  refine go_callS0 (y := (⟨"com/example/cropped_view/croppedview/Broadcast", "<init>", "([I[II)V"⟩ : MethodName)) (W := 0) (argsL := [(.ref a8), (.ref a3)]) (st := []) c1_62 (rm_fi l Z a0 hw h9 n0 _ a8 a3 _ P10) (t31 hw) (t32 hw) (t16 hw) (t33 hw) (by decide) (lenOf pd3 rfl) rfl rfl (by decide) (by decide) (by decide) (by decide) rfl ?_
  intro h11 P12
  refine go_more (k' := 2) (n' := 7) (by decide) (by decide) ?_
  refine go_aload c1_65 rfl rfl ?_
  refine go_iload c1_66 rfl ?_
  refine go_newarr (y := (⟨"com/example/cropped_view/croppedview/Broadcast", "<init>", "([I[II)V"⟩ : MethodName)) P12 "[Z" [(.int 0), (.int 0), (.int 0)] 3 c1_67 (t35 hw) (by decide) (by decide) (by decide) (by decide) rfl rfl (by decide) (by decide) ?_
  intro h13 a15 P14
  refine go_more (k' := 3) (n' := 10) (by decide) (by decide) ?_
  refine go_put (y := (⟨"com/example/cropped_view/croppedview/Broadcast", "<init>", "([I[II)V"⟩ : MethodName)) P14 3 1 (.array .boolean) c1_69 rfl rfl (t36 hw) (Or.inr ⟨(t37 hw), rfl, rfl⟩) (t3 hw) (by decide) rfl rfl ?_
  intro h16 P17
  dsimp only [lupd] at P17
  refine go_iload c1_72 rfl ?_
  refine go_newarr (y := (⟨"com/example/cropped_view/croppedview/Broadcast", "<init>", "([I[II)V"⟩ : MethodName)) P17 "[Z" [(.int 0), (.int 0), (.int 0)] 3 c1_73 (t35 hw) (by decide) (by decide) (by decide) (by decide) rfl rfl (by decide) (by decide) ?_
  intro h18 a20 P19
  refine go_more (k' := 4) (n' := 13) (by decide) (by decide) ?_
  refine go_astore c1_75 rfl rfl rfl ?_
  dsimp only [setl]
  refine go_push c1_77 ?_
  refine go_istore c1_78 rfl rfl ?_
  dsimp only [setl]
  refine go_push c1_80 ?_
  refine go_istore c1_81 rfl rfl ?_
  dsimp only [setl]
  refine own_turn_1_0 l Z a0 hw h18 n0 M a20 a15 a8 a3 b fr to [(.int 0), (.int 0), (.int 0)] [(.int 0), (.int 0), (.int 0)] [(.int 0), (.int 1), (.int 2)] 3 0 f0 v0 hf0 ht0 (own_f3.2 f0 hf0) (own_lend own_f3 hf0) (own_lenr own_f3 hf0) P19 ?_ ?_
  · intro em0 h21 P22
    refine go_iload c1_83 rfl ?_
    refine go_aload c1_85 rfl rfl ?_
    refine go_alen (z := 1) P22 (5) c1_86 rfl rfl ?_
    refine go_icmp_ge c1_87 (fun _ => ?_) (fun q => absurd q (by decide))
    refine go_aload c1_202 rfl rfl ?_
    refine go_iload c1_203 rfl ?_
    refine go_put (y := (⟨"com/example/cropped_view/croppedview/Broadcast", "<init>", "([I[II)V"⟩ : MethodName)) P22 4 2 .boolean c1_205 rfl rfl (t38 hw) (Or.inr ⟨(t39 hw), rfl, rfl⟩) (t3 hw) (by decide) (by decide) (by decide) ?_
    intro h23 P24
    dsimp only [lupd] at P24
    exact go_ret rfl c1_208 (by decide) (by decide) ⟨rfl, _, _, _, _, _, _, _, _, P24, (own_1m (by decide) hf0 own_f3 em0)⟩
  · intro ew0 h25 P26
    refine go_iload c1_83 rfl ?_
    refine go_aload c1_85 rfl rfl ?_
    refine go_alen (z := 1) P26 (5) c1_86 rfl rfl ?_
    refine go_icmp_ge c1_87 (fun _ => ?_) (fun q => absurd q (by decide))
    refine go_aload c1_202 rfl rfl ?_
    refine go_iload c1_203 rfl ?_
    refine go_put (y := (⟨"com/example/cropped_view/croppedview/Broadcast", "<init>", "([I[II)V"⟩ : MethodName)) P26 4 2 .boolean c1_205 rfl rfl (t38 hw) (Or.inr ⟨(t39 hw), rfl, rfl⟩) (t3 hw) (by decide) (by decide) (by decide) ?_
    intro h27 P28
    dsimp only [lupd] at P28
    exact go_ret rfl c1_208 (by decide) (by decide) ⟨rfl, _, _, _, _, _, _, _, _, P28, (own_1w (by decide) hf0 own_f3)⟩
set_option maxRecDepth 65536 in
set_option maxHeartbeats 4000000 in
theorem rm_ct_3_2 (l : Launch) (Z : State) (a0 : Array Value) (hw : ∀ d ∈ tables_1, d.before a0 Z = true) (h0 : Heap) (n0 : Nat) (M : List (Addr × Desc)) (b fr to : Addr) (f0 v0 f1 v1 : Int32) (hf0 : own_in f0 3) (ht0 : own_to v0 3) (hf1 : own_in f1 3) (ht1 : own_to v1 3) (hne01 : f1 ≠ f0) (P0 : Hp Z n0 h0 ((b, (.inl ("com/example/cropped_view/croppedview/Broadcast", [(("com/example/cropped_view/croppedview/Broadcast", "m_reactions", "[[I"), .null), (("com/example/cropped_view/croppedview/Broadcast", "m_deletes", "[Z"), .null), (("com/example/cropped_view/croppedview/Broadcast", "m_deletesAny", "Z"), (.int 0))]))) :: (fr, (.inr (.int, "[I", [(.int f0), (.int f1)]))) :: (to, (.inr (.int, "[I", [(.int v0), (.int v1)]))) :: M)) :
    ConW l Z (⟨"com/example/cropped_view/croppedview/Broadcast", "<init>", "([I[II)V"⟩ : MethodName) prog_7_method_1_code 8 none ({ frames := 3, cells := 4, slots := 13, locals := 3100 } : Room) #[(.ref b), (.ref fr), (.ref to), (.int 3)] h0 n0 (R0 fun h' => ∃ (s d g r : Addr) (vs vd vr : List Value) (an : Int32), Hp Z n0 h' ((s, (.inr (.boolean, "[Z", vs))) :: (d, (.inr (.boolean, "[Z", vd))) :: (g, (.inr ((.array .int), "[[I", [(.ref r), (.ref r), (.ref r), (.ref r)]))) :: (r, (.inr (.int, "[I", vr))) :: (b, (.inl ("com/example/cropped_view/croppedview/Broadcast", [(("com/example/cropped_view/croppedview/Broadcast", "m_reactions", "[[I"), (.ref g)), (("com/example/cropped_view/croppedview/Broadcast", "m_deletes", "[Z"), (.ref d)), (("com/example/cropped_view/croppedview/Broadcast", "m_deletesAny", "Z"), (.int an))]))) :: (fr, (.inr (.int, "[I", [(.int f0), (.int f1)]))) :: (to, (.inr (.int, "[I", [(.int v0), (.int v1)]))) :: M) ∧ own_good 3 vr vd (fun q => own_ex2 q f0 v0 f1 v1)) := by
  refine con_ofW (ls := [.val (.ref b), .val (.ref fr), .val (.ref to), .val (.int 3), .unset, .unset, .unset, .unset]) (plainFor_of_name pn0) rfl ?_
  refine go_aload c1_0 rfl rfl ?_
  refine go_initO (y := (⟨"com/example/cropped_view/croppedview/Broadcast", "<init>", "([I[II)V"⟩ : MethodName)) (W := 0) c1_1 (t8 hw) (t9 hw) (t10 hw) rfl (by decide) rfl (by decide) ?_
  refine go_aload c1_4 rfl rfl ?_
  refine go_alen (z := 2) P0 (1) c1_5 rfl rfl ?_
  refine go_if_eq c1_6 (fun q => absurd q (by decide)) (fun _ => ?_)
  refine go_aload c1_9 rfl rfl ?_
  refine go_alen (z := 2) P0 (2) c1_10 rfl rfl ?_
  refine go_aload c1_11 rfl rfl ?_
  refine go_alen (z := 2) P0 (1) c1_12 rfl rfl ?_
  refine go_icmp_eq c1_13 (fun _ => ?_) (fun q => absurd q (by decide))
  refine go_iload c1_33 rfl ?_
  refine go_newarr (y := (⟨"com/example/cropped_view/croppedview/Broadcast", "<init>", "([I[II)V"⟩ : MethodName)) P0 "[I" [(.int 0), (.int 0), (.int 0)] 3 c1_34 (t1 hw) (by decide) (by decide) (by decide) (by decide) rfl rfl (by decide) (by decide) ?_
  intro h1 a3 P2
  refine go_more (k' := 1) (n' := 3) (by decide) (by decide) ?_
  refine go_astore c1_36 rfl rfl rfl ?_
  dsimp only [setl]
  refine go_aload c1_38 rfl rfl ?_
  refine go_indy (y := (⟨"com/example/cropped_view/croppedview/Broadcast", "<init>", "([I[II)V"⟩ : MethodName)) (W := 1) (σ := own_sig) c1_40 (t11 hw) rfl rfl rfl (by decide) ?_
  intro fo cK hMade hFn
  refine go_callSW0 (y := (⟨"com/example/cropped_view/croppedview/Broadcast", "<init>", "([I[II)V"⟩ : MethodName)) (W := 0) (argsL := [(.ref a3), (.ref fo)]) (st := []) c1_45 (rm_sa_3 l Z a0 hw h1 n0 _ a3 fo cK hMade hFn P2) (t14 hw) (t15 hw) (t16 hw) (t17 hw) (by decide) (lenOf pd2 rfl) rfl rfl (by decide) (by decide) (by decide) (by decide) rfl ?_
  intro h4 P5
  refine go_more (k' := 1) (n' := 3) (by decide) (by decide) ?_
  refine go_aload c1_48 rfl rfl ?_
  refine go_push c1_49 ?_
  refine go_newarrA (y := (⟨"com/example/cropped_view/croppedview/Broadcast", "<init>", "([I[II)V"⟩ : MethodName)) (ty := .int) P5 "[I" "[[I" [.null, .null, .null, .null] 4 c1_50 (by decide) (t27 hw) (t28 hw) (by decide) (by decide) (by decide) (by decide) rfl (by decide) (by decide) ?_
  intro h6 a8 P7
  refine go_more (k' := 2) (n' := 7) (by decide) (by decide) ?_
  refine go_put (y := (⟨"com/example/cropped_view/croppedview/Broadcast", "<init>", "([I[II)V"⟩ : MethodName)) P7 2 0 (.array (.array .int)) c1_53 rfl rfl (t29 hw) (Or.inr ⟨(t30 hw), rfl, rfl⟩) (t3 hw) (by decide) rfl rfl ?_
  intro h9 P10
  dsimp only [lupd] at P10
  refine go_aload c1_56 rfl rfl ?_
  refine go_get (y := (⟨"com/example/cropped_view/croppedview/Broadcast", "<init>", "([I[II)V"⟩ : MethodName)) P10 (2) 0 c1_57 rfl rfl (t29 hw) ?_
  refine go_aload c1_60 rfl rfl ?_
  refine go_callS0 (y := (⟨"com/example/cropped_view/croppedview/Broadcast", "<init>", "([I[II)V"⟩ : MethodName)) (W := 0) (argsL := [(.ref a8), (.ref a3)]) (st := []) c1_62 (rm_fi l Z a0 hw h9 n0 _ a8 a3 _ P10) (t31 hw) (t32 hw) (t16 hw) (t33 hw) (by decide) (lenOf pd3 rfl) rfl rfl (by decide) (by decide) (by decide) (by decide) rfl ?_
  intro h11 P12
  refine go_more (k' := 2) (n' := 7) (by decide) (by decide) ?_
  refine go_aload c1_65 rfl rfl ?_
  refine go_iload c1_66 rfl ?_
  refine go_newarr (y := (⟨"com/example/cropped_view/croppedview/Broadcast", "<init>", "([I[II)V"⟩ : MethodName)) P12 "[Z" [(.int 0), (.int 0), (.int 0)] 3 c1_67 (t35 hw) (by decide) (by decide) (by decide) (by decide) rfl rfl (by decide) (by decide) ?_
  intro h13 a15 P14
  refine go_more (k' := 3) (n' := 10) (by decide) (by decide) ?_
  refine go_put (y := (⟨"com/example/cropped_view/croppedview/Broadcast", "<init>", "([I[II)V"⟩ : MethodName)) P14 3 1 (.array .boolean) c1_69 rfl rfl (t36 hw) (Or.inr ⟨(t37 hw), rfl, rfl⟩) (t3 hw) (by decide) rfl rfl ?_
  intro h16 P17
  dsimp only [lupd] at P17
  refine go_iload c1_72 rfl ?_
  refine go_newarr (y := (⟨"com/example/cropped_view/croppedview/Broadcast", "<init>", "([I[II)V"⟩ : MethodName)) P17 "[Z" [(.int 0), (.int 0), (.int 0)] 3 c1_73 (t35 hw) (by decide) (by decide) (by decide) (by decide) rfl rfl (by decide) (by decide) ?_
  intro h18 a20 P19
  refine go_more (k' := 4) (n' := 13) (by decide) (by decide) ?_
  refine go_astore c1_75 rfl rfl rfl ?_
  dsimp only [setl]
  refine go_push c1_77 ?_
  refine go_istore c1_78 rfl rfl ?_
  dsimp only [setl]
  refine go_push c1_80 ?_
  refine go_istore c1_81 rfl rfl ?_
  dsimp only [setl]
  refine own_turn_2_0 l Z a0 hw h18 n0 M a20 a15 a8 a3 b fr to [(.int 0), (.int 0), (.int 0)] [(.int 0), (.int 0), (.int 0)] [(.int 0), (.int 1), (.int 2)] 3 0 f0 v0 f1 v1 hf0 ht0 (own_f3.2 f0 hf0) (own_lend own_f3 hf0) (own_lenr own_f3 hf0) P19 ?_ ?_
  · intro em0 h21 P22
    refine own_turn_2_1 l Z a0 hw h21 n0 M a20 a15 a8 a3 b fr to (lupd [(.int 0), (.int 0), (.int 0)] f0.toNatClampNeg (.int 1)) (lupd [(.int 0), (.int 0), (.int 0)] f0.toNatClampNeg (.int 1)) [(.int 0), (.int 1), (.int 2)] 3 1 f0 v0 f1 v1 hf1 ht1 (own_left (x := .int 1) (by decide) hf0 hf1 hne01 own_f3).2.2.1 (own_lt (own_lend own_f3 hf1)) (own_lenr own_f3 hf1) P22 ?_ ?_
    · intro em1 h23 P24
      refine go_iload c1_83 rfl ?_
      refine go_aload c1_85 rfl rfl ?_
      refine go_alen (z := 2) P24 (5) c1_86 rfl rfl ?_
      refine go_icmp_ge c1_87 (fun _ => ?_) (fun q => absurd q (by decide))
      refine go_aload c1_202 rfl rfl ?_
      refine go_iload c1_203 rfl ?_
      refine go_put (y := (⟨"com/example/cropped_view/croppedview/Broadcast", "<init>", "([I[II)V"⟩ : MethodName)) P24 4 2 .boolean c1_205 rfl rfl (t38 hw) (Or.inr ⟨(t39 hw), rfl, rfl⟩) (t3 hw) (by decide) (by decide) (by decide) ?_
      intro h25 P26
      dsimp only [lupd] at P26
      exact go_ret rfl c1_208 (by decide) (by decide) ⟨rfl, _, _, _, _, _, _, _, _, P26, (own_2 (t1 := v1) (by decide) hf0 hf1 hne01 (own_1m (by decide) hf0 own_f3 em0) (own_left (x := .int 1) (by decide) hf0 hf1 hne01 own_f3).2.1 (own_left (x := .int 1) (by decide) hf0 hf1 hne01 own_f3).2.2.1).1 em1⟩
    · intro ew1 h27 P28
      refine go_iload c1_83 rfl ?_
      refine go_aload c1_85 rfl rfl ?_
      refine go_alen (z := 2) P28 (5) c1_86 rfl rfl ?_
      refine go_icmp_ge c1_87 (fun _ => ?_) (fun q => absurd q (by decide))
      refine go_aload c1_202 rfl rfl ?_
      refine go_iload c1_203 rfl ?_
      refine go_put (y := (⟨"com/example/cropped_view/croppedview/Broadcast", "<init>", "([I[II)V"⟩ : MethodName)) P28 4 2 .boolean c1_205 rfl rfl (t38 hw) (Or.inr ⟨(t39 hw), rfl, rfl⟩) (t3 hw) (by decide) (by decide) (by decide) ?_
      intro h29 P30
      dsimp only [lupd] at P30
      exact go_ret rfl c1_208 (by decide) (by decide) ⟨rfl, _, _, _, _, _, _, _, _, P30, (own_2 (t1 := v1) (by decide) hf0 hf1 hne01 (own_1m (by decide) hf0 own_f3 em0) (own_left (x := .int 1) (by decide) hf0 hf1 hne01 own_f3).2.1 (own_left (x := .int 1) (by decide) hf0 hf1 hne01 own_f3).2.2.1).2⟩
  · intro ew0 h31 P32
    refine own_turn_2_1 l Z a0 hw h31 n0 M a20 a15 a8 a3 b fr to (lupd [(.int 0), (.int 0), (.int 0)] f0.toNatClampNeg (.int 1)) [(.int 0), (.int 0), (.int 0)] (lupd [(.int 0), (.int 1), (.int 2)] f0.toNatClampNeg (.int v0)) 3 0 f0 v0 f1 v1 hf1 ht1 (own_left (x := .int 1) (by decide) hf0 hf1 hne01 own_f3).2.2.1 (own_lend own_f3 hf1) (own_lt (own_lenr own_f3 hf1)) P32 ?_ ?_
    · intro em1 h33 P34
      refine go_iload c1_83 rfl ?_
      refine go_aload c1_85 rfl rfl ?_
      refine go_alen (z := 2) P34 (5) c1_86 rfl rfl ?_
      refine go_icmp_ge c1_87 (fun _ => ?_) (fun q => absurd q (by decide))
      refine go_aload c1_202 rfl rfl ?_
      refine go_iload c1_203 rfl ?_
      refine go_put (y := (⟨"com/example/cropped_view/croppedview/Broadcast", "<init>", "([I[II)V"⟩ : MethodName)) P34 4 2 .boolean c1_205 rfl rfl (t38 hw) (Or.inr ⟨(t39 hw), rfl, rfl⟩) (t3 hw) (by decide) (by decide) (by decide) ?_
      intro h35 P36
      dsimp only [lupd] at P36
      exact go_ret rfl c1_208 (by decide) (by decide) ⟨rfl, _, _, _, _, _, _, _, _, P36, (own_2 (t1 := v1) (by decide) hf0 hf1 hne01 (own_1w (by decide) hf0 own_f3) (own_left (x := .int v0) (by decide) hf0 hf1 hne01 own_f3).1 (own_left (x := .int v0) (by decide) hf0 hf1 hne01 own_f3).2.2.2).1 em1⟩
    · intro ew1 h37 P38
      refine go_iload c1_83 rfl ?_
      refine go_aload c1_85 rfl rfl ?_
      refine go_alen (z := 2) P38 (5) c1_86 rfl rfl ?_
      refine go_icmp_ge c1_87 (fun _ => ?_) (fun q => absurd q (by decide))
      refine go_aload c1_202 rfl rfl ?_
      refine go_iload c1_203 rfl ?_
      refine go_put (y := (⟨"com/example/cropped_view/croppedview/Broadcast", "<init>", "([I[II)V"⟩ : MethodName)) P38 4 2 .boolean c1_205 rfl rfl (t38 hw) (Or.inr ⟨(t39 hw), rfl, rfl⟩) (t3 hw) (by decide) (by decide) (by decide) ?_
      intro h39 P40
      dsimp only [lupd] at P40
      exact go_ret rfl c1_208 (by decide) (by decide) ⟨rfl, _, _, _, _, _, _, _, _, P40, (own_2 (t1 := v1) (by decide) hf0 hf1 hne01 (own_1w (by decide) hf0 own_f3) (own_left (x := .int v0) (by decide) hf0 hf1 hne01 own_f3).1 (own_left (x := .int v0) (by decide) hf0 hf1 hne01 own_f3).2.2.2).2⟩
set_option maxRecDepth 65536 in
set_option maxHeartbeats 4000000 in
theorem rm_ct_4_1 (l : Launch) (Z : State) (a0 : Array Value) (hw : ∀ d ∈ tables_1, d.before a0 Z = true) (h0 : Heap) (n0 : Nat) (M : List (Addr × Desc)) (b fr to : Addr) (f0 v0 : Int32) (hf0 : own_in f0 4) (ht0 : own_to v0 4) (P0 : Hp Z n0 h0 ((b, (.inl ("com/example/cropped_view/croppedview/Broadcast", [(("com/example/cropped_view/croppedview/Broadcast", "m_reactions", "[[I"), .null), (("com/example/cropped_view/croppedview/Broadcast", "m_deletes", "[Z"), .null), (("com/example/cropped_view/croppedview/Broadcast", "m_deletesAny", "Z"), (.int 0))]))) :: (fr, (.inr (.int, "[I", [(.int f0)]))) :: (to, (.inr (.int, "[I", [(.int v0)]))) :: M)) :
    ConW l Z (⟨"com/example/cropped_view/croppedview/Broadcast", "<init>", "([I[II)V"⟩ : MethodName) prog_7_method_1_code 8 none ({ frames := 3, cells := 4, slots := 16, locals := 3100 } : Room) #[(.ref b), (.ref fr), (.ref to), (.int 4)] h0 n0 (R0 fun h' => ∃ (s d g r : Addr) (vs vd vr : List Value) (an : Int32), Hp Z n0 h' ((s, (.inr (.boolean, "[Z", vs))) :: (d, (.inr (.boolean, "[Z", vd))) :: (g, (.inr ((.array .int), "[[I", [(.ref r), (.ref r), (.ref r), (.ref r)]))) :: (r, (.inr (.int, "[I", vr))) :: (b, (.inl ("com/example/cropped_view/croppedview/Broadcast", [(("com/example/cropped_view/croppedview/Broadcast", "m_reactions", "[[I"), (.ref g)), (("com/example/cropped_view/croppedview/Broadcast", "m_deletes", "[Z"), (.ref d)), (("com/example/cropped_view/croppedview/Broadcast", "m_deletesAny", "Z"), (.int an))]))) :: (fr, (.inr (.int, "[I", [(.int f0)]))) :: (to, (.inr (.int, "[I", [(.int v0)]))) :: M) ∧ own_good 4 vr vd (fun q => own_ex1 q f0 v0)) := by
  refine con_ofW (ls := [.val (.ref b), .val (.ref fr), .val (.ref to), .val (.int 4), .unset, .unset, .unset, .unset]) (plainFor_of_name pn0) rfl ?_
  refine go_aload c1_0 rfl rfl ?_
  refine go_initO (y := (⟨"com/example/cropped_view/croppedview/Broadcast", "<init>", "([I[II)V"⟩ : MethodName)) (W := 0) c1_1 (t8 hw) (t9 hw) (t10 hw) rfl (by decide) rfl (by decide) ?_
  refine go_aload c1_4 rfl rfl ?_
  refine go_alen (z := 1) P0 (1) c1_5 rfl rfl ?_
  refine go_if_eq c1_6 (fun q => absurd q (by decide)) (fun _ => ?_)
  refine go_aload c1_9 rfl rfl ?_
  refine go_alen (z := 1) P0 (2) c1_10 rfl rfl ?_
  refine go_aload c1_11 rfl rfl ?_
  refine go_alen (z := 1) P0 (1) c1_12 rfl rfl ?_
  refine go_icmp_eq c1_13 (fun _ => ?_) (fun q => absurd q (by decide))
  refine go_iload c1_33 rfl ?_
  refine go_newarr (y := (⟨"com/example/cropped_view/croppedview/Broadcast", "<init>", "([I[II)V"⟩ : MethodName)) P0 "[I" [(.int 0), (.int 0), (.int 0), (.int 0)] 4 c1_34 (t1 hw) (by decide) (by decide) (by decide) (by decide) rfl rfl (by decide) (by decide) ?_
  intro h1 a3 P2
  refine go_more (k' := 1) (n' := 4) (by decide) (by decide) ?_
  refine go_astore c1_36 rfl rfl rfl ?_
  dsimp only [setl]
  refine go_aload c1_38 rfl rfl ?_
  refine go_indy (y := (⟨"com/example/cropped_view/croppedview/Broadcast", "<init>", "([I[II)V"⟩ : MethodName)) (W := 1) (σ := own_sig) c1_40 (t11 hw) rfl rfl rfl (by decide) ?_
  intro fo cK hMade hFn
  refine go_callSW0 (y := (⟨"com/example/cropped_view/croppedview/Broadcast", "<init>", "([I[II)V"⟩ : MethodName)) (W := 0) (argsL := [(.ref a3), (.ref fo)]) (st := []) c1_45 (rm_sa_4 l Z a0 hw h1 n0 _ a3 fo cK hMade hFn P2) (t14 hw) (t15 hw) (t16 hw) (t17 hw) (by decide) (lenOf pd2 rfl) rfl rfl (by decide) (by decide) (by decide) (by decide) rfl ?_
  intro h4 P5
  refine go_more (k' := 1) (n' := 4) (by decide) (by decide) ?_
  refine go_aload c1_48 rfl rfl ?_
  refine go_push c1_49 ?_
  refine go_newarrA (y := (⟨"com/example/cropped_view/croppedview/Broadcast", "<init>", "([I[II)V"⟩ : MethodName)) (ty := .int) P5 "[I" "[[I" [.null, .null, .null, .null] 4 c1_50 (by decide) (t27 hw) (t28 hw) (by decide) (by decide) (by decide) (by decide) rfl (by decide) (by decide) ?_
  intro h6 a8 P7
  refine go_more (k' := 2) (n' := 8) (by decide) (by decide) ?_
  refine go_put (y := (⟨"com/example/cropped_view/croppedview/Broadcast", "<init>", "([I[II)V"⟩ : MethodName)) P7 2 0 (.array (.array .int)) c1_53 rfl rfl (t29 hw) (Or.inr ⟨(t30 hw), rfl, rfl⟩) (t3 hw) (by decide) rfl rfl ?_
  intro h9 P10
  dsimp only [lupd] at P10
  refine go_aload c1_56 rfl rfl ?_
  refine go_get (y := (⟨"com/example/cropped_view/croppedview/Broadcast", "<init>", "([I[II)V"⟩ : MethodName)) P10 (2) 0 c1_57 rfl rfl (t29 hw) ?_
  refine go_aload c1_60 rfl rfl ?_
  refine go_callS0 (y := (⟨"com/example/cropped_view/croppedview/Broadcast", "<init>", "([I[II)V"⟩ : MethodName)) (W := 0) (argsL := [(.ref a8), (.ref a3)]) (st := []) c1_62 (rm_fi l Z a0 hw h9 n0 _ a8 a3 _ P10) (t31 hw) (t32 hw) (t16 hw) (t33 hw) (by decide) (lenOf pd3 rfl) rfl rfl (by decide) (by decide) (by decide) (by decide) rfl ?_
  intro h11 P12
  refine go_more (k' := 2) (n' := 8) (by decide) (by decide) ?_
  refine go_aload c1_65 rfl rfl ?_
  refine go_iload c1_66 rfl ?_
  refine go_newarr (y := (⟨"com/example/cropped_view/croppedview/Broadcast", "<init>", "([I[II)V"⟩ : MethodName)) P12 "[Z" [(.int 0), (.int 0), (.int 0), (.int 0)] 4 c1_67 (t35 hw) (by decide) (by decide) (by decide) (by decide) rfl rfl (by decide) (by decide) ?_
  intro h13 a15 P14
  refine go_more (k' := 3) (n' := 12) (by decide) (by decide) ?_
  refine go_put (y := (⟨"com/example/cropped_view/croppedview/Broadcast", "<init>", "([I[II)V"⟩ : MethodName)) P14 3 1 (.array .boolean) c1_69 rfl rfl (t36 hw) (Or.inr ⟨(t37 hw), rfl, rfl⟩) (t3 hw) (by decide) rfl rfl ?_
  intro h16 P17
  dsimp only [lupd] at P17
  refine go_iload c1_72 rfl ?_
  refine go_newarr (y := (⟨"com/example/cropped_view/croppedview/Broadcast", "<init>", "([I[II)V"⟩ : MethodName)) P17 "[Z" [(.int 0), (.int 0), (.int 0), (.int 0)] 4 c1_73 (t35 hw) (by decide) (by decide) (by decide) (by decide) rfl rfl (by decide) (by decide) ?_
  intro h18 a20 P19
  refine go_more (k' := 4) (n' := 16) (by decide) (by decide) ?_
  refine go_astore c1_75 rfl rfl rfl ?_
  dsimp only [setl]
  refine go_push c1_77 ?_
  refine go_istore c1_78 rfl rfl ?_
  dsimp only [setl]
  refine go_push c1_80 ?_
  refine go_istore c1_81 rfl rfl ?_
  dsimp only [setl]
  refine own_turn_1_0 l Z a0 hw h18 n0 M a20 a15 a8 a3 b fr to [(.int 0), (.int 0), (.int 0), (.int 0)] [(.int 0), (.int 0), (.int 0), (.int 0)] [(.int 0), (.int 1), (.int 2), (.int 3)] 4 0 f0 v0 hf0 ht0 (own_f4.2 f0 hf0) (own_lend own_f4 hf0) (own_lenr own_f4 hf0) P19 ?_ ?_
  · intro em0 h21 P22
    refine go_iload c1_83 rfl ?_
    refine go_aload c1_85 rfl rfl ?_
    refine go_alen (z := 1) P22 (5) c1_86 rfl rfl ?_
    refine go_icmp_ge c1_87 (fun _ => ?_) (fun q => absurd q (by decide))
    refine go_aload c1_202 rfl rfl ?_
    refine go_iload c1_203 rfl ?_
    refine go_put (y := (⟨"com/example/cropped_view/croppedview/Broadcast", "<init>", "([I[II)V"⟩ : MethodName)) P22 4 2 .boolean c1_205 rfl rfl (t38 hw) (Or.inr ⟨(t39 hw), rfl, rfl⟩) (t3 hw) (by decide) (by decide) (by decide) ?_
    intro h23 P24
    dsimp only [lupd] at P24
    exact go_ret rfl c1_208 (by decide) (by decide) ⟨rfl, _, _, _, _, _, _, _, _, P24, (own_1m (by decide) hf0 own_f4 em0)⟩
  · intro ew0 h25 P26
    refine go_iload c1_83 rfl ?_
    refine go_aload c1_85 rfl rfl ?_
    refine go_alen (z := 1) P26 (5) c1_86 rfl rfl ?_
    refine go_icmp_ge c1_87 (fun _ => ?_) (fun q => absurd q (by decide))
    refine go_aload c1_202 rfl rfl ?_
    refine go_iload c1_203 rfl ?_
    refine go_put (y := (⟨"com/example/cropped_view/croppedview/Broadcast", "<init>", "([I[II)V"⟩ : MethodName)) P26 4 2 .boolean c1_205 rfl rfl (t38 hw) (Or.inr ⟨(t39 hw), rfl, rfl⟩) (t3 hw) (by decide) (by decide) (by decide) ?_
    intro h27 P28
    dsimp only [lupd] at P28
    exact go_ret rfl c1_208 (by decide) (by decide) ⟨rfl, _, _, _, _, _, _, _, _, P28, (own_1w (by decide) hf0 own_f4)⟩
set_option maxRecDepth 65536 in
set_option maxHeartbeats 4000000 in
theorem rm_ct_4_2 (l : Launch) (Z : State) (a0 : Array Value) (hw : ∀ d ∈ tables_1, d.before a0 Z = true) (h0 : Heap) (n0 : Nat) (M : List (Addr × Desc)) (b fr to : Addr) (f0 v0 f1 v1 : Int32) (hf0 : own_in f0 4) (ht0 : own_to v0 4) (hf1 : own_in f1 4) (ht1 : own_to v1 4) (hne01 : f1 ≠ f0) (P0 : Hp Z n0 h0 ((b, (.inl ("com/example/cropped_view/croppedview/Broadcast", [(("com/example/cropped_view/croppedview/Broadcast", "m_reactions", "[[I"), .null), (("com/example/cropped_view/croppedview/Broadcast", "m_deletes", "[Z"), .null), (("com/example/cropped_view/croppedview/Broadcast", "m_deletesAny", "Z"), (.int 0))]))) :: (fr, (.inr (.int, "[I", [(.int f0), (.int f1)]))) :: (to, (.inr (.int, "[I", [(.int v0), (.int v1)]))) :: M)) :
    ConW l Z (⟨"com/example/cropped_view/croppedview/Broadcast", "<init>", "([I[II)V"⟩ : MethodName) prog_7_method_1_code 8 none ({ frames := 3, cells := 4, slots := 16, locals := 3100 } : Room) #[(.ref b), (.ref fr), (.ref to), (.int 4)] h0 n0 (R0 fun h' => ∃ (s d g r : Addr) (vs vd vr : List Value) (an : Int32), Hp Z n0 h' ((s, (.inr (.boolean, "[Z", vs))) :: (d, (.inr (.boolean, "[Z", vd))) :: (g, (.inr ((.array .int), "[[I", [(.ref r), (.ref r), (.ref r), (.ref r)]))) :: (r, (.inr (.int, "[I", vr))) :: (b, (.inl ("com/example/cropped_view/croppedview/Broadcast", [(("com/example/cropped_view/croppedview/Broadcast", "m_reactions", "[[I"), (.ref g)), (("com/example/cropped_view/croppedview/Broadcast", "m_deletes", "[Z"), (.ref d)), (("com/example/cropped_view/croppedview/Broadcast", "m_deletesAny", "Z"), (.int an))]))) :: (fr, (.inr (.int, "[I", [(.int f0), (.int f1)]))) :: (to, (.inr (.int, "[I", [(.int v0), (.int v1)]))) :: M) ∧ own_good 4 vr vd (fun q => own_ex2 q f0 v0 f1 v1)) := by
  refine con_ofW (ls := [.val (.ref b), .val (.ref fr), .val (.ref to), .val (.int 4), .unset, .unset, .unset, .unset]) (plainFor_of_name pn0) rfl ?_
  refine go_aload c1_0 rfl rfl ?_
  refine go_initO (y := (⟨"com/example/cropped_view/croppedview/Broadcast", "<init>", "([I[II)V"⟩ : MethodName)) (W := 0) c1_1 (t8 hw) (t9 hw) (t10 hw) rfl (by decide) rfl (by decide) ?_
  refine go_aload c1_4 rfl rfl ?_
  refine go_alen (z := 2) P0 (1) c1_5 rfl rfl ?_
  refine go_if_eq c1_6 (fun q => absurd q (by decide)) (fun _ => ?_)
  refine go_aload c1_9 rfl rfl ?_
  refine go_alen (z := 2) P0 (2) c1_10 rfl rfl ?_
  refine go_aload c1_11 rfl rfl ?_
  refine go_alen (z := 2) P0 (1) c1_12 rfl rfl ?_
  refine go_icmp_eq c1_13 (fun _ => ?_) (fun q => absurd q (by decide))
  refine go_iload c1_33 rfl ?_
  refine go_newarr (y := (⟨"com/example/cropped_view/croppedview/Broadcast", "<init>", "([I[II)V"⟩ : MethodName)) P0 "[I" [(.int 0), (.int 0), (.int 0), (.int 0)] 4 c1_34 (t1 hw) (by decide) (by decide) (by decide) (by decide) rfl rfl (by decide) (by decide) ?_
  intro h1 a3 P2
  refine go_more (k' := 1) (n' := 4) (by decide) (by decide) ?_
  refine go_astore c1_36 rfl rfl rfl ?_
  dsimp only [setl]
  refine go_aload c1_38 rfl rfl ?_
  refine go_indy (y := (⟨"com/example/cropped_view/croppedview/Broadcast", "<init>", "([I[II)V"⟩ : MethodName)) (W := 1) (σ := own_sig) c1_40 (t11 hw) rfl rfl rfl (by decide) ?_
  intro fo cK hMade hFn
  refine go_callSW0 (y := (⟨"com/example/cropped_view/croppedview/Broadcast", "<init>", "([I[II)V"⟩ : MethodName)) (W := 0) (argsL := [(.ref a3), (.ref fo)]) (st := []) c1_45 (rm_sa_4 l Z a0 hw h1 n0 _ a3 fo cK hMade hFn P2) (t14 hw) (t15 hw) (t16 hw) (t17 hw) (by decide) (lenOf pd2 rfl) rfl rfl (by decide) (by decide) (by decide) (by decide) rfl ?_
  intro h4 P5
  refine go_more (k' := 1) (n' := 4) (by decide) (by decide) ?_
  refine go_aload c1_48 rfl rfl ?_
  refine go_push c1_49 ?_
  refine go_newarrA (y := (⟨"com/example/cropped_view/croppedview/Broadcast", "<init>", "([I[II)V"⟩ : MethodName)) (ty := .int) P5 "[I" "[[I" [.null, .null, .null, .null] 4 c1_50 (by decide) (t27 hw) (t28 hw) (by decide) (by decide) (by decide) (by decide) rfl (by decide) (by decide) ?_
  intro h6 a8 P7
  refine go_more (k' := 2) (n' := 8) (by decide) (by decide) ?_
  refine go_put (y := (⟨"com/example/cropped_view/croppedview/Broadcast", "<init>", "([I[II)V"⟩ : MethodName)) P7 2 0 (.array (.array .int)) c1_53 rfl rfl (t29 hw) (Or.inr ⟨(t30 hw), rfl, rfl⟩) (t3 hw) (by decide) rfl rfl ?_
  intro h9 P10
  dsimp only [lupd] at P10
  refine go_aload c1_56 rfl rfl ?_
  refine go_get (y := (⟨"com/example/cropped_view/croppedview/Broadcast", "<init>", "([I[II)V"⟩ : MethodName)) P10 (2) 0 c1_57 rfl rfl (t29 hw) ?_
  refine go_aload c1_60 rfl rfl ?_
  refine go_callS0 (y := (⟨"com/example/cropped_view/croppedview/Broadcast", "<init>", "([I[II)V"⟩ : MethodName)) (W := 0) (argsL := [(.ref a8), (.ref a3)]) (st := []) c1_62 (rm_fi l Z a0 hw h9 n0 _ a8 a3 _ P10) (t31 hw) (t32 hw) (t16 hw) (t33 hw) (by decide) (lenOf pd3 rfl) rfl rfl (by decide) (by decide) (by decide) (by decide) rfl ?_
  intro h11 P12
  refine go_more (k' := 2) (n' := 8) (by decide) (by decide) ?_
  refine go_aload c1_65 rfl rfl ?_
  refine go_iload c1_66 rfl ?_
  refine go_newarr (y := (⟨"com/example/cropped_view/croppedview/Broadcast", "<init>", "([I[II)V"⟩ : MethodName)) P12 "[Z" [(.int 0), (.int 0), (.int 0), (.int 0)] 4 c1_67 (t35 hw) (by decide) (by decide) (by decide) (by decide) rfl rfl (by decide) (by decide) ?_
  intro h13 a15 P14
  refine go_more (k' := 3) (n' := 12) (by decide) (by decide) ?_
  refine go_put (y := (⟨"com/example/cropped_view/croppedview/Broadcast", "<init>", "([I[II)V"⟩ : MethodName)) P14 3 1 (.array .boolean) c1_69 rfl rfl (t36 hw) (Or.inr ⟨(t37 hw), rfl, rfl⟩) (t3 hw) (by decide) rfl rfl ?_
  intro h16 P17
  dsimp only [lupd] at P17
  refine go_iload c1_72 rfl ?_
  refine go_newarr (y := (⟨"com/example/cropped_view/croppedview/Broadcast", "<init>", "([I[II)V"⟩ : MethodName)) P17 "[Z" [(.int 0), (.int 0), (.int 0), (.int 0)] 4 c1_73 (t35 hw) (by decide) (by decide) (by decide) (by decide) rfl rfl (by decide) (by decide) ?_
  intro h18 a20 P19
  refine go_more (k' := 4) (n' := 16) (by decide) (by decide) ?_
  refine go_astore c1_75 rfl rfl rfl ?_
  dsimp only [setl]
  refine go_push c1_77 ?_
  refine go_istore c1_78 rfl rfl ?_
  dsimp only [setl]
  refine go_push c1_80 ?_
  refine go_istore c1_81 rfl rfl ?_
  dsimp only [setl]
  refine own_turn_2_0 l Z a0 hw h18 n0 M a20 a15 a8 a3 b fr to [(.int 0), (.int 0), (.int 0), (.int 0)] [(.int 0), (.int 0), (.int 0), (.int 0)] [(.int 0), (.int 1), (.int 2), (.int 3)] 4 0 f0 v0 f1 v1 hf0 ht0 (own_f4.2 f0 hf0) (own_lend own_f4 hf0) (own_lenr own_f4 hf0) P19 ?_ ?_
  · intro em0 h21 P22
    refine own_turn_2_1 l Z a0 hw h21 n0 M a20 a15 a8 a3 b fr to (lupd [(.int 0), (.int 0), (.int 0), (.int 0)] f0.toNatClampNeg (.int 1)) (lupd [(.int 0), (.int 0), (.int 0), (.int 0)] f0.toNatClampNeg (.int 1)) [(.int 0), (.int 1), (.int 2), (.int 3)] 4 1 f0 v0 f1 v1 hf1 ht1 (own_left (x := .int 1) (by decide) hf0 hf1 hne01 own_f4).2.2.1 (own_lt (own_lend own_f4 hf1)) (own_lenr own_f4 hf1) P22 ?_ ?_
    · intro em1 h23 P24
      refine go_iload c1_83 rfl ?_
      refine go_aload c1_85 rfl rfl ?_
      refine go_alen (z := 2) P24 (5) c1_86 rfl rfl ?_
      refine go_icmp_ge c1_87 (fun _ => ?_) (fun q => absurd q (by decide))
      refine go_aload c1_202 rfl rfl ?_
      refine go_iload c1_203 rfl ?_
      refine go_put (y := (⟨"com/example/cropped_view/croppedview/Broadcast", "<init>", "([I[II)V"⟩ : MethodName)) P24 4 2 .boolean c1_205 rfl rfl (t38 hw) (Or.inr ⟨(t39 hw), rfl, rfl⟩) (t3 hw) (by decide) (by decide) (by decide) ?_
      intro h25 P26
      dsimp only [lupd] at P26
      exact go_ret rfl c1_208 (by decide) (by decide) ⟨rfl, _, _, _, _, _, _, _, _, P26, (own_2 (t1 := v1) (by decide) hf0 hf1 hne01 (own_1m (by decide) hf0 own_f4 em0) (own_left (x := .int 1) (by decide) hf0 hf1 hne01 own_f4).2.1 (own_left (x := .int 1) (by decide) hf0 hf1 hne01 own_f4).2.2.1).1 em1⟩
    · intro ew1 h27 P28
      refine go_iload c1_83 rfl ?_
      refine go_aload c1_85 rfl rfl ?_
      refine go_alen (z := 2) P28 (5) c1_86 rfl rfl ?_
      refine go_icmp_ge c1_87 (fun _ => ?_) (fun q => absurd q (by decide))
      refine go_aload c1_202 rfl rfl ?_
      refine go_iload c1_203 rfl ?_
      refine go_put (y := (⟨"com/example/cropped_view/croppedview/Broadcast", "<init>", "([I[II)V"⟩ : MethodName)) P28 4 2 .boolean c1_205 rfl rfl (t38 hw) (Or.inr ⟨(t39 hw), rfl, rfl⟩) (t3 hw) (by decide) (by decide) (by decide) ?_
      intro h29 P30
      dsimp only [lupd] at P30
      exact go_ret rfl c1_208 (by decide) (by decide) ⟨rfl, _, _, _, _, _, _, _, _, P30, (own_2 (t1 := v1) (by decide) hf0 hf1 hne01 (own_1m (by decide) hf0 own_f4 em0) (own_left (x := .int 1) (by decide) hf0 hf1 hne01 own_f4).2.1 (own_left (x := .int 1) (by decide) hf0 hf1 hne01 own_f4).2.2.1).2⟩
  · intro ew0 h31 P32
    refine own_turn_2_1 l Z a0 hw h31 n0 M a20 a15 a8 a3 b fr to (lupd [(.int 0), (.int 0), (.int 0), (.int 0)] f0.toNatClampNeg (.int 1)) [(.int 0), (.int 0), (.int 0), (.int 0)] (lupd [(.int 0), (.int 1), (.int 2), (.int 3)] f0.toNatClampNeg (.int v0)) 4 0 f0 v0 f1 v1 hf1 ht1 (own_left (x := .int 1) (by decide) hf0 hf1 hne01 own_f4).2.2.1 (own_lend own_f4 hf1) (own_lt (own_lenr own_f4 hf1)) P32 ?_ ?_
    · intro em1 h33 P34
      refine go_iload c1_83 rfl ?_
      refine go_aload c1_85 rfl rfl ?_
      refine go_alen (z := 2) P34 (5) c1_86 rfl rfl ?_
      refine go_icmp_ge c1_87 (fun _ => ?_) (fun q => absurd q (by decide))
      refine go_aload c1_202 rfl rfl ?_
      refine go_iload c1_203 rfl ?_
      refine go_put (y := (⟨"com/example/cropped_view/croppedview/Broadcast", "<init>", "([I[II)V"⟩ : MethodName)) P34 4 2 .boolean c1_205 rfl rfl (t38 hw) (Or.inr ⟨(t39 hw), rfl, rfl⟩) (t3 hw) (by decide) (by decide) (by decide) ?_
      intro h35 P36
      dsimp only [lupd] at P36
      exact go_ret rfl c1_208 (by decide) (by decide) ⟨rfl, _, _, _, _, _, _, _, _, P36, (own_2 (t1 := v1) (by decide) hf0 hf1 hne01 (own_1w (by decide) hf0 own_f4) (own_left (x := .int v0) (by decide) hf0 hf1 hne01 own_f4).1 (own_left (x := .int v0) (by decide) hf0 hf1 hne01 own_f4).2.2.2).1 em1⟩
    · intro ew1 h37 P38
      refine go_iload c1_83 rfl ?_
      refine go_aload c1_85 rfl rfl ?_
      refine go_alen (z := 2) P38 (5) c1_86 rfl rfl ?_
      refine go_icmp_ge c1_87 (fun _ => ?_) (fun q => absurd q (by decide))
      refine go_aload c1_202 rfl rfl ?_
      refine go_iload c1_203 rfl ?_
      refine go_put (y := (⟨"com/example/cropped_view/croppedview/Broadcast", "<init>", "([I[II)V"⟩ : MethodName)) P38 4 2 .boolean c1_205 rfl rfl (t38 hw) (Or.inr ⟨(t39 hw), rfl, rfl⟩) (t3 hw) (by decide) (by decide) (by decide) ?_
      intro h39 P40
      dsimp only [lupd] at P40
      exact go_ret rfl c1_208 (by decide) (by decide) ⟨rfl, _, _, _, _, _, _, _, _, P40, (own_2 (t1 := v1) (by decide) hf0 hf1 hne01 (own_1w (by decide) hf0 own_f4) (own_left (x := .int v0) (by decide) hf0 hf1 hne01 own_f4).1 (own_left (x := .int v0) (by decide) hf0 hf1 hne01 own_f4).2.2.2).2⟩
set_option maxRecDepth 65536 in
set_option maxHeartbeats 4000000 in
theorem own_end_1 (l : Launch) (Z : State) (a0 : Array Value) (hw : ∀ d ∈ tables_1, d.before a0 Z = true) (h0 : Heap) (n0 : Nat) (M : List (Addr × Desc)) (zn zf zg zt zu zq nn x0 x1 y0 y1 : Int32) (p13 p14 p15 p16 : Addr) (b g r d : Addr) (vr vd : List Value) (an rv dv q : Int32) (hq0 : ¬ q < 0) (hrv : vr[q.toNatClampNeg]? = some (.int rv)) (hdv : vd[q.toNatClampNeg]? = some (.int dv)) (h01 : dv = 0 ∨ dv = 1) (hmv : own_mv rv dv q = own_ex1 q x0 y0) (P0 : Hp Z n0 h0 ((b, (.inl ("com/example/cropped_view/croppedview/Broadcast", [(("com/example/cropped_view/croppedview/Broadcast", "m_reactions", "[[I"), (.ref g)), (("com/example/cropped_view/croppedview/Broadcast", "m_deletes", "[Z"), (.ref d)), (("com/example/cropped_view/croppedview/Broadcast", "m_deletesAny", "Z"), (.int an))]))) :: (g, (.inr ((.array .int), "[[I", [(.ref r), (.ref r), (.ref r), (.ref r)]))) :: (r, (.inr (.int, "[I", vr))) :: (d, (.inr (.boolean, "[Z", vd))) :: M)) :
    Go false (KW Z x) l Z room_1 x code maxLocals ret n0 room_1.cells room_1.slots (R1 fun w _ => w = .int 1) h0 16 64 190 [.val (.int zn), .val (.int zf), .val (.int zg), .val (.int zt), .val (.int zu), .val (.int zq), .val (.int nn), .val (.int 0), .val (.int x0), .val (.int x1), .val (.int y0), .val (.int y1), .val (.int q), .val (.ref p13), .val (.ref p14), .val (.ref p15), .val (.ref p16), .val (.ref b), .unset] [] := by
  refine go_iload c0_190 rfl ?_
  refine go_iload c0_192 rfl ?_
  refine go_icmp_ne c0_194 (fun b194 => ?_) (fun b194 => ?_)
  · refine go_iload c0_204 rfl ?_
    refine go_if_eq c0_206 (fun _ => ?_) (fun q => absurd q (by decide))
    refine go_push c0_227 ?_
    refine go_istore c0_228 rfl rfl ?_
    dsimp only [setl]
    refine go_aload c0_230 rfl rfl ?_
    refine go_iload c0_232 rfl ?_
    refine go_callV1 (y := x) (W := 0) (argsL := [(.int q)]) (st := []) c0_234 (rm_mv l Z a0 hw h0 n0 M b g r d vr vd an rv dv q hq0 hrv hdv h01 P0) (P0.exa (i := 0) rfl) (t40 hw) (t41 hw) (fun _ q => notFace_of_selects (args := #[]) (mvT q (t43 hw))) (t43 hw) (t42 hw) (t4 hw) (t44 hw) (by decide) (lenOf pd4 rfl) rfl rfl (by decide) (by decide) (by decide) (by decide) rfl ?_
    rintro _ _ ⟨rfl, rfl⟩
    refine go_more (k' := 16) (n' := 64) (by decide) (by decide) ?_
    refine go_iload c0_237 rfl ?_
    refine go_icmp_ne c0_239 (fun u => absurd (by rw [hmv, own_ex1, if_neg b194]) u) (fun _ => ?_)
    refine go_push c0_242 ?_
    refine go_goto c0_243 ?_
    exact go_bret rfl c0_247 (by decide) (by decide) (by decide) ⟨_, rfl, rfl⟩
  · refine go_iload c0_197 rfl ?_
    refine go_iload c0_199 rfl ?_
    refine go_icmp_ne c0_201 (fun b201 => ?_) (fun b201 => ?_)
    · refine go_push c0_223 ?_
      refine go_goto c0_224 ?_
      refine go_istore c0_228 rfl rfl ?_
      dsimp only [setl]
      refine go_aload c0_230 rfl rfl ?_
      refine go_iload c0_232 rfl ?_
      refine go_callV1 (y := x) (W := 0) (argsL := [(.int q)]) (st := []) c0_234 (rm_mv l Z a0 hw h0 n0 M b g r d vr vd an rv dv q hq0 hrv hdv h01 P0) (P0.exa (i := 0) rfl) (t40 hw) (t41 hw) (fun _ q => notFace_of_selects (args := #[]) (mvT q (t43 hw))) (t43 hw) (t42 hw) (t4 hw) (t44 hw) (by decide) (lenOf pd4 rfl) rfl rfl (by decide) (by decide) (by decide) (by decide) rfl ?_
      rintro _ _ ⟨rfl, rfl⟩
      refine go_more (k' := 16) (n' := 64) (by decide) (by decide) ?_
      refine go_iload c0_237 rfl ?_
      refine go_icmp_ne c0_239 (fun u => absurd (by rw [hmv, own_ex1, if_pos b194, if_neg b201]) u) (fun _ => ?_)
      refine go_push c0_242 ?_
      refine go_goto c0_243 ?_
      exact go_bret rfl c0_247 (by decide) (by decide) (by decide) ⟨_, rfl, rfl⟩
    · refine go_iload c0_204 rfl ?_
      refine go_if_eq c0_206 (fun _ => ?_) (fun q => absurd q (by decide))
      refine go_push c0_227 ?_
      refine go_istore c0_228 rfl rfl ?_
      dsimp only [setl]
      refine go_aload c0_230 rfl rfl ?_
      refine go_iload c0_232 rfl ?_
      refine go_callV1 (y := x) (W := 0) (argsL := [(.int q)]) (st := []) c0_234 (rm_mv l Z a0 hw h0 n0 M b g r d vr vd an rv dv q hq0 hrv hdv h01 P0) (P0.exa (i := 0) rfl) (t40 hw) (t41 hw) (fun _ q => notFace_of_selects (args := #[]) (mvT q (t43 hw))) (t43 hw) (t42 hw) (t4 hw) (t44 hw) (by decide) (lenOf pd4 rfl) rfl rfl (by decide) (by decide) (by decide) (by decide) rfl ?_
      rintro _ _ ⟨rfl, rfl⟩
      refine go_more (k' := 16) (n' := 64) (by decide) (by decide) ?_
      refine go_iload c0_237 rfl ?_
      refine go_icmp_ne c0_239 (fun u => absurd (by rw [hmv, own_ex1, if_pos b194, if_pos b201]) u) (fun _ => ?_)
      refine go_push c0_242 ?_
      refine go_goto c0_243 ?_
      exact go_bret rfl c0_247 (by decide) (by decide) (by decide) ⟨_, rfl, rfl⟩
set_option maxRecDepth 65536 in
set_option maxHeartbeats 4000000 in
theorem own_end_2 (l : Launch) (Z : State) (a0 : Array Value) (hw : ∀ d ∈ tables_1, d.before a0 Z = true) (h0 : Heap) (n0 : Nat) (M : List (Addr × Desc)) (zn zf zg zt zu zq nn x0 x1 y0 y1 : Int32) (p13 p14 p15 p16 : Addr) (b g r d : Addr) (vr vd : List Value) (an rv dv q : Int32) (hq0 : ¬ q < 0) (hrv : vr[q.toNatClampNeg]? = some (.int rv)) (hdv : vd[q.toNatClampNeg]? = some (.int dv)) (h01 : dv = 0 ∨ dv = 1) (hmv : own_mv rv dv q = own_ex2 q x0 y0 x1 y1) (P0 : Hp Z n0 h0 ((b, (.inl ("com/example/cropped_view/croppedview/Broadcast", [(("com/example/cropped_view/croppedview/Broadcast", "m_reactions", "[[I"), (.ref g)), (("com/example/cropped_view/croppedview/Broadcast", "m_deletes", "[Z"), (.ref d)), (("com/example/cropped_view/croppedview/Broadcast", "m_deletesAny", "Z"), (.int an))]))) :: (g, (.inr ((.array .int), "[[I", [(.ref r), (.ref r), (.ref r), (.ref r)]))) :: (r, (.inr (.int, "[I", vr))) :: (d, (.inr (.boolean, "[Z", vd))) :: M)) :
    Go false (KW Z x) l Z room_1 x code maxLocals ret n0 room_1.cells room_1.slots (R1 fun w _ => w = .int 1) h0 16 64 190 [.val (.int zn), .val (.int zf), .val (.int zg), .val (.int zt), .val (.int zu), .val (.int zq), .val (.int nn), .val (.int 1), .val (.int x0), .val (.int x1), .val (.int y0), .val (.int y1), .val (.int q), .val (.ref p13), .val (.ref p14), .val (.ref p15), .val (.ref p16), .val (.ref b), .unset] [] := by
  refine go_iload c0_190 rfl ?_
  refine go_iload c0_192 rfl ?_
  refine go_icmp_ne c0_194 (fun b194 => ?_) (fun b194 => ?_)
  · refine go_iload c0_204 rfl ?_
    refine go_if_eq c0_206 (fun q => absurd q (by decide)) (fun _ => ?_)
    refine go_iload c0_209 rfl ?_
    refine go_iload c0_211 rfl ?_
    refine go_icmp_ne c0_213 (fun b213 => ?_) (fun b213 => ?_)
    · refine go_push c0_227 ?_
      refine go_istore c0_228 rfl rfl ?_
      dsimp only [setl]
      refine go_aload c0_230 rfl rfl ?_
      refine go_iload c0_232 rfl ?_
      refine go_callV1 (y := x) (W := 0) (argsL := [(.int q)]) (st := []) c0_234 (rm_mv l Z a0 hw h0 n0 M b g r d vr vd an rv dv q hq0 hrv hdv h01 P0) (P0.exa (i := 0) rfl) (t40 hw) (t41 hw) (fun _ q => notFace_of_selects (args := #[]) (mvT q (t43 hw))) (t43 hw) (t42 hw) (t4 hw) (t44 hw) (by decide) (lenOf pd4 rfl) rfl rfl (by decide) (by decide) (by decide) (by decide) rfl ?_
      rintro _ _ ⟨rfl, rfl⟩
      refine go_more (k' := 16) (n' := 64) (by decide) (by decide) ?_
      refine go_iload c0_237 rfl ?_
      refine go_icmp_ne c0_239 (fun u => absurd (by rw [hmv, own_ex2, if_neg b194, own_s2, if_neg b213]) u) (fun _ => ?_)
      refine go_push c0_242 ?_
      refine go_goto c0_243 ?_
      exact go_bret rfl c0_247 (by decide) (by decide) (by decide) ⟨_, rfl, rfl⟩
    · refine go_iload c0_216 rfl ?_
      refine go_iload c0_218 rfl ?_
      refine go_icmp_eq c0_220 (fun b220 => ?_) (fun b220 => ?_)
      · refine go_push c0_227 ?_
        refine go_istore c0_228 rfl rfl ?_
        dsimp only [setl]
        refine go_aload c0_230 rfl rfl ?_
        refine go_iload c0_232 rfl ?_
        refine go_callV1 (y := x) (W := 0) (argsL := [(.int q)]) (st := []) c0_234 (rm_mv l Z a0 hw h0 n0 M b g r d vr vd an rv dv q hq0 hrv hdv h01 P0) (P0.exa (i := 0) rfl) (t40 hw) (t41 hw) (fun _ q => notFace_of_selects (args := #[]) (mvT q (t43 hw))) (t43 hw) (t42 hw) (t4 hw) (t44 hw) (by decide) (lenOf pd4 rfl) rfl rfl (by decide) (by decide) (by decide) (by decide) rfl ?_
        rintro _ _ ⟨rfl, rfl⟩
        refine go_more (k' := 16) (n' := 64) (by decide) (by decide) ?_
        refine go_iload c0_237 rfl ?_
        refine go_icmp_ne c0_239 (fun u => absurd (by rw [hmv, own_ex2, if_neg b194, own_s2, if_pos b213, if_pos b220]) u) (fun _ => ?_)
        refine go_push c0_242 ?_
        refine go_goto c0_243 ?_
        exact go_bret rfl c0_247 (by decide) (by decide) (by decide) ⟨_, rfl, rfl⟩
      · refine go_push c0_223 ?_
        refine go_goto c0_224 ?_
        refine go_istore c0_228 rfl rfl ?_
        dsimp only [setl]
        refine go_aload c0_230 rfl rfl ?_
        refine go_iload c0_232 rfl ?_
        refine go_callV1 (y := x) (W := 0) (argsL := [(.int q)]) (st := []) c0_234 (rm_mv l Z a0 hw h0 n0 M b g r d vr vd an rv dv q hq0 hrv hdv h01 P0) (P0.exa (i := 0) rfl) (t40 hw) (t41 hw) (fun _ q => notFace_of_selects (args := #[]) (mvT q (t43 hw))) (t43 hw) (t42 hw) (t4 hw) (t44 hw) (by decide) (lenOf pd4 rfl) rfl rfl (by decide) (by decide) (by decide) (by decide) rfl ?_
        rintro _ _ ⟨rfl, rfl⟩
        refine go_more (k' := 16) (n' := 64) (by decide) (by decide) ?_
        refine go_iload c0_237 rfl ?_
        refine go_icmp_ne c0_239 (fun u => absurd (by rw [hmv, own_ex2, if_neg b194, own_s2, if_pos b213, if_neg b220]) u) (fun _ => ?_)
        refine go_push c0_242 ?_
        refine go_goto c0_243 ?_
        exact go_bret rfl c0_247 (by decide) (by decide) (by decide) ⟨_, rfl, rfl⟩
  · refine go_iload c0_197 rfl ?_
    refine go_iload c0_199 rfl ?_
    refine go_icmp_ne c0_201 (fun b201 => ?_) (fun b201 => ?_)
    · refine go_push c0_223 ?_
      refine go_goto c0_224 ?_
      refine go_istore c0_228 rfl rfl ?_
      dsimp only [setl]
      refine go_aload c0_230 rfl rfl ?_
      refine go_iload c0_232 rfl ?_
      refine go_callV1 (y := x) (W := 0) (argsL := [(.int q)]) (st := []) c0_234 (rm_mv l Z a0 hw h0 n0 M b g r d vr vd an rv dv q hq0 hrv hdv h01 P0) (P0.exa (i := 0) rfl) (t40 hw) (t41 hw) (fun _ q => notFace_of_selects (args := #[]) (mvT q (t43 hw))) (t43 hw) (t42 hw) (t4 hw) (t44 hw) (by decide) (lenOf pd4 rfl) rfl rfl (by decide) (by decide) (by decide) (by decide) rfl ?_
      rintro _ _ ⟨rfl, rfl⟩
      refine go_more (k' := 16) (n' := 64) (by decide) (by decide) ?_
      refine go_iload c0_237 rfl ?_
      refine go_icmp_ne c0_239 (fun u => absurd (by rw [hmv, own_ex2, if_pos b194, if_neg b201]) u) (fun _ => ?_)
      refine go_push c0_242 ?_
      refine go_goto c0_243 ?_
      exact go_bret rfl c0_247 (by decide) (by decide) (by decide) ⟨_, rfl, rfl⟩
    · refine go_iload c0_204 rfl ?_
      refine go_if_eq c0_206 (fun q => absurd q (by decide)) (fun _ => ?_)
      refine go_iload c0_209 rfl ?_
      refine go_iload c0_211 rfl ?_
      refine go_icmp_ne c0_213 (fun b213 => ?_) (fun b213 => ?_)
      · refine go_push c0_227 ?_
        refine go_istore c0_228 rfl rfl ?_
        dsimp only [setl]
        refine go_aload c0_230 rfl rfl ?_
        refine go_iload c0_232 rfl ?_
        refine go_callV1 (y := x) (W := 0) (argsL := [(.int q)]) (st := []) c0_234 (rm_mv l Z a0 hw h0 n0 M b g r d vr vd an rv dv q hq0 hrv hdv h01 P0) (P0.exa (i := 0) rfl) (t40 hw) (t41 hw) (fun _ q => notFace_of_selects (args := #[]) (mvT q (t43 hw))) (t43 hw) (t42 hw) (t4 hw) (t44 hw) (by decide) (lenOf pd4 rfl) rfl rfl (by decide) (by decide) (by decide) (by decide) rfl ?_
        rintro _ _ ⟨rfl, rfl⟩
        refine go_more (k' := 16) (n' := 64) (by decide) (by decide) ?_
        refine go_iload c0_237 rfl ?_
        refine go_icmp_ne c0_239 (fun u => absurd (by rw [hmv, own_ex2, if_pos b194, if_pos b201, own_s2, if_neg b213]) u) (fun _ => ?_)
        refine go_push c0_242 ?_
        refine go_goto c0_243 ?_
        exact go_bret rfl c0_247 (by decide) (by decide) (by decide) ⟨_, rfl, rfl⟩
      · refine go_iload c0_216 rfl ?_
        refine go_iload c0_218 rfl ?_
        refine go_icmp_eq c0_220 (fun b220 => ?_) (fun b220 => ?_)
        · refine go_push c0_227 ?_
          refine go_istore c0_228 rfl rfl ?_
          dsimp only [setl]
          refine go_aload c0_230 rfl rfl ?_
          refine go_iload c0_232 rfl ?_
          refine go_callV1 (y := x) (W := 0) (argsL := [(.int q)]) (st := []) c0_234 (rm_mv l Z a0 hw h0 n0 M b g r d vr vd an rv dv q hq0 hrv hdv h01 P0) (P0.exa (i := 0) rfl) (t40 hw) (t41 hw) (fun _ q => notFace_of_selects (args := #[]) (mvT q (t43 hw))) (t43 hw) (t42 hw) (t4 hw) (t44 hw) (by decide) (lenOf pd4 rfl) rfl rfl (by decide) (by decide) (by decide) (by decide) rfl ?_
          rintro _ _ ⟨rfl, rfl⟩
          refine go_more (k' := 16) (n' := 64) (by decide) (by decide) ?_
          refine go_iload c0_237 rfl ?_
          refine go_icmp_ne c0_239 (fun u => absurd (by rw [hmv, own_ex2, if_pos b194, if_pos b201, own_s2, if_pos b213, if_pos b220]) u) (fun _ => ?_)
          refine go_push c0_242 ?_
          refine go_goto c0_243 ?_
          exact go_bret rfl c0_247 (by decide) (by decide) (by decide) ⟨_, rfl, rfl⟩
        · refine go_push c0_223 ?_
          refine go_goto c0_224 ?_
          refine go_istore c0_228 rfl rfl ?_
          dsimp only [setl]
          refine go_aload c0_230 rfl rfl ?_
          refine go_iload c0_232 rfl ?_
          refine go_callV1 (y := x) (W := 0) (argsL := [(.int q)]) (st := []) c0_234 (rm_mv l Z a0 hw h0 n0 M b g r d vr vd an rv dv q hq0 hrv hdv h01 P0) (P0.exa (i := 0) rfl) (t40 hw) (t41 hw) (fun _ q => notFace_of_selects (args := #[]) (mvT q (t43 hw))) (t43 hw) (t42 hw) (t4 hw) (t44 hw) (by decide) (lenOf pd4 rfl) rfl rfl (by decide) (by decide) (by decide) (by decide) rfl ?_
          rintro _ _ ⟨rfl, rfl⟩
          refine go_more (k' := 16) (n' := 64) (by decide) (by decide) ?_
          refine go_iload c0_237 rfl ?_
          refine go_icmp_ne c0_239 (fun u => absurd (by rw [hmv, own_ex2, if_pos b194, if_pos b201, own_s2, if_pos b213, if_neg b220]) u) (fun _ => ?_)
          refine go_push c0_242 ?_
          refine go_goto c0_243 ?_
          exact go_bret rfl c0_247 (by decide) (by decide) (by decide) ⟨_, rfl, rfl⟩
set_option maxRecDepth 65536 in
set_option maxHeartbeats 4000000 in
theorem rm0 (l : Launch) (Z : State) (a0 : Array Value) (hw : ∀ d ∈ tables_1, d.before a0 Z = true) (h0 : Heap) (n0 : Nat) (P0 : Hp Z n0 h0 []) (zn zf zg zt zu zq : Int32) :
    ConW l Z x code maxLocals ret room_1 #[(.int zn), (.int zf), (.int zg), (.int zt), (.int zu), (.int zq)] h0 n0 (R1 fun w _ => w = .int 1) := by
  refine con_ofW (ls := [.val (.int zn), .val (.int zf), .val (.int zg), .val (.int zt), .val (.int zu), .val (.int zq), .unset, .unset, .unset, .unset, .unset, .unset, .unset, .unset, .unset, .unset, .unset, .unset, .unset]) (plainFor_of_name pn3) rfl ?_
  refine go_push c0_0 ?_
  refine go_iload c0_1 rfl ?_
  refine go_push c0_2 ?_
  refine go_iand c0_3 ?_
  refine go_iadd c0_4 ?_
  rcases own_n4 zn with hN | hN | hN | hN
  · refine go_isI 1 hN ?_
    refine go_istore c0_5 rfl rfl ?_
    dsimp only [setl]
    refine go_iload c0_7 rfl ?_
    refine go_push c0_8 ?_
    refine go_ishr c0_9 ?_
    refine go_push c0_10 ?_
    refine go_iand c0_11 ?_
    refine go_if_eq c0_12 (fun b12 => ?_) (fun b12 => ?_)
    · refine go_push c0_25 ?_
      refine go_istore c0_26 rfl rfl ?_
      dsimp only [setl]
      refine go_iload c0_28 rfl ?_
      refine go_ldcI (y := x) c0_29 (t0 hw) ?_
      refine go_iand c0_31 ?_
      refine go_iload c0_32 rfl ?_
      refine go_irem c0_34 (by decide) ?_
      refine go_nameI fun x0 e_x0 => ?_
      have h_x0 : own_in x0 1 := by rw [e_x0]; exact own_mod zf 1 (by decide) (by decide)
      clear e_x0
      refine go_istore c0_35 rfl rfl ?_
      dsimp only [setl]
      refine go_iload c0_37 rfl ?_
      refine go_push c0_39 ?_
      refine go_icmp_lt c0_40 (fun _ => ?_) (fun q => absurd q (by decide))
      refine go_iload c0_63 rfl ?_
      refine go_istore c0_65 rfl rfl ?_
      dsimp only [setl]
      refine go_iload c0_67 rfl ?_
      refine go_ldcI (y := x) c0_68 (t0 hw) ?_
      refine go_iand c0_70 ?_
      refine go_iload c0_71 rfl ?_
      refine go_push c0_73 ?_
      refine go_iadd c0_74 ?_
      refine go_isI 2 (by decide) ?_
      refine go_irem c0_75 (by decide) ?_
      refine go_push c0_76 ?_
      refine go_isub c0_77 ?_
      refine go_nameI fun y0 e_y0 => ?_
      have h_y0 : own_to y0 1 := by rw [e_y0]; exact own_tos 1 2 (by decide) (by decide) (by decide) zt
      clear e_y0
      refine go_istore c0_78 rfl rfl ?_
      dsimp only [setl]
      refine go_iload c0_80 rfl ?_
      refine go_ldcI (y := x) c0_82 (t0 hw) ?_
      refine go_iand c0_84 ?_
      refine go_iload c0_85 rfl ?_
      refine go_push c0_87 ?_
      refine go_iadd c0_88 ?_
      refine go_isI 2 (by decide) ?_
      refine go_irem c0_89 (by decide) ?_
      refine go_push c0_90 ?_
      refine go_isub c0_91 ?_
      refine go_nameI fun y1 e_y1 => ?_
      have h_y1 : own_to y1 1 := by rw [e_y1]; exact own_tos 1 2 (by decide) (by decide) (by decide) zu
      clear e_y1
      refine go_istore c0_92 rfl rfl ?_
      dsimp only [setl]
      refine go_iload c0_94 rfl ?_
      refine go_ldcI (y := x) c0_96 (t0 hw) ?_
      refine go_iand c0_98 ?_
      refine go_iload c0_99 rfl ?_
      refine go_irem c0_101 (by decide) ?_
      refine go_nameI fun q e_q => ?_
      have h_q : own_in q 1 := by rw [e_q]; exact own_mod zq 1 (by decide) (by decide)
      clear e_q
      refine go_istore c0_102 rfl rfl ?_
      dsimp only [setl]
      refine go_push c0_104 ?_
      refine go_newarr (y := x) P0 "[I" [(.int 0)] 1 c0_105 (t1 hw) (by decide) (by decide) (by decide) (by decide) rfl rfl (by decide) (by decide) ?_
      intro h1 a3 P2
      refine go_more (k' := 1) (n' := 1) (by decide) (by decide) ?_
      refine go_dup c0_107 rfl ?_
      refine go_push c0_108 ?_
      refine go_iload c0_109 rfl ?_
      refine go_iastoreH P2 0 c0_111 rfl (by decide) (Nat.le_of_ble_eq_true rfl) ?_
      intro h4 P5
      dsimp only [lupd] at P5
      refine go_astore c0_112 rfl rfl rfl ?_
      dsimp only [setl]
      refine go_push c0_114 ?_
      refine go_newarr (y := x) P5 "[I" [(.int 0)] 1 c0_115 (t1 hw) (by decide) (by decide) (by decide) (by decide) rfl rfl (by decide) (by decide) ?_
      intro h6 a8 P7
      refine go_more (k' := 2) (n' := 2) (by decide) (by decide) ?_
      refine go_dup c0_117 rfl ?_
      refine go_push c0_118 ?_
      refine go_iload c0_119 rfl ?_
      refine go_iastoreH P7 0 c0_121 rfl (by decide) (Nat.le_of_ble_eq_true rfl) ?_
      intro h9 P10
      dsimp only [lupd] at P10
      refine go_astore c0_122 rfl rfl rfl ?_
      dsimp only [setl]
      refine go_push c0_124 ?_
      refine go_newarr (y := x) P10 "[I" [(.int 0), (.int 0)] 2 c0_125 (t1 hw) (by decide) (by decide) (by decide) (by decide) rfl rfl (by decide) (by decide) ?_
      intro h11 a13 P12
      refine go_more (k' := 3) (n' := 4) (by decide) (by decide) ?_
      refine go_dup c0_127 rfl ?_
      refine go_push c0_128 ?_
      refine go_iload c0_129 rfl ?_
      refine go_iastoreH P12 0 c0_131 rfl (by decide) (Nat.le_of_ble_eq_true rfl) ?_
      intro h14 P15
      dsimp only [lupd] at P15
      refine go_dup c0_132 rfl ?_
      refine go_push c0_133 ?_
      refine go_iload c0_134 rfl ?_
      refine go_iastoreH P15 0 c0_136 rfl (by decide) (Nat.le_of_ble_eq_true rfl) ?_
      intro h16 P17
      dsimp only [lupd] at P17
      refine go_astore c0_137 rfl rfl rfl ?_
      dsimp only [setl]
      refine go_push c0_139 ?_
      refine go_newarr (y := x) P17 "[I" [(.int 0), (.int 0)] 2 c0_140 (t1 hw) (by decide) (by decide) (by decide) (by decide) rfl rfl (by decide) (by decide) ?_
      intro h18 a20 P19
      refine go_more (k' := 4) (n' := 6) (by decide) (by decide) ?_
      refine go_dup c0_142 rfl ?_
      refine go_push c0_143 ?_
      refine go_iload c0_144 rfl ?_
      refine go_iastoreH P19 0 c0_146 rfl (by decide) (Nat.le_of_ble_eq_true rfl) ?_
      intro h21 P22
      dsimp only [lupd] at P22
      refine go_dup c0_147 rfl ?_
      refine go_push c0_148 ?_
      refine go_iload c0_149 rfl ?_
      refine go_iastoreH P22 0 c0_151 rfl (by decide) (Nat.le_of_ble_eq_true rfl) ?_
      intro h23 P24
      dsimp only [lupd] at P24
      refine go_astore c0_152 rfl rfl rfl ?_
      dsimp only [setl]
      refine go_iload c0_154 rfl ?_
      refine go_if_eq c0_156 (fun _ => ?_) (fun q => absurd q (by decide))
      refine go_new (y := x) P24 [(("com/example/cropped_view/croppedview/Broadcast", "m_reactions", "[[I"), .null), (("com/example/cropped_view/croppedview/Broadcast", "m_deletes", "[Z"), .null), (("com/example/cropped_view/croppedview/Broadcast", "m_deletesAny", "Z"), (.int 0))] c0_175 (t2 hw) (t3 hw) (t4 hw) (⟨⟨Or.inr (t30 hw), (.array (.array .int)), by decide, rfl⟩, ⟨⟨Or.inr (t37 hw), (.array .boolean), by decide, rfl⟩, ⟨⟨Or.inr (t39 hw), .boolean, by decide, rfl⟩, trivial⟩⟩⟩) (by decide) (by decide) (by decide) ?_
      intro h25 a27 P26
      refine go_more (k' := 5) (n' := 9) (by decide) (by decide) ?_
      refine go_dup c0_178 rfl ?_
      refine go_aload c0_179 rfl rfl ?_
      refine go_aload c0_181 rfl rfl ?_
      refine go_iload c0_183 rfl ?_
      have P28 : Hp Z n0 h25 ([(a27, (.inl ("com/example/cropped_view/croppedview/Broadcast", [(("com/example/cropped_view/croppedview/Broadcast", "m_reactions", "[[I"), .null), (("com/example/cropped_view/croppedview/Broadcast", "m_deletes", "[Z"), .null), (("com/example/cropped_view/croppedview/Broadcast", "m_deletesAny", "Z"), (.int 0))]))), (a3, (.inr (.int, "[I", [(.int x0)]))), (a8, (.inr (.int, "[I", [(.int y0)]))), (a20, (.inr (.int, "[I", [(.int y0), (.int y1)]))), (a13, (.inr (.int, "[I", [(.int x0), (.int x0)])))]) := (((P26.front 3).front 4).front 2)
      refine go_callNW0 (y := x) (W := 1) (argsL := [(.ref a3), (.ref a8), (.int 1)]) (st := [(.ref a27)]) c0_185 rfl rfl (rm_ct_1_1 l Z a0 hw h25 n0 _ a27 a3 a8 x0 y0 h_x0 h_y0 P28) (t5 hw) (t6 hw) (t4 hw) (t7 hw) (by decide) (lenOf pd5 rfl) rfl rfl (by decide) (by decide) (by decide) (by decide) rfl ?_
      rintro h29 ⟨s31, d32, g33, r34, vs35, vd36, vr37, an38, P30, hGood⟩
      refine go_more (k' := 9) (n' := 16) (by decide) (by decide) ?_
      refine go_astore c0_188 rfl rfl rfl ?_
      dsimp only [setl]
      obtain ⟨rv, dv, hrv, hdv, h01, hmv⟩ := hGood q h_q
      refine go_more (k' := 16) (n' := 64) (by decide) (by decide) ?_
      have P39 : Hp Z n0 h29 ([(a27, (.inl ("com/example/cropped_view/croppedview/Broadcast", [(("com/example/cropped_view/croppedview/Broadcast", "m_reactions", "[[I"), (.ref g33)), (("com/example/cropped_view/croppedview/Broadcast", "m_deletes", "[Z"), (.ref d32)), (("com/example/cropped_view/croppedview/Broadcast", "m_deletesAny", "Z"), (.int an38))]))), (g33, (.inr ((.array .int), "[[I", [(.ref r34), (.ref r34), (.ref r34), (.ref r34)]))), (r34, (.inr (.int, "[I", vr37))), (d32, (.inr (.boolean, "[Z", vd36))), (s31, (.inr (.boolean, "[Z", vs35))), (a3, (.inr (.int, "[I", [(.int x0)]))), (a8, (.inr (.int, "[I", [(.int y0)]))), (a20, (.inr (.int, "[I", [(.int y0), (.int y1)]))), (a13, (.inr (.int, "[I", [(.int x0), (.int x0)])))]) := ((((P30.front 1).front 3).front 3).front 4)
      exact own_end_1 l Z a0 hw h29 n0 _ zn zf zg zt zu zq 1 x0 x0 y0 y1 a3 a8 a13 a20 a27 g33 r34 d32 vr37 vd36 an38 rv dv q h_q.1 hrv hdv h01 hmv P39
    · refine go_iload c0_15 rfl ?_
      refine go_push c0_17 ?_
      refine go_icmp_lt c0_18 (fun _ => ?_) (fun q => absurd q (by decide))
      refine go_push c0_25 ?_
      refine go_istore c0_26 rfl rfl ?_
      dsimp only [setl]
      refine go_iload c0_28 rfl ?_
      refine go_ldcI (y := x) c0_29 (t0 hw) ?_
      refine go_iand c0_31 ?_
      refine go_iload c0_32 rfl ?_
      refine go_irem c0_34 (by decide) ?_
      refine go_nameI fun x0 e_x0 => ?_
      have h_x0 : own_in x0 1 := by rw [e_x0]; exact own_mod zf 1 (by decide) (by decide)
      clear e_x0
      refine go_istore c0_35 rfl rfl ?_
      dsimp only [setl]
      refine go_iload c0_37 rfl ?_
      refine go_push c0_39 ?_
      refine go_icmp_lt c0_40 (fun _ => ?_) (fun q => absurd q (by decide))
      refine go_iload c0_63 rfl ?_
      refine go_istore c0_65 rfl rfl ?_
      dsimp only [setl]
      refine go_iload c0_67 rfl ?_
      refine go_ldcI (y := x) c0_68 (t0 hw) ?_
      refine go_iand c0_70 ?_
      refine go_iload c0_71 rfl ?_
      refine go_push c0_73 ?_
      refine go_iadd c0_74 ?_
      refine go_isI 2 (by decide) ?_
      refine go_irem c0_75 (by decide) ?_
      refine go_push c0_76 ?_
      refine go_isub c0_77 ?_
      refine go_nameI fun y0 e_y0 => ?_
      have h_y0 : own_to y0 1 := by rw [e_y0]; exact own_tos 1 2 (by decide) (by decide) (by decide) zt
      clear e_y0
      refine go_istore c0_78 rfl rfl ?_
      dsimp only [setl]
      refine go_iload c0_80 rfl ?_
      refine go_ldcI (y := x) c0_82 (t0 hw) ?_
      refine go_iand c0_84 ?_
      refine go_iload c0_85 rfl ?_
      refine go_push c0_87 ?_
      refine go_iadd c0_88 ?_
      refine go_isI 2 (by decide) ?_
      refine go_irem c0_89 (by decide) ?_
      refine go_push c0_90 ?_
      refine go_isub c0_91 ?_
      refine go_nameI fun y1 e_y1 => ?_
      have h_y1 : own_to y1 1 := by rw [e_y1]; exact own_tos 1 2 (by decide) (by decide) (by decide) zu
      clear e_y1
      refine go_istore c0_92 rfl rfl ?_
      dsimp only [setl]
      refine go_iload c0_94 rfl ?_
      refine go_ldcI (y := x) c0_96 (t0 hw) ?_
      refine go_iand c0_98 ?_
      refine go_iload c0_99 rfl ?_
      refine go_irem c0_101 (by decide) ?_
      refine go_nameI fun q e_q => ?_
      have h_q : own_in q 1 := by rw [e_q]; exact own_mod zq 1 (by decide) (by decide)
      clear e_q
      refine go_istore c0_102 rfl rfl ?_
      dsimp only [setl]
      refine go_push c0_104 ?_
      refine go_newarr (y := x) P0 "[I" [(.int 0)] 1 c0_105 (t1 hw) (by decide) (by decide) (by decide) (by decide) rfl rfl (by decide) (by decide) ?_
      intro h40 a42 P41
      refine go_more (k' := 1) (n' := 1) (by decide) (by decide) ?_
      refine go_dup c0_107 rfl ?_
      refine go_push c0_108 ?_
      refine go_iload c0_109 rfl ?_
      refine go_iastoreH P41 0 c0_111 rfl (by decide) (Nat.le_of_ble_eq_true rfl) ?_
      intro h43 P44
      dsimp only [lupd] at P44
      refine go_astore c0_112 rfl rfl rfl ?_
      dsimp only [setl]
      refine go_push c0_114 ?_
      refine go_newarr (y := x) P44 "[I" [(.int 0)] 1 c0_115 (t1 hw) (by decide) (by decide) (by decide) (by decide) rfl rfl (by decide) (by decide) ?_
      intro h45 a47 P46
      refine go_more (k' := 2) (n' := 2) (by decide) (by decide) ?_
      refine go_dup c0_117 rfl ?_
      refine go_push c0_118 ?_
      refine go_iload c0_119 rfl ?_
      refine go_iastoreH P46 0 c0_121 rfl (by decide) (Nat.le_of_ble_eq_true rfl) ?_
      intro h48 P49
      dsimp only [lupd] at P49
      refine go_astore c0_122 rfl rfl rfl ?_
      dsimp only [setl]
      refine go_push c0_124 ?_
      refine go_newarr (y := x) P49 "[I" [(.int 0), (.int 0)] 2 c0_125 (t1 hw) (by decide) (by decide) (by decide) (by decide) rfl rfl (by decide) (by decide) ?_
      intro h50 a52 P51
      refine go_more (k' := 3) (n' := 4) (by decide) (by decide) ?_
      refine go_dup c0_127 rfl ?_
      refine go_push c0_128 ?_
      refine go_iload c0_129 rfl ?_
      refine go_iastoreH P51 0 c0_131 rfl (by decide) (Nat.le_of_ble_eq_true rfl) ?_
      intro h53 P54
      dsimp only [lupd] at P54
      refine go_dup c0_132 rfl ?_
      refine go_push c0_133 ?_
      refine go_iload c0_134 rfl ?_
      refine go_iastoreH P54 0 c0_136 rfl (by decide) (Nat.le_of_ble_eq_true rfl) ?_
      intro h55 P56
      dsimp only [lupd] at P56
      refine go_astore c0_137 rfl rfl rfl ?_
      dsimp only [setl]
      refine go_push c0_139 ?_
      refine go_newarr (y := x) P56 "[I" [(.int 0), (.int 0)] 2 c0_140 (t1 hw) (by decide) (by decide) (by decide) (by decide) rfl rfl (by decide) (by decide) ?_
      intro h57 a59 P58
      refine go_more (k' := 4) (n' := 6) (by decide) (by decide) ?_
      refine go_dup c0_142 rfl ?_
      refine go_push c0_143 ?_
      refine go_iload c0_144 rfl ?_
      refine go_iastoreH P58 0 c0_146 rfl (by decide) (Nat.le_of_ble_eq_true rfl) ?_
      intro h60 P61
      dsimp only [lupd] at P61
      refine go_dup c0_147 rfl ?_
      refine go_push c0_148 ?_
      refine go_iload c0_149 rfl ?_
      refine go_iastoreH P61 0 c0_151 rfl (by decide) (Nat.le_of_ble_eq_true rfl) ?_
      intro h62 P63
      dsimp only [lupd] at P63
      refine go_astore c0_152 rfl rfl rfl ?_
      dsimp only [setl]
      refine go_iload c0_154 rfl ?_
      refine go_if_eq c0_156 (fun _ => ?_) (fun q => absurd q (by decide))
      refine go_new (y := x) P63 [(("com/example/cropped_view/croppedview/Broadcast", "m_reactions", "[[I"), .null), (("com/example/cropped_view/croppedview/Broadcast", "m_deletes", "[Z"), .null), (("com/example/cropped_view/croppedview/Broadcast", "m_deletesAny", "Z"), (.int 0))] c0_175 (t2 hw) (t3 hw) (t4 hw) (⟨⟨Or.inr (t30 hw), (.array (.array .int)), by decide, rfl⟩, ⟨⟨Or.inr (t37 hw), (.array .boolean), by decide, rfl⟩, ⟨⟨Or.inr (t39 hw), .boolean, by decide, rfl⟩, trivial⟩⟩⟩) (by decide) (by decide) (by decide) ?_
      intro h64 a66 P65
      refine go_more (k' := 5) (n' := 9) (by decide) (by decide) ?_
      refine go_dup c0_178 rfl ?_
      refine go_aload c0_179 rfl rfl ?_
      refine go_aload c0_181 rfl rfl ?_
      refine go_iload c0_183 rfl ?_
      have P67 : Hp Z n0 h64 ([(a66, (.inl ("com/example/cropped_view/croppedview/Broadcast", [(("com/example/cropped_view/croppedview/Broadcast", "m_reactions", "[[I"), .null), (("com/example/cropped_view/croppedview/Broadcast", "m_deletes", "[Z"), .null), (("com/example/cropped_view/croppedview/Broadcast", "m_deletesAny", "Z"), (.int 0))]))), (a42, (.inr (.int, "[I", [(.int x0)]))), (a47, (.inr (.int, "[I", [(.int y0)]))), (a59, (.inr (.int, "[I", [(.int y0), (.int y1)]))), (a52, (.inr (.int, "[I", [(.int x0), (.int x0)])))]) := (((P65.front 3).front 4).front 2)
      refine go_callNW0 (y := x) (W := 1) (argsL := [(.ref a42), (.ref a47), (.int 1)]) (st := [(.ref a66)]) c0_185 rfl rfl (rm_ct_1_1 l Z a0 hw h64 n0 _ a66 a42 a47 x0 y0 h_x0 h_y0 P67) (t5 hw) (t6 hw) (t4 hw) (t7 hw) (by decide) (lenOf pd5 rfl) rfl rfl (by decide) (by decide) (by decide) (by decide) rfl ?_
      rintro h68 ⟨s70, d71, g72, r73, vs74, vd75, vr76, an77, P69, hGood⟩
      refine go_more (k' := 9) (n' := 16) (by decide) (by decide) ?_
      refine go_astore c0_188 rfl rfl rfl ?_
      dsimp only [setl]
      obtain ⟨rv, dv, hrv, hdv, h01, hmv⟩ := hGood q h_q
      refine go_more (k' := 16) (n' := 64) (by decide) (by decide) ?_
      have P78 : Hp Z n0 h68 ([(a66, (.inl ("com/example/cropped_view/croppedview/Broadcast", [(("com/example/cropped_view/croppedview/Broadcast", "m_reactions", "[[I"), (.ref g72)), (("com/example/cropped_view/croppedview/Broadcast", "m_deletes", "[Z"), (.ref d71)), (("com/example/cropped_view/croppedview/Broadcast", "m_deletesAny", "Z"), (.int an77))]))), (g72, (.inr ((.array .int), "[[I", [(.ref r73), (.ref r73), (.ref r73), (.ref r73)]))), (r73, (.inr (.int, "[I", vr76))), (d71, (.inr (.boolean, "[Z", vd75))), (s70, (.inr (.boolean, "[Z", vs74))), (a42, (.inr (.int, "[I", [(.int x0)]))), (a47, (.inr (.int, "[I", [(.int y0)]))), (a59, (.inr (.int, "[I", [(.int y0), (.int y1)]))), (a52, (.inr (.int, "[I", [(.int x0), (.int x0)])))]) := ((((P69.front 1).front 3).front 3).front 4)
      exact own_end_1 l Z a0 hw h68 n0 _ zn zf zg zt zu zq 1 x0 x0 y0 y1 a42 a47 a52 a59 a66 g72 r73 d71 vr76 vd75 an77 rv dv q h_q.1 hrv hdv h01 hmv P78
  · refine go_isI 2 hN ?_
    refine go_istore c0_5 rfl rfl ?_
    dsimp only [setl]
    refine go_iload c0_7 rfl ?_
    refine go_push c0_8 ?_
    refine go_ishr c0_9 ?_
    refine go_push c0_10 ?_
    refine go_iand c0_11 ?_
    refine go_if_eq c0_12 (fun b12 => ?_) (fun b12 => ?_)
    · refine go_push c0_25 ?_
      refine go_istore c0_26 rfl rfl ?_
      dsimp only [setl]
      refine go_iload c0_28 rfl ?_
      refine go_ldcI (y := x) c0_29 (t0 hw) ?_
      refine go_iand c0_31 ?_
      refine go_iload c0_32 rfl ?_
      refine go_irem c0_34 (by decide) ?_
      refine go_nameI fun x0 e_x0 => ?_
      have h_x0 : own_in x0 2 := by rw [e_x0]; exact own_mod zf 2 (by decide) (by decide)
      clear e_x0
      refine go_istore c0_35 rfl rfl ?_
      dsimp only [setl]
      refine go_iload c0_37 rfl ?_
      refine go_push c0_39 ?_
      refine go_icmp_lt c0_40 (fun q => absurd q (by decide)) (fun _ => ?_)
      refine go_iload c0_43 rfl ?_
      refine go_push c0_45 ?_
      refine go_iadd c0_46 ?_
      refine go_iload c0_47 rfl ?_
      refine go_ldcI (y := x) c0_48 (t0 hw) ?_
      refine go_iand c0_50 ?_
      refine go_iload c0_51 rfl ?_
      refine go_push c0_53 ?_
      refine go_isub c0_54 ?_
      refine go_isI 1 (by decide) ?_
      refine go_irem c0_55 (by decide) ?_
      refine go_nameI fun r1 e_r1 => ?_
      have h_r1 : own_in r1 1 := by rw [e_r1]; exact own_mod zg 1 (by decide) (by decide)
      clear e_r1
      refine go_iadd c0_56 ?_
      refine go_iload c0_57 rfl ?_
      refine go_irem c0_59 (by decide) ?_
      refine go_goto c0_60 ?_
      refine go_nameI fun x1 e_x1 => ?_
      have h_x1 : own_in x1 2 ∧ x1 ≠ x0 := by rw [e_x1]; exact own_snd2 x0 r1 h_x0 h_r1
      clear e_x1
      refine go_istore c0_65 rfl rfl ?_
      dsimp only [setl]
      refine go_iload c0_67 rfl ?_
      refine go_ldcI (y := x) c0_68 (t0 hw) ?_
      refine go_iand c0_70 ?_
      refine go_iload c0_71 rfl ?_
      refine go_push c0_73 ?_
      refine go_iadd c0_74 ?_
      refine go_isI 3 (by decide) ?_
      refine go_irem c0_75 (by decide) ?_
      refine go_push c0_76 ?_
      refine go_isub c0_77 ?_
      refine go_nameI fun y0 e_y0 => ?_
      have h_y0 : own_to y0 2 := by rw [e_y0]; exact own_tos 2 3 (by decide) (by decide) (by decide) zt
      clear e_y0
      refine go_istore c0_78 rfl rfl ?_
      dsimp only [setl]
      refine go_iload c0_80 rfl ?_
      refine go_ldcI (y := x) c0_82 (t0 hw) ?_
      refine go_iand c0_84 ?_
      refine go_iload c0_85 rfl ?_
      refine go_push c0_87 ?_
      refine go_iadd c0_88 ?_
      refine go_isI 3 (by decide) ?_
      refine go_irem c0_89 (by decide) ?_
      refine go_push c0_90 ?_
      refine go_isub c0_91 ?_
      refine go_nameI fun y1 e_y1 => ?_
      have h_y1 : own_to y1 2 := by rw [e_y1]; exact own_tos 2 3 (by decide) (by decide) (by decide) zu
      clear e_y1
      refine go_istore c0_92 rfl rfl ?_
      dsimp only [setl]
      refine go_iload c0_94 rfl ?_
      refine go_ldcI (y := x) c0_96 (t0 hw) ?_
      refine go_iand c0_98 ?_
      refine go_iload c0_99 rfl ?_
      refine go_irem c0_101 (by decide) ?_
      refine go_nameI fun q e_q => ?_
      have h_q : own_in q 2 := by rw [e_q]; exact own_mod zq 2 (by decide) (by decide)
      clear e_q
      refine go_istore c0_102 rfl rfl ?_
      dsimp only [setl]
      refine go_push c0_104 ?_
      refine go_newarr (y := x) P0 "[I" [(.int 0)] 1 c0_105 (t1 hw) (by decide) (by decide) (by decide) (by decide) rfl rfl (by decide) (by decide) ?_
      intro h79 a81 P80
      refine go_more (k' := 1) (n' := 1) (by decide) (by decide) ?_
      refine go_dup c0_107 rfl ?_
      refine go_push c0_108 ?_
      refine go_iload c0_109 rfl ?_
      refine go_iastoreH P80 0 c0_111 rfl (by decide) (Nat.le_of_ble_eq_true rfl) ?_
      intro h82 P83
      dsimp only [lupd] at P83
      refine go_astore c0_112 rfl rfl rfl ?_
      dsimp only [setl]
      refine go_push c0_114 ?_
      refine go_newarr (y := x) P83 "[I" [(.int 0)] 1 c0_115 (t1 hw) (by decide) (by decide) (by decide) (by decide) rfl rfl (by decide) (by decide) ?_
      intro h84 a86 P85
      refine go_more (k' := 2) (n' := 2) (by decide) (by decide) ?_
      refine go_dup c0_117 rfl ?_
      refine go_push c0_118 ?_
      refine go_iload c0_119 rfl ?_
      refine go_iastoreH P85 0 c0_121 rfl (by decide) (Nat.le_of_ble_eq_true rfl) ?_
      intro h87 P88
      dsimp only [lupd] at P88
      refine go_astore c0_122 rfl rfl rfl ?_
      dsimp only [setl]
      refine go_push c0_124 ?_
      refine go_newarr (y := x) P88 "[I" [(.int 0), (.int 0)] 2 c0_125 (t1 hw) (by decide) (by decide) (by decide) (by decide) rfl rfl (by decide) (by decide) ?_
      intro h89 a91 P90
      refine go_more (k' := 3) (n' := 4) (by decide) (by decide) ?_
      refine go_dup c0_127 rfl ?_
      refine go_push c0_128 ?_
      refine go_iload c0_129 rfl ?_
      refine go_iastoreH P90 0 c0_131 rfl (by decide) (Nat.le_of_ble_eq_true rfl) ?_
      intro h92 P93
      dsimp only [lupd] at P93
      refine go_dup c0_132 rfl ?_
      refine go_push c0_133 ?_
      refine go_iload c0_134 rfl ?_
      refine go_iastoreH P93 0 c0_136 rfl (by decide) (Nat.le_of_ble_eq_true rfl) ?_
      intro h94 P95
      dsimp only [lupd] at P95
      refine go_astore c0_137 rfl rfl rfl ?_
      dsimp only [setl]
      refine go_push c0_139 ?_
      refine go_newarr (y := x) P95 "[I" [(.int 0), (.int 0)] 2 c0_140 (t1 hw) (by decide) (by decide) (by decide) (by decide) rfl rfl (by decide) (by decide) ?_
      intro h96 a98 P97
      refine go_more (k' := 4) (n' := 6) (by decide) (by decide) ?_
      refine go_dup c0_142 rfl ?_
      refine go_push c0_143 ?_
      refine go_iload c0_144 rfl ?_
      refine go_iastoreH P97 0 c0_146 rfl (by decide) (Nat.le_of_ble_eq_true rfl) ?_
      intro h99 P100
      dsimp only [lupd] at P100
      refine go_dup c0_147 rfl ?_
      refine go_push c0_148 ?_
      refine go_iload c0_149 rfl ?_
      refine go_iastoreH P100 0 c0_151 rfl (by decide) (Nat.le_of_ble_eq_true rfl) ?_
      intro h101 P102
      dsimp only [lupd] at P102
      refine go_astore c0_152 rfl rfl rfl ?_
      dsimp only [setl]
      refine go_iload c0_154 rfl ?_
      refine go_if_eq c0_156 (fun _ => ?_) (fun q => absurd q (by decide))
      refine go_new (y := x) P102 [(("com/example/cropped_view/croppedview/Broadcast", "m_reactions", "[[I"), .null), (("com/example/cropped_view/croppedview/Broadcast", "m_deletes", "[Z"), .null), (("com/example/cropped_view/croppedview/Broadcast", "m_deletesAny", "Z"), (.int 0))] c0_175 (t2 hw) (t3 hw) (t4 hw) (⟨⟨Or.inr (t30 hw), (.array (.array .int)), by decide, rfl⟩, ⟨⟨Or.inr (t37 hw), (.array .boolean), by decide, rfl⟩, ⟨⟨Or.inr (t39 hw), .boolean, by decide, rfl⟩, trivial⟩⟩⟩) (by decide) (by decide) (by decide) ?_
      intro h103 a105 P104
      refine go_more (k' := 5) (n' := 9) (by decide) (by decide) ?_
      refine go_dup c0_178 rfl ?_
      refine go_aload c0_179 rfl rfl ?_
      refine go_aload c0_181 rfl rfl ?_
      refine go_iload c0_183 rfl ?_
      have P106 : Hp Z n0 h103 ([(a105, (.inl ("com/example/cropped_view/croppedview/Broadcast", [(("com/example/cropped_view/croppedview/Broadcast", "m_reactions", "[[I"), .null), (("com/example/cropped_view/croppedview/Broadcast", "m_deletes", "[Z"), .null), (("com/example/cropped_view/croppedview/Broadcast", "m_deletesAny", "Z"), (.int 0))]))), (a81, (.inr (.int, "[I", [(.int x0)]))), (a86, (.inr (.int, "[I", [(.int y0)]))), (a98, (.inr (.int, "[I", [(.int y0), (.int y1)]))), (a91, (.inr (.int, "[I", [(.int x0), (.int x1)])))]) := (((P104.front 3).front 4).front 2)
      refine go_callNW0 (y := x) (W := 1) (argsL := [(.ref a81), (.ref a86), (.int 2)]) (st := [(.ref a105)]) c0_185 rfl rfl (rm_ct_2_1 l Z a0 hw h103 n0 _ a105 a81 a86 x0 y0 h_x0 h_y0 P106) (t5 hw) (t6 hw) (t4 hw) (t7 hw) (by decide) (lenOf pd5 rfl) rfl rfl (by decide) (by decide) (by decide) (by decide) rfl ?_
      rintro h107 ⟨s109, d110, g111, r112, vs113, vd114, vr115, an116, P108, hGood⟩
      refine go_more (k' := 9) (n' := 19) (by decide) (by decide) ?_
      refine go_astore c0_188 rfl rfl rfl ?_
      dsimp only [setl]
      obtain ⟨rv, dv, hrv, hdv, h01, hmv⟩ := hGood q h_q
      refine go_more (k' := 16) (n' := 64) (by decide) (by decide) ?_
      have P117 : Hp Z n0 h107 ([(a105, (.inl ("com/example/cropped_view/croppedview/Broadcast", [(("com/example/cropped_view/croppedview/Broadcast", "m_reactions", "[[I"), (.ref g111)), (("com/example/cropped_view/croppedview/Broadcast", "m_deletes", "[Z"), (.ref d110)), (("com/example/cropped_view/croppedview/Broadcast", "m_deletesAny", "Z"), (.int an116))]))), (g111, (.inr ((.array .int), "[[I", [(.ref r112), (.ref r112), (.ref r112), (.ref r112)]))), (r112, (.inr (.int, "[I", vr115))), (d110, (.inr (.boolean, "[Z", vd114))), (s109, (.inr (.boolean, "[Z", vs113))), (a81, (.inr (.int, "[I", [(.int x0)]))), (a86, (.inr (.int, "[I", [(.int y0)]))), (a98, (.inr (.int, "[I", [(.int y0), (.int y1)]))), (a91, (.inr (.int, "[I", [(.int x0), (.int x1)])))]) := ((((P108.front 1).front 3).front 3).front 4)
      exact own_end_1 l Z a0 hw h107 n0 _ zn zf zg zt zu zq 2 x0 x1 y0 y1 a81 a86 a91 a98 a105 g111 r112 d110 vr115 vd114 an116 rv dv q h_q.1 hrv hdv h01 hmv P117
    · refine go_iload c0_15 rfl ?_
      refine go_push c0_17 ?_
      refine go_icmp_lt c0_18 (fun q => absurd q (by decide)) (fun _ => ?_)
      refine go_push c0_21 ?_
      refine go_goto c0_22 ?_
      refine go_istore c0_26 rfl rfl ?_
      dsimp only [setl]
      refine go_iload c0_28 rfl ?_
      refine go_ldcI (y := x) c0_29 (t0 hw) ?_
      refine go_iand c0_31 ?_
      refine go_iload c0_32 rfl ?_
      refine go_irem c0_34 (by decide) ?_
      refine go_nameI fun x0 e_x0 => ?_
      have h_x0 : own_in x0 2 := by rw [e_x0]; exact own_mod zf 2 (by decide) (by decide)
      clear e_x0
      refine go_istore c0_35 rfl rfl ?_
      dsimp only [setl]
      refine go_iload c0_37 rfl ?_
      refine go_push c0_39 ?_
      refine go_icmp_lt c0_40 (fun q => absurd q (by decide)) (fun _ => ?_)
      refine go_iload c0_43 rfl ?_
      refine go_push c0_45 ?_
      refine go_iadd c0_46 ?_
      refine go_iload c0_47 rfl ?_
      refine go_ldcI (y := x) c0_48 (t0 hw) ?_
      refine go_iand c0_50 ?_
      refine go_iload c0_51 rfl ?_
      refine go_push c0_53 ?_
      refine go_isub c0_54 ?_
      refine go_isI 1 (by decide) ?_
      refine go_irem c0_55 (by decide) ?_
      refine go_nameI fun r1 e_r1 => ?_
      have h_r1 : own_in r1 1 := by rw [e_r1]; exact own_mod zg 1 (by decide) (by decide)
      clear e_r1
      refine go_iadd c0_56 ?_
      refine go_iload c0_57 rfl ?_
      refine go_irem c0_59 (by decide) ?_
      refine go_goto c0_60 ?_
      refine go_nameI fun x1 e_x1 => ?_
      have h_x1 : own_in x1 2 ∧ x1 ≠ x0 := by rw [e_x1]; exact own_snd2 x0 r1 h_x0 h_r1
      clear e_x1
      refine go_istore c0_65 rfl rfl ?_
      dsimp only [setl]
      refine go_iload c0_67 rfl ?_
      refine go_ldcI (y := x) c0_68 (t0 hw) ?_
      refine go_iand c0_70 ?_
      refine go_iload c0_71 rfl ?_
      refine go_push c0_73 ?_
      refine go_iadd c0_74 ?_
      refine go_isI 3 (by decide) ?_
      refine go_irem c0_75 (by decide) ?_
      refine go_push c0_76 ?_
      refine go_isub c0_77 ?_
      refine go_nameI fun y0 e_y0 => ?_
      have h_y0 : own_to y0 2 := by rw [e_y0]; exact own_tos 2 3 (by decide) (by decide) (by decide) zt
      clear e_y0
      refine go_istore c0_78 rfl rfl ?_
      dsimp only [setl]
      refine go_iload c0_80 rfl ?_
      refine go_ldcI (y := x) c0_82 (t0 hw) ?_
      refine go_iand c0_84 ?_
      refine go_iload c0_85 rfl ?_
      refine go_push c0_87 ?_
      refine go_iadd c0_88 ?_
      refine go_isI 3 (by decide) ?_
      refine go_irem c0_89 (by decide) ?_
      refine go_push c0_90 ?_
      refine go_isub c0_91 ?_
      refine go_nameI fun y1 e_y1 => ?_
      have h_y1 : own_to y1 2 := by rw [e_y1]; exact own_tos 2 3 (by decide) (by decide) (by decide) zu
      clear e_y1
      refine go_istore c0_92 rfl rfl ?_
      dsimp only [setl]
      refine go_iload c0_94 rfl ?_
      refine go_ldcI (y := x) c0_96 (t0 hw) ?_
      refine go_iand c0_98 ?_
      refine go_iload c0_99 rfl ?_
      refine go_irem c0_101 (by decide) ?_
      refine go_nameI fun q e_q => ?_
      have h_q : own_in q 2 := by rw [e_q]; exact own_mod zq 2 (by decide) (by decide)
      clear e_q
      refine go_istore c0_102 rfl rfl ?_
      dsimp only [setl]
      refine go_push c0_104 ?_
      refine go_newarr (y := x) P0 "[I" [(.int 0)] 1 c0_105 (t1 hw) (by decide) (by decide) (by decide) (by decide) rfl rfl (by decide) (by decide) ?_
      intro h118 a120 P119
      refine go_more (k' := 1) (n' := 1) (by decide) (by decide) ?_
      refine go_dup c0_107 rfl ?_
      refine go_push c0_108 ?_
      refine go_iload c0_109 rfl ?_
      refine go_iastoreH P119 0 c0_111 rfl (by decide) (Nat.le_of_ble_eq_true rfl) ?_
      intro h121 P122
      dsimp only [lupd] at P122
      refine go_astore c0_112 rfl rfl rfl ?_
      dsimp only [setl]
      refine go_push c0_114 ?_
      refine go_newarr (y := x) P122 "[I" [(.int 0)] 1 c0_115 (t1 hw) (by decide) (by decide) (by decide) (by decide) rfl rfl (by decide) (by decide) ?_
      intro h123 a125 P124
      refine go_more (k' := 2) (n' := 2) (by decide) (by decide) ?_
      refine go_dup c0_117 rfl ?_
      refine go_push c0_118 ?_
      refine go_iload c0_119 rfl ?_
      refine go_iastoreH P124 0 c0_121 rfl (by decide) (Nat.le_of_ble_eq_true rfl) ?_
      intro h126 P127
      dsimp only [lupd] at P127
      refine go_astore c0_122 rfl rfl rfl ?_
      dsimp only [setl]
      refine go_push c0_124 ?_
      refine go_newarr (y := x) P127 "[I" [(.int 0), (.int 0)] 2 c0_125 (t1 hw) (by decide) (by decide) (by decide) (by decide) rfl rfl (by decide) (by decide) ?_
      intro h128 a130 P129
      refine go_more (k' := 3) (n' := 4) (by decide) (by decide) ?_
      refine go_dup c0_127 rfl ?_
      refine go_push c0_128 ?_
      refine go_iload c0_129 rfl ?_
      refine go_iastoreH P129 0 c0_131 rfl (by decide) (Nat.le_of_ble_eq_true rfl) ?_
      intro h131 P132
      dsimp only [lupd] at P132
      refine go_dup c0_132 rfl ?_
      refine go_push c0_133 ?_
      refine go_iload c0_134 rfl ?_
      refine go_iastoreH P132 0 c0_136 rfl (by decide) (Nat.le_of_ble_eq_true rfl) ?_
      intro h133 P134
      dsimp only [lupd] at P134
      refine go_astore c0_137 rfl rfl rfl ?_
      dsimp only [setl]
      refine go_push c0_139 ?_
      refine go_newarr (y := x) P134 "[I" [(.int 0), (.int 0)] 2 c0_140 (t1 hw) (by decide) (by decide) (by decide) (by decide) rfl rfl (by decide) (by decide) ?_
      intro h135 a137 P136
      refine go_more (k' := 4) (n' := 6) (by decide) (by decide) ?_
      refine go_dup c0_142 rfl ?_
      refine go_push c0_143 ?_
      refine go_iload c0_144 rfl ?_
      refine go_iastoreH P136 0 c0_146 rfl (by decide) (Nat.le_of_ble_eq_true rfl) ?_
      intro h138 P139
      dsimp only [lupd] at P139
      refine go_dup c0_147 rfl ?_
      refine go_push c0_148 ?_
      refine go_iload c0_149 rfl ?_
      refine go_iastoreH P139 0 c0_151 rfl (by decide) (Nat.le_of_ble_eq_true rfl) ?_
      intro h140 P141
      dsimp only [lupd] at P141
      refine go_astore c0_152 rfl rfl rfl ?_
      dsimp only [setl]
      refine go_iload c0_154 rfl ?_
      refine go_if_eq c0_156 (fun q => absurd q (by decide)) (fun _ => ?_)
      refine go_new (y := x) P141 [(("com/example/cropped_view/croppedview/Broadcast", "m_reactions", "[[I"), .null), (("com/example/cropped_view/croppedview/Broadcast", "m_deletes", "[Z"), .null), (("com/example/cropped_view/croppedview/Broadcast", "m_deletesAny", "Z"), (.int 0))] c0_159 (t2 hw) (t3 hw) (t4 hw) (⟨⟨Or.inr (t30 hw), (.array (.array .int)), by decide, rfl⟩, ⟨⟨Or.inr (t37 hw), (.array .boolean), by decide, rfl⟩, ⟨⟨Or.inr (t39 hw), .boolean, by decide, rfl⟩, trivial⟩⟩⟩) (by decide) (by decide) (by decide) ?_
      intro h142 a144 P143
      refine go_more (k' := 5) (n' := 9) (by decide) (by decide) ?_
      refine go_dup c0_162 rfl ?_
      refine go_aload c0_163 rfl rfl ?_
      refine go_aload c0_165 rfl rfl ?_
      refine go_iload c0_167 rfl ?_
      have P145 : Hp Z n0 h142 ([(a144, (.inl ("com/example/cropped_view/croppedview/Broadcast", [(("com/example/cropped_view/croppedview/Broadcast", "m_reactions", "[[I"), .null), (("com/example/cropped_view/croppedview/Broadcast", "m_deletes", "[Z"), .null), (("com/example/cropped_view/croppedview/Broadcast", "m_deletesAny", "Z"), (.int 0))]))), (a130, (.inr (.int, "[I", [(.int x0), (.int x1)]))), (a137, (.inr (.int, "[I", [(.int y0), (.int y1)]))), (a125, (.inr (.int, "[I", [(.int y0)]))), (a120, (.inr (.int, "[I", [(.int x0)])))]) := (((P143.front 1).front 2).front 2)
      refine go_callNW0 (y := x) (W := 1) (argsL := [(.ref a130), (.ref a137), (.int 2)]) (st := [(.ref a144)]) c0_169 rfl rfl (rm_ct_2_2 l Z a0 hw h142 n0 _ a144 a130 a137 x0 y0 x1 y1 h_x0 h_y0 h_x1.1 h_y1 h_x1.2 P145) (t5 hw) (t6 hw) (t4 hw) (t7 hw) (by decide) (lenOf pd5 rfl) rfl rfl (by decide) (by decide) (by decide) (by decide) rfl ?_
      rintro h146 ⟨s148, d149, g150, r151, vs152, vd153, vr154, an155, P147, hGood⟩
      refine go_more (k' := 9) (n' := 19) (by decide) (by decide) ?_
      refine go_goto c0_172 ?_
      refine go_astore c0_188 rfl rfl rfl ?_
      dsimp only [setl]
      obtain ⟨rv, dv, hrv, hdv, h01, hmv⟩ := hGood q h_q
      refine go_more (k' := 16) (n' := 64) (by decide) (by decide) ?_
      have P156 : Hp Z n0 h146 ([(a144, (.inl ("com/example/cropped_view/croppedview/Broadcast", [(("com/example/cropped_view/croppedview/Broadcast", "m_reactions", "[[I"), (.ref g150)), (("com/example/cropped_view/croppedview/Broadcast", "m_deletes", "[Z"), (.ref d149)), (("com/example/cropped_view/croppedview/Broadcast", "m_deletesAny", "Z"), (.int an155))]))), (g150, (.inr ((.array .int), "[[I", [(.ref r151), (.ref r151), (.ref r151), (.ref r151)]))), (r151, (.inr (.int, "[I", vr154))), (d149, (.inr (.boolean, "[Z", vd153))), (s148, (.inr (.boolean, "[Z", vs152))), (a130, (.inr (.int, "[I", [(.int x0), (.int x1)]))), (a137, (.inr (.int, "[I", [(.int y0), (.int y1)]))), (a125, (.inr (.int, "[I", [(.int y0)]))), (a120, (.inr (.int, "[I", [(.int x0)])))]) := ((((P147.front 1).front 3).front 3).front 4)
      exact own_end_2 l Z a0 hw h146 n0 _ zn zf zg zt zu zq 2 x0 x1 y0 y1 a120 a125 a130 a137 a144 g150 r151 d149 vr154 vd153 an155 rv dv q h_q.1 hrv hdv h01 hmv P156
  · refine go_isI 3 hN ?_
    refine go_istore c0_5 rfl rfl ?_
    dsimp only [setl]
    refine go_iload c0_7 rfl ?_
    refine go_push c0_8 ?_
    refine go_ishr c0_9 ?_
    refine go_push c0_10 ?_
    refine go_iand c0_11 ?_
    refine go_if_eq c0_12 (fun b12 => ?_) (fun b12 => ?_)
    · refine go_push c0_25 ?_
      refine go_istore c0_26 rfl rfl ?_
      dsimp only [setl]
      refine go_iload c0_28 rfl ?_
      refine go_ldcI (y := x) c0_29 (t0 hw) ?_
      refine go_iand c0_31 ?_
      refine go_iload c0_32 rfl ?_
      refine go_irem c0_34 (by decide) ?_
      refine go_nameI fun x0 e_x0 => ?_
      have h_x0 : own_in x0 3 := by rw [e_x0]; exact own_mod zf 3 (by decide) (by decide)
      clear e_x0
      refine go_istore c0_35 rfl rfl ?_
      dsimp only [setl]
      refine go_iload c0_37 rfl ?_
      refine go_push c0_39 ?_
      refine go_icmp_lt c0_40 (fun q => absurd q (by decide)) (fun _ => ?_)
      refine go_iload c0_43 rfl ?_
      refine go_push c0_45 ?_
      refine go_iadd c0_46 ?_
      refine go_iload c0_47 rfl ?_
      refine go_ldcI (y := x) c0_48 (t0 hw) ?_
      refine go_iand c0_50 ?_
      refine go_iload c0_51 rfl ?_
      refine go_push c0_53 ?_
      refine go_isub c0_54 ?_
      refine go_isI 2 (by decide) ?_
      refine go_irem c0_55 (by decide) ?_
      refine go_nameI fun r1 e_r1 => ?_
      have h_r1 : own_in r1 2 := by rw [e_r1]; exact own_mod zg 2 (by decide) (by decide)
      clear e_r1
      refine go_iadd c0_56 ?_
      refine go_iload c0_57 rfl ?_
      refine go_irem c0_59 (by decide) ?_
      refine go_goto c0_60 ?_
      refine go_nameI fun x1 e_x1 => ?_
      have h_x1 : own_in x1 3 ∧ x1 ≠ x0 := by rw [e_x1]; exact own_snd3 x0 r1 h_x0 h_r1
      clear e_x1
      refine go_istore c0_65 rfl rfl ?_
      dsimp only [setl]
      refine go_iload c0_67 rfl ?_
      refine go_ldcI (y := x) c0_68 (t0 hw) ?_
      refine go_iand c0_70 ?_
      refine go_iload c0_71 rfl ?_
      refine go_push c0_73 ?_
      refine go_iadd c0_74 ?_
      refine go_isI 4 (by decide) ?_
      refine go_irem c0_75 (by decide) ?_
      refine go_push c0_76 ?_
      refine go_isub c0_77 ?_
      refine go_nameI fun y0 e_y0 => ?_
      have h_y0 : own_to y0 3 := by rw [e_y0]; exact own_tos 3 4 (by decide) (by decide) (by decide) zt
      clear e_y0
      refine go_istore c0_78 rfl rfl ?_
      dsimp only [setl]
      refine go_iload c0_80 rfl ?_
      refine go_ldcI (y := x) c0_82 (t0 hw) ?_
      refine go_iand c0_84 ?_
      refine go_iload c0_85 rfl ?_
      refine go_push c0_87 ?_
      refine go_iadd c0_88 ?_
      refine go_isI 4 (by decide) ?_
      refine go_irem c0_89 (by decide) ?_
      refine go_push c0_90 ?_
      refine go_isub c0_91 ?_
      refine go_nameI fun y1 e_y1 => ?_
      have h_y1 : own_to y1 3 := by rw [e_y1]; exact own_tos 3 4 (by decide) (by decide) (by decide) zu
      clear e_y1
      refine go_istore c0_92 rfl rfl ?_
      dsimp only [setl]
      refine go_iload c0_94 rfl ?_
      refine go_ldcI (y := x) c0_96 (t0 hw) ?_
      refine go_iand c0_98 ?_
      refine go_iload c0_99 rfl ?_
      refine go_irem c0_101 (by decide) ?_
      refine go_nameI fun q e_q => ?_
      have h_q : own_in q 3 := by rw [e_q]; exact own_mod zq 3 (by decide) (by decide)
      clear e_q
      refine go_istore c0_102 rfl rfl ?_
      dsimp only [setl]
      refine go_push c0_104 ?_
      refine go_newarr (y := x) P0 "[I" [(.int 0)] 1 c0_105 (t1 hw) (by decide) (by decide) (by decide) (by decide) rfl rfl (by decide) (by decide) ?_
      intro h157 a159 P158
      refine go_more (k' := 1) (n' := 1) (by decide) (by decide) ?_
      refine go_dup c0_107 rfl ?_
      refine go_push c0_108 ?_
      refine go_iload c0_109 rfl ?_
      refine go_iastoreH P158 0 c0_111 rfl (by decide) (Nat.le_of_ble_eq_true rfl) ?_
      intro h160 P161
      dsimp only [lupd] at P161
      refine go_astore c0_112 rfl rfl rfl ?_
      dsimp only [setl]
      refine go_push c0_114 ?_
      refine go_newarr (y := x) P161 "[I" [(.int 0)] 1 c0_115 (t1 hw) (by decide) (by decide) (by decide) (by decide) rfl rfl (by decide) (by decide) ?_
      intro h162 a164 P163
      refine go_more (k' := 2) (n' := 2) (by decide) (by decide) ?_
      refine go_dup c0_117 rfl ?_
      refine go_push c0_118 ?_
      refine go_iload c0_119 rfl ?_
      refine go_iastoreH P163 0 c0_121 rfl (by decide) (Nat.le_of_ble_eq_true rfl) ?_
      intro h165 P166
      dsimp only [lupd] at P166
      refine go_astore c0_122 rfl rfl rfl ?_
      dsimp only [setl]
      refine go_push c0_124 ?_
      refine go_newarr (y := x) P166 "[I" [(.int 0), (.int 0)] 2 c0_125 (t1 hw) (by decide) (by decide) (by decide) (by decide) rfl rfl (by decide) (by decide) ?_
      intro h167 a169 P168
      refine go_more (k' := 3) (n' := 4) (by decide) (by decide) ?_
      refine go_dup c0_127 rfl ?_
      refine go_push c0_128 ?_
      refine go_iload c0_129 rfl ?_
      refine go_iastoreH P168 0 c0_131 rfl (by decide) (Nat.le_of_ble_eq_true rfl) ?_
      intro h170 P171
      dsimp only [lupd] at P171
      refine go_dup c0_132 rfl ?_
      refine go_push c0_133 ?_
      refine go_iload c0_134 rfl ?_
      refine go_iastoreH P171 0 c0_136 rfl (by decide) (Nat.le_of_ble_eq_true rfl) ?_
      intro h172 P173
      dsimp only [lupd] at P173
      refine go_astore c0_137 rfl rfl rfl ?_
      dsimp only [setl]
      refine go_push c0_139 ?_
      refine go_newarr (y := x) P173 "[I" [(.int 0), (.int 0)] 2 c0_140 (t1 hw) (by decide) (by decide) (by decide) (by decide) rfl rfl (by decide) (by decide) ?_
      intro h174 a176 P175
      refine go_more (k' := 4) (n' := 6) (by decide) (by decide) ?_
      refine go_dup c0_142 rfl ?_
      refine go_push c0_143 ?_
      refine go_iload c0_144 rfl ?_
      refine go_iastoreH P175 0 c0_146 rfl (by decide) (Nat.le_of_ble_eq_true rfl) ?_
      intro h177 P178
      dsimp only [lupd] at P178
      refine go_dup c0_147 rfl ?_
      refine go_push c0_148 ?_
      refine go_iload c0_149 rfl ?_
      refine go_iastoreH P178 0 c0_151 rfl (by decide) (Nat.le_of_ble_eq_true rfl) ?_
      intro h179 P180
      dsimp only [lupd] at P180
      refine go_astore c0_152 rfl rfl rfl ?_
      dsimp only [setl]
      refine go_iload c0_154 rfl ?_
      refine go_if_eq c0_156 (fun _ => ?_) (fun q => absurd q (by decide))
      refine go_new (y := x) P180 [(("com/example/cropped_view/croppedview/Broadcast", "m_reactions", "[[I"), .null), (("com/example/cropped_view/croppedview/Broadcast", "m_deletes", "[Z"), .null), (("com/example/cropped_view/croppedview/Broadcast", "m_deletesAny", "Z"), (.int 0))] c0_175 (t2 hw) (t3 hw) (t4 hw) (⟨⟨Or.inr (t30 hw), (.array (.array .int)), by decide, rfl⟩, ⟨⟨Or.inr (t37 hw), (.array .boolean), by decide, rfl⟩, ⟨⟨Or.inr (t39 hw), .boolean, by decide, rfl⟩, trivial⟩⟩⟩) (by decide) (by decide) (by decide) ?_
      intro h181 a183 P182
      refine go_more (k' := 5) (n' := 9) (by decide) (by decide) ?_
      refine go_dup c0_178 rfl ?_
      refine go_aload c0_179 rfl rfl ?_
      refine go_aload c0_181 rfl rfl ?_
      refine go_iload c0_183 rfl ?_
      have P184 : Hp Z n0 h181 ([(a183, (.inl ("com/example/cropped_view/croppedview/Broadcast", [(("com/example/cropped_view/croppedview/Broadcast", "m_reactions", "[[I"), .null), (("com/example/cropped_view/croppedview/Broadcast", "m_deletes", "[Z"), .null), (("com/example/cropped_view/croppedview/Broadcast", "m_deletesAny", "Z"), (.int 0))]))), (a159, (.inr (.int, "[I", [(.int x0)]))), (a164, (.inr (.int, "[I", [(.int y0)]))), (a176, (.inr (.int, "[I", [(.int y0), (.int y1)]))), (a169, (.inr (.int, "[I", [(.int x0), (.int x1)])))]) := (((P182.front 3).front 4).front 2)
      refine go_callNW0 (y := x) (W := 1) (argsL := [(.ref a159), (.ref a164), (.int 3)]) (st := [(.ref a183)]) c0_185 rfl rfl (rm_ct_3_1 l Z a0 hw h181 n0 _ a183 a159 a164 x0 y0 h_x0 h_y0 P184) (t5 hw) (t6 hw) (t4 hw) (t7 hw) (by decide) (lenOf pd5 rfl) rfl rfl (by decide) (by decide) (by decide) (by decide) rfl ?_
      rintro h185 ⟨s187, d188, g189, r190, vs191, vd192, vr193, an194, P186, hGood⟩
      refine go_more (k' := 9) (n' := 22) (by decide) (by decide) ?_
      refine go_astore c0_188 rfl rfl rfl ?_
      dsimp only [setl]
      obtain ⟨rv, dv, hrv, hdv, h01, hmv⟩ := hGood q h_q
      refine go_more (k' := 16) (n' := 64) (by decide) (by decide) ?_
      have P195 : Hp Z n0 h185 ([(a183, (.inl ("com/example/cropped_view/croppedview/Broadcast", [(("com/example/cropped_view/croppedview/Broadcast", "m_reactions", "[[I"), (.ref g189)), (("com/example/cropped_view/croppedview/Broadcast", "m_deletes", "[Z"), (.ref d188)), (("com/example/cropped_view/croppedview/Broadcast", "m_deletesAny", "Z"), (.int an194))]))), (g189, (.inr ((.array .int), "[[I", [(.ref r190), (.ref r190), (.ref r190), (.ref r190)]))), (r190, (.inr (.int, "[I", vr193))), (d188, (.inr (.boolean, "[Z", vd192))), (s187, (.inr (.boolean, "[Z", vs191))), (a159, (.inr (.int, "[I", [(.int x0)]))), (a164, (.inr (.int, "[I", [(.int y0)]))), (a176, (.inr (.int, "[I", [(.int y0), (.int y1)]))), (a169, (.inr (.int, "[I", [(.int x0), (.int x1)])))]) := ((((P186.front 1).front 3).front 3).front 4)
      exact own_end_1 l Z a0 hw h185 n0 _ zn zf zg zt zu zq 3 x0 x1 y0 y1 a159 a164 a169 a176 a183 g189 r190 d188 vr193 vd192 an194 rv dv q h_q.1 hrv hdv h01 hmv P195
    · refine go_iload c0_15 rfl ?_
      refine go_push c0_17 ?_
      refine go_icmp_lt c0_18 (fun q => absurd q (by decide)) (fun _ => ?_)
      refine go_push c0_21 ?_
      refine go_goto c0_22 ?_
      refine go_istore c0_26 rfl rfl ?_
      dsimp only [setl]
      refine go_iload c0_28 rfl ?_
      refine go_ldcI (y := x) c0_29 (t0 hw) ?_
      refine go_iand c0_31 ?_
      refine go_iload c0_32 rfl ?_
      refine go_irem c0_34 (by decide) ?_
      refine go_nameI fun x0 e_x0 => ?_
      have h_x0 : own_in x0 3 := by rw [e_x0]; exact own_mod zf 3 (by decide) (by decide)
      clear e_x0
      refine go_istore c0_35 rfl rfl ?_
      dsimp only [setl]
      refine go_iload c0_37 rfl ?_
      refine go_push c0_39 ?_
      refine go_icmp_lt c0_40 (fun q => absurd q (by decide)) (fun _ => ?_)
      refine go_iload c0_43 rfl ?_
      refine go_push c0_45 ?_
      refine go_iadd c0_46 ?_
      refine go_iload c0_47 rfl ?_
      refine go_ldcI (y := x) c0_48 (t0 hw) ?_
      refine go_iand c0_50 ?_
      refine go_iload c0_51 rfl ?_
      refine go_push c0_53 ?_
      refine go_isub c0_54 ?_
      refine go_isI 2 (by decide) ?_
      refine go_irem c0_55 (by decide) ?_
      refine go_nameI fun r1 e_r1 => ?_
      have h_r1 : own_in r1 2 := by rw [e_r1]; exact own_mod zg 2 (by decide) (by decide)
      clear e_r1
      refine go_iadd c0_56 ?_
      refine go_iload c0_57 rfl ?_
      refine go_irem c0_59 (by decide) ?_
      refine go_goto c0_60 ?_
      refine go_nameI fun x1 e_x1 => ?_
      have h_x1 : own_in x1 3 ∧ x1 ≠ x0 := by rw [e_x1]; exact own_snd3 x0 r1 h_x0 h_r1
      clear e_x1
      refine go_istore c0_65 rfl rfl ?_
      dsimp only [setl]
      refine go_iload c0_67 rfl ?_
      refine go_ldcI (y := x) c0_68 (t0 hw) ?_
      refine go_iand c0_70 ?_
      refine go_iload c0_71 rfl ?_
      refine go_push c0_73 ?_
      refine go_iadd c0_74 ?_
      refine go_isI 4 (by decide) ?_
      refine go_irem c0_75 (by decide) ?_
      refine go_push c0_76 ?_
      refine go_isub c0_77 ?_
      refine go_nameI fun y0 e_y0 => ?_
      have h_y0 : own_to y0 3 := by rw [e_y0]; exact own_tos 3 4 (by decide) (by decide) (by decide) zt
      clear e_y0
      refine go_istore c0_78 rfl rfl ?_
      dsimp only [setl]
      refine go_iload c0_80 rfl ?_
      refine go_ldcI (y := x) c0_82 (t0 hw) ?_
      refine go_iand c0_84 ?_
      refine go_iload c0_85 rfl ?_
      refine go_push c0_87 ?_
      refine go_iadd c0_88 ?_
      refine go_isI 4 (by decide) ?_
      refine go_irem c0_89 (by decide) ?_
      refine go_push c0_90 ?_
      refine go_isub c0_91 ?_
      refine go_nameI fun y1 e_y1 => ?_
      have h_y1 : own_to y1 3 := by rw [e_y1]; exact own_tos 3 4 (by decide) (by decide) (by decide) zu
      clear e_y1
      refine go_istore c0_92 rfl rfl ?_
      dsimp only [setl]
      refine go_iload c0_94 rfl ?_
      refine go_ldcI (y := x) c0_96 (t0 hw) ?_
      refine go_iand c0_98 ?_
      refine go_iload c0_99 rfl ?_
      refine go_irem c0_101 (by decide) ?_
      refine go_nameI fun q e_q => ?_
      have h_q : own_in q 3 := by rw [e_q]; exact own_mod zq 3 (by decide) (by decide)
      clear e_q
      refine go_istore c0_102 rfl rfl ?_
      dsimp only [setl]
      refine go_push c0_104 ?_
      refine go_newarr (y := x) P0 "[I" [(.int 0)] 1 c0_105 (t1 hw) (by decide) (by decide) (by decide) (by decide) rfl rfl (by decide) (by decide) ?_
      intro h196 a198 P197
      refine go_more (k' := 1) (n' := 1) (by decide) (by decide) ?_
      refine go_dup c0_107 rfl ?_
      refine go_push c0_108 ?_
      refine go_iload c0_109 rfl ?_
      refine go_iastoreH P197 0 c0_111 rfl (by decide) (Nat.le_of_ble_eq_true rfl) ?_
      intro h199 P200
      dsimp only [lupd] at P200
      refine go_astore c0_112 rfl rfl rfl ?_
      dsimp only [setl]
      refine go_push c0_114 ?_
      refine go_newarr (y := x) P200 "[I" [(.int 0)] 1 c0_115 (t1 hw) (by decide) (by decide) (by decide) (by decide) rfl rfl (by decide) (by decide) ?_
      intro h201 a203 P202
      refine go_more (k' := 2) (n' := 2) (by decide) (by decide) ?_
      refine go_dup c0_117 rfl ?_
      refine go_push c0_118 ?_
      refine go_iload c0_119 rfl ?_
      refine go_iastoreH P202 0 c0_121 rfl (by decide) (Nat.le_of_ble_eq_true rfl) ?_
      intro h204 P205
      dsimp only [lupd] at P205
      refine go_astore c0_122 rfl rfl rfl ?_
      dsimp only [setl]
      refine go_push c0_124 ?_
      refine go_newarr (y := x) P205 "[I" [(.int 0), (.int 0)] 2 c0_125 (t1 hw) (by decide) (by decide) (by decide) (by decide) rfl rfl (by decide) (by decide) ?_
      intro h206 a208 P207
      refine go_more (k' := 3) (n' := 4) (by decide) (by decide) ?_
      refine go_dup c0_127 rfl ?_
      refine go_push c0_128 ?_
      refine go_iload c0_129 rfl ?_
      refine go_iastoreH P207 0 c0_131 rfl (by decide) (Nat.le_of_ble_eq_true rfl) ?_
      intro h209 P210
      dsimp only [lupd] at P210
      refine go_dup c0_132 rfl ?_
      refine go_push c0_133 ?_
      refine go_iload c0_134 rfl ?_
      refine go_iastoreH P210 0 c0_136 rfl (by decide) (Nat.le_of_ble_eq_true rfl) ?_
      intro h211 P212
      dsimp only [lupd] at P212
      refine go_astore c0_137 rfl rfl rfl ?_
      dsimp only [setl]
      refine go_push c0_139 ?_
      refine go_newarr (y := x) P212 "[I" [(.int 0), (.int 0)] 2 c0_140 (t1 hw) (by decide) (by decide) (by decide) (by decide) rfl rfl (by decide) (by decide) ?_
      intro h213 a215 P214
      refine go_more (k' := 4) (n' := 6) (by decide) (by decide) ?_
      refine go_dup c0_142 rfl ?_
      refine go_push c0_143 ?_
      refine go_iload c0_144 rfl ?_
      refine go_iastoreH P214 0 c0_146 rfl (by decide) (Nat.le_of_ble_eq_true rfl) ?_
      intro h216 P217
      dsimp only [lupd] at P217
      refine go_dup c0_147 rfl ?_
      refine go_push c0_148 ?_
      refine go_iload c0_149 rfl ?_
      refine go_iastoreH P217 0 c0_151 rfl (by decide) (Nat.le_of_ble_eq_true rfl) ?_
      intro h218 P219
      dsimp only [lupd] at P219
      refine go_astore c0_152 rfl rfl rfl ?_
      dsimp only [setl]
      refine go_iload c0_154 rfl ?_
      refine go_if_eq c0_156 (fun q => absurd q (by decide)) (fun _ => ?_)
      refine go_new (y := x) P219 [(("com/example/cropped_view/croppedview/Broadcast", "m_reactions", "[[I"), .null), (("com/example/cropped_view/croppedview/Broadcast", "m_deletes", "[Z"), .null), (("com/example/cropped_view/croppedview/Broadcast", "m_deletesAny", "Z"), (.int 0))] c0_159 (t2 hw) (t3 hw) (t4 hw) (⟨⟨Or.inr (t30 hw), (.array (.array .int)), by decide, rfl⟩, ⟨⟨Or.inr (t37 hw), (.array .boolean), by decide, rfl⟩, ⟨⟨Or.inr (t39 hw), .boolean, by decide, rfl⟩, trivial⟩⟩⟩) (by decide) (by decide) (by decide) ?_
      intro h220 a222 P221
      refine go_more (k' := 5) (n' := 9) (by decide) (by decide) ?_
      refine go_dup c0_162 rfl ?_
      refine go_aload c0_163 rfl rfl ?_
      refine go_aload c0_165 rfl rfl ?_
      refine go_iload c0_167 rfl ?_
      have P223 : Hp Z n0 h220 ([(a222, (.inl ("com/example/cropped_view/croppedview/Broadcast", [(("com/example/cropped_view/croppedview/Broadcast", "m_reactions", "[[I"), .null), (("com/example/cropped_view/croppedview/Broadcast", "m_deletes", "[Z"), .null), (("com/example/cropped_view/croppedview/Broadcast", "m_deletesAny", "Z"), (.int 0))]))), (a208, (.inr (.int, "[I", [(.int x0), (.int x1)]))), (a215, (.inr (.int, "[I", [(.int y0), (.int y1)]))), (a203, (.inr (.int, "[I", [(.int y0)]))), (a198, (.inr (.int, "[I", [(.int x0)])))]) := (((P221.front 1).front 2).front 2)
      refine go_callNW0 (y := x) (W := 1) (argsL := [(.ref a208), (.ref a215), (.int 3)]) (st := [(.ref a222)]) c0_169 rfl rfl (rm_ct_3_2 l Z a0 hw h220 n0 _ a222 a208 a215 x0 y0 x1 y1 h_x0 h_y0 h_x1.1 h_y1 h_x1.2 P223) (t5 hw) (t6 hw) (t4 hw) (t7 hw) (by decide) (lenOf pd5 rfl) rfl rfl (by decide) (by decide) (by decide) (by decide) rfl ?_
      rintro h224 ⟨s226, d227, g228, r229, vs230, vd231, vr232, an233, P225, hGood⟩
      refine go_more (k' := 9) (n' := 22) (by decide) (by decide) ?_
      refine go_goto c0_172 ?_
      refine go_astore c0_188 rfl rfl rfl ?_
      dsimp only [setl]
      obtain ⟨rv, dv, hrv, hdv, h01, hmv⟩ := hGood q h_q
      refine go_more (k' := 16) (n' := 64) (by decide) (by decide) ?_
      have P234 : Hp Z n0 h224 ([(a222, (.inl ("com/example/cropped_view/croppedview/Broadcast", [(("com/example/cropped_view/croppedview/Broadcast", "m_reactions", "[[I"), (.ref g228)), (("com/example/cropped_view/croppedview/Broadcast", "m_deletes", "[Z"), (.ref d227)), (("com/example/cropped_view/croppedview/Broadcast", "m_deletesAny", "Z"), (.int an233))]))), (g228, (.inr ((.array .int), "[[I", [(.ref r229), (.ref r229), (.ref r229), (.ref r229)]))), (r229, (.inr (.int, "[I", vr232))), (d227, (.inr (.boolean, "[Z", vd231))), (s226, (.inr (.boolean, "[Z", vs230))), (a208, (.inr (.int, "[I", [(.int x0), (.int x1)]))), (a215, (.inr (.int, "[I", [(.int y0), (.int y1)]))), (a203, (.inr (.int, "[I", [(.int y0)]))), (a198, (.inr (.int, "[I", [(.int x0)])))]) := ((((P225.front 1).front 3).front 3).front 4)
      exact own_end_2 l Z a0 hw h224 n0 _ zn zf zg zt zu zq 3 x0 x1 y0 y1 a198 a203 a208 a215 a222 g228 r229 d227 vr232 vd231 an233 rv dv q h_q.1 hrv hdv h01 hmv P234
  · refine go_isI 4 hN ?_
    refine go_istore c0_5 rfl rfl ?_
    dsimp only [setl]
    refine go_iload c0_7 rfl ?_
    refine go_push c0_8 ?_
    refine go_ishr c0_9 ?_
    refine go_push c0_10 ?_
    refine go_iand c0_11 ?_
    refine go_if_eq c0_12 (fun b12 => ?_) (fun b12 => ?_)
    · refine go_push c0_25 ?_
      refine go_istore c0_26 rfl rfl ?_
      dsimp only [setl]
      refine go_iload c0_28 rfl ?_
      refine go_ldcI (y := x) c0_29 (t0 hw) ?_
      refine go_iand c0_31 ?_
      refine go_iload c0_32 rfl ?_
      refine go_irem c0_34 (by decide) ?_
      refine go_nameI fun x0 e_x0 => ?_
      have h_x0 : own_in x0 4 := by rw [e_x0]; exact own_mod zf 4 (by decide) (by decide)
      clear e_x0
      refine go_istore c0_35 rfl rfl ?_
      dsimp only [setl]
      refine go_iload c0_37 rfl ?_
      refine go_push c0_39 ?_
      refine go_icmp_lt c0_40 (fun q => absurd q (by decide)) (fun _ => ?_)
      refine go_iload c0_43 rfl ?_
      refine go_push c0_45 ?_
      refine go_iadd c0_46 ?_
      refine go_iload c0_47 rfl ?_
      refine go_ldcI (y := x) c0_48 (t0 hw) ?_
      refine go_iand c0_50 ?_
      refine go_iload c0_51 rfl ?_
      refine go_push c0_53 ?_
      refine go_isub c0_54 ?_
      refine go_isI 3 (by decide) ?_
      refine go_irem c0_55 (by decide) ?_
      refine go_nameI fun r1 e_r1 => ?_
      have h_r1 : own_in r1 3 := by rw [e_r1]; exact own_mod zg 3 (by decide) (by decide)
      clear e_r1
      refine go_iadd c0_56 ?_
      refine go_iload c0_57 rfl ?_
      refine go_irem c0_59 (by decide) ?_
      refine go_goto c0_60 ?_
      refine go_nameI fun x1 e_x1 => ?_
      have h_x1 : own_in x1 4 ∧ x1 ≠ x0 := by rw [e_x1]; exact own_snd4 x0 r1 h_x0 h_r1
      clear e_x1
      refine go_istore c0_65 rfl rfl ?_
      dsimp only [setl]
      refine go_iload c0_67 rfl ?_
      refine go_ldcI (y := x) c0_68 (t0 hw) ?_
      refine go_iand c0_70 ?_
      refine go_iload c0_71 rfl ?_
      refine go_push c0_73 ?_
      refine go_iadd c0_74 ?_
      refine go_isI 5 (by decide) ?_
      refine go_irem c0_75 (by decide) ?_
      refine go_push c0_76 ?_
      refine go_isub c0_77 ?_
      refine go_nameI fun y0 e_y0 => ?_
      have h_y0 : own_to y0 4 := by rw [e_y0]; exact own_tos 4 5 (by decide) (by decide) (by decide) zt
      clear e_y0
      refine go_istore c0_78 rfl rfl ?_
      dsimp only [setl]
      refine go_iload c0_80 rfl ?_
      refine go_ldcI (y := x) c0_82 (t0 hw) ?_
      refine go_iand c0_84 ?_
      refine go_iload c0_85 rfl ?_
      refine go_push c0_87 ?_
      refine go_iadd c0_88 ?_
      refine go_isI 5 (by decide) ?_
      refine go_irem c0_89 (by decide) ?_
      refine go_push c0_90 ?_
      refine go_isub c0_91 ?_
      refine go_nameI fun y1 e_y1 => ?_
      have h_y1 : own_to y1 4 := by rw [e_y1]; exact own_tos 4 5 (by decide) (by decide) (by decide) zu
      clear e_y1
      refine go_istore c0_92 rfl rfl ?_
      dsimp only [setl]
      refine go_iload c0_94 rfl ?_
      refine go_ldcI (y := x) c0_96 (t0 hw) ?_
      refine go_iand c0_98 ?_
      refine go_iload c0_99 rfl ?_
      refine go_irem c0_101 (by decide) ?_
      refine go_nameI fun q e_q => ?_
      have h_q : own_in q 4 := by rw [e_q]; exact own_mod zq 4 (by decide) (by decide)
      clear e_q
      refine go_istore c0_102 rfl rfl ?_
      dsimp only [setl]
      refine go_push c0_104 ?_
      refine go_newarr (y := x) P0 "[I" [(.int 0)] 1 c0_105 (t1 hw) (by decide) (by decide) (by decide) (by decide) rfl rfl (by decide) (by decide) ?_
      intro h235 a237 P236
      refine go_more (k' := 1) (n' := 1) (by decide) (by decide) ?_
      refine go_dup c0_107 rfl ?_
      refine go_push c0_108 ?_
      refine go_iload c0_109 rfl ?_
      refine go_iastoreH P236 0 c0_111 rfl (by decide) (Nat.le_of_ble_eq_true rfl) ?_
      intro h238 P239
      dsimp only [lupd] at P239
      refine go_astore c0_112 rfl rfl rfl ?_
      dsimp only [setl]
      refine go_push c0_114 ?_
      refine go_newarr (y := x) P239 "[I" [(.int 0)] 1 c0_115 (t1 hw) (by decide) (by decide) (by decide) (by decide) rfl rfl (by decide) (by decide) ?_
      intro h240 a242 P241
      refine go_more (k' := 2) (n' := 2) (by decide) (by decide) ?_
      refine go_dup c0_117 rfl ?_
      refine go_push c0_118 ?_
      refine go_iload c0_119 rfl ?_
      refine go_iastoreH P241 0 c0_121 rfl (by decide) (Nat.le_of_ble_eq_true rfl) ?_
      intro h243 P244
      dsimp only [lupd] at P244
      refine go_astore c0_122 rfl rfl rfl ?_
      dsimp only [setl]
      refine go_push c0_124 ?_
      refine go_newarr (y := x) P244 "[I" [(.int 0), (.int 0)] 2 c0_125 (t1 hw) (by decide) (by decide) (by decide) (by decide) rfl rfl (by decide) (by decide) ?_
      intro h245 a247 P246
      refine go_more (k' := 3) (n' := 4) (by decide) (by decide) ?_
      refine go_dup c0_127 rfl ?_
      refine go_push c0_128 ?_
      refine go_iload c0_129 rfl ?_
      refine go_iastoreH P246 0 c0_131 rfl (by decide) (Nat.le_of_ble_eq_true rfl) ?_
      intro h248 P249
      dsimp only [lupd] at P249
      refine go_dup c0_132 rfl ?_
      refine go_push c0_133 ?_
      refine go_iload c0_134 rfl ?_
      refine go_iastoreH P249 0 c0_136 rfl (by decide) (Nat.le_of_ble_eq_true rfl) ?_
      intro h250 P251
      dsimp only [lupd] at P251
      refine go_astore c0_137 rfl rfl rfl ?_
      dsimp only [setl]
      refine go_push c0_139 ?_
      refine go_newarr (y := x) P251 "[I" [(.int 0), (.int 0)] 2 c0_140 (t1 hw) (by decide) (by decide) (by decide) (by decide) rfl rfl (by decide) (by decide) ?_
      intro h252 a254 P253
      refine go_more (k' := 4) (n' := 6) (by decide) (by decide) ?_
      refine go_dup c0_142 rfl ?_
      refine go_push c0_143 ?_
      refine go_iload c0_144 rfl ?_
      refine go_iastoreH P253 0 c0_146 rfl (by decide) (Nat.le_of_ble_eq_true rfl) ?_
      intro h255 P256
      dsimp only [lupd] at P256
      refine go_dup c0_147 rfl ?_
      refine go_push c0_148 ?_
      refine go_iload c0_149 rfl ?_
      refine go_iastoreH P256 0 c0_151 rfl (by decide) (Nat.le_of_ble_eq_true rfl) ?_
      intro h257 P258
      dsimp only [lupd] at P258
      refine go_astore c0_152 rfl rfl rfl ?_
      dsimp only [setl]
      refine go_iload c0_154 rfl ?_
      refine go_if_eq c0_156 (fun _ => ?_) (fun q => absurd q (by decide))
      refine go_new (y := x) P258 [(("com/example/cropped_view/croppedview/Broadcast", "m_reactions", "[[I"), .null), (("com/example/cropped_view/croppedview/Broadcast", "m_deletes", "[Z"), .null), (("com/example/cropped_view/croppedview/Broadcast", "m_deletesAny", "Z"), (.int 0))] c0_175 (t2 hw) (t3 hw) (t4 hw) (⟨⟨Or.inr (t30 hw), (.array (.array .int)), by decide, rfl⟩, ⟨⟨Or.inr (t37 hw), (.array .boolean), by decide, rfl⟩, ⟨⟨Or.inr (t39 hw), .boolean, by decide, rfl⟩, trivial⟩⟩⟩) (by decide) (by decide) (by decide) ?_
      intro h259 a261 P260
      refine go_more (k' := 5) (n' := 9) (by decide) (by decide) ?_
      refine go_dup c0_178 rfl ?_
      refine go_aload c0_179 rfl rfl ?_
      refine go_aload c0_181 rfl rfl ?_
      refine go_iload c0_183 rfl ?_
      have P262 : Hp Z n0 h259 ([(a261, (.inl ("com/example/cropped_view/croppedview/Broadcast", [(("com/example/cropped_view/croppedview/Broadcast", "m_reactions", "[[I"), .null), (("com/example/cropped_view/croppedview/Broadcast", "m_deletes", "[Z"), .null), (("com/example/cropped_view/croppedview/Broadcast", "m_deletesAny", "Z"), (.int 0))]))), (a237, (.inr (.int, "[I", [(.int x0)]))), (a242, (.inr (.int, "[I", [(.int y0)]))), (a254, (.inr (.int, "[I", [(.int y0), (.int y1)]))), (a247, (.inr (.int, "[I", [(.int x0), (.int x1)])))]) := (((P260.front 3).front 4).front 2)
      refine go_callNW0 (y := x) (W := 1) (argsL := [(.ref a237), (.ref a242), (.int 4)]) (st := [(.ref a261)]) c0_185 rfl rfl (rm_ct_4_1 l Z a0 hw h259 n0 _ a261 a237 a242 x0 y0 h_x0 h_y0 P262) (t5 hw) (t6 hw) (t4 hw) (t7 hw) (by decide) (lenOf pd5 rfl) rfl rfl (by decide) (by decide) (by decide) (by decide) rfl ?_
      rintro h263 ⟨s265, d266, g267, r268, vs269, vd270, vr271, an272, P264, hGood⟩
      refine go_more (k' := 9) (n' := 25) (by decide) (by decide) ?_
      refine go_astore c0_188 rfl rfl rfl ?_
      dsimp only [setl]
      obtain ⟨rv, dv, hrv, hdv, h01, hmv⟩ := hGood q h_q
      refine go_more (k' := 16) (n' := 64) (by decide) (by decide) ?_
      have P273 : Hp Z n0 h263 ([(a261, (.inl ("com/example/cropped_view/croppedview/Broadcast", [(("com/example/cropped_view/croppedview/Broadcast", "m_reactions", "[[I"), (.ref g267)), (("com/example/cropped_view/croppedview/Broadcast", "m_deletes", "[Z"), (.ref d266)), (("com/example/cropped_view/croppedview/Broadcast", "m_deletesAny", "Z"), (.int an272))]))), (g267, (.inr ((.array .int), "[[I", [(.ref r268), (.ref r268), (.ref r268), (.ref r268)]))), (r268, (.inr (.int, "[I", vr271))), (d266, (.inr (.boolean, "[Z", vd270))), (s265, (.inr (.boolean, "[Z", vs269))), (a237, (.inr (.int, "[I", [(.int x0)]))), (a242, (.inr (.int, "[I", [(.int y0)]))), (a254, (.inr (.int, "[I", [(.int y0), (.int y1)]))), (a247, (.inr (.int, "[I", [(.int x0), (.int x1)])))]) := ((((P264.front 1).front 3).front 3).front 4)
      exact own_end_1 l Z a0 hw h263 n0 _ zn zf zg zt zu zq 4 x0 x1 y0 y1 a237 a242 a247 a254 a261 g267 r268 d266 vr271 vd270 an272 rv dv q h_q.1 hrv hdv h01 hmv P273
    · refine go_iload c0_15 rfl ?_
      refine go_push c0_17 ?_
      refine go_icmp_lt c0_18 (fun q => absurd q (by decide)) (fun _ => ?_)
      refine go_push c0_21 ?_
      refine go_goto c0_22 ?_
      refine go_istore c0_26 rfl rfl ?_
      dsimp only [setl]
      refine go_iload c0_28 rfl ?_
      refine go_ldcI (y := x) c0_29 (t0 hw) ?_
      refine go_iand c0_31 ?_
      refine go_iload c0_32 rfl ?_
      refine go_irem c0_34 (by decide) ?_
      refine go_nameI fun x0 e_x0 => ?_
      have h_x0 : own_in x0 4 := by rw [e_x0]; exact own_mod zf 4 (by decide) (by decide)
      clear e_x0
      refine go_istore c0_35 rfl rfl ?_
      dsimp only [setl]
      refine go_iload c0_37 rfl ?_
      refine go_push c0_39 ?_
      refine go_icmp_lt c0_40 (fun q => absurd q (by decide)) (fun _ => ?_)
      refine go_iload c0_43 rfl ?_
      refine go_push c0_45 ?_
      refine go_iadd c0_46 ?_
      refine go_iload c0_47 rfl ?_
      refine go_ldcI (y := x) c0_48 (t0 hw) ?_
      refine go_iand c0_50 ?_
      refine go_iload c0_51 rfl ?_
      refine go_push c0_53 ?_
      refine go_isub c0_54 ?_
      refine go_isI 3 (by decide) ?_
      refine go_irem c0_55 (by decide) ?_
      refine go_nameI fun r1 e_r1 => ?_
      have h_r1 : own_in r1 3 := by rw [e_r1]; exact own_mod zg 3 (by decide) (by decide)
      clear e_r1
      refine go_iadd c0_56 ?_
      refine go_iload c0_57 rfl ?_
      refine go_irem c0_59 (by decide) ?_
      refine go_goto c0_60 ?_
      refine go_nameI fun x1 e_x1 => ?_
      have h_x1 : own_in x1 4 ∧ x1 ≠ x0 := by rw [e_x1]; exact own_snd4 x0 r1 h_x0 h_r1
      clear e_x1
      refine go_istore c0_65 rfl rfl ?_
      dsimp only [setl]
      refine go_iload c0_67 rfl ?_
      refine go_ldcI (y := x) c0_68 (t0 hw) ?_
      refine go_iand c0_70 ?_
      refine go_iload c0_71 rfl ?_
      refine go_push c0_73 ?_
      refine go_iadd c0_74 ?_
      refine go_isI 5 (by decide) ?_
      refine go_irem c0_75 (by decide) ?_
      refine go_push c0_76 ?_
      refine go_isub c0_77 ?_
      refine go_nameI fun y0 e_y0 => ?_
      have h_y0 : own_to y0 4 := by rw [e_y0]; exact own_tos 4 5 (by decide) (by decide) (by decide) zt
      clear e_y0
      refine go_istore c0_78 rfl rfl ?_
      dsimp only [setl]
      refine go_iload c0_80 rfl ?_
      refine go_ldcI (y := x) c0_82 (t0 hw) ?_
      refine go_iand c0_84 ?_
      refine go_iload c0_85 rfl ?_
      refine go_push c0_87 ?_
      refine go_iadd c0_88 ?_
      refine go_isI 5 (by decide) ?_
      refine go_irem c0_89 (by decide) ?_
      refine go_push c0_90 ?_
      refine go_isub c0_91 ?_
      refine go_nameI fun y1 e_y1 => ?_
      have h_y1 : own_to y1 4 := by rw [e_y1]; exact own_tos 4 5 (by decide) (by decide) (by decide) zu
      clear e_y1
      refine go_istore c0_92 rfl rfl ?_
      dsimp only [setl]
      refine go_iload c0_94 rfl ?_
      refine go_ldcI (y := x) c0_96 (t0 hw) ?_
      refine go_iand c0_98 ?_
      refine go_iload c0_99 rfl ?_
      refine go_irem c0_101 (by decide) ?_
      refine go_nameI fun q e_q => ?_
      have h_q : own_in q 4 := by rw [e_q]; exact own_mod zq 4 (by decide) (by decide)
      clear e_q
      refine go_istore c0_102 rfl rfl ?_
      dsimp only [setl]
      refine go_push c0_104 ?_
      refine go_newarr (y := x) P0 "[I" [(.int 0)] 1 c0_105 (t1 hw) (by decide) (by decide) (by decide) (by decide) rfl rfl (by decide) (by decide) ?_
      intro h274 a276 P275
      refine go_more (k' := 1) (n' := 1) (by decide) (by decide) ?_
      refine go_dup c0_107 rfl ?_
      refine go_push c0_108 ?_
      refine go_iload c0_109 rfl ?_
      refine go_iastoreH P275 0 c0_111 rfl (by decide) (Nat.le_of_ble_eq_true rfl) ?_
      intro h277 P278
      dsimp only [lupd] at P278
      refine go_astore c0_112 rfl rfl rfl ?_
      dsimp only [setl]
      refine go_push c0_114 ?_
      refine go_newarr (y := x) P278 "[I" [(.int 0)] 1 c0_115 (t1 hw) (by decide) (by decide) (by decide) (by decide) rfl rfl (by decide) (by decide) ?_
      intro h279 a281 P280
      refine go_more (k' := 2) (n' := 2) (by decide) (by decide) ?_
      refine go_dup c0_117 rfl ?_
      refine go_push c0_118 ?_
      refine go_iload c0_119 rfl ?_
      refine go_iastoreH P280 0 c0_121 rfl (by decide) (Nat.le_of_ble_eq_true rfl) ?_
      intro h282 P283
      dsimp only [lupd] at P283
      refine go_astore c0_122 rfl rfl rfl ?_
      dsimp only [setl]
      refine go_push c0_124 ?_
      refine go_newarr (y := x) P283 "[I" [(.int 0), (.int 0)] 2 c0_125 (t1 hw) (by decide) (by decide) (by decide) (by decide) rfl rfl (by decide) (by decide) ?_
      intro h284 a286 P285
      refine go_more (k' := 3) (n' := 4) (by decide) (by decide) ?_
      refine go_dup c0_127 rfl ?_
      refine go_push c0_128 ?_
      refine go_iload c0_129 rfl ?_
      refine go_iastoreH P285 0 c0_131 rfl (by decide) (Nat.le_of_ble_eq_true rfl) ?_
      intro h287 P288
      dsimp only [lupd] at P288
      refine go_dup c0_132 rfl ?_
      refine go_push c0_133 ?_
      refine go_iload c0_134 rfl ?_
      refine go_iastoreH P288 0 c0_136 rfl (by decide) (Nat.le_of_ble_eq_true rfl) ?_
      intro h289 P290
      dsimp only [lupd] at P290
      refine go_astore c0_137 rfl rfl rfl ?_
      dsimp only [setl]
      refine go_push c0_139 ?_
      refine go_newarr (y := x) P290 "[I" [(.int 0), (.int 0)] 2 c0_140 (t1 hw) (by decide) (by decide) (by decide) (by decide) rfl rfl (by decide) (by decide) ?_
      intro h291 a293 P292
      refine go_more (k' := 4) (n' := 6) (by decide) (by decide) ?_
      refine go_dup c0_142 rfl ?_
      refine go_push c0_143 ?_
      refine go_iload c0_144 rfl ?_
      refine go_iastoreH P292 0 c0_146 rfl (by decide) (Nat.le_of_ble_eq_true rfl) ?_
      intro h294 P295
      dsimp only [lupd] at P295
      refine go_dup c0_147 rfl ?_
      refine go_push c0_148 ?_
      refine go_iload c0_149 rfl ?_
      refine go_iastoreH P295 0 c0_151 rfl (by decide) (Nat.le_of_ble_eq_true rfl) ?_
      intro h296 P297
      dsimp only [lupd] at P297
      refine go_astore c0_152 rfl rfl rfl ?_
      dsimp only [setl]
      refine go_iload c0_154 rfl ?_
      refine go_if_eq c0_156 (fun q => absurd q (by decide)) (fun _ => ?_)
      refine go_new (y := x) P297 [(("com/example/cropped_view/croppedview/Broadcast", "m_reactions", "[[I"), .null), (("com/example/cropped_view/croppedview/Broadcast", "m_deletes", "[Z"), .null), (("com/example/cropped_view/croppedview/Broadcast", "m_deletesAny", "Z"), (.int 0))] c0_159 (t2 hw) (t3 hw) (t4 hw) (⟨⟨Or.inr (t30 hw), (.array (.array .int)), by decide, rfl⟩, ⟨⟨Or.inr (t37 hw), (.array .boolean), by decide, rfl⟩, ⟨⟨Or.inr (t39 hw), .boolean, by decide, rfl⟩, trivial⟩⟩⟩) (by decide) (by decide) (by decide) ?_
      intro h298 a300 P299
      refine go_more (k' := 5) (n' := 9) (by decide) (by decide) ?_
      refine go_dup c0_162 rfl ?_
      refine go_aload c0_163 rfl rfl ?_
      refine go_aload c0_165 rfl rfl ?_
      refine go_iload c0_167 rfl ?_
      have P301 : Hp Z n0 h298 ([(a300, (.inl ("com/example/cropped_view/croppedview/Broadcast", [(("com/example/cropped_view/croppedview/Broadcast", "m_reactions", "[[I"), .null), (("com/example/cropped_view/croppedview/Broadcast", "m_deletes", "[Z"), .null), (("com/example/cropped_view/croppedview/Broadcast", "m_deletesAny", "Z"), (.int 0))]))), (a286, (.inr (.int, "[I", [(.int x0), (.int x1)]))), (a293, (.inr (.int, "[I", [(.int y0), (.int y1)]))), (a281, (.inr (.int, "[I", [(.int y0)]))), (a276, (.inr (.int, "[I", [(.int x0)])))]) := (((P299.front 1).front 2).front 2)
      refine go_callNW0 (y := x) (W := 1) (argsL := [(.ref a286), (.ref a293), (.int 4)]) (st := [(.ref a300)]) c0_169 rfl rfl (rm_ct_4_2 l Z a0 hw h298 n0 _ a300 a286 a293 x0 y0 x1 y1 h_x0 h_y0 h_x1.1 h_y1 h_x1.2 P301) (t5 hw) (t6 hw) (t4 hw) (t7 hw) (by decide) (lenOf pd5 rfl) rfl rfl (by decide) (by decide) (by decide) (by decide) rfl ?_
      rintro h302 ⟨s304, d305, g306, r307, vs308, vd309, vr310, an311, P303, hGood⟩
      refine go_more (k' := 9) (n' := 25) (by decide) (by decide) ?_
      refine go_goto c0_172 ?_
      refine go_astore c0_188 rfl rfl rfl ?_
      dsimp only [setl]
      obtain ⟨rv, dv, hrv, hdv, h01, hmv⟩ := hGood q h_q
      refine go_more (k' := 16) (n' := 64) (by decide) (by decide) ?_
      have P312 : Hp Z n0 h302 ([(a300, (.inl ("com/example/cropped_view/croppedview/Broadcast", [(("com/example/cropped_view/croppedview/Broadcast", "m_reactions", "[[I"), (.ref g306)), (("com/example/cropped_view/croppedview/Broadcast", "m_deletes", "[Z"), (.ref d305)), (("com/example/cropped_view/croppedview/Broadcast", "m_deletesAny", "Z"), (.int an311))]))), (g306, (.inr ((.array .int), "[[I", [(.ref r307), (.ref r307), (.ref r307), (.ref r307)]))), (r307, (.inr (.int, "[I", vr310))), (d305, (.inr (.boolean, "[Z", vd309))), (s304, (.inr (.boolean, "[Z", vs308))), (a286, (.inr (.int, "[I", [(.int x0), (.int x1)]))), (a293, (.inr (.int, "[I", [(.int y0), (.int y1)]))), (a281, (.inr (.int, "[I", [(.int y0)]))), (a276, (.inr (.int, "[I", [(.int x0)])))]) := ((((P303.front 1).front 3).front 3).front 4)
      exact own_end_2 l Z a0 hw h302 n0 _ zn zf zg zt zu zq 4 x0 x1 y0 y1 a276 a281 a286 a293 a300 g306 r307 d305 vr310 vd309 an311 rv dv q h_q.1 hrv hdv h01 hmv P312
set_option maxRecDepth 65536 in
set_option maxHeartbeats 4000000 in
theorem comes_1 {Post : Tables → Env → Array Value → State → Outcome → State → Prop} (hpost : ∀ tb e args s v u, (limb_1_1.after args s (.returned v) u = true ∧ limb_1_2.after args s (.returned v) u = true ∧ True) → ReturnedEndW s (.returned v) u (Jvm.fieldLocs frame_1_writes args s ++ Jvm.arrayLocs frame_1_arrays args s ++ Jvm.staticLocs frame_1_statics s) 32 128 → Post tb e args s (.returned v) u) :
    ArmFor flags0 classFile x code maxLocals ret World_1 tables_1 room_1 Calls_1 rest_1 Pre_1 Post := by
  intro l hfl _ _ p e ha hc hk s m args below hf hA hF happ hP
  obtain ⟨hcalls, hrest, hpre⟩ := hP
  obtain ⟨-, -, -, hnamed, -, -, -, hat⟩ := (Spec.applies_iff hf).mp happ
  obtain ⟨hg, hn⟩ := and_e (Cond.before_iff.mp (show (Jvm.Cond.and given_1 narrow_1).before args s = true from hpre))
  obtain ⟨hct, hg0⟩ := and_e hg
  obtain ⟨ga0, hg1⟩ := and_e hg0
  obtain ⟨ga1, hg2⟩ := and_e hg1
  obtain ⟨ga2, hg3⟩ := and_e hg2
  obtain ⟨ga3, hg4⟩ := and_e hg3
  obtain ⟨ga4, hg5⟩ := and_e hg4
  have ga5 := hg5
  obtain ⟨w0, w1, w2, w3, w4, w5, rfl⟩ : ∃ w0 w1 w2 w3 w4 w5 : Value, args = #[w0, w1, w2, w3, w4, w5] := by
    have hs : args.size = 6 := by simpa [Cond.value, given_1] using hct
    obtain ⟨L⟩ := args
    match L, hs with
    | [w0, w1, w2, w3, w4, w5], _ => exact ⟨w0, w1, w2, w3, w4, w5, rfl⟩
  have hw := fun d (hd : d ∈ tables_1) => atoms_spec (ws := Jvm.Cond.code x code maxLocals ret :: tables_1) hat d (List.mem_cons_of_mem _ hd)
  have hfit : Fit s := fun {y c} hc i hi => by
    obtain ⟨ha, rfl⟩ := Array.getElem?_eq_some_iff.mp hc
    have q := List.all_eq_true.mp ((Array.all_eq_true_iff_forall_mem.mp hF) _ (Array.getElem_mem ha)) i (List.mem_range.mpr hi)
    simpa [Array.getElem?_eq_getElem hi] using q
  obtain ⟨i0, ei0⟩ := is_v ga0
  obtain rfl : w0 = (.int i0) := Option.some.inj ei0
  obtain ⟨i1, ei1⟩ := is_v ga1
  obtain rfl : w1 = (.int i1) := Option.some.inj ei1
  obtain ⟨i2, ei2⟩ := is_v ga2
  obtain rfl : w2 = (.int i2) := Option.some.inj ei2
  obtain ⟨i3, ei3⟩ := is_v ga3
  obtain rfl : w3 = (.int i3) := Option.some.inj ei3
  obtain ⟨i4, ei4⟩ := is_v ga4
  obtain rfl : w4 = (.int i4) := Option.some.inj ei4
  obtain ⟨i5, ei5⟩ := is_v ga5
  obtain rfl : w5 = (.int i5) := Option.some.inj ei5
  have K := rm0 l s _ hw s.heap s.heap.size (Hp.start s) i0 i1 i2 i3 i4 i5
  obtain ⟨n, o, h1, h2, h3, v, L, rfl, ⟨⟨⟨w, rfl, rfl⟩, -⟩, N⟩, hq0⟩ := K tables_1 p e ha hc hk s m _ below hf ((Spec.applies_iff_loose hf).mp happ).1 ⟨rfl, State.WarmedH.refl s, rfl⟩ trivial
  have hq := Jvm.LamKit.wideOf hq0
  refine ⟨n, _, h1, h2, h3, hpost _ _ _ _ _ _ ⟨Cond.after_iff.mpr rfl, Cond.after_iff.mpr (eq_i res_at (Term.int_eval (1)) rfl), trivial⟩ ⟨hq.1, hq.2.1, hq.2.2.1, (hq.2.2.2.sift fun y hy => Or.inr (N y hy)).mono (by decide) (by decide)⟩⟩
theorem main_1_1 : Claimed_1_1 := comes_1 fun _ _ _ _ _ _ h hF => ⟨h.1, hF⟩
theorem main_1_2 : Claimed_1_2 := comes_1 fun _ _ _ _ _ _ h hF => ⟨h.2.1, hF⟩
end Jvm.Pilot.@@N@@
namespace Jvm.Pilot.@@N@@
open Jvm Jvm.ClassFile Sem Op Lib Jvm.Free Jvm.Stand Jvm.Pilot.@@N@@.Jvm.D
/-! MADE BY PROGRAM (witnessworld.py) out of the Statement's table words and the real class files: 15 classes; the members and pool entries that the words name. The judged class is class 1, her method 1. -/
namespace start1
open Jvm.ClassFile
def u (s : String) : CpInfo := .utf8 (stringToUtf16 s)
/-- a pool by its gaps: so many unusable entries, then the entry; so many at the end -/
def gap : Nat → List CpInfo → List CpInfo
  | 0, r => r
  | n + 1, r => .unusable :: gap n r
def poolList (es : List (Nat × CpInfo)) (last : Nat) : List CpInfo := es.foldr (fun e r => gap e.1 (e.2 :: r)) (gap last [])
def pool (es : List (Nat × CpInfo)) (last : Nat) : Array CpInfo := ⟨poolList es last⟩
def fileOf (pool : Array CpInfo) (this : Nat) (attrs : Array Attribute := #[]) (ms : Array MethodInfo := #[]) (fl : Nat := 33) (sup : Nat := 0) (ifs : Array Nat := #[]) (fds : Array FieldInfo := #[]) : ClassFile where
  minorVersion := 0
  majorVersion := 65
  constantPool := pool
  accessFlags := fl
  thisClass := this
  superClass := sup
  interfaces := ifs
  fields := fds
  methods := ms
  attributes := attrs
def plain (name : String) (sup : Option ClassId) : Class where
  name := name
  kind := .ordinary
  loader := none
  accessFlags := 33
  super := sup
  interfaces := #[]
  cf := none
  fields := #[]
  methods := #[]
  instanceTypes := #[]
  staticTypes := #[]
  resolved := #[]
  callSites := []
  init := .initialized
  statics := none
  mirror := none

def pool0 : Array CpInfo := pool [(5, u "<init>"), (0, u "()V"), (1, .class_ 10), (1, u "java/lang/Object")] 113

def k0c0 : Code := { maxStack := 0, maxLocals := 1, code := object_method_1_code, exceptionTable := #[], attributes := #[] }
def k0m0 : Method := { name := "<init>", desc := "()V", sig := { parameters := [], returnType := none }, accessFlags := 1, code := some k0c0 }
/-- java/lang/Object -/
def k0 : Class := { plain "java/lang/Object" none with
  accessFlags := 33
  interfaces := #[]
  cf := some (fileOf pool0 8 #[] #[{ accessFlags := 1, nameIndex := 5, descriptorIndex := 6, attributes := #[] }] 33 0 #[] #[])
  fields := #[]
  methods := #[k0m0]
  instanceTypes := #[]
  staticTypes := #[]
  resolved := Array.replicate 124 none
  statics := none }

def pool1 : Array CpInfo := pool [(2, .class_ 4), (1, u "java/lang/Object"), (0, u "<init>"), (0, u "()V"), (0, .integer 2147483647), (0, .class_ 9), (0, u "com/example/cropped_view/croppedview/Broadcast"), (0, .methodref 8 11), (0, .nameAndType 5 12), (0, u "([I[II)V"), (0, .methodref 8 14), (0, .nameAndType 15 16), (0, u "moves"), (0, u "(I)Z"), (0, .class_ 18), (0, u "com/example/cropped_view/croppedview/BroadcastMovesPinLaw"), (2, u "law"), (0, u "(IIIIII)Z")] 5

def k1m0 : Method := { name := "<init>", desc := "()V", sig := { parameters := [], returnType := none }, accessFlags := 1, code := none }
def k1c1 : Code := { maxStack := 5, maxLocals := 19, code := code, exceptionTable := #[], attributes := #[] }
def k1m1 : Method := { name := "law", desc := "(IIIIII)Z", sig := { parameters := [.int, .int, .int, .int, .int, .int], returnType := some .boolean }, accessFlags := 9, code := some k1c1 }
/-- com/example/cropped_view/croppedview/BroadcastMovesPinLaw -/
def k1 : Class := { plain "com/example/cropped_view/croppedview/BroadcastMovesPinLaw" (some 0) with
  accessFlags := 49
  interfaces := #[]
  cf := some (fileOf pool1 17 #[] #[{ accessFlags := 1, nameIndex := 5, descriptorIndex := 6, attributes := #[] }, { accessFlags := 9, nameIndex := 21, descriptorIndex := 22, attributes := #[] }] 49 2 #[] #[])
  fields := #[]
  methods := #[k1m0, k1m1]
  instanceTypes := #[]
  staticTypes := #[]
  resolved := Array.replicate 28 none
  statics := none }

def pool2 : Array CpInfo := pool [(1, .methodref 2 3), (0, .class_ 4), (0, .nameAndType 5 6), (0, u "java/lang/Object"), (0, u "<init>"), (0, u "()V"), (9, .invokeDynamic 1 17), (0, .nameAndType 18 19), (0, u "applyAsInt"), (0, u "()Ljava/util/function/IntUnaryOperator;"), (0, .methodref 21 22), (0, .class_ 23), (0, .nameAndType 24 25), (0, u "java/util/Arrays"), (0, u "setAll"), (0, u "([ILjava/util/function/IntUnaryOperator;)V"), (2, .class_ 29), (0, u "[I"), (0, .fieldref 31 32), (0, .class_ 33), (0, .nameAndType 34 35), (0, u "com/example/cropped_view/croppedview/Broadcast"), (0, u "m_reactions"), (0, u "[[I"), (0, .methodref 21 37), (0, .nameAndType 38 39), (0, u "fill"), (0, u "([Ljava/lang/Object;Ljava/lang/Object;)V"), (0, .fieldref 31 41), (0, .nameAndType 42 43), (0, u "m_deletes"), (0, u "[Z"), (5, .fieldref 31 50), (0, .nameAndType 51 52), (0, u "m_deletesAny"), (0, u "Z"), (37, u "KEYWORD"), (0, u "Ljava/lang/String;"), (3, u "([I[II)V"), (6, u "moves"), (0, u "(I)Z"), (12, u "lambda$new$0"), (0, u "(I)I"), (5, .methodType 117), (0, .methodHandle 6 125), (0, .methodref 31 126), (0, .nameAndType 116 117), (25, .methodHandle 6 153), (0, .methodref 154 155), (0, .class_ 156), (0, .nameAndType 157 158), (0, u "java/lang/invoke/LambdaMetafactory"), (0, u "metafactory"), (0, u "(Ljava/lang/invoke/MethodHandles$Lookup;Ljava/lang/String;Ljava/lang/invoke/MethodType;Ljava/lang/invoke/MethodType;Ljava/lang/invoke/MethodHandle;Ljava/lang/invoke/MethodType;)Ljava/lang/invoke/CallSite;")] 6

def k2c0 : Code := { maxStack := 5, maxLocals := 8, code := prog_7_method_1_code, exceptionTable := #[], attributes := #[] }
def k2m0 : Method := { name := "<init>", desc := "([I[II)V", sig := { parameters := [(.array .int), (.array .int), .int], returnType := none }, accessFlags := 0, code := some k2c0 }
def k2c1 : Code := { maxStack := 2, maxLocals := 6, code := prog_7_method_3_code, exceptionTable := #[], attributes := #[] }
def k2m1 : Method := { name := "moves", desc := "(I)Z", sig := { parameters := [.int], returnType := some .boolean }, accessFlags := 0, code := some k2c1 }
def k2c2 : Code := { maxStack := 1, maxLocals := 1, code := prog_7_method_12_code, exceptionTable := #[], attributes := #[] }
def k2m2 : Method := { name := "lambda$new$0", desc := "(I)I", sig := { parameters := [.int], returnType := some .int }, accessFlags := 4106, code := some k2c2 }
/-- com/example/cropped_view/croppedview/Broadcast -/
def k2 : Class := { plain "com/example/cropped_view/croppedview/Broadcast" (some 0) with
  accessFlags := 48
  interfaces := #[]
  cf := some (fileOf pool2 31 #[.bootstrapMethods #[⟨0, #[]⟩, ⟨152, #[123, 124, 123]⟩, ⟨0, #[]⟩, ⟨0, #[]⟩, ⟨0, #[]⟩, ⟨0, #[]⟩, ⟨0, #[]⟩, ⟨0, #[]⟩]] #[{ accessFlags := 0, nameIndex := 5, descriptorIndex := 95, attributes := #[] }, { accessFlags := 0, nameIndex := 102, descriptorIndex := 103, attributes := #[] }, { accessFlags := 4106, nameIndex := 116, descriptorIndex := 117, attributes := #[] }] 48 2 #[] #[{ accessFlags := 24, nameIndex := 90, descriptorIndex := 91, attributes := #[] }, { accessFlags := 18, nameIndex := 34, descriptorIndex := 35, attributes := #[] }, { accessFlags := 18, nameIndex := 42, descriptorIndex := 43, attributes := #[] }, { accessFlags := 18, nameIndex := 51, descriptorIndex := 52, attributes := #[] }])
  fields := #[{ name := "KEYWORD", type := (.object "java/lang/String"), accessFlags := 24, slot := 0, constantValue := 0 }, { name := "m_reactions", type := (.array (.array .int)), accessFlags := 18, slot := 0, constantValue := 0 }, { name := "m_deletes", type := (.array .boolean), accessFlags := 18, slot := 1, constantValue := 0 }, { name := "m_deletesAny", type := .boolean, accessFlags := 18, slot := 2, constantValue := 0 }]
  methods := #[k2m0, k2m1, k2m2]
  instanceTypes := #[(.array (.array .int)), (.array .boolean), .boolean]
  staticTypes := #[(.object "java/lang/String")]
  resolved := Array.replicate 165 none
  callSites := [(0, 40, .constant 0)]
  statics := none }

def pool3 : Array CpInfo := pool [(9, u "applyAsInt"), (6, .class_ 18), (1, u "java/util/function/IntUnaryOperator"), (0, u "(I)I"), (0, .class_ 21), (0, u "java/lang/Object")] 46

def k3m0 : Method := { name := "applyAsInt", desc := "(I)I", sig := { parameters := [.int], returnType := some .int }, accessFlags := 1025, code := none }
/-- java/util/function/IntUnaryOperator -/
def k3 : Class := { plain "java/util/function/IntUnaryOperator" (some 0) with
  accessFlags := 1537
  interfaces := #[]
  cf := some (fileOf pool3 16 #[] #[{ accessFlags := 1025, nameIndex := 9, descriptorIndex := 19, attributes := #[] }] 1537 20 #[] #[])
  fields := #[]
  methods := #[k3m0]
  instanceTypes := #[]
  staticTypes := #[]
  resolved := Array.replicate 68 none
  statics := none }

def pool4 : Array CpInfo := pool [(2, .class_ 4), (1, u "java/lang/Object"), (0, u "<init>"), (0, u "()V"), (7, .class_ 16), (1, u "java/util/Arrays"), (57, .class_ 76), (1, u "java/util/Arrays$NaturalOrder"), (36, .class_ 115), (1, u "java/util/Arrays$LegacyMergeSort"), (1, u "Z"), (57, .methodref 176 177), (0, .class_ 178), (0, .nameAndType 179 180), (0, u "java/util/Objects"), (0, u "requireNonNull"), (0, u "(Ljava/lang/Object;)Ljava/lang/Object;"), (194, .class_ 376), (0, u "java/util/Arrays$ArrayList"), (68, u "$assertionsDisabled"), (136, .interfaceMethodref 583 584), (0, .class_ 585), (0, .nameAndType 586 587), (0, u "java/util/function/IntUnaryOperator"), (0, u "applyAsInt"), (0, u "(I)I"), (127, u "MIN_ARRAY_SORT_GRAN"), (0, u "I"), (2, u "INSERTIONSORT_THRESHOLD"), (120, u "fill"), (17, u "([Ljava/lang/Object;Ljava/lang/Object;)V"), (48, u "setAll"), (6, u "([ILjava/util/function/IntUnaryOperator;)V"), (60, .class_ 976), (0, u "java/util/Arrays$ArrayItr")] 52

def k4m0 : Method := { name := "<init>", desc := "()V", sig := { parameters := [], returnType := none }, accessFlags := 2, code := none }
def k4c1 : Code := { maxStack := 3, maxLocals := 4, code := jdk_65_method_117_code, exceptionTable := #[], attributes := #[] }
def k4m1 : Method := { name := "fill", desc := "([Ljava/lang/Object;Ljava/lang/Object;)V", sig := { parameters := [(.array (.object "java/lang/Object")), (.object "java/lang/Object")], returnType := none }, accessFlags := 9, code := some k4c1 }
def k4c2 : Code := { maxStack := 4, maxLocals := 3, code := jdk_65_method_175_code, exceptionTable := #[], attributes := #[] }
def k4m2 : Method := { name := "setAll", desc := "([ILjava/util/function/IntUnaryOperator;)V", sig := { parameters := [(.array .int), (.object "java/util/function/IntUnaryOperator")], returnType := none }, accessFlags := 9, code := some k4c2 }
/-- java/util/Arrays -/
def k4 : Class := { plain "java/util/Arrays" (some 0) with
  accessFlags := 49
  interfaces := #[]
  cf := some (fileOf pool4 14 #[.nestMembers #[975, 375, 113, 74]] #[{ accessFlags := 2, nameIndex := 5, descriptorIndex := 6, attributes := #[] }, { accessFlags := 9, nameIndex := 840, descriptorIndex := 858, attributes := #[] }, { accessFlags := 9, nameIndex := 907, descriptorIndex := 914, attributes := #[] }] 49 2 #[] #[{ accessFlags := 26, nameIndex := 715, descriptorIndex := 716, attributes := #[] }, { accessFlags := 26, nameIndex := 719, descriptorIndex := 716, attributes := #[] }, { accessFlags := 4120, nameIndex := 445, descriptorIndex := 117, attributes := #[] }])
  fields := #[{ name := "MIN_ARRAY_SORT_GRAN", type := .int, accessFlags := 26, slot := 0, constantValue := 0 }, { name := "INSERTIONSORT_THRESHOLD", type := .int, accessFlags := 26, slot := 1, constantValue := 0 }, { name := "$assertionsDisabled", type := .boolean, accessFlags := 4120, slot := 2, constantValue := 0 }]
  methods := #[k4m0, k4m1, k4m2]
  instanceTypes := #[]
  staticTypes := #[.int, .int, .boolean]
  resolved := Array.replicate 1029 none
  statics := none }

def pool5 : Array CpInfo := pool [(2, .class_ 4), (1, u "java/lang/Object"), (0, u "<init>"), (0, u "()V"), (35, .class_ 44), (1, u "java/util/Objects"), (0, u "requireNonNull"), (0, u "(Ljava/lang/Object;)Ljava/lang/Object;")] 137

def k5m0 : Method := { name := "<init>", desc := "()V", sig := { parameters := [], returnType := none }, accessFlags := 2, code := none }
def k5c1 : Code := { maxStack := 2, maxLocals := 1, code := jdk_31_method_10_code, exceptionTable := #[], attributes := #[] }
def k5m1 : Method := { name := "requireNonNull", desc := "(Ljava/lang/Object;)Ljava/lang/Object;", sig := { parameters := [(.object "java/lang/Object")], returnType := some (.object "java/lang/Object") }, accessFlags := 9, code := some k5c1 }
/-- java/util/Objects -/
def k5 : Class := { plain "java/util/Objects" (some 0) with
  accessFlags := 49
  interfaces := #[]
  cf := some (fileOf pool5 42 #[] #[{ accessFlags := 2, nameIndex := 5, descriptorIndex := 6, attributes := #[] }, { accessFlags := 9, nameIndex := 45, descriptorIndex := 46, attributes := #[] }] 49 2 #[] #[])
  fields := #[]
  methods := #[k5m0, k5m1]
  instanceTypes := #[]
  staticTypes := #[]
  resolved := Array.replicate 184 none
  statics := none }

def pool6 : Array CpInfo := pool [(1, u "java/lang/Cloneable"), (0, .class_ 1), (0, u "java/lang/Object"), (0, .class_ 3)] 3

/-- java/lang/Cloneable -/
def k6 : Class := { plain "java/lang/Cloneable" (some 0) with
  accessFlags := 1537
  interfaces := #[]
  cf := some (fileOf pool6 2 #[] #[] 1537 4 #[] #[])
  fields := #[]
  methods := #[]
  instanceTypes := #[]
  staticTypes := #[]
  resolved := Array.replicate 8 none
  statics := none }

def pool7 : Array CpInfo := pool [(1, u "java/io/Serializable"), (0, .class_ 1), (0, u "java/lang/Object"), (0, .class_ 3)] 3

/-- java/io/Serializable -/
def k7 : Class := { plain "java/io/Serializable" (some 0) with
  accessFlags := 1537
  interfaces := #[]
  cf := some (fileOf pool7 2 #[] #[] 1537 4 #[] #[])
  fields := #[]
  methods := #[]
  instanceTypes := #[]
  staticTypes := #[]
  resolved := Array.replicate 8 none
  statics := none }

/-- the primitive boolean -/
def k8 : Class := { plain "boolean" none with kind := .primitive 'Z', accessFlags := 0x411 }
/-- [Z -/
def k9 : Class := { plain "[Z" (some 0) with kind := .array 8 .boolean, interfaces := #[6, 7], accessFlags := 1041 }

/-- the primitive byte -/
def k10 : Class := { plain "byte" none with kind := .primitive 'B', accessFlags := 0x411 }
/-- [B -/
def k11 : Class := { plain "[B" (some 0) with kind := .array 10 .byte, interfaces := #[6, 7], accessFlags := 1041 }

/-- the primitive int -/
def k12 : Class := { plain "int" none with kind := .primitive 'I', accessFlags := 0x411 }
/-- [I -/
def k13 : Class := { plain "[I" (some 0) with kind := .array 12 .int, interfaces := #[6, 7], accessFlags := 1041 }

def classes0 : Array Class := #[k0, k1, k2, k3, k4, k5, k6, k7, k8, k9, k10, k11, k12, k13]
/-- the class that the rule has made for the site at 40 of com/example/cropped_view/croppedview/Broadcast.<init> -/
def k14 : Class := Jvm.LamKit.madeRec { classes := classes0 } "com/example/cropped_view/croppedview/Broadcast" (Jvm.Lambda.Shape.mk "java/util/function/IntUnaryOperator" "applyAsInt" (Jvm.ClassFile.MethodDescriptor.mk ([Jvm.ClassFile.FieldType.int] : List Jvm.ClassFile.FieldType) (Option.some Jvm.ClassFile.FieldType.int)) ([] : List Jvm.ClassFile.FieldType) (6 : Nat) "com/example/cropped_view/croppedview/Broadcast" "lambda$new$0" (Jvm.ClassFile.MethodDescriptor.mk ([Jvm.ClassFile.FieldType.int] : List Jvm.ClassFile.FieldType) (Option.some Jvm.ClassFile.FieldType.int)) false (Jvm.ClassFile.MethodDescriptor.mk ([Jvm.ClassFile.FieldType.int] : List Jvm.ClassFile.FieldType) (Option.some Jvm.ClassFile.FieldType.int))) 14

/-- [[I -/
def k15 : Class := { plain "[[I" (some 0) with kind := .array 13 (.array .int), interfaces := #[6, 7], accessFlags := 1041 }

def heap : Heap := #[{ cls := 14, slots := #[], vm := .none }]
def classes : Array Class := #[k0, k1, k2, k3, k4, k5, k6, k7, k8, k9, k10, k11, k12, k13, k14, k15]
def interned : List (Array UInt16 × Addr) := []
def slotsUsed : Nat := 0
def theMethod : MethodId := ⟨1, 1⟩
def args0 : Array Value := #[.int 2, .int 0, .int 0, .int 0, .int 0, .int 0]
def aboutOver (below : List Frame) : State where
  vm := { classes := classes, interned := interned.toArray }
  heap := heap
  slotsUsed := slotsUsed
  threads := #[{ frames := .invoking theMethod args0 :: below }]
def below0 : List Frame := [.native { method := ⟨0, 0⟩, args := #[] }]
def about1 : State := aboutOver below0
def p0 : Program := .bare "" "" ""
def e0 : Env := launch0.env 0 0 0
theorem w_frames : about1.frames = Frame.invoking theMethod args0 :: below0 := rfl
set_option maxRecDepth 65536 in
theorem w_args : argsFit about1.vm theMethod args0 = true := by decide +kernel
set_option maxRecDepth 65536 in
theorem w_heap : heapFits about1 = true := by decide +kernel
set_option maxRecDepth 65536 in
theorem w_runnable : about1.curStatus? = some .runnable := by decide +kernel
set_option maxRecDepth 65536 in
theorem w_alone : about1.alone = true := by decide +kernel
set_option maxRecDepth 65536 in
theorem w_named : about1.methodNamed? x = some theMethod := by decide +kernel
set_option maxRecDepth 65536 in
theorem w_hears : about1.hears theMethod below0 = true := by decide +kernel
set_option maxRecDepth 65536 in
theorem w_ripe : about1.ripe theMethod args0 below0 = true := by decide +kernel
theorem w_running : about1.status = .running := rfl
set_option maxRecDepth 65536 in
theorem w_room : about1.hasRoom e0.platform room_1 = true :=
  launch0.hasRoom_least _ room_1 (by decide +kernel) (by decide +kernel) (by decide +kernel) (by decide +kernel) (by decide +kernel) (by decide +kernel)
theorem allAtoms_all (ts : List Jvm.Cond) (a : Array Jvm.Value) (st : Jvm.State) : (allAtoms ts).before a st = ts.all (fun c => c.before a st) := by
  induction ts with
  | nil => rfl
  | cons c t ih =>
    show (Jvm.Cond.and c (allAtoms t)).before a st = _
    rw [Jvm.Cond.before_and, ih, List.all_cons]
def words1 : List Jvm.Cond := Jvm.Cond.code x code maxLocals ret :: tables_1
/-- a 'code' word, met by the world's own term for the bytes: nothing is compared byte by byte -/
theorem code_word {y : MethodName} {bytes : ByteArray} {mx : Nat} {rt : Option FieldType} {a : Array Value} {s : State} {m : MethodId} {meth : Method} {c : Code} (h1 : s.methodNamed? y = some m) (h2 : s.vm.method? m = some meth) (h3 : meth.code = some c) (h4 : c.code = bytes)
    (h5 : (c.maxLocals == mx && c.exceptionTable.isEmpty && decide (c.maxStack ≤ mostOperands) && decide (meth.sig.returnType = rt) && !meth.locks && decide (parseMethodDescriptor y.desc = some meth.sig)) = true) : (Jvm.Cond.code y bytes mx rt).before a s = true := by
  simp only [Bool.and_eq_true, beq_iff_eq, Bool.not_eq_true', decide_eq_true_eq] at h5
  obtain ⟨⟨⟨⟨⟨g1, g2⟩, g3⟩, g4⟩, g5⟩, g6⟩ := h5
  simp [Cond.before, Cond.holds, Cond.value, h1, h2, h3, h4, g1, g2, g3, g4, g5, g6]
def isCode : Jvm.Cond → Bool
  | .code _ _ _ _ => true
  | _ => false
theorem all_split {L : List Jvm.Cond} {P : Jvm.Cond → Bool} (h1 : L.all (fun c => isCode c || P c) = true) (h2 : ∀ c ∈ L.filter isCode, P c = true) : L.all P = true := by
  refine List.all_eq_true.mpr fun c hc => ?_
  have h := List.all_eq_true.mp h1 c hc
  rcases Bool.eq_false_or_eq_true (isCode c) with hi | hi
  · exact h2 c (List.mem_filter.mpr ⟨hc, hi⟩)
  · simpa [hi] using h
set_option maxRecDepth 65536 in
theorem w_c0 : (Jvm.Cond.code x code maxLocals ret).before args0 about1 = true := code_word (m := ⟨1, 1⟩) (meth := k1m1) (c := k1c1) (by decide +kernel) rfl rfl rfl (by decide +kernel)
set_option maxRecDepth 65536 in
theorem w_c1 : (Jvm.Cond.code ({ cls := "com/example/cropped_view/croppedview/Broadcast", name := "<init>", desc := "([I[II)V" } : Jvm.MethodName) prog_7_method_1_code (8 : Nat) (Option.none : Option Jvm.ClassFile.FieldType)).before args0 about1 = true := code_word (m := ⟨2, 0⟩) (meth := k2m0) (c := k2c0) (by decide +kernel) rfl rfl rfl (by decide +kernel)
set_option maxRecDepth 65536 in
theorem w_c2 : (Jvm.Cond.code ({ cls := "java/lang/Object", name := "<init>", desc := "()V" } : Jvm.MethodName) object_method_1_code (1 : Nat) (Option.none : Option Jvm.ClassFile.FieldType)).before args0 about1 = true := code_word (m := ⟨0, 0⟩) (meth := k0m0) (c := k0c0) (by decide +kernel) rfl rfl rfl (by decide +kernel)
set_option maxRecDepth 65536 in
theorem w_c3 : (Jvm.Cond.code ({ cls := "java/util/Arrays", name := "setAll", desc := "([ILjava/util/function/IntUnaryOperator;)V" } : Jvm.MethodName) jdk_65_method_175_code (3 : Nat) (Option.none : Option Jvm.ClassFile.FieldType)).before args0 about1 = true := code_word (m := ⟨4, 2⟩) (meth := k4m2) (c := k4c2) (by decide +kernel) rfl rfl rfl (by decide +kernel)
set_option maxRecDepth 65536 in
theorem w_c4 : (Jvm.Cond.code ({ cls := "java/util/Objects", name := "requireNonNull", desc := "(Ljava/lang/Object;)Ljava/lang/Object;" } : Jvm.MethodName) jdk_31_method_10_code (1 : Nat) (Option.some (Jvm.ClassFile.FieldType.object "java/lang/Object"))).before args0 about1 = true := code_word (m := ⟨5, 1⟩) (meth := k5m1) (c := k5c1) (by decide +kernel) rfl rfl rfl (by decide +kernel)
set_option maxRecDepth 65536 in
theorem w_c5 : (Jvm.Cond.code ({ cls := "com/example/cropped_view/croppedview/Broadcast", name := "lambda$new$0", desc := "(I)I" } : Jvm.MethodName) prog_7_method_12_code (1 : Nat) (Option.some Jvm.ClassFile.FieldType.int)).before args0 about1 = true := code_word (m := ⟨2, 2⟩) (meth := k2m2) (c := k2c2) (by decide +kernel) rfl rfl rfl (by decide +kernel)
set_option maxRecDepth 65536 in
theorem w_c6 : (Jvm.Cond.code ({ cls := "java/util/Arrays", name := "fill", desc := "([Ljava/lang/Object;Ljava/lang/Object;)V" } : Jvm.MethodName) jdk_65_method_117_code (4 : Nat) (Option.none : Option Jvm.ClassFile.FieldType)).before args0 about1 = true := code_word (m := ⟨4, 1⟩) (meth := k4m1) (c := k4c1) (by decide +kernel) rfl rfl rfl (by decide +kernel)
set_option maxRecDepth 65536 in
theorem w_c7 : (Jvm.Cond.code ({ cls := "com/example/cropped_view/croppedview/Broadcast", name := "moves", desc := "(I)Z" } : Jvm.MethodName) prog_7_method_3_code (6 : Nat) (Option.some Jvm.ClassFile.FieldType.boolean)).before args0 about1 = true := code_word (m := ⟨2, 1⟩) (meth := k2m1) (c := k2c1) (by decide +kernel) rfl rfl rfl (by decide +kernel)
def codes1 : List Jvm.Cond := [Jvm.Cond.code x code maxLocals ret, Jvm.Cond.code ({ cls := "com/example/cropped_view/croppedview/Broadcast", name := "<init>", desc := "([I[II)V" } : Jvm.MethodName) prog_7_method_1_code (8 : Nat) (Option.none : Option Jvm.ClassFile.FieldType), Jvm.Cond.code ({ cls := "java/lang/Object", name := "<init>", desc := "()V" } : Jvm.MethodName) object_method_1_code (1 : Nat) (Option.none : Option Jvm.ClassFile.FieldType), Jvm.Cond.code ({ cls := "java/util/Arrays", name := "setAll", desc := "([ILjava/util/function/IntUnaryOperator;)V" } : Jvm.MethodName) jdk_65_method_175_code (3 : Nat) (Option.none : Option Jvm.ClassFile.FieldType), Jvm.Cond.code ({ cls := "java/util/Objects", name := "requireNonNull", desc := "(Ljava/lang/Object;)Ljava/lang/Object;" } : Jvm.MethodName) jdk_31_method_10_code (1 : Nat) (Option.some (Jvm.ClassFile.FieldType.object "java/lang/Object")), Jvm.Cond.code ({ cls := "com/example/cropped_view/croppedview/Broadcast", name := "lambda$new$0", desc := "(I)I" } : Jvm.MethodName) prog_7_method_12_code (1 : Nat) (Option.some Jvm.ClassFile.FieldType.int), Jvm.Cond.code ({ cls := "java/util/Arrays", name := "fill", desc := "([Ljava/lang/Object;Ljava/lang/Object;)V" } : Jvm.MethodName) jdk_65_method_117_code (4 : Nat) (Option.none : Option Jvm.ClassFile.FieldType), Jvm.Cond.code ({ cls := "com/example/cropped_view/croppedview/Broadcast", name := "moves", desc := "(I)Z" } : Jvm.MethodName) prog_7_method_3_code (6 : Nat) (Option.some Jvm.ClassFile.FieldType.boolean)]
set_option maxRecDepth 65536 in
theorem codes_eq : words1.filter isCode = codes1 := rfl
theorem w_codes : ∀ c ∈ words1.filter isCode, c.before args0 about1 = true := by
  rw [codes_eq]
  intro c hc
  simp only [codes1, List.mem_cons, List.not_mem_nil, or_false] at hc
  rcases hc with rfl | rfl | rfl | rfl | rfl | rfl | rfl | rfl
  · exact w_c0
  · exact w_c1
  · exact w_c2
  · exact w_c3
  · exact w_c4
  · exact w_c5
  · exact w_c6
  · exact w_c7
set_option maxRecDepth 65536 in
theorem w_t1 : (words1.take 24).all (fun c => isCode c || c.before args0 about1) = true := by decide +kernel
set_option maxRecDepth 65536 in
theorem w_t2 : (words1.drop 24).all (fun c => isCode c || c.before args0 about1) = true := by decide +kernel
theorem w_tables : (allAtoms (Jvm.Cond.code x code maxLocals ret :: tables_1)).before args0 about1 = true := by
  rw [allAtoms_all]
  show words1.all (fun c => c.before args0 about1) = true
  refine all_split ?_ w_codes
  rw [← List.take_append_drop 24 words1, List.all_append, w_t1, w_t2]
  rfl
set_option maxRecDepth 65536 in
theorem w_case : (Jvm.Cond.and given_1 narrow_1).before args0 about1 = true := by decide +kernel
theorem w_applies : (headSpec (Jvm.Cond.code x code maxLocals ret :: tables_1) room_1).applies x e0.platform about1 = true :=
  (Spec.applies_iff w_frames).mpr ⟨w_running, w_runnable, w_alone, w_named, w_hears, w_ripe, w_room, w_tables⟩
theorem atStart : AtStart classFile x code maxLocals ret World_1 tables_1 room_1 Calls_1 rest_1 Pre_1 launch0 p0 e0 about1 theMethod args0 below0 :=
  ⟨lists_1, trivial, launch0.admits_env _ _ _, launch0.least_env, fairChoices_fair.cas, fairChoices_fair.clock, w_frames, w_args, w_heap, w_applies, trivial, trivial, w_case⟩
end start1
theorem witness_1 : WitnessClaimed_1 := ⟨start1.p0, start1.e0, start1.about1, start1.theMethod, start1.args0, start1.below0, start1.atStart⟩
end Jvm.Pilot.@@N@@
