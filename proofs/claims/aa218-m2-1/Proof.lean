import JvmDerived
import JvmDerived.Pilot.@@N@@Statement
import JvmDerived.Pilot.@@N@@Code
set_option linter.unusedVariables false
set_option linter.unusedSimpArgs false
namespace Jvm.OwnGo
open Jvm Sem ClassFile Op Lib Jvm.Stand Jvm.Free Jvm.LawKit Jvm.RoadKit
/-! ## 1. where a walk stands, and how it ends -/
/-- a walk may bear one more word on its base; KT: none -/
def KT : State → Prop := fun _ => True
def Ctx (K : State → Prop) (Z : State) (y : MethodName) (bytes : ByteArray) (ml : Nat) (ret : Option FieldType) (p : Program) (s : State) (m : MethodId) (meth : Method) (c : Code) : Prop :=
  p.tables.exec = Jvm.exec ∧ c.code = bytes ∧ c.maxLocals = ml ∧ s.vm.findClass y.cls = some m.cls ∧ Z.Warmed39 s.vm ∧ meth.sig.returnType = ret ∧ meth.locks = false ∧ meth.name = y.name ∧ K s
/-- what the walk's base has to do with the method's start: the same, or (where literals may be made) the start under later tables -/
def Base (wd : Bool) (s0 s : State) (h : Heap) : Prop := if wd = true then ∃ vm0 k0, s = s0.setVm vm0 ∧ s0.Since vm0 k0 ∧ k0 ≤ h.size else s = s0
def EndK (wd : Bool) (s0 : State) (o : Outcome) (t : State) (L : List Loc) (k n : Nat) : Prop := if wd = true then ReturnedEndW s0 o t L k n else FrameEnd s0 o t L k n
def Ends (wd : Bool) (n0 kc ks : Nat) (Q : Option Value → Heap → Prop) (p : Program) (e : Env) (below : List Frame) (s0 T : State) (g : JFrame) : Prop :=
  ∃ s₂ o, Steps p.tables e below (T.setTop g) s₂ ∧ s₂.status = .running ∧ Ended s₂ below o ∧ ∃ v L, o = .returned v ∧ (Q v s₂.heap ∧ Fr n0 L) ∧ EndK wd s0 o s₂ L kc ks
def Go (wd : Bool) (K : State → Prop) (l : Launch) (Z : State) (R : Room) (y : MethodName) (bytes : ByteArray) (ml : Nat) (ret : Option FieldType) (n0 kc ks : Nat) (Q : Option Value → Heap → Prop) (h : Heap) (k n pc : Nat) (ls : List Slot) (st : List Value) : Prop :=
  ∀ (p : Program) (e : Env) (s0 s : State) (m : MethodId) (args : Array Value) (below : List Frame) (meth : Method) (c : Code) (T : State) (L : List Loc),
    Base wd s0 s h → Ctx K Z y bytes ml ret p s m meth c → Stand p l e R s m args below meth c T L k n → T.heap = h → Fr n0 L → Ends wd n0 kc ks Q p e below s0 T (mkF m pc ls.toArray st)
/-- a contract: what a body leaves, called with the values as' over the heap h -/
def Con (wd : Bool) (l : Launch) (Z : State) (y : MethodName) (bytes : ByteArray) (ml : Nat) (ret : Option FieldType) (rm : Room) (as' : Array Value) (h : Heap) (n0 : Nat) (Q : Option Value → Heap → Prop) : Prop :=
  ∀ ws : List Cond, MetFree l y (head1 (Cond.code y bytes ml ret :: ws) rm) (fun a U => a = as' ∧ Z.Warmed39 U.vm ∧ U.heap = h) (fun _ _ _ _ _ => True)
    (fun _ U o U' => ∃ v L, o = .returned v ∧ ((Q v U'.heap ∧ h.size ≤ U'.heap.size) ∧ Fr n0 L) ∧ EndK wd U o U' L rm.cells rm.slots)
/-- it returns a value -/
def R1 (P : Value → Heap → Prop) : Option Value → Heap → Prop := fun v h => ∃ w, v = some w ∧ P w h
/-- it returns nothing -/
def R0 (P : Heap → Prop) : Option Value → Heap → Prop := fun v h => v = none ∧ P h
/-- it returns this value and leaves the heap as it was -/
abbrev Ret (w : Value) (h : Heap) : Option Value → Heap → Prop := R1 fun w' h' => w' = w ∧ h = h'
/-- a local variable written over -/
def setl : List Slot → Nat → Slot → List Slot
  | [], _, _ => []
  | _ :: r, 0, x => x :: r
  | a :: r, i + 1, x => a :: setl r i x
def lupd {α : Type} : List α → Nat → α → List α
  | [], _, _ => []
  | _ :: r, 0, x => x :: r
  | a :: r, i + 1, x => a :: lupd r i x
def one : Slot → Bool
  | .unset => true
  | .val v => v.category == 1
  | .second => false
def two : Slot → Slot → Bool
  | .val v, .second => v.category == 2
  | a, b => one a && one b
def Dc (bytes : ByteArray) (pc : Nat) (i : Instr) (len pc' : Nat) : Prop := decode bytes pc = .ok (i, len) ∧ pc + len = pc'
def Dp (bytes : ByteArray) (pc : Nat) (v : Int32) (pc' : Nat) : Prop := (∃ i, decode bytes pc = .ok (.iconst i, 1) ∧ Int32.ofInt i = v ∧ pc + 1 = pc') ∨ (∃ i, decode bytes pc = .ok (.bipush i, 2) ∧ (Int8.ofInt i).toInt32 = v ∧ pc + 2 = pc') ∨ (∃ i, decode bytes pc = .ok (.sipush i, 3) ∧ (Int16.ofInt i).toInt32 = v ∧ pc + 3 = pc')
def Dlc (bytes : ByteArray) (pc : Nat) (v : Int64) (pc' : Nat) : Prop := ∃ k : Fin 2, decode bytes pc = .ok (.lconst k, 1) ∧ Int64.ofNat k = v ∧ pc + 1 = pc'
/-- a branch: where it goes on, and where it leads -/
def Db (bytes : ByteArray) (pc : Nat) (f : Int → Instr) (pc' tg : Nat) : Prop := ∃ o : Int, decode bytes pc = .ok (f o, 3) ∧ pc + 3 = pc' ∧ 0 ≤ (pc : Int) + o ∧ ((pc : Int) + o).toNat = tg
def Dld (bytes : ByteArray) (pc : Nat) (f : Nat → Instr) (fn : Fin 4 → Instr) (i pc' : Nat) : Prop := (decode bytes pc = .ok (f i, 2) ∧ pc + 2 = pc') ∨ (∃ k : Fin 4, decode bytes pc = .ok (fn k, 1) ∧ k.val = i ∧ pc + 1 = pc')
def Dinc (bytes : ByteArray) (pc i : Nat) (v : Int32) (pc' : Nat) : Prop := ∃ c : Int, decode bytes pc = .ok (.iinc i c, 3) ∧ Int32.ofInt c = v ∧ pc + 3 = pc'
/-- the same, by the instructions' sorts -/
abbrev Dil (b : ByteArray) (pc i pc' : Nat) : Prop := Dld b pc .iload .iload_n i pc'
abbrev Dal (b : ByteArray) (pc i pc' : Nat) : Prop := Dld b pc .aload .aload_n i pc'
abbrev Dll (b : ByteArray) (pc i pc' : Nat) : Prop := Dld b pc .lload .lload_n i pc'
abbrev Dis (b : ByteArray) (pc i pc' : Nat) : Prop := Dld b pc .istore .istore_n i pc'
abbrev Das (b : ByteArray) (pc i pc' : Nat) : Prop := Dld b pc .astore .astore_n i pc'
abbrev Dls (b : ByteArray) (pc i pc' : Nat) : Prop := Dld b pc .lstore .lstore_n i pc'
section Walk
variable {wd : Bool} {K₀ : State → Prop} {l : Launch} {Z : State} {R : Room} {y : MethodName} {bytes : ByteArray} {ml : Nat} {ret : Option FieldType} {n0 kc ks : Nat} {Q : Option Value → Heap → Prop} {h : Heap} {k n pc pc' tg i : Nat} {ls : List Slot} {st : List Value} {a0 : Array Value}
theorem lrem64 (x y : Int64) : x - x / y * y = x % y := by
  apply Int64.toInt_inj.mp
  have h1 := Int64.le_toInt (x % y)
  have h2 := Int64.toInt_lt (x % y)
  rw [Int64.toInt_sub, Int64.toInt_mul, Int64.toInt_div, Int.bmod_mul_bmod, Int.sub_bmod_bmod, Int.mul_comm (x.toInt.tdiv y.toInt), ← Int.tmod_def, ← Int64.toInt_mod]
  exact Int.bmod_eq_of_le_mul_two (by omega) (by omega)
theorem setl_arr : ∀ (ls : List Slot) (i : Nat) (x : Slot), (setl ls i x).toArray = ls.toArray.setIfInBounds i x := by
  intro ls i x
  rw [List.setIfInBounds_toArray]
  congr 1
  induction ls generalizing i with
  | nil => simp [setl]
  | cons a r ih => cases i with
    | zero => simp [setl]
    | succ i => simp [setl, ih]
theorem setl_len : ∀ (ls : List Slot) (i : Nat) (x : Slot), (setl ls i x).length = ls.length := by
  intro ls i x
  induction ls generalizing i with
  | nil => rfl
  | cons a r ih => cases i with
    | zero => rfl
    | succ i => simp [setl, ih]
theorem upd_set {α : Type} : ∀ (ls : List α) (i : Nat) (x : α), lupd ls i x = ls.set i x := by
  intro ls i x
  induction ls generalizing i with
  | nil => simp [lupd]
  | cons a r ih => cases i with
    | zero => simp [lupd]
    | succ i => simp [lupd, ih]
theorem setl_get {ls : List Slot} {i : Nat} {x o : Slot} (h : ls[i]? = some o) (j : Nat) : (setl ls i x)[j]? = if j = i then some x else ls[j]? := by
  induction ls generalizing i j with
  | nil => simp at h
  | cons a r ih => cases i with
    | zero => cases j <;> simp [setl]
    | succ i => cases j with
      | zero => simp [setl]
      | succ j => simp only [setl, List.getElem?_cons_succ] at h ⊢; rw [ih h j]; simp
theorem Base.mono {s0 s : State} {h' : Heap} (B : Base wd s0 s h) (q : h.size ≤ h'.size) : Base wd s0 s h' := by
  cases wd
  · exact B
  · obtain ⟨vm0, k0, e1, e2, e3⟩ := B; exact ⟨vm0, k0, e1, e2, Nat.le_trans e3 q⟩
theorem Base.start (s : State) (hh : s.heap = h) : Base wd s s h := by
  cases wd
  · exact (rfl : s = s)
  · exact ⟨s.vm, h.size, rfl, (State.WarmedH.refl s).since _, Nat.le_refl _⟩
theorem EndK.size {s0 t : State} {o : Outcome} {L : List Loc} {k n : Nat} (E : EndK wd s0 o t L k n) : s0.heap.size ≤ t.heap.size := by
  cases wd
  · exact E.2.2.2.1
  · exact E.2.2.2.2.1
theorem endK {s0 s T : State} {fs : List Frame} {v : Option Value} {L : List Loc} (B : Base wd s0 s h) (hh : T.heap = h) (hW : s.WarmedH (T.setFrames fs).vm) (hsame : s.sameButNew ({ T.setFrames fs with vm := s.vm } : State) L k n) (hk : k ≤ kc) (hn : n ≤ ks) : EndK wd s0 (.returned v) (T.setFrames fs) L kc ks := by
  cases wd
  · have e : s = s0 := B
    subst e
    exact ⟨⟨_, rfl⟩, hW, hsame.mono hk hn⟩
  · obtain ⟨vm0, k0, rfl, hS, hk0⟩ := B
    obtain ⟨a1, a2, a3⟩ := hS.ended (U := T.setFrames fs) hW (by show k0 ≤ T.heap.size; rw [hh]; exact hk0) hsame
    exact ⟨⟨_, rfl⟩, a1, a2, a3.mono hk hn⟩
theorem Ends.pre {p : Program} {e : Env} {below : List Frame} {s0 T T' : State} {g g' : JFrame} (E : Ends wd n0 kc ks Q p e below s0 T' g') (st : ∀ t, Steps p.tables e below (T'.setTop g') t → Steps p.tables e below (T.setTop g) t) : Ends wd n0 kc ks Q p e below s0 T g := by
  obtain ⟨s₂, o, h1, r⟩ := E; exact ⟨s₂, o, st _ h1, r⟩
theorem go_pure {ls' : List Slot} {st' : List Value} (G : Go wd K₀ l Z R y bytes ml ret n0 kc ks Q h k n pc' ls' st') (H : ∀ {p : Program} {e : Env} {s : State} {m : MethodId} {args : Array Value} {below : List Frame} {meth : Method} {c : Code} {T : State} {L : List Loc}, Ctx K₀ Z y bytes ml ret p s m meth c → Stand p l e R s m args below meth c T L k n →
    ∀ t, Steps p.tables e below (T.setTop (mkF m pc' ls'.toArray st')) t → Steps p.tables e below (T.setTop (mkF m pc ls.toArray st)) t) : Go wd K₀ l Z R y bytes ml ret n0 kc ks Q h k n pc ls st :=
  fun p e s0 s m args below meth c T L B C X hh N => (G p e s0 s m args below meth c T L B C X hh N).pre (H C X)
theorem go_more {k' n' : Nat} (hk : k ≤ k') (hn : n ≤ n') (G : Go wd K₀ l Z R y bytes ml ret n0 kc ks Q h k' n' pc ls st) : Go wd K₀ l Z R y bytes ml ret n0 kc ks Q h k n pc ls st :=
  fun p e s0 s m args below meth c T L B C X hh N => G p e s0 s m args below meth c T L B C (X.more hk hn) hh N
theorem go_nameI {x : Int32} (G : ∀ v : Int32, v = x → Go wd K₀ l Z R y bytes ml ret n0 kc ks Q h k n pc ls (.int v :: st)) : Go wd K₀ l Z R y bytes ml ret n0 kc ks Q h k n pc ls (.int x :: st) := G x rfl
theorem go_nameJ {x : Int64} (G : ∀ v : Int64, v = x → Go wd K₀ l Z R y bytes ml ret n0 kc ks Q h k n pc ls (.long v :: st)) : Go wd K₀ l Z R y bytes ml ret n0 kc ks Q h k n pc ls (.long x :: st) := G x rfl
theorem go_isI {x : Int32} (x' : Int32) (q : x = x') (G : Go wd K₀ l Z R y bytes ml ret n0 kc ks Q h k n pc ls (.int x' :: st)) : Go wd K₀ l Z R y bytes ml ret n0 kc ks Q h k n pc ls (.int x :: st) := q ▸ G
theorem go_isJ {x : Int64} (x' : Int64) (q : x = x') (G : Go wd K₀ l Z R y bytes ml ret n0 kc ks Q h k n pc ls (.long x' :: st)) : Go wd K₀ l Z R y bytes ml ret n0 kc ks Q h k n pc ls (.long x :: st) := q ▸ G
theorem go_iload {v : Int32} (D : Dil bytes pc i pc') (hl : ls[i]? = some (.val (.int v))) (G : Go wd K₀ l Z R y bytes ml ret n0 kc ks Q h k n pc' ls (.int v :: st)) : Go wd K₀ l Z R y bytes ml ret n0 kc ks Q h k n pc ls st := by
  rcases D with ⟨hd, rfl⟩ | ⟨kk, hd, rfl, rfl⟩
  · exact go_pure G (fun C X t => XS.iload X.here C.1 (g := mkF _ pc ls.toArray st) rfl (hb C.2.1 hd) (by simpa using hl))
  · exact go_pure G (fun C X t => XS.iloadN X.here C.1 (g := mkF _ pc ls.toArray st) rfl (hb C.2.1 hd) (by simpa using hl))
theorem go_lload {v : Int64} (D : Dll bytes pc i pc') (hl : ls[i]? = some (.val (.long v))) (G : Go wd K₀ l Z R y bytes ml ret n0 kc ks Q h k n pc' ls (.long v :: st)) : Go wd K₀ l Z R y bytes ml ret n0 kc ks Q h k n pc ls st := by
  rcases D with ⟨hd, rfl⟩ | ⟨kk, hd, rfl, rfl⟩
  · exact go_pure G (fun C X t => XT.lload X.here C.1 (g := mkF _ pc ls.toArray st) rfl (hb C.2.1 hd) (by simpa using hl))
  · exact go_pure G (fun C X t => XT.lloadN X.here C.1 (g := mkF _ pc ls.toArray st) rfl (hb C.2.1 hd) (by simpa using hl))
theorem go_aload {v : Value} (D : Dal bytes pc i pc') (hl : ls[i]? = some (.val v)) (hv : v.isRef = true) (G : Go wd K₀ l Z R y bytes ml ret n0 kc ks Q h k n pc' ls (v :: st)) : Go wd K₀ l Z R y bytes ml ret n0 kc ks Q h k n pc ls st := by
  rcases D with ⟨hd, rfl⟩ | ⟨kk, hd, rfl, rfl⟩
  · exact go_pure G (fun C X t => XS.aload X.here C.1 (g := mkF _ pc ls.toArray st) rfl (hb C.2.1 hd) (by simpa using hl) hv)
  · exact go_pure G (fun C X t => XS.aloadN X.here C.1 (g := mkF _ pc ls.toArray st) rfl (hb C.2.1 hd) (by simpa using hl) hv)
theorem store_one {ls : List Slot} {i : Nat} {v : Value} {o : Slot} (hv : v.category = 1) (hl : ls[i]? = some o) (ho : one o = true) : storeLocals ls.toArray i v = some (setl ls i (.val v)).toArray := by
  rw [setl_arr]
  refine storeLocals_cat1 (x := o) (by simpa using hl) hv ?_
  cases o <;> simp [one] at ho ⊢
  exact ho
theorem store_two {ls : List Slot} {i : Nat} {v : Value} {o o' : Slot} (hv : v.category = 2) (hl : ls[i]? = some o) (hl' : ls[i + 1]? = some o') (ho : two o o' = true) : storeLocals ls.toArray i v = some (setl (setl ls i (.val v)) (i + 1) .second).toArray := by
  rw [setl_arr, setl_arr]
  refine Jvm.Free.Fl.storeLocals_cat2 (by simpa using hl) (by simpa using hl') hv ?_
  cases o <;> cases o' <;> simp_all [two, one, Jvm.Free.Fl.Plain1]
theorem go_istore {x : Int32} {o : Slot} (D : Dis bytes pc i pc') (hl : ls[i]? = some o) (ho : one o = true) (G : Go wd K₀ l Z R y bytes ml ret n0 kc ks Q h k n pc' (setl ls i (.val (.int x))) st) : Go wd K₀ l Z R y bytes ml ret n0 kc ks Q h k n pc ls (.int x :: st) := by
  rcases D with ⟨hd, rfl⟩ | ⟨kk, hd, rfl, rfl⟩
  · exact go_pure G (fun C X t => XS.istore X.here C.1 (g := mkF _ pc ls.toArray (.int x :: st)) rfl (hb C.2.1 hd) rfl (store_one rfl hl ho))
  · exact go_pure G (fun C X t => XS.istoreN X.here C.1 (g := mkF _ pc ls.toArray (.int x :: st)) rfl (hb C.2.1 hd) rfl (store_one rfl hl ho))
theorem go_astore {x : Value} {o : Slot} (D : Das bytes pc i pc') (hv : x.isRef = true) (hl : ls[i]? = some o) (ho : one o = true) (G : Go wd K₀ l Z R y bytes ml ret n0 kc ks Q h k n pc' (setl ls i (.val x)) st) : Go wd K₀ l Z R y bytes ml ret n0 kc ks Q h k n pc ls (x :: st) := by
  have hc : x.category = 1 := XT.cat1 hv
  rcases D with ⟨hd, rfl⟩ | ⟨kk, hd, rfl, rfl⟩
  · exact go_pure G (fun C X t => XS.astore X.here C.1 (g := mkF _ pc ls.toArray (x :: st)) rfl (hb C.2.1 hd) rfl hv (store_one hc hl ho))
  · exact go_pure G (fun C X t => XS.astoreN X.here C.1 (g := mkF _ pc ls.toArray (x :: st)) rfl (hb C.2.1 hd) rfl hv (store_one hc hl ho))
theorem go_lstore {x : Int64} {o o' : Slot} (D : Dls bytes pc i pc') (hl : ls[i]? = some o) (hl' : ls[i + 1]? = some o') (ho : two o o' = true) (G : Go wd K₀ l Z R y bytes ml ret n0 kc ks Q h k n pc' (setl (setl ls i (.val (.long x))) (i + 1) .second) st) : Go wd K₀ l Z R y bytes ml ret n0 kc ks Q h k n pc ls (.long x :: st) := by
  rcases D with ⟨hd, rfl⟩ | ⟨kk, hd, rfl, rfl⟩
  · exact go_pure G (fun C X t => XT.lstore X.here C.1 (g := mkF _ pc ls.toArray (.long x :: st)) rfl (hb C.2.1 hd) rfl (store_two rfl hl hl' ho))
  · exact go_pure G (fun C X t => XT.lstoreN X.here C.1 (g := mkF _ pc ls.toArray (.long x :: st)) rfl (hb C.2.1 hd) rfl (store_two rfl hl hl' ho))
/-- any store, the locals said -/
theorem go_istoreX {x : Int32} {ls' : List Slot} (D : Dis bytes pc i pc') (hl : storeLocals ls.toArray i (.int x) = some ls'.toArray) (G : Go wd K₀ l Z R y bytes ml ret n0 kc ks Q h k n pc' ls' st) : Go wd K₀ l Z R y bytes ml ret n0 kc ks Q h k n pc ls (.int x :: st) := by
  rcases D with ⟨hd, rfl⟩ | ⟨kk, hd, rfl, rfl⟩
  · exact go_pure G (fun C X t => XS.istore X.here C.1 (g := mkF _ pc ls.toArray (.int x :: st)) rfl (hb C.2.1 hd) rfl hl)
  · exact go_pure G (fun C X t => XS.istoreN X.here C.1 (g := mkF _ pc ls.toArray (.int x :: st)) rfl (hb C.2.1 hd) rfl hl)
theorem go_astoreX {x : Value} {ls' : List Slot} (D : Das bytes pc i pc') (hv : x.isRef = true) (hl : storeLocals ls.toArray i x = some ls'.toArray) (G : Go wd K₀ l Z R y bytes ml ret n0 kc ks Q h k n pc' ls' st) : Go wd K₀ l Z R y bytes ml ret n0 kc ks Q h k n pc ls (x :: st) := by
  rcases D with ⟨hd, rfl⟩ | ⟨kk, hd, rfl, rfl⟩
  · exact go_pure G (fun C X t => XS.astore X.here C.1 (g := mkF _ pc ls.toArray (x :: st)) rfl (hb C.2.1 hd) rfl hv hl)
  · exact go_pure G (fun C X t => XS.astoreN X.here C.1 (g := mkF _ pc ls.toArray (x :: st)) rfl (hb C.2.1 hd) rfl hv hl)
theorem go_lstoreX {x : Int64} {ls' : List Slot} (D : Dls bytes pc i pc') (hl : storeLocals ls.toArray i (.long x) = some ls'.toArray) (G : Go wd K₀ l Z R y bytes ml ret n0 kc ks Q h k n pc' ls' st) : Go wd K₀ l Z R y bytes ml ret n0 kc ks Q h k n pc ls (.long x :: st) := by
  rcases D with ⟨hd, rfl⟩ | ⟨kk, hd, rfl, rfl⟩
  · exact go_pure G (fun C X t => XT.lstore X.here C.1 (g := mkF _ pc ls.toArray (.long x :: st)) rfl (hb C.2.1 hd) rfl hl)
  · exact go_pure G (fun C X t => XT.lstoreN X.here C.1 (g := mkF _ pc ls.toArray (.long x :: st)) rfl (hb C.2.1 hd) rfl hl)
theorem go_iinc {x v : Int32} (D : Dinc bytes pc i v pc') (hl : ls[i]? = some (.val (.int x))) (G : Go wd K₀ l Z R y bytes ml ret n0 kc ks Q h k n pc' (setl ls i (.val (.int (x + v)))) st) : Go wd K₀ l Z R y bytes ml ret n0 kc ks Q h k n pc ls st := by
  obtain ⟨c, hd, rfl, rfl⟩ := D
  exact go_pure G (fun C X t => XS.iinc X.here C.1 (g := mkF _ pc ls.toArray st) rfl (hb C.2.1 hd) (by simpa using hl) (store_one rfl hl rfl))
theorem go_iincX {x v x' : Int32} (D : Dinc bytes pc i v pc') (hl : ls[i]? = some (.val (.int x))) (q : x + v = x') (G : Go wd K₀ l Z R y bytes ml ret n0 kc ks Q h k n pc' (setl ls i (.val (.int x'))) st) : Go wd K₀ l Z R y bytes ml ret n0 kc ks Q h k n pc ls st := go_iinc D hl (q ▸ G)
theorem go_push {v : Int32} (D : Dp bytes pc v pc') (G : Go wd K₀ l Z R y bytes ml ret n0 kc ks Q h k n pc' ls (.int v :: st)) : Go wd K₀ l Z R y bytes ml ret n0 kc ks Q h k n pc ls st := by
  rcases D with ⟨_, hd, rfl, rfl⟩ | ⟨_, hd, rfl, rfl⟩ | ⟨_, hd, rfl, rfl⟩
  · exact go_pure G (fun C X t => XS.iconst X.here C.1 (g := mkF _ pc ls.toArray st) rfl (hb C.2.1 hd))
  · exact go_pure G (fun C X t => XS.bipush X.here C.1 (g := mkF _ pc ls.toArray st) rfl (hb C.2.1 hd))
  · exact go_pure G (fun C X t => XS.sipush X.here C.1 (g := mkF _ pc ls.toArray st) rfl (hb C.2.1 hd))
theorem go_lconst {v : Int64} (D : Dlc bytes pc v pc') (G : Go wd K₀ l Z R y bytes ml ret n0 kc ks Q h k n pc' ls (.long v :: st)) : Go wd K₀ l Z R y bytes ml ret n0 kc ks Q h k n pc ls st := by
  obtain ⟨_, hd, rfl, rfl⟩ := D
  exact go_pure G (fun C X t => XT.lconst X.here C.1 (g := mkF _ pc ls.toArray st) rfl (hb C.2.1 hd))
theorem go_null (D : Dc bytes pc .aconst_null 1 pc') (G : Go wd K₀ l Z R y bytes ml ret n0 kc ks Q h k n pc' ls (.null :: st)) : Go wd K₀ l Z R y bytes ml ret n0 kc ks Q h k n pc ls st := by
  obtain ⟨hd, rfl⟩ := D
  exact go_pure G (fun C X t => XS.aconstNull X.here C.1 (g := mkF _ pc ls.toArray st) rfl (hb C.2.1 hd))
theorem go_iadd {a : Int32} {b : Int32} (D : Dc bytes pc .iadd 1 pc') (G : Go wd K₀ l Z R y bytes ml ret n0 kc ks Q h k n pc' ls (.int (a + b) :: st)) : Go wd K₀ l Z R y bytes ml ret n0 kc ks Q h k n pc ls (.int b :: .int a :: st) := by
  obtain ⟨hd, rfl⟩ := D
  exact go_pure G (fun C X t => XS.iadd X.here C.1 (g := mkF _ pc ls.toArray (.int b :: .int a :: st)) rfl (hb C.2.1 hd) rfl)
theorem go_isub {a : Int32} {b : Int32} (D : Dc bytes pc .isub 1 pc') (G : Go wd K₀ l Z R y bytes ml ret n0 kc ks Q h k n pc' ls (.int (a - b) :: st)) : Go wd K₀ l Z R y bytes ml ret n0 kc ks Q h k n pc ls (.int b :: .int a :: st) := by
  obtain ⟨hd, rfl⟩ := D
  exact go_pure G (fun C X t => XS.isub X.here C.1 (g := mkF _ pc ls.toArray (.int b :: .int a :: st)) rfl (hb C.2.1 hd) rfl)
theorem go_imul {a : Int32} {b : Int32} (D : Dc bytes pc .imul 1 pc') (G : Go wd K₀ l Z R y bytes ml ret n0 kc ks Q h k n pc' ls (.int (a * b) :: st)) : Go wd K₀ l Z R y bytes ml ret n0 kc ks Q h k n pc ls (.int b :: .int a :: st) := by
  obtain ⟨hd, rfl⟩ := D
  exact go_pure G (fun C X t => XS.imul X.here C.1 (g := mkF _ pc ls.toArray (.int b :: .int a :: st)) rfl (hb C.2.1 hd) rfl)
theorem go_iand {a : Int32} {b : Int32} (D : Dc bytes pc .iand 1 pc') (G : Go wd K₀ l Z R y bytes ml ret n0 kc ks Q h k n pc' ls (.int (a &&& b) :: st)) : Go wd K₀ l Z R y bytes ml ret n0 kc ks Q h k n pc ls (.int b :: .int a :: st) := by
  obtain ⟨hd, rfl⟩ := D
  exact go_pure G (fun C X t => XS.iand X.here C.1 (g := mkF _ pc ls.toArray (.int b :: .int a :: st)) rfl (hb C.2.1 hd) rfl)
theorem go_ior {a : Int32} {b : Int32} (D : Dc bytes pc .ior 1 pc') (G : Go wd K₀ l Z R y bytes ml ret n0 kc ks Q h k n pc' ls (.int (a ||| b) :: st)) : Go wd K₀ l Z R y bytes ml ret n0 kc ks Q h k n pc ls (.int b :: .int a :: st) := by
  obtain ⟨hd, rfl⟩ := D
  exact go_pure G (fun C X t => XT.ior X.here C.1 (g := mkF _ pc ls.toArray (.int b :: .int a :: st)) rfl (hb C.2.1 hd) rfl)
theorem go_ixor {a : Int32} {b : Int32} (D : Dc bytes pc .ixor 1 pc') (G : Go wd K₀ l Z R y bytes ml ret n0 kc ks Q h k n pc' ls (.int (a ^^^ b) :: st)) : Go wd K₀ l Z R y bytes ml ret n0 kc ks Q h k n pc ls (.int b :: .int a :: st) := by
  obtain ⟨hd, rfl⟩ := D
  exact go_pure G (fun C X t => XT.ixor X.here C.1 (g := mkF _ pc ls.toArray (.int b :: .int a :: st)) rfl (hb C.2.1 hd) rfl)
theorem go_idiv {a : Int32} {b : Int32} (D : Dc bytes pc .idiv 1 pc') (hz : b ≠ 0) (G : Go wd K₀ l Z R y bytes ml ret n0 kc ks Q h k n pc' ls (.int (a / b) :: st)) : Go wd K₀ l Z R y bytes ml ret n0 kc ks Q h k n pc ls (.int b :: .int a :: st) := by
  obtain ⟨hd, rfl⟩ := D
  exact go_pure G (fun C X t => XS.idiv X.here C.1 (g := mkF _ pc ls.toArray (.int b :: .int a :: st)) rfl (hb C.2.1 hd) rfl hz)
theorem go_ladd {a : Int64} {b : Int64} (D : Dc bytes pc .ladd 1 pc') (G : Go wd K₀ l Z R y bytes ml ret n0 kc ks Q h k n pc' ls (.long (a + b) :: st)) : Go wd K₀ l Z R y bytes ml ret n0 kc ks Q h k n pc ls (.long b :: .long a :: st) := by
  obtain ⟨hd, rfl⟩ := D
  exact go_pure G (fun C X t => XT.ladd X.here C.1 (g := mkF _ pc ls.toArray (.long b :: .long a :: st)) rfl (hb C.2.1 hd) rfl)
theorem go_lsub {a : Int64} {b : Int64} (D : Dc bytes pc .lsub 1 pc') (G : Go wd K₀ l Z R y bytes ml ret n0 kc ks Q h k n pc' ls (.long (a - b) :: st)) : Go wd K₀ l Z R y bytes ml ret n0 kc ks Q h k n pc ls (.long b :: .long a :: st) := by
  obtain ⟨hd, rfl⟩ := D
  exact go_pure G (fun C X t => XT.lsub X.here C.1 (g := mkF _ pc ls.toArray (.long b :: .long a :: st)) rfl (hb C.2.1 hd) rfl)
theorem go_lmul {a : Int64} {b : Int64} (D : Dc bytes pc .lmul 1 pc') (G : Go wd K₀ l Z R y bytes ml ret n0 kc ks Q h k n pc' ls (.long (a * b) :: st)) : Go wd K₀ l Z R y bytes ml ret n0 kc ks Q h k n pc ls (.long b :: .long a :: st) := by
  obtain ⟨hd, rfl⟩ := D
  exact go_pure G (fun C X t => XT.lmul X.here C.1 (g := mkF _ pc ls.toArray (.long b :: .long a :: st)) rfl (hb C.2.1 hd) rfl)
theorem go_land {a : Int64} {b : Int64} (D : Dc bytes pc .land 1 pc') (G : Go wd K₀ l Z R y bytes ml ret n0 kc ks Q h k n pc' ls (.long (a &&& b) :: st)) : Go wd K₀ l Z R y bytes ml ret n0 kc ks Q h k n pc ls (.long b :: .long a :: st) := by
  obtain ⟨hd, rfl⟩ := D
  exact go_pure G (fun C X t => XT.land X.here C.1 (g := mkF _ pc ls.toArray (.long b :: .long a :: st)) rfl (hb C.2.1 hd) rfl)
theorem go_lor {a : Int64} {b : Int64} (D : Dc bytes pc .lor 1 pc') (G : Go wd K₀ l Z R y bytes ml ret n0 kc ks Q h k n pc' ls (.long (a ||| b) :: st)) : Go wd K₀ l Z R y bytes ml ret n0 kc ks Q h k n pc ls (.long b :: .long a :: st) := by
  obtain ⟨hd, rfl⟩ := D
  exact go_pure G (fun C X t => XT.lor X.here C.1 (g := mkF _ pc ls.toArray (.long b :: .long a :: st)) rfl (hb C.2.1 hd) rfl)
theorem go_lxor {a : Int64} {b : Int64} (D : Dc bytes pc .lxor 1 pc') (G : Go wd K₀ l Z R y bytes ml ret n0 kc ks Q h k n pc' ls (.long (a ^^^ b) :: st)) : Go wd K₀ l Z R y bytes ml ret n0 kc ks Q h k n pc ls (.long b :: .long a :: st) := by
  obtain ⟨hd, rfl⟩ := D
  exact go_pure G (fun C X t => XT.lxor X.here C.1 (g := mkF _ pc ls.toArray (.long b :: .long a :: st)) rfl (hb C.2.1 hd) rfl)
theorem go_ldiv {a : Int64} {b : Int64} (D : Dc bytes pc .ldiv 1 pc') (hz : b ≠ 0) (G : Go wd K₀ l Z R y bytes ml ret n0 kc ks Q h k n pc' ls (.long (a / b) :: st)) : Go wd K₀ l Z R y bytes ml ret n0 kc ks Q h k n pc ls (.long b :: .long a :: st) := by
  obtain ⟨hd, rfl⟩ := D
  exact go_pure G (fun C X t => XT.ldiv X.here C.1 (g := mkF _ pc ls.toArray (.long b :: .long a :: st)) rfl (hb C.2.1 hd) rfl hz)
theorem go_ishl {a : Int32} {b : Int32} (D : Dc bytes pc .ishl 1 pc') (G : Go wd K₀ l Z R y bytes ml ret n0 kc ks Q h k n pc' ls (.int (a <<< (b &&& 31)) :: st)) : Go wd K₀ l Z R y bytes ml ret n0 kc ks Q h k n pc ls (.int b :: .int a :: st) := by
  obtain ⟨hd, rfl⟩ := D
  exact go_pure G (fun C X t => XT.ishl X.here C.1 (g := mkF _ pc ls.toArray (.int b :: .int a :: st)) rfl (hb C.2.1 hd) rfl)
theorem go_ishr {a : Int32} {b : Int32} (D : Dc bytes pc .ishr 1 pc') (G : Go wd K₀ l Z R y bytes ml ret n0 kc ks Q h k n pc' ls (.int (a >>> (b &&& 31)) :: st)) : Go wd K₀ l Z R y bytes ml ret n0 kc ks Q h k n pc ls (.int b :: .int a :: st) := by
  obtain ⟨hd, rfl⟩ := D
  exact go_pure G (fun C X t => XT.ishr X.here C.1 (g := mkF _ pc ls.toArray (.int b :: .int a :: st)) rfl (hb C.2.1 hd) rfl)
theorem go_iushr {a : Int32} {b : Int32} (D : Dc bytes pc .iushr 1 pc') (G : Go wd K₀ l Z R y bytes ml ret n0 kc ks Q h k n pc' ls (.int (XT.ushr a b) :: st)) : Go wd K₀ l Z R y bytes ml ret n0 kc ks Q h k n pc ls (.int b :: .int a :: st) := by
  obtain ⟨hd, rfl⟩ := D
  exact go_pure G (fun C X t => XT.iushr X.here C.1 (g := mkF _ pc ls.toArray (.int b :: .int a :: st)) rfl (hb C.2.1 hd) rfl)
theorem go_lshl {a : Int64} {b : Int32} (D : Dc bytes pc .lshl 1 pc') (G : Go wd K₀ l Z R y bytes ml ret n0 kc ks Q h k n pc' ls (.long (a <<< (b.toInt64 &&& 63)) :: st)) : Go wd K₀ l Z R y bytes ml ret n0 kc ks Q h k n pc ls (.int b :: .long a :: st) := by
  obtain ⟨hd, rfl⟩ := D
  exact go_pure G (fun C X t => XT.lshl X.here C.1 (g := mkF _ pc ls.toArray (.int b :: .long a :: st)) rfl (hb C.2.1 hd) rfl)
theorem go_lshr {a : Int64} {b : Int32} (D : Dc bytes pc .lshr 1 pc') (G : Go wd K₀ l Z R y bytes ml ret n0 kc ks Q h k n pc' ls (.long (a >>> (b.toInt64 &&& 63)) :: st)) : Go wd K₀ l Z R y bytes ml ret n0 kc ks Q h k n pc ls (.int b :: .long a :: st) := by
  obtain ⟨hd, rfl⟩ := D
  exact go_pure G (fun C X t => XT.lshr X.here C.1 (g := mkF _ pc ls.toArray (.int b :: .long a :: st)) rfl (hb C.2.1 hd) rfl)
theorem go_lushr {a : Int64} {b : Int32} (D : Dc bytes pc .lushr 1 pc') (G : Go wd K₀ l Z R y bytes ml ret n0 kc ks Q h k n pc' ls (.long (XT.ushrL a b) :: st)) : Go wd K₀ l Z R y bytes ml ret n0 kc ks Q h k n pc ls (.int b :: .long a :: st) := by
  obtain ⟨hd, rfl⟩ := D
  exact go_pure G (fun C X t => XT.lushr X.here C.1 (g := mkF _ pc ls.toArray (.int b :: .long a :: st)) rfl (hb C.2.1 hd) rfl)
theorem go_lcmp {a : Int64} {b : Int64} (D : Dc bytes pc .lcmp 1 pc') (G : Go wd K₀ l Z R y bytes ml ret n0 kc ks Q h k n pc' ls (.int (XT.cmpL a b) :: st)) : Go wd K₀ l Z R y bytes ml ret n0 kc ks Q h k n pc ls (.long b :: .long a :: st) := by
  obtain ⟨hd, rfl⟩ := D
  exact go_pure G (fun C X t => XT.lcmp X.here C.1 (g := mkF _ pc ls.toArray (.long b :: .long a :: st)) rfl (hb C.2.1 hd) rfl)
theorem go_irem {a b : Int32} (D : Dc bytes pc .irem 1 pc') (hz : b ≠ 0) (G : Go wd K₀ l Z R y bytes ml ret n0 kc ks Q h k n pc' ls (.int (a % b) :: st)) : Go wd K₀ l Z R y bytes ml ret n0 kc ks Q h k n pc ls (.int b :: .int a :: st) := by
  obtain ⟨hd, rfl⟩ := D
  exact go_pure G (fun C X t hr => iremM X C.1 (g := mkF _ pc ls.toArray (.int b :: .int a :: st)) rfl (hb C.2.1 hd) rfl hz hr)
theorem go_lrem {a b : Int64} (D : Dc bytes pc .lrem 1 pc') (hz : b ≠ 0) (G : Go wd K₀ l Z R y bytes ml ret n0 kc ks Q h k n pc' ls (.long (a % b) :: st)) : Go wd K₀ l Z R y bytes ml ret n0 kc ks Q h k n pc ls (.long b :: .long a :: st) := by
  obtain ⟨hd, rfl⟩ := D
  rw [← lrem64] at G
  exact go_pure G (fun C X t => XT.lrem X.here C.1 (g := mkF _ pc ls.toArray (.long b :: .long a :: st)) rfl (hb C.2.1 hd) rfl hz)
theorem go_ineg {a : Int32} (D : Dc bytes pc .ineg 1 pc') (G : Go wd K₀ l Z R y bytes ml ret n0 kc ks Q h k n pc' ls (.int (-a) :: st)) : Go wd K₀ l Z R y bytes ml ret n0 kc ks Q h k n pc ls (.int a :: st) := by
  obtain ⟨hd, rfl⟩ := D
  exact go_pure G (fun C X t => XS.ineg X.here C.1 (g := mkF _ pc ls.toArray (.int a :: st)) rfl (hb C.2.1 hd) rfl)
theorem go_lneg {a : Int64} (D : Dc bytes pc .lneg 1 pc') (G : Go wd K₀ l Z R y bytes ml ret n0 kc ks Q h k n pc' ls (.long (-a) :: st)) : Go wd K₀ l Z R y bytes ml ret n0 kc ks Q h k n pc ls (.long a :: st) := by
  obtain ⟨hd, rfl⟩ := D
  exact go_pure G (fun C X t => XT.lneg X.here C.1 (g := mkF _ pc ls.toArray (.long a :: st)) rfl (hb C.2.1 hd) rfl)
theorem go_i2l {a : Int32} (D : Dc bytes pc .i2l 1 pc') (G : Go wd K₀ l Z R y bytes ml ret n0 kc ks Q h k n pc' ls (.long a.toInt64 :: st)) : Go wd K₀ l Z R y bytes ml ret n0 kc ks Q h k n pc ls (.int a :: st) := by
  obtain ⟨hd, rfl⟩ := D
  exact go_pure G (fun C X t => XT.i2l X.here C.1 (g := mkF _ pc ls.toArray (.int a :: st)) rfl (hb C.2.1 hd) rfl)
theorem go_l2i {a : Int64} (D : Dc bytes pc .l2i 1 pc') (G : Go wd K₀ l Z R y bytes ml ret n0 kc ks Q h k n pc' ls (.int a.toInt32 :: st)) : Go wd K₀ l Z R y bytes ml ret n0 kc ks Q h k n pc ls (.long a :: st) := by
  obtain ⟨hd, rfl⟩ := D
  exact go_pure G (fun C X t => XT.l2i X.here C.1 (g := mkF _ pc ls.toArray (.long a :: st)) rfl (hb C.2.1 hd) rfl)
theorem go_i2b {a : Int32} (D : Dc bytes pc .i2b 1 pc') (G : Go wd K₀ l Z R y bytes ml ret n0 kc ks Q h k n pc' ls (.int a.toInt8.toInt32 :: st)) : Go wd K₀ l Z R y bytes ml ret n0 kc ks Q h k n pc ls (.int a :: st) := by
  obtain ⟨hd, rfl⟩ := D
  exact go_pure G (fun C X t => XT.i2b X.here C.1 (g := mkF _ pc ls.toArray (.int a :: st)) rfl (hb C.2.1 hd) rfl)
theorem go_i2s {a : Int32} (D : Dc bytes pc .i2s 1 pc') (G : Go wd K₀ l Z R y bytes ml ret n0 kc ks Q h k n pc' ls (.int a.toInt16.toInt32 :: st)) : Go wd K₀ l Z R y bytes ml ret n0 kc ks Q h k n pc ls (.int a :: st) := by
  obtain ⟨hd, rfl⟩ := D
  exact go_pure G (fun C X t => XT.i2s X.here C.1 (g := mkF _ pc ls.toArray (.int a :: st)) rfl (hb C.2.1 hd) rfl)
theorem go_i2c {a : Int32} (D : Dc bytes pc .i2c 1 pc') (G : Go wd K₀ l Z R y bytes ml ret n0 kc ks Q h k n pc' ls (.int a.toUInt32.toUInt16.toUInt32.toInt32 :: st)) : Go wd K₀ l Z R y bytes ml ret n0 kc ks Q h k n pc ls (.int a :: st) := by
  obtain ⟨hd, rfl⟩ := D
  exact go_pure G (fun C X t => XT.i2c X.here C.1 (g := mkF _ pc ls.toArray (.int a :: st)) rfl (hb C.2.1 hd) rfl)
theorem go_dup {v : Value} (D : Dc bytes pc .dup 1 pc') (hv : v.category = 1) (G : Go wd K₀ l Z R y bytes ml ret n0 kc ks Q h k n pc' ls (v :: v :: st)) : Go wd K₀ l Z R y bytes ml ret n0 kc ks Q h k n pc ls (v :: st) := by
  obtain ⟨hd, rfl⟩ := D
  exact go_pure G (fun C X t => XS.dup X.here C.1 (g := mkF _ pc ls.toArray (v :: st)) rfl (hb C.2.1 hd) rfl hv)
theorem go_pop {v : Value} (D : Dc bytes pc .pop 1 pc') (hv : v.category = 1) (G : Go wd K₀ l Z R y bytes ml ret n0 kc ks Q h k n pc' ls st) : Go wd K₀ l Z R y bytes ml ret n0 kc ks Q h k n pc ls (v :: st) := by
  obtain ⟨hd, rfl⟩ := D
  exact go_pure G (fun C X t => XT.pop X.here C.1 (g := mkF _ pc ls.toArray (v :: st)) rfl (hb C.2.1 hd) rfl hv)
theorem go_dupx1 {v w : Value} (D : Dc bytes pc .dup_x1 1 pc') (hv : v.category = 1) (hw : w.category = 1) (G : Go wd K₀ l Z R y bytes ml ret n0 kc ks Q h k n pc' ls (v :: w :: v :: st)) : Go wd K₀ l Z R y bytes ml ret n0 kc ks Q h k n pc ls (v :: w :: st) := by
  obtain ⟨hd, rfl⟩ := D
  exact go_pure G (fun C X t => XT.dupX1 X.here C.1 (g := mkF _ pc ls.toArray (v :: w :: st)) rfl (hb C.2.1 hd) rfl hv hw)
theorem go_dup2 {v w : Value} (D : Dc bytes pc .dup2 1 pc') (hv : v.category = 1) (hw : w.category = 1) (G : Go wd K₀ l Z R y bytes ml ret n0 kc ks Q h k n pc' ls (v :: w :: v :: w :: st)) : Go wd K₀ l Z R y bytes ml ret n0 kc ks Q h k n pc ls (v :: w :: st) := by
  obtain ⟨hd, rfl⟩ := D
  exact go_pure G (fun C X t => XT.dup2 X.here C.1 (g := mkF _ pc ls.toArray (v :: w :: st)) rfl (hb C.2.1 hd) rfl hv hw)
theorem go_dup2L {v : Int64} (D : Dc bytes pc .dup2 1 pc') (G : Go wd K₀ l Z R y bytes ml ret n0 kc ks Q h k n pc' ls (.long v :: .long v :: st)) : Go wd K₀ l Z R y bytes ml ret n0 kc ks Q h k n pc ls (.long v :: st) := by
  obtain ⟨hd, rfl⟩ := D
  exact go_pure G (fun C X t => XT.dup2L X.here C.1 (g := mkF _ pc ls.toArray (.long v :: st)) rfl (hb C.2.1 hd) rfl)
theorem go_goto (D : Db bytes pc .goto pc' tg) (G : Go wd K₀ l Z R y bytes ml ret n0 kc ks Q h k n tg ls st) : Go wd K₀ l Z R y bytes ml ret n0 kc ks Q h k n pc ls st := by
  obtain ⟨o, hd, rfl, ho, hp⟩ := D
  exact go_pure G (fun C X t => XS.goto X.here C.1 (g := mkF _ pc ls.toArray st) rfl (pc0 := pc) rfl (hb C.2.1 hd) ho hp)
theorem go_icmp_eq {a b : Int32} (D : Db bytes pc (.if_icmp .eq) pc' tg) (G1 : a = b → Go wd K₀ l Z R y bytes ml ret n0 kc ks Q h k n tg ls st) (G2 : ¬ a = b → Go wd K₀ l Z R y bytes ml ret n0 kc ks Q h k n pc' ls st) : Go wd K₀ l Z R y bytes ml ret n0 kc ks Q h k n pc ls (.int b :: .int a :: st) := by
  obtain ⟨o, hd, rfl, ho, hp⟩ := D
  by_cases q : a = b
  · exact go_pure (G1 q) (fun C X t => XS.icmpYes X.here C.1 (g := mkF _ pc ls.toArray (.int b :: .int a :: st)) rfl (pc0 := pc) rfl (hb C.2.1 hd) rfl (XT.ii_eq_t q) ho hp)
  · exact go_pure (G2 q) (fun C X t => XS.icmpNo X.here C.1 (g := mkF _ pc ls.toArray (.int b :: .int a :: st)) rfl (hb C.2.1 hd) rfl (XT.ii_eq_f q))
theorem go_if_eq {a : Int32} (D : Db bytes pc (.ifCond .eq) pc' tg) (G1 : a = 0 → Go wd K₀ l Z R y bytes ml ret n0 kc ks Q h k n tg ls st) (G2 : ¬ a = 0 → Go wd K₀ l Z R y bytes ml ret n0 kc ks Q h k n pc' ls st) : Go wd K₀ l Z R y bytes ml ret n0 kc ks Q h k n pc ls (.int a :: st) := by
  obtain ⟨o, hd, rfl, ho, hp⟩ := D
  by_cases q : a = 0
  · exact go_pure (G1 q) (fun C X t => XS.ifYes X.here C.1 (g := mkF _ pc ls.toArray (.int a :: st)) rfl (pc0 := pc) rfl (hb C.2.1 hd) rfl (XT.i0_eq_t q) ho hp)
  · exact go_pure (G2 q) (fun C X t => XS.ifNo X.here C.1 (g := mkF _ pc ls.toArray (.int a :: st)) rfl (hb C.2.1 hd) rfl (XT.i0_eq_f q))
theorem go_lc_eq {a b : Int64} (D : Db bytes pc (.ifCond .eq) pc' tg) (G1 : a = b → Go wd K₀ l Z R y bytes ml ret n0 kc ks Q h k n tg ls st) (G2 : ¬ a = b → Go wd K₀ l Z R y bytes ml ret n0 kc ks Q h k n pc' ls st) : Go wd K₀ l Z R y bytes ml ret n0 kc ks Q h k n pc ls (.int (XT.cmpL a b) :: st) := by
  obtain ⟨o, hd, rfl, ho, hp⟩ := D
  by_cases q : a = b
  · exact go_pure (G1 q) (fun C X t => XS.ifYes X.here C.1 (g := mkF _ pc ls.toArray (.int (XT.cmpL a b) :: st)) rfl (pc0 := pc) rfl (hb C.2.1 hd) rfl (XT.ll_eq_t q) ho hp)
  · exact go_pure (G2 q) (fun C X t => XS.ifNo X.here C.1 (g := mkF _ pc ls.toArray (.int (XT.cmpL a b) :: st)) rfl (hb C.2.1 hd) rfl (XT.ll_eq_f q))
theorem go_icmp_ne {a b : Int32} (D : Db bytes pc (.if_icmp .ne) pc' tg) (G1 : ¬ a = b → Go wd K₀ l Z R y bytes ml ret n0 kc ks Q h k n tg ls st) (G2 : a = b → Go wd K₀ l Z R y bytes ml ret n0 kc ks Q h k n pc' ls st) : Go wd K₀ l Z R y bytes ml ret n0 kc ks Q h k n pc ls (.int b :: .int a :: st) := by
  obtain ⟨o, hd, rfl, ho, hp⟩ := D
  by_cases q : a = b
  · exact go_pure (G2 q) (fun C X t => XS.icmpNo X.here C.1 (g := mkF _ pc ls.toArray (.int b :: .int a :: st)) rfl (hb C.2.1 hd) rfl (XT.ii_ne_f q))
  · exact go_pure (G1 q) (fun C X t => XS.icmpYes X.here C.1 (g := mkF _ pc ls.toArray (.int b :: .int a :: st)) rfl (pc0 := pc) rfl (hb C.2.1 hd) rfl (XT.ii_ne_t q) ho hp)
theorem go_if_ne {a : Int32} (D : Db bytes pc (.ifCond .ne) pc' tg) (G1 : ¬ a = 0 → Go wd K₀ l Z R y bytes ml ret n0 kc ks Q h k n tg ls st) (G2 : a = 0 → Go wd K₀ l Z R y bytes ml ret n0 kc ks Q h k n pc' ls st) : Go wd K₀ l Z R y bytes ml ret n0 kc ks Q h k n pc ls (.int a :: st) := by
  obtain ⟨o, hd, rfl, ho, hp⟩ := D
  by_cases q : a = 0
  · exact go_pure (G2 q) (fun C X t => XS.ifNo X.here C.1 (g := mkF _ pc ls.toArray (.int a :: st)) rfl (hb C.2.1 hd) rfl (XT.i0_ne_f q))
  · exact go_pure (G1 q) (fun C X t => XS.ifYes X.here C.1 (g := mkF _ pc ls.toArray (.int a :: st)) rfl (pc0 := pc) rfl (hb C.2.1 hd) rfl (XT.i0_ne_t q) ho hp)
theorem go_lc_ne {a b : Int64} (D : Db bytes pc (.ifCond .ne) pc' tg) (G1 : ¬ a = b → Go wd K₀ l Z R y bytes ml ret n0 kc ks Q h k n tg ls st) (G2 : a = b → Go wd K₀ l Z R y bytes ml ret n0 kc ks Q h k n pc' ls st) : Go wd K₀ l Z R y bytes ml ret n0 kc ks Q h k n pc ls (.int (XT.cmpL a b) :: st) := by
  obtain ⟨o, hd, rfl, ho, hp⟩ := D
  by_cases q : a = b
  · exact go_pure (G2 q) (fun C X t => XS.ifNo X.here C.1 (g := mkF _ pc ls.toArray (.int (XT.cmpL a b) :: st)) rfl (hb C.2.1 hd) rfl (XT.ll_ne_f q))
  · exact go_pure (G1 q) (fun C X t => XS.ifYes X.here C.1 (g := mkF _ pc ls.toArray (.int (XT.cmpL a b) :: st)) rfl (pc0 := pc) rfl (hb C.2.1 hd) rfl (XT.ll_ne_t q) ho hp)
theorem go_icmp_lt {a b : Int32} (D : Db bytes pc (.if_icmp .lt) pc' tg) (G1 : a < b → Go wd K₀ l Z R y bytes ml ret n0 kc ks Q h k n tg ls st) (G2 : ¬ a < b → Go wd K₀ l Z R y bytes ml ret n0 kc ks Q h k n pc' ls st) : Go wd K₀ l Z R y bytes ml ret n0 kc ks Q h k n pc ls (.int b :: .int a :: st) := by
  obtain ⟨o, hd, rfl, ho, hp⟩ := D
  by_cases q : a < b
  · exact go_pure (G1 q) (fun C X t => XS.icmpYes X.here C.1 (g := mkF _ pc ls.toArray (.int b :: .int a :: st)) rfl (pc0 := pc) rfl (hb C.2.1 hd) rfl (XT.ii_lt_t q) ho hp)
  · exact go_pure (G2 q) (fun C X t => XS.icmpNo X.here C.1 (g := mkF _ pc ls.toArray (.int b :: .int a :: st)) rfl (hb C.2.1 hd) rfl (XT.ii_lt_f q))
theorem go_if_lt {a : Int32} (D : Db bytes pc (.ifCond .lt) pc' tg) (G1 : a < 0 → Go wd K₀ l Z R y bytes ml ret n0 kc ks Q h k n tg ls st) (G2 : ¬ a < 0 → Go wd K₀ l Z R y bytes ml ret n0 kc ks Q h k n pc' ls st) : Go wd K₀ l Z R y bytes ml ret n0 kc ks Q h k n pc ls (.int a :: st) := by
  obtain ⟨o, hd, rfl, ho, hp⟩ := D
  by_cases q : a < 0
  · exact go_pure (G1 q) (fun C X t => XS.ifYes X.here C.1 (g := mkF _ pc ls.toArray (.int a :: st)) rfl (pc0 := pc) rfl (hb C.2.1 hd) rfl (XT.i0_lt_t q) ho hp)
  · exact go_pure (G2 q) (fun C X t => XS.ifNo X.here C.1 (g := mkF _ pc ls.toArray (.int a :: st)) rfl (hb C.2.1 hd) rfl (XT.i0_lt_f q))
theorem go_lc_lt {a b : Int64} (D : Db bytes pc (.ifCond .lt) pc' tg) (G1 : a < b → Go wd K₀ l Z R y bytes ml ret n0 kc ks Q h k n tg ls st) (G2 : ¬ a < b → Go wd K₀ l Z R y bytes ml ret n0 kc ks Q h k n pc' ls st) : Go wd K₀ l Z R y bytes ml ret n0 kc ks Q h k n pc ls (.int (XT.cmpL a b) :: st) := by
  obtain ⟨o, hd, rfl, ho, hp⟩ := D
  by_cases q : a < b
  · exact go_pure (G1 q) (fun C X t => XS.ifYes X.here C.1 (g := mkF _ pc ls.toArray (.int (XT.cmpL a b) :: st)) rfl (pc0 := pc) rfl (hb C.2.1 hd) rfl (XT.ll_lt_t q) ho hp)
  · exact go_pure (G2 q) (fun C X t => XS.ifNo X.here C.1 (g := mkF _ pc ls.toArray (.int (XT.cmpL a b) :: st)) rfl (hb C.2.1 hd) rfl (XT.ll_lt_f q))
theorem go_icmp_ge {a b : Int32} (D : Db bytes pc (.if_icmp .ge) pc' tg) (G1 : ¬ a < b → Go wd K₀ l Z R y bytes ml ret n0 kc ks Q h k n tg ls st) (G2 : a < b → Go wd K₀ l Z R y bytes ml ret n0 kc ks Q h k n pc' ls st) : Go wd K₀ l Z R y bytes ml ret n0 kc ks Q h k n pc ls (.int b :: .int a :: st) := by
  obtain ⟨o, hd, rfl, ho, hp⟩ := D
  by_cases q : a < b
  · exact go_pure (G2 q) (fun C X t => XS.icmpNo X.here C.1 (g := mkF _ pc ls.toArray (.int b :: .int a :: st)) rfl (hb C.2.1 hd) rfl (XT.ii_ge_f q))
  · exact go_pure (G1 q) (fun C X t => XS.icmpYes X.here C.1 (g := mkF _ pc ls.toArray (.int b :: .int a :: st)) rfl (pc0 := pc) rfl (hb C.2.1 hd) rfl (XT.ii_ge_t q) ho hp)
theorem go_if_ge {a : Int32} (D : Db bytes pc (.ifCond .ge) pc' tg) (G1 : ¬ a < 0 → Go wd K₀ l Z R y bytes ml ret n0 kc ks Q h k n tg ls st) (G2 : a < 0 → Go wd K₀ l Z R y bytes ml ret n0 kc ks Q h k n pc' ls st) : Go wd K₀ l Z R y bytes ml ret n0 kc ks Q h k n pc ls (.int a :: st) := by
  obtain ⟨o, hd, rfl, ho, hp⟩ := D
  by_cases q : a < 0
  · exact go_pure (G2 q) (fun C X t => XS.ifNo X.here C.1 (g := mkF _ pc ls.toArray (.int a :: st)) rfl (hb C.2.1 hd) rfl (XT.i0_ge_f q))
  · exact go_pure (G1 q) (fun C X t => XS.ifYes X.here C.1 (g := mkF _ pc ls.toArray (.int a :: st)) rfl (pc0 := pc) rfl (hb C.2.1 hd) rfl (XT.i0_ge_t q) ho hp)
theorem go_lc_ge {a b : Int64} (D : Db bytes pc (.ifCond .ge) pc' tg) (G1 : ¬ a < b → Go wd K₀ l Z R y bytes ml ret n0 kc ks Q h k n tg ls st) (G2 : a < b → Go wd K₀ l Z R y bytes ml ret n0 kc ks Q h k n pc' ls st) : Go wd K₀ l Z R y bytes ml ret n0 kc ks Q h k n pc ls (.int (XT.cmpL a b) :: st) := by
  obtain ⟨o, hd, rfl, ho, hp⟩ := D
  by_cases q : a < b
  · exact go_pure (G2 q) (fun C X t => XS.ifNo X.here C.1 (g := mkF _ pc ls.toArray (.int (XT.cmpL a b) :: st)) rfl (hb C.2.1 hd) rfl (XT.ll_ge_f q))
  · exact go_pure (G1 q) (fun C X t => XS.ifYes X.here C.1 (g := mkF _ pc ls.toArray (.int (XT.cmpL a b) :: st)) rfl (pc0 := pc) rfl (hb C.2.1 hd) rfl (XT.ll_ge_t q) ho hp)
theorem go_icmp_gt {a b : Int32} (D : Db bytes pc (.if_icmp .gt) pc' tg) (G1 : b < a → Go wd K₀ l Z R y bytes ml ret n0 kc ks Q h k n tg ls st) (G2 : ¬ b < a → Go wd K₀ l Z R y bytes ml ret n0 kc ks Q h k n pc' ls st) : Go wd K₀ l Z R y bytes ml ret n0 kc ks Q h k n pc ls (.int b :: .int a :: st) := by
  obtain ⟨o, hd, rfl, ho, hp⟩ := D
  by_cases q : b < a
  · exact go_pure (G1 q) (fun C X t => XS.icmpYes X.here C.1 (g := mkF _ pc ls.toArray (.int b :: .int a :: st)) rfl (pc0 := pc) rfl (hb C.2.1 hd) rfl (XT.ii_gt_t q) ho hp)
  · exact go_pure (G2 q) (fun C X t => XS.icmpNo X.here C.1 (g := mkF _ pc ls.toArray (.int b :: .int a :: st)) rfl (hb C.2.1 hd) rfl (XT.ii_gt_f q))
theorem go_if_gt {a : Int32} (D : Db bytes pc (.ifCond .gt) pc' tg) (G1 : 0 < a → Go wd K₀ l Z R y bytes ml ret n0 kc ks Q h k n tg ls st) (G2 : ¬ 0 < a → Go wd K₀ l Z R y bytes ml ret n0 kc ks Q h k n pc' ls st) : Go wd K₀ l Z R y bytes ml ret n0 kc ks Q h k n pc ls (.int a :: st) := by
  obtain ⟨o, hd, rfl, ho, hp⟩ := D
  by_cases q : 0 < a
  · exact go_pure (G1 q) (fun C X t => XS.ifYes X.here C.1 (g := mkF _ pc ls.toArray (.int a :: st)) rfl (pc0 := pc) rfl (hb C.2.1 hd) rfl (XT.i0_gt_t q) ho hp)
  · exact go_pure (G2 q) (fun C X t => XS.ifNo X.here C.1 (g := mkF _ pc ls.toArray (.int a :: st)) rfl (hb C.2.1 hd) rfl (XT.i0_gt_f q))
theorem go_lc_gt {a b : Int64} (D : Db bytes pc (.ifCond .gt) pc' tg) (G1 : b < a → Go wd K₀ l Z R y bytes ml ret n0 kc ks Q h k n tg ls st) (G2 : ¬ b < a → Go wd K₀ l Z R y bytes ml ret n0 kc ks Q h k n pc' ls st) : Go wd K₀ l Z R y bytes ml ret n0 kc ks Q h k n pc ls (.int (XT.cmpL a b) :: st) := by
  obtain ⟨o, hd, rfl, ho, hp⟩ := D
  by_cases q : b < a
  · exact go_pure (G1 q) (fun C X t => XS.ifYes X.here C.1 (g := mkF _ pc ls.toArray (.int (XT.cmpL a b) :: st)) rfl (pc0 := pc) rfl (hb C.2.1 hd) rfl (XT.ll_gt_t q) ho hp)
  · exact go_pure (G2 q) (fun C X t => XS.ifNo X.here C.1 (g := mkF _ pc ls.toArray (.int (XT.cmpL a b) :: st)) rfl (hb C.2.1 hd) rfl (XT.ll_gt_f q))
theorem go_icmp_le {a b : Int32} (D : Db bytes pc (.if_icmp .le) pc' tg) (G1 : ¬ b < a → Go wd K₀ l Z R y bytes ml ret n0 kc ks Q h k n tg ls st) (G2 : b < a → Go wd K₀ l Z R y bytes ml ret n0 kc ks Q h k n pc' ls st) : Go wd K₀ l Z R y bytes ml ret n0 kc ks Q h k n pc ls (.int b :: .int a :: st) := by
  obtain ⟨o, hd, rfl, ho, hp⟩ := D
  by_cases q : b < a
  · exact go_pure (G2 q) (fun C X t => XS.icmpNo X.here C.1 (g := mkF _ pc ls.toArray (.int b :: .int a :: st)) rfl (hb C.2.1 hd) rfl (XT.ii_le_f q))
  · exact go_pure (G1 q) (fun C X t => XS.icmpYes X.here C.1 (g := mkF _ pc ls.toArray (.int b :: .int a :: st)) rfl (pc0 := pc) rfl (hb C.2.1 hd) rfl (XT.ii_le_t q) ho hp)
theorem go_if_le {a : Int32} (D : Db bytes pc (.ifCond .le) pc' tg) (G1 : ¬ 0 < a → Go wd K₀ l Z R y bytes ml ret n0 kc ks Q h k n tg ls st) (G2 : 0 < a → Go wd K₀ l Z R y bytes ml ret n0 kc ks Q h k n pc' ls st) : Go wd K₀ l Z R y bytes ml ret n0 kc ks Q h k n pc ls (.int a :: st) := by
  obtain ⟨o, hd, rfl, ho, hp⟩ := D
  by_cases q : 0 < a
  · exact go_pure (G2 q) (fun C X t => XS.ifNo X.here C.1 (g := mkF _ pc ls.toArray (.int a :: st)) rfl (hb C.2.1 hd) rfl (XT.i0_le_f q))
  · exact go_pure (G1 q) (fun C X t => XS.ifYes X.here C.1 (g := mkF _ pc ls.toArray (.int a :: st)) rfl (pc0 := pc) rfl (hb C.2.1 hd) rfl (XT.i0_le_t q) ho hp)
theorem go_lc_le {a b : Int64} (D : Db bytes pc (.ifCond .le) pc' tg) (G1 : ¬ b < a → Go wd K₀ l Z R y bytes ml ret n0 kc ks Q h k n tg ls st) (G2 : b < a → Go wd K₀ l Z R y bytes ml ret n0 kc ks Q h k n pc' ls st) : Go wd K₀ l Z R y bytes ml ret n0 kc ks Q h k n pc ls (.int (XT.cmpL a b) :: st) := by
  obtain ⟨o, hd, rfl, ho, hp⟩ := D
  by_cases q : b < a
  · exact go_pure (G2 q) (fun C X t => XS.ifNo X.here C.1 (g := mkF _ pc ls.toArray (.int (XT.cmpL a b) :: st)) rfl (hb C.2.1 hd) rfl (XT.ll_le_f q))
  · exact go_pure (G1 q) (fun C X t => XS.ifYes X.here C.1 (g := mkF _ pc ls.toArray (.int (XT.cmpL a b) :: st)) rfl (pc0 := pc) rfl (hb C.2.1 hd) rfl (XT.ll_le_t q) ho hp)
theorem go_acmp_eq {a b : Value} (D : Db bytes pc (.if_acmp .eq) pc' tg) (ha : a.isRef = true) (hb' : b.isRef = true) (G1 : a = b → Go wd K₀ l Z R y bytes ml ret n0 kc ks Q h k n tg ls st) (G2 : ¬ a = b → Go wd K₀ l Z R y bytes ml ret n0 kc ks Q h k n pc' ls st) : Go wd K₀ l Z R y bytes ml ret n0 kc ks Q h k n pc ls (b :: a :: st) := by
  obtain ⟨o, hd, rfl, ho, hp⟩ := D
  by_cases q : a = b
  · exact go_pure (G1 q) (fun C X t => XT.acmpYes X.here C.1 (g := mkF _ pc ls.toArray (b :: a :: st)) rfl (pc0 := pc) rfl (hb C.2.1 hd) rfl ha hb' (XT.aa_eq_t q) ho hp)
  · exact go_pure (G2 q) (fun C X t => XT.acmpNo X.here C.1 (g := mkF _ pc ls.toArray (b :: a :: st)) rfl (hb C.2.1 hd) rfl ha hb' (XT.aa_eq_f q))
theorem go_acmp_ne {a b : Value} (D : Db bytes pc (.if_acmp .ne) pc' tg) (ha : a.isRef = true) (hb' : b.isRef = true) (G1 : ¬ a = b → Go wd K₀ l Z R y bytes ml ret n0 kc ks Q h k n tg ls st) (G2 : a = b → Go wd K₀ l Z R y bytes ml ret n0 kc ks Q h k n pc' ls st) : Go wd K₀ l Z R y bytes ml ret n0 kc ks Q h k n pc ls (b :: a :: st) := by
  obtain ⟨o, hd, rfl, ho, hp⟩ := D
  by_cases q : a = b
  · exact go_pure (G2 q) (fun C X t => XT.acmpNo X.here C.1 (g := mkF _ pc ls.toArray (b :: a :: st)) rfl (hb C.2.1 hd) rfl ha hb' (XT.aa_ne_f q))
  · exact go_pure (G1 q) (fun C X t => XT.acmpYes X.here C.1 (g := mkF _ pc ls.toArray (b :: a :: st)) rfl (pc0 := pc) rfl (hb C.2.1 hd) rfl ha hb' (XT.aa_ne_t q) ho hp)
theorem go_ifnullT (D : Db bytes pc .ifnull pc' tg) (G : Go wd K₀ l Z R y bytes ml ret n0 kc ks Q h k n tg ls st) : Go wd K₀ l Z R y bytes ml ret n0 kc ks Q h k n pc ls (.null :: st) := by
  obtain ⟨o, hd, rfl, ho, hp⟩ := D
  exact go_pure G (fun C X t => XS.ifnullYes X.here C.1 (g := mkF _ pc ls.toArray (.null :: st)) rfl (pc0 := pc) rfl (hb C.2.1 hd) rfl ho hp)
theorem go_ifnullF {a : Addr} (D : Db bytes pc .ifnull pc' tg) (G : Go wd K₀ l Z R y bytes ml ret n0 kc ks Q h k n pc' ls st) : Go wd K₀ l Z R y bytes ml ret n0 kc ks Q h k n pc ls (.ref a :: st) := by
  obtain ⟨o, hd, rfl, ho, hp⟩ := D
  exact go_pure G (fun C X t => XS.ifnullNo X.here C.1 (g := mkF _ pc ls.toArray (.ref a :: st)) rfl (hb C.2.1 hd) rfl)
theorem go_nonnullT {a : Addr} (D : Db bytes pc .ifnonnull pc' tg) (G : Go wd K₀ l Z R y bytes ml ret n0 kc ks Q h k n tg ls st) : Go wd K₀ l Z R y bytes ml ret n0 kc ks Q h k n pc ls (.ref a :: st) := by
  obtain ⟨o, hd, rfl, ho, hp⟩ := D
  exact go_pure G (fun C X t => XT.ifnonnullYes X.here C.1 (g := mkF _ pc ls.toArray (.ref a :: st)) rfl (pc0 := pc) rfl (hb C.2.1 hd) rfl ho hp)
theorem go_nonnullF (D : Db bytes pc .ifnonnull pc' tg) (G : Go wd K₀ l Z R y bytes ml ret n0 kc ks Q h k n pc' ls st) : Go wd K₀ l Z R y bytes ml ret n0 kc ks Q h k n pc ls (.null :: st) := by
  obtain ⟨o, hd, rfl, ho, hp⟩ := D
  exact go_pure G (fun C X t => XT.ifnonnullNo X.here C.1 (g := mkF _ pc ls.toArray (.null :: st)) rfl (hb C.2.1 hd) rfl)
theorem go_nonnullV {v : Value} (D : Db bytes pc .ifnonnull pc' tg) (hv : v.isRef = true) (G1 : v ≠ .null → Go wd K₀ l Z R y bytes ml ret n0 kc ks Q h k n tg ls st) (G2 : v = .null → Go wd K₀ l Z R y bytes ml ret n0 kc ks Q h k n pc' ls st) : Go wd K₀ l Z R y bytes ml ret n0 kc ks Q h k n pc ls (v :: st) := by
  cases v with
  | null => exact go_nonnullF D (G2 rfl)
  | ref a => exact go_nonnullT D (G1 (fun q => nomatch q))
  | int _ => cases hv
  | long _ => cases hv
  | float _ => cases hv
  | double _ => cases hv
  | _ => cases hv
theorem go_ldcI {v : Int32} {idx : Nat} (D : Dc bytes pc (.ldc idx) 2 pc') (w : (Cond.constant y.cls idx v).before a0 Z = true) (G : Go wd K₀ l Z R y bytes ml ret n0 kc ks Q h k n pc' ls (.int v :: st)) : Go wd K₀ l Z R y bytes ml ret n0 kc ks Q h k n pc ls st := by
  obtain ⟨hd, rfl⟩ := D
  exact go_pure G (fun C X t => X.ldcInt C.1 C.2.2.2.1 (mvT C.2.2.2.2.1 w) (g := mkF _ pc ls.toArray st) rfl (hb C.2.1 hd) t)
theorem go_ldcJ {v : Int64} {idx : Nat} (D : Dc bytes pc (.ldc2_w idx) 3 pc') (w : (Cond.constantLong y.cls idx v).before a0 Z = true) (G : Go wd K₀ l Z R y bytes ml ret n0 kc ks Q h k n pc' ls (.long v :: st)) : Go wd K₀ l Z R y bytes ml ret n0 kc ks Q h k n pc ls st := by
  obtain ⟨hd, rfl⟩ := D
  exact go_pure G (fun C X t => X.ldc2Long C.1 C.2.2.2.1 (mvT C.2.2.2.2.1 w) (g := mkF _ pc ls.toArray st) rfl (hb C.2.1 hd) t)
theorem go_iret {z : Int32} (hr : ret = some .int) (D : Dc bytes pc .ireturn 1 pc') (hk : k ≤ kc) (hn : n ≤ ks) (q : Q (some (.int z)) h) : Go wd K₀ l Z R y bytes ml ret n0 kc ks Q h k n pc ls (.int z :: st) := by
  intro p e s0 s m args below meth c T L Bs C X hh N
  obtain ⟨hd, rfl⟩ := D
  have hl := C.2.2.2.2.2.2.1
  obtain ⟨fs, hr', hrun, hended, hW, hsame⟩ := X.leave (v := some (.int z)) (fun q => by rw [C.2.2.2.2.2.1, hr] at q; cases q) hl
  exact ⟨_, _, retOut X C.1 (C.2.2.2.2.2.1.trans hr) rfl (Or.inl ⟨rfl, Or.inl rfl, z, rfl⟩) (hb C.2.1 hd) hr', hrun, hended, _, L, rfl, ⟨by show Q _ T.heap; rw [hh]; exact q, N⟩, endK Bs hh hW hsame hk hn⟩
theorem go_bret {z : Int32} (hr : ret = some .boolean) (D : Dc bytes pc .ireturn 1 pc') (hk : k ≤ kc) (hn : n ≤ ks) (hz : z = 0 ∨ z = 1) (q : Q (some (.int z)) h) : Go wd K₀ l Z R y bytes ml ret n0 kc ks Q h k n pc ls (.int z :: st) := by
  intro p e s0 s m args below meth c T L Bs C X hh N
  obtain ⟨hd, rfl⟩ := D
  have hl := C.2.2.2.2.2.2.1
  obtain ⟨fs, hr', hrun, hended, hW, hsame⟩ := X.leave (v := some (.int z)) (fun q => by rw [C.2.2.2.2.2.1, hr] at q; cases q) hl
  exact ⟨_, _, retOut X C.1 (C.2.2.2.2.2.1.trans hr) (by rcases hz with rfl | rfl <;> rfl) (Or.inl ⟨rfl, Or.inr (Or.inl rfl), z, rfl⟩) (hb C.2.1 hd) hr', hrun, hended, _, L, rfl, ⟨by show Q _ T.heap; rw [hh]; exact q, N⟩, endK Bs hh hW hsame hk hn⟩
theorem go_nret {z : Int32} {ty : FieldType} (hr : ret = some ty) (hty : ty = .byte ∨ ty = .char ∨ ty = .short) (D : Dc bytes pc .ireturn 1 pc') (hk : k ≤ kc) (hn : n ≤ ks) (hz : narrow ty (.int z) = .int z) (q : Q (some (.int z)) h) : Go wd K₀ l Z R y bytes ml ret n0 kc ks Q h k n pc ls (.int z :: st) := by
  intro p e s0 s m args below meth c T L Bs C X hh N
  obtain ⟨hd, rfl⟩ := D
  have hl := C.2.2.2.2.2.2.1
  obtain ⟨fs, hr', hrun, hended, hW, hsame⟩ := X.leave (v := some (.int z)) (fun q => by rw [C.2.2.2.2.2.1, hr] at q; cases q) hl
  exact ⟨_, _, retOut X C.1 (C.2.2.2.2.2.1.trans hr) hz (Or.inl ⟨rfl, Or.inr (Or.inr hty), z, rfl⟩) (hb C.2.1 hd) hr', hrun, hended, _, L, rfl, ⟨by show Q _ T.heap; rw [hh]; exact q, N⟩, endK Bs hh hW hsame hk hn⟩
theorem go_lret {z : Int64} (hr : ret = some .long) (D : Dc bytes pc .lreturn 1 pc') (hk : k ≤ kc) (hn : n ≤ ks) (q : Q (some (.long z)) h) : Go wd K₀ l Z R y bytes ml ret n0 kc ks Q h k n pc ls (.long z :: st) := by
  intro p e s0 s m args below meth c T L Bs C X hh N
  obtain ⟨hd, rfl⟩ := D
  have hl := C.2.2.2.2.2.2.1
  obtain ⟨fs, hr', hrun, hended, hW, hsame⟩ := X.leave (v := some (.long z)) (fun q => by rw [C.2.2.2.2.2.1, hr] at q; cases q) hl
  exact ⟨_, _, retOut X C.1 (C.2.2.2.2.2.1.trans hr) rfl (Or.inr (Or.inl ⟨rfl, rfl, z, rfl⟩)) (hb C.2.1 hd) hr', hrun, hended, _, L, rfl, ⟨by show Q _ T.heap; rw [hh]; exact q, N⟩, endK Bs hh hW hsame hk hn⟩
theorem narrow_ref {t : FieldType} {w : Value} (ht : t.isReference = true) (hw : w.isRef = true) : narrow t w = w := by
  cases t <;> cases w <;> first | rfl | (simp [FieldType.isReference] at ht; done) | (simp [Value.isRef] at hw; done)
theorem go_aret {w : Value} {t : FieldType} (hr : ret = some t) (ht : t.isReference = true) (hw : w.isRef = true) (D : Dc bytes pc .areturn 1 pc') (hk : k ≤ kc) (hn : n ≤ ks) (q : Q (some w) h) : Go wd K₀ l Z R y bytes ml ret n0 kc ks Q h k n pc ls (w :: st) := by
  intro p e s0 s m args below meth c T L Bs C X hh N
  obtain ⟨hd, rfl⟩ := D
  have hl := C.2.2.2.2.2.2.1
  obtain ⟨fs, hr', hrun, hended, hW, hsame⟩ := X.leave (v := some w) (fun q => by rw [C.2.2.2.2.2.1, hr] at q; cases q) hl
  exact ⟨_, _, retOut X C.1 (C.2.2.2.2.2.1.trans hr) (narrow_ref ht hw) (Or.inr (Or.inr (Or.inr (Or.inr ⟨rfl, ht, hw⟩)))) (hb C.2.1 hd) hr', hrun, hended, _, L, rfl, ⟨by show Q _ T.heap; rw [hh]; exact q, N⟩, endK Bs hh hW hsame hk hn⟩
theorem go_ret (hr : ret = none) (D : Dc bytes pc .return_ 1 pc') (hk : k ≤ kc) (hn : n ≤ ks) (q : Q none h) : Go wd K₀ l Z R y bytes ml ret n0 kc ks Q h k n pc ls [] := by
  intro p e s0 s m args below meth c T L Bs C X hh N
  obtain ⟨hd, rfl⟩ := D
  have hl := C.2.2.2.2.2.2.1
  obtain ⟨fs, hr', hrun, hended, hW, hsame⟩ := X.leave (v := none) (fun _ => rfl) hl
  exact ⟨_, _, X.returnOut C.1 (C.2.2.2.2.2.1.trans hr) (hb C.2.1 hd) hr', hrun, hended, _, L, rfl, ⟨by show Q _ T.heap; rw [hh]; exact q, N⟩, endK Bs hh hW hsame hk hn⟩
theorem con_of {as' : Array Value} (hp : plainFor y = true) (he : Jvm.Sym.laidSlots as'.toList ++ List.replicate (ml - (Jvm.Sym.laidSlots as'.toList).length) .unset = ls) (G : Go wd KT l Z R y bytes ml ret n0 R.cells R.slots Q h 0 0 0 ls []) : Con wd l Z y bytes ml ret R as' h n0 Q := by
  intro ws
  refine MetFree.of_bodySF hp hisR ?_
  intro p e s m args below meth c s₁ Bd hml hP hK
  obtain ⟨rfl, hZ, hh⟩ := hP
  have X0 : Stand p l e R s m args below meth c s₁ [] 0 0 := Stand.of_body Bd
  have e0 : s₁.heap = h := by rw [← hh, Bd.state]; rfl
  obtain ⟨s₂, o, h1, h2, h3, v, L, e1, ⟨q1, q2⟩, q3⟩ := G p e s s m args below meth c s₁ [] (Base.start s hh) ⟨Bd.exec, Bd.bytes, hml, findClass_of_methodNamed Bd.named, hZ, Bd.returns, Bd.notSynchronized, (name_of_methodNamed Bd.named Bd.method).1, trivial⟩ X0 e0 (Fr.nil n0)
  exact ⟨s₂, o, (XT.entry (Ls := ls.toArray) (by simpa using he)).trans h1, h2, h3, v, L, e1, ⟨⟨q1, by rw [← hh]; exact q3.size⟩, q2⟩, q3⟩
theorem go_callS1 {y' : MethodName} {b' : ByteArray} {m' : Nat} {r' : Option FieldType} {rm : Room} {idx W : Nat} {argsL : List Value} {P : Value → Heap → Prop} (D : Dc bytes pc (.invokestatic idx) 3 pc') (hM : Con false l Z y' b' m' r' rm argsL.toArray h n0 (R1 P))
    (w1 : (Cond.methodLink y.cls idx y').before a0 Z = true) (w2 : (Cond.static y').before a0 Z = true) (w3 : (Cond.initialized y'.cls).before a0 Z = true) (w4 : (Cond.code y' b' m' r').before a0 Z = true) (hy : y'.cls ≠ "java/lang/invoke/MethodHandle" ∧ y'.cls ≠ "java/lang/invoke/VarHandle")
    (hlen : ∀ sig, parseMethodDescriptor y'.desc = some sig → argsL.length = sig.parameters.length) {st₀ : List Value} (hst : st₀ = argsL.reverse ++ st) (hW : (st.map fun v => v.category).sum = W) (hf : rm.frames + 1 ≤ R.frames) (hlo : W + (m' + 11) + rm.locals ≤ R.locals) (hk : k + rm.cells ≤ R.cells) (hn : n + rm.slots ≤ R.slots) (hls : ls.length = ml)
    (G : ∀ w h', P w h' → Go wd K₀ l Z R y bytes ml ret n0 kc ks Q h' (k + rm.cells) (n + rm.slots) pc' ls (w :: st)) : Go wd K₀ l Z R y bytes ml ret n0 kc ks Q h k n pc ls st₀ := by
  subst hst
  intro p e s0 s m args below meth c T L Bs C X hh N
  obtain ⟨hd, rfl⟩ := D
  have hZ := C.2.2.2.2.1
  obtain ⟨v, vm₁, ⟨B, Lb, kb, nb⟩, -, X', ⟨Lq, ⟨⟨hQ, hsz⟩, Ns⟩, e1, e2, e3⟩, st'⟩ := Jvm.LawKit.callS X C.1 (y := y') C.2.2.2.1 (mvT hZ w1) (mvT hZ w2) (mvT hZ w3) (mvT hZ w4) hy (backOf (W := W) (Q := fun v h' L => ((R1 P) v h' ∧ h.size ≤ h'.size) ∧ Fr n0 L) (hM []) hZ w4 w3 hf hlo) (g := mkF m pc ls.toArray (argsL.reverse ++ st)) rfl
    (by rw [C.2.2.1]; simpa using hls) (argsL := argsL) (rest := st) hlen rfl (by show 2 * 0 + _ ≤ W; rw [← hW]; omega) (hb C.2.1 hd) (fun _ _ => ⟨rfl, hh, hk, hn⟩)
  dsimp only [Pt.U, Pt.locs, Pt.cells, Pt.slots] at X' hQ hsz e1 e2 e3 st'
  subst e1 e2 e3
  obtain ⟨w, rfl, hP⟩ := hQ
  exact (G w B.heap hP p e s0 s m args below meth c B _ (Bs.mono hsz) C X' rfl (N.app Ns)).pre st'
theorem go_callV1 {y' : MethodName} {b' : ByteArray} {m' : Nat} {r' : Option FieldType} {rm : Room} {idx W : Nat} {argsL : List Value} {P : Value → Heap → Prop} {x' : MethodName} {K : String} {a : Addr} (D : Dc bytes pc (.invokevirtual idx) 3 pc') (hM : Con false l Z y' b' m' r' rm (.ref a :: argsL).toArray h n0 (R1 P)) (E : Exa Z h a K)
    (w1 : (Cond.methodLink y.cls idx x').before a0 Z = true) (w5 : (Cond.declares x').before a0 Z = true) (nf : ∀ s : State, Z.Warmed39 s.vm → NotFace s x') (w6 : (Cond.selects K x' y').before a0 Z = true) (w2 : (Cond.instanceMethod y').before a0 Z = true) (w3 : (Cond.initialized y'.cls).before a0 Z = true) (w4 : (Cond.code y' b' m' r').before a0 Z = true)
    (hy : x'.cls ≠ "java/lang/invoke/MethodHandle" ∧ x'.cls ≠ "java/lang/invoke/VarHandle") (hlen : ∀ sig, parseMethodDescriptor x'.desc = some sig → argsL.length = sig.parameters.length) {st₀ : List Value} (hst : st₀ = argsL.reverse ++ .ref a :: st) (hW : (st.map fun v => v.category).sum = W) (hf : rm.frames + 1 ≤ R.frames) (hlo : W + (m' + 11) + rm.locals ≤ R.locals) (hk : k + rm.cells ≤ R.cells) (hn : n + rm.slots ≤ R.slots) (hls : ls.length = ml)
    (G : ∀ w h', P w h' → Go wd K₀ l Z R y bytes ml ret n0 kc ks Q h' (k + rm.cells) (n + rm.slots) pc' ls (w :: st)) : Go wd K₀ l Z R y bytes ml ret n0 kc ks Q h k n pc ls st₀ := by
  subst hst
  intro p e s0 s m args below meth c T L Bs C X hh N
  obtain ⟨hd, rfl⟩ := D
  have hZ := C.2.2.2.2.1
  obtain ⟨cq, kq, qa, qb, qc⟩ := isOf (T := T) hZ hh E
  obtain ⟨v, vm₁, ⟨B, Lb, kb, nb⟩, -, X', ⟨Lq, ⟨⟨hQ, hsz⟩, Ns⟩, e1, e2, e3⟩, st'⟩ := X.virtualBack C.1 (y := x') (z := y') C.2.2.2.1 (mvT hZ w1) (mvT hZ w5) (nf s hZ) (mvT hZ w6) (mvT hZ w2) hy (backOf (W := W) (Q := fun v h' L => ((R1 P) v h' ∧ h.size ≤ h'.size) ∧ Fr n0 L) (hM []) hZ w4 w3 hf hlo) qa qc (g := mkF m pc ls.toArray (argsL.reverse ++ .ref a :: st)) rfl
    (by rw [C.2.2.1]; simpa using hls) (Steps.refl _) (argsL := argsL) (rest := st) hlen rfl (by show 2 * 0 + _ ≤ W; rw [← hW]; omega) (hb C.2.1 hd) (fun _ _ => ⟨rfl, hh, hk, hn⟩)
  dsimp only [Pt.U, Pt.locs, Pt.cells, Pt.slots] at X' hQ hsz e1 e2 e3 st'
  subst e1 e2 e3
  obtain ⟨w, rfl, hP⟩ := hQ
  exact (G w B.heap hP p e s0 s m args below meth c B _ (Bs.mono hsz) C X' rfl (N.app Ns)).pre (fun t q => st'.trans q)
theorem go_callP1 {y' : MethodName} {b' : ByteArray} {m' : Nat} {r' : Option FieldType} {rm : Room} {idx W : Nat} {argsL : List Value} {P : Value → Heap → Prop} {K : String} {a : Addr} (D : Dc bytes pc (.invokevirtual idx) 3 pc') (hM : Con false l Z y' b' m' r' rm (.ref a :: argsL).toArray h n0 (R1 P)) (E : Exa Z h a K)
    (w1 : (Cond.methodLink y.cls idx y').before a0 Z = true) (w2 : (Cond.instanceMethod y').before a0 Z = true) {kk : Nat} (wi : (Cond.instantiable y'.cls kk).before a0 Z = true) (w5 : (Cond.privateMethod y').before a0 Z = true) (w3 : (Cond.initialized y'.cls).before a0 Z = true) (w4 : (Cond.code y' b' m' r').before a0 Z = true) (hy : y'.cls ≠ "java/lang/invoke/MethodHandle" ∧ y'.cls ≠ "java/lang/invoke/VarHandle")
    (hlen : ∀ sig, parseMethodDescriptor y'.desc = some sig → argsL.length = sig.parameters.length) {st₀ : List Value} (hst : st₀ = argsL.reverse ++ .ref a :: st) (hW : (st.map fun v => v.category).sum = W) (hf : rm.frames + 1 ≤ R.frames) (hlo : W + (m' + 11) + rm.locals ≤ R.locals) (hk : k + rm.cells ≤ R.cells) (hn : n + rm.slots ≤ R.slots) (hls : ls.length = ml)
    (G : ∀ w h', P w h' → Go wd K₀ l Z R y bytes ml ret n0 kc ks Q h' (k + rm.cells) (n + rm.slots) pc' ls (w :: st)) : Go wd K₀ l Z R y bytes ml ret n0 kc ks Q h k n pc ls st₀ := by
  subst hst
  intro p e s0 s m args below meth c T L Bs C X hh N
  obtain ⟨hd, rfl⟩ := D
  have hZ := C.2.2.2.2.1
  obtain ⟨cq, q1, q2⟩ := E.cell
  have wi' : (Cond.instantiable y'.cls kk).before args s = true := mvT hZ wi
  obtain ⟨c2, k2, i1, i2, -, i4, -⟩ := Cond.instantiable_spec wi'
  have hpa : s.PrivateAt y' := Cond.privateMethod_at (mvP hZ w5 (args := #[]))
  have w6 : (Cond.selects y'.cls y' y').before args s = true := selects_self_of_private i1 i2 (Bool.or_eq_false_iff.mp i4).1 hpa (mvT hZ w2) hy
  obtain ⟨v, vm₁, ⟨B, Lb, kb, nb⟩, -, X', ⟨Lq, ⟨⟨hQ, hsz⟩, Ns⟩, e1, e2, e3⟩, st'⟩ := X.privateBack C.1 (y := y') C.2.2.2.1 (mvT hZ w1) (mvT hZ w2) w6 hpa (mvT hZ w4) hy (backOf (W := W) (Q := fun v h' L => ((R1 P) v h' ∧ h.size ≤ h'.size) ∧ Fr n0 L) (hM []) hZ w4 w3 hf hlo) (g := mkF m pc ls.toArray (argsL.reverse ++ .ref a :: st)) rfl
    (by rw [C.2.2.1]; simpa using hls) (Steps.refl _) (a := a) (by rw [hh]; exact q1) q2 (argsL := argsL) (rest := st) hlen rfl (by show 2 * 0 + _ ≤ W; rw [← hW]; omega) (hb C.2.1 hd) (fun _ _ => ⟨rfl, hh, hk, hn⟩)
  dsimp only [Pt.U, Pt.locs, Pt.cells, Pt.slots] at X' hQ hsz e1 e2 e3 st'
  subst e1 e2 e3
  obtain ⟨w, rfl, hP⟩ := hQ
  exact (G w B.heap hP p e s0 s m args below meth c B _ (Bs.mono hsz) C X' rfl (N.app Ns)).pre (fun t q => st'.trans q)
theorem go_callS0 {y' : MethodName} {b' : ByteArray} {m' : Nat} {r' : Option FieldType} {rm : Room} {idx W : Nat} {argsL : List Value} {P : Heap → Prop} (D : Dc bytes pc (.invokestatic idx) 3 pc') (hM : Con false l Z y' b' m' r' rm argsL.toArray h n0 (R0 P))
    (w1 : (Cond.methodLink y.cls idx y').before a0 Z = true) (w2 : (Cond.static y').before a0 Z = true) (w3 : (Cond.initialized y'.cls).before a0 Z = true) (w4 : (Cond.code y' b' m' r').before a0 Z = true) (hy : y'.cls ≠ "java/lang/invoke/MethodHandle" ∧ y'.cls ≠ "java/lang/invoke/VarHandle")
    (hlen : ∀ sig, parseMethodDescriptor y'.desc = some sig → argsL.length = sig.parameters.length) {st₀ : List Value} (hst : st₀ = argsL.reverse ++ st) (hW : (st.map fun v => v.category).sum = W) (hf : rm.frames + 1 ≤ R.frames) (hlo : W + (m' + 11) + rm.locals ≤ R.locals) (hk : k + rm.cells ≤ R.cells) (hn : n + rm.slots ≤ R.slots) (hls : ls.length = ml)
    (G : ∀ h', P h' → Go wd K₀ l Z R y bytes ml ret n0 kc ks Q h' (k + rm.cells) (n + rm.slots) pc' ls st) : Go wd K₀ l Z R y bytes ml ret n0 kc ks Q h k n pc ls st₀ := by
  subst hst
  intro p e s0 s m args below meth c T L Bs C X hh N
  obtain ⟨hd, rfl⟩ := D
  have hZ := C.2.2.2.2.1
  obtain ⟨v, vm₁, ⟨B, Lb, kb, nb⟩, -, X', ⟨Lq, ⟨⟨hQ, hsz⟩, Ns⟩, e1, e2, e3⟩, st'⟩ := Jvm.LawKit.callS X C.1 (y := y') C.2.2.2.1 (mvT hZ w1) (mvT hZ w2) (mvT hZ w3) (mvT hZ w4) hy (backOf (W := W) (Q := fun v h' L => ((R0 P) v h' ∧ h.size ≤ h'.size) ∧ Fr n0 L) (hM []) hZ w4 w3 hf hlo) (g := mkF m pc ls.toArray (argsL.reverse ++ st)) rfl
    (by rw [C.2.2.1]; simpa using hls) (argsL := argsL) (rest := st) hlen rfl (by show 2 * 0 + _ ≤ W; rw [← hW]; omega) (hb C.2.1 hd) (fun _ _ => ⟨rfl, hh, hk, hn⟩)
  dsimp only [Pt.U, Pt.locs, Pt.cells, Pt.slots] at X' hQ hsz e1 e2 e3 st'
  subst e1 e2 e3
  obtain ⟨rfl, hP⟩ := hQ
  exact (G B.heap hP p e s0 s m args below meth c B _ (Bs.mono hsz) C X' rfl (N.app Ns)).pre st'
theorem go_callN0 {y' : MethodName} {b' : ByteArray} {m' : Nat} {r' : Option FieldType} {rm : Room} {idx W : Nat} {argsL : List Value} {P : Heap → Prop} {a : Addr} (D : Dc bytes pc (.invokespecial idx) 3 pc') (hi : y'.name = "<init>") (hr' : r' = none) (hM : Con false l Z y' b' m' r' rm (.ref a :: argsL).toArray h n0 (R0 P))
    (w1 : (Cond.methodLink y.cls idx y').before a0 Z = true) (w2 : (Cond.instanceMethod y').before a0 Z = true) (w3 : (Cond.initialized y'.cls).before a0 Z = true) (w4 : (Cond.code y' b' m' r').before a0 Z = true) (hy : y'.cls ≠ "java/lang/invoke/MethodHandle" ∧ y'.cls ≠ "java/lang/invoke/VarHandle")
    (hlen : ∀ sig, parseMethodDescriptor y'.desc = some sig → argsL.length = sig.parameters.length) {st₀ : List Value} (hst : st₀ = argsL.reverse ++ .ref a :: st) (hW : (st.map fun v => v.category).sum = W) (hf : rm.frames + 1 ≤ R.frames) (hlo : W + (m' + 11) + rm.locals ≤ R.locals) (hk : k + rm.cells ≤ R.cells) (hn : n + rm.slots ≤ R.slots) (hls : ls.length = ml)
    (G : ∀ h', P h' → Go wd K₀ l Z R y bytes ml ret n0 kc ks Q h' (k + rm.cells) (n + rm.slots) pc' ls st) : Go wd K₀ l Z R y bytes ml ret n0 kc ks Q h k n pc ls st₀ := by
  subst hst hr'
  intro p e s0 s m args below meth c T L Bs C X hh N
  obtain ⟨hd, rfl⟩ := D
  have hZ := C.2.2.2.2.1
  obtain ⟨v, vm₁, ⟨B, Lb, kb, nb⟩, -, X', ⟨Lq, ⟨⟨hQ, hsz⟩, Ns⟩, e1, e2, e3⟩, st'⟩ := X.specialBack C.1 (y := y') hi C.2.2.2.1 (mvT hZ w1) (mvT hZ w2) (mvT hZ w4) hy (backOf (W := W) (Q := fun v h' L => ((R0 P) v h' ∧ h.size ≤ h'.size) ∧ Fr n0 L) (hM []) hZ w4 w3 hf hlo) (g := mkF m pc ls.toArray (argsL.reverse ++ .ref a :: st)) rfl
    (by rw [C.2.2.1]; simpa using hls) (Steps.refl _) (a := a) (argsL := argsL) (rest := st) hlen rfl (by show 2 * 0 + _ ≤ W; rw [← hW]; omega) (hb C.2.1 hd) (fun _ _ => ⟨rfl, hh, hk, hn⟩)
  dsimp only [Pt.U, Pt.locs, Pt.cells, Pt.slots] at X' hQ hsz e1 e2 e3 st'
  subst e1 e2 e3
  obtain ⟨rfl, hP⟩ := hQ
  exact (G B.heap hP p e s0 s m args below meth c B _ (Bs.mono hsz) C X' rfl (N.app Ns)).pre (fun t q => st'.trans q)
theorem go_callV0 {y' : MethodName} {b' : ByteArray} {m' : Nat} {r' : Option FieldType} {rm : Room} {idx W : Nat} {argsL : List Value} {P : Heap → Prop} {x' : MethodName} {K : String} {a : Addr} (D : Dc bytes pc (.invokevirtual idx) 3 pc') (hM : Con false l Z y' b' m' r' rm (.ref a :: argsL).toArray h n0 (R0 P)) (E : Exa Z h a K)
    (w1 : (Cond.methodLink y.cls idx x').before a0 Z = true) (w5 : (Cond.declares x').before a0 Z = true) (nf : ∀ s : State, Z.Warmed39 s.vm → NotFace s x') (w6 : (Cond.selects K x' y').before a0 Z = true) (w2 : (Cond.instanceMethod y').before a0 Z = true) (w3 : (Cond.initialized y'.cls).before a0 Z = true) (w4 : (Cond.code y' b' m' r').before a0 Z = true)
    (hy : x'.cls ≠ "java/lang/invoke/MethodHandle" ∧ x'.cls ≠ "java/lang/invoke/VarHandle") (hlen : ∀ sig, parseMethodDescriptor x'.desc = some sig → argsL.length = sig.parameters.length) {st₀ : List Value} (hst : st₀ = argsL.reverse ++ .ref a :: st) (hW : (st.map fun v => v.category).sum = W) (hf : rm.frames + 1 ≤ R.frames) (hlo : W + (m' + 11) + rm.locals ≤ R.locals) (hk : k + rm.cells ≤ R.cells) (hn : n + rm.slots ≤ R.slots) (hls : ls.length = ml)
    (G : ∀ h', P h' → Go wd K₀ l Z R y bytes ml ret n0 kc ks Q h' (k + rm.cells) (n + rm.slots) pc' ls st) : Go wd K₀ l Z R y bytes ml ret n0 kc ks Q h k n pc ls st₀ := by
  subst hst
  intro p e s0 s m args below meth c T L Bs C X hh N
  obtain ⟨hd, rfl⟩ := D
  have hZ := C.2.2.2.2.1
  obtain ⟨cq, kq, qa, qb, qc⟩ := isOf (T := T) hZ hh E
  obtain ⟨v, vm₁, ⟨B, Lb, kb, nb⟩, -, X', ⟨Lq, ⟨⟨hQ, hsz⟩, Ns⟩, e1, e2, e3⟩, st'⟩ := X.virtualBack C.1 (y := x') (z := y') C.2.2.2.1 (mvT hZ w1) (mvT hZ w5) (nf s hZ) (mvT hZ w6) (mvT hZ w2) hy (backOf (W := W) (Q := fun v h' L => ((R0 P) v h' ∧ h.size ≤ h'.size) ∧ Fr n0 L) (hM []) hZ w4 w3 hf hlo) qa qc (g := mkF m pc ls.toArray (argsL.reverse ++ .ref a :: st)) rfl
    (by rw [C.2.2.1]; simpa using hls) (Steps.refl _) (argsL := argsL) (rest := st) hlen rfl (by show 2 * 0 + _ ≤ W; rw [← hW]; omega) (hb C.2.1 hd) (fun _ _ => ⟨rfl, hh, hk, hn⟩)
  dsimp only [Pt.U, Pt.locs, Pt.cells, Pt.slots] at X' hQ hsz e1 e2 e3 st'
  subst e1 e2 e3
  obtain ⟨rfl, hP⟩ := hQ
  exact (G B.heap hP p e s0 s m args below meth c B _ (Bs.mono hsz) C X' rfl (N.app Ns)).pre (fun t q => st'.trans q)
theorem go_callP0 {y' : MethodName} {b' : ByteArray} {m' : Nat} {r' : Option FieldType} {rm : Room} {idx W : Nat} {argsL : List Value} {P : Heap → Prop} {K : String} {a : Addr} (D : Dc bytes pc (.invokevirtual idx) 3 pc') (hM : Con false l Z y' b' m' r' rm (.ref a :: argsL).toArray h n0 (R0 P)) (E : Exa Z h a K)
    (w1 : (Cond.methodLink y.cls idx y').before a0 Z = true) (w2 : (Cond.instanceMethod y').before a0 Z = true) {kk : Nat} (wi : (Cond.instantiable y'.cls kk).before a0 Z = true) (w5 : (Cond.privateMethod y').before a0 Z = true) (w3 : (Cond.initialized y'.cls).before a0 Z = true) (w4 : (Cond.code y' b' m' r').before a0 Z = true) (hy : y'.cls ≠ "java/lang/invoke/MethodHandle" ∧ y'.cls ≠ "java/lang/invoke/VarHandle")
    (hlen : ∀ sig, parseMethodDescriptor y'.desc = some sig → argsL.length = sig.parameters.length) {st₀ : List Value} (hst : st₀ = argsL.reverse ++ .ref a :: st) (hW : (st.map fun v => v.category).sum = W) (hf : rm.frames + 1 ≤ R.frames) (hlo : W + (m' + 11) + rm.locals ≤ R.locals) (hk : k + rm.cells ≤ R.cells) (hn : n + rm.slots ≤ R.slots) (hls : ls.length = ml)
    (G : ∀ h', P h' → Go wd K₀ l Z R y bytes ml ret n0 kc ks Q h' (k + rm.cells) (n + rm.slots) pc' ls st) : Go wd K₀ l Z R y bytes ml ret n0 kc ks Q h k n pc ls st₀ := by
  subst hst
  intro p e s0 s m args below meth c T L Bs C X hh N
  obtain ⟨hd, rfl⟩ := D
  have hZ := C.2.2.2.2.1
  obtain ⟨cq, q1, q2⟩ := E.cell
  have wi' : (Cond.instantiable y'.cls kk).before args s = true := mvT hZ wi
  obtain ⟨c2, k2, i1, i2, -, i4, -⟩ := Cond.instantiable_spec wi'
  have hpa : s.PrivateAt y' := Cond.privateMethod_at (mvP hZ w5 (args := #[]))
  have w6 : (Cond.selects y'.cls y' y').before args s = true := selects_self_of_private i1 i2 (Bool.or_eq_false_iff.mp i4).1 hpa (mvT hZ w2) hy
  obtain ⟨v, vm₁, ⟨B, Lb, kb, nb⟩, -, X', ⟨Lq, ⟨⟨hQ, hsz⟩, Ns⟩, e1, e2, e3⟩, st'⟩ := X.privateBack C.1 (y := y') C.2.2.2.1 (mvT hZ w1) (mvT hZ w2) w6 hpa (mvT hZ w4) hy (backOf (W := W) (Q := fun v h' L => ((R0 P) v h' ∧ h.size ≤ h'.size) ∧ Fr n0 L) (hM []) hZ w4 w3 hf hlo) (g := mkF m pc ls.toArray (argsL.reverse ++ .ref a :: st)) rfl
    (by rw [C.2.2.1]; simpa using hls) (Steps.refl _) (a := a) (by rw [hh]; exact q1) q2 (argsL := argsL) (rest := st) hlen rfl (by show 2 * 0 + _ ≤ W; rw [← hW]; omega) (hb C.2.1 hd) (fun _ _ => ⟨rfl, hh, hk, hn⟩)
  dsimp only [Pt.U, Pt.locs, Pt.cells, Pt.slots] at X' hQ hsz e1 e2 e3 st'
  subst e1 e2 e3
  obtain ⟨rfl, hP⟩ := hQ
  exact (G B.heap hP p e s0 s m args below meth c B _ (Bs.mono hsz) C X' rfl (N.app Ns)).pre (fun t q => st'.trans q)
theorem Base.since {s0 s : State} {vm' : Vm} {h' : Heap} (B : Base true s0 s h) (q : s.Since vm' h'.size) (g : h.size ≤ h'.size) : Base true s0 (s.setVm vm') h' := by
  obtain ⟨vm0, k0, rfl, hS, hk⟩ := B
  exact ⟨vm', h'.size, rfl, hS.trans q (Nat.le_trans hk g), Nat.le_refl _⟩
theorem Ctx.since {p : Program} {s : State} {m : MethodId} {meth : Method} {c : Code} {vm' : Vm} {k' : Nat} (C : Ctx K₀ Z y bytes ml ret p s m meth c) (q : s.Since vm' k') : Ctx KT Z y bytes ml ret p (s.setVm vm') m meth c :=
  ⟨C.1, C.2.1, C.2.2.1, by rw [show (s.setVm vm').vm = vm' from rfl, q.1.alike.findClass]; exact C.2.2.2.1, State.Warmed39.trans C.2.2.2.2.1 q.1, C.2.2.2.2.2.1, C.2.2.2.2.2.2.1, C.2.2.2.2.2.2.2.1, trivial⟩
theorem go_ldcS {idx nn : Nat} {text : String} (D : Dc bytes pc (.ldc idx) 2 pc') (w : (Cond.stringLink y.cls idx text).before a0 Z = true) (wS : ∀ a ∈ Bundle.stringAtoms, a.before a0 Z = true) (hn : 4 * text.toList.length ≤ nn) (hbig : nn ≤ 536870912) (hc : k + 2 ≤ R.cells) (hl : n + (nn + 4) ≤ R.slots)
    (G : ∀ (a : Addr) h', Ext h h' → Go true KT l Z R y bytes ml ret n0 kc ks Q h' (k + 2) (n + (nn + 4)) pc' ls (.ref a :: st)) : Go true K₀ l Z R y bytes ml ret n0 kc ks Q h k n pc ls st := by
  intro p e s0 s m args below meth c T L Bs C X hh N
  obtain ⟨hd, rfl⟩ := D
  obtain ⟨vm0, k0, rfl, hS, hk⟩ := Bs
  obtain ⟨a, T', h', k1, X', e', E, hS', hk', hZ', hf', st'⟩ := ldcS X C.1 C.2.2.2.2.1 C.2.2.2.1 w wS hh hS hk (g := mkF m pc ls.toArray st) rfl (hb C.2.1 hd) hn hbig hc hl
  exact (G a h' E p e s0 _ m args below meth c T' L ⟨_, k1, rfl, hS', hk'⟩ ⟨C.1, C.2.1, C.2.2.1, hf', hZ', C.2.2.2.2.2.1, C.2.2.2.2.2.2.1, C.2.2.2.2.2.2.2.1, trivial⟩ X' e' N).pre st'
theorem go_K (G : Go true KT l Z R y bytes ml ret n0 kc ks Q h k n pc ls st) : Go true K₀ l Z R y bytes ml ret n0 kc ks Q h k n pc ls st := fun p e s0 s m args below meth c T L B C X hh N => G p e s0 s m args below meth c T L B ⟨C.1, C.2.1, C.2.2.1, C.2.2.2.1, C.2.2.2.2.1, C.2.2.2.2.2.1, C.2.2.2.2.2.2.1, C.2.2.2.2.2.2.2.1, trivial⟩ X hh N
theorem go_ldcV {idx nn : Nat} {text : String} {vs : List Value} {z : Int32} (D : Dc bytes pc (.ldc idx) 2 pc') (w : (Cond.stringLink y.cls idx text).before a0 Z = true) (wS : ∀ a ∈ Bundle.stringAtoms, a.before a0 Z = true) (hld : Jvm.Lit.constHeld Z y.cls idx) (hcw : Jvm.Lit.compactW.before a0 Z = true)
    (ht : (∀ c ∈ text.toList, c.toNat < 256) ∧ text.toList.map (fun c => Value.int (Jvm.Lit.byteI c.toNat.toUInt16)) = vs) (hz : ¬ z < 0) (hlv : z.toNatClampNeg = vs.length) (hn : 4 * text.toList.length ≤ nn) (hbig : nn ≤ 536870912) (hc : k + 2 ≤ R.cells) (hl : n + (nn + 4) ≤ R.slots) (hn0 : Z.heap.size = n0)
    (G : ∀ (a b : Addr) (kb : ClassId) h', Ext h h' → Exa Z h' a "java/lang/String" → Fld Z h' a "java/lang/String" "coder" "B" (.int 0) → Fld Z h' a "java/lang/String" "value" "[B" (.ref b) → Arv Z h' b kb .byte z vs (.int 0) → Go true KT l Z R y bytes ml ret n0 kc ks Q h' (k + 2) (n + (nn + 4)) pc' ls (.ref a :: st)) : Go true (fun s => s = Z) l Z R y bytes ml ret n0 kc ks Q h k n pc ls st := by
  intro p e s0 s m args below meth c T L Bs C X hh N
  obtain ⟨hd, rfl⟩ := D
  obtain ⟨vm0, k0, rfl, hS, hk⟩ := Bs
  have hZs : s0.setVm vm0 = Z := C.2.2.2.2.2.2.2.2
  subst hZs
  obtain ⟨a, T', h', k1, b, kb, X', e', E, hS', hk', hZ', hf', F1, F2, F3, F4, -, -, -, -, st'⟩ := ldcSVL (Z := s0.setVm vm0) (s := s0) (vm0 := vm0) (Ts := []) X C.1 C.2.2.2.2.1 C.2.2.2.1 w wS hh hS hk (hn0 ▸ N) (fun _ _ q => q) IB.start (by simp) hld hcw ht hz hlv (g := mkF m pc ls.toArray st) rfl (hb C.2.1 hd) hn hbig hc hl
  exact (G a b kb h' E F1 F2 F3 F4 p e s0 _ m args below meth c T' L ⟨_, k1, rfl, hS', hk'⟩ ⟨C.1, C.2.1, C.2.2.1, hf', hZ', C.2.2.2.2.2.1, C.2.2.2.2.2.2.1, C.2.2.2.2.2.2.2.1, trivial⟩ X' e' N).pre st'
theorem con_ofZ {as' : Array Value} (hp : plainFor y = true) (he : Jvm.Sym.laidSlots as'.toList ++ List.replicate (ml - (Jvm.Sym.laidSlots as'.toList).length) .unset = ls) (G : Go wd (fun s => s = Z) l Z R y bytes ml ret n0 R.cells R.slots Q Z.heap 0 0 0 ls []) (ws : List Cond) :
    MetFree l y (head1 (Cond.code y bytes ml ret :: ws) R) (fun a U => a = as' ∧ U = Z) (fun _ _ _ _ _ => True) (fun _ U o U' => ∃ v L, o = .returned v ∧ ((Q v U'.heap ∧ Z.heap.size ≤ U'.heap.size) ∧ Fr n0 L) ∧ EndK wd U o U' L R.cells R.slots) := by
  refine MetFree.of_bodySF hp hisR ?_
  intro p e s m args below meth c s₁ Bd hml hP hK
  obtain ⟨rfl, hZ⟩ := hP
  subst hZ
  have X0 : Stand p l e R s m args below meth c s₁ [] 0 0 := Stand.of_body Bd
  have e0 : s₁.heap = s.heap := by rw [Bd.state]; rfl
  obtain ⟨s₂, o, h1, h2, h3, v, L, e1, ⟨q1, q2⟩, q3⟩ := G p e s s m args below meth c s₁ [] (Base.start s rfl) ⟨Bd.exec, Bd.bytes, hml, findClass_of_methodNamed Bd.named, State.Warmed39.refl s, Bd.returns, Bd.notSynchronized, (name_of_methodNamed Bd.named Bd.method).1, rfl⟩ X0 e0 (Fr.nil n0)
  exact ⟨s₂, o, (XT.entry (Ls := ls.toArray) (by simpa using he)).trans h1, h2, h3, v, L, e1, ⟨⟨q1, q3.size⟩, q2⟩, q3⟩
theorem go_cast {idx : Nat} {C0 : String} {a : Addr} (D : Dc bytes pc (.checkcast idx) 3 pc') (w : (Cond.classLink y.cls idx C0).before a0 Z = true) (F : Ins Z h a C0 true) (G : Go wd K₀ l Z R y bytes ml ret n0 kc ks Q h k n pc' ls (.ref a :: st)) : Go wd K₀ l Z R y bytes ml ret n0 kc ks Q h k n pc ls (.ref a :: st) := by
  intro p e s0 s m args below meth c T L Bs C X hh N
  obtain ⟨hd, rfl⟩ := D
  obtain ⟨T', X', e', st'⟩ := castY X C.1 C.2.2.2.2.1 C.2.2.2.1 w hh F (g := mkF m pc ls.toArray (.ref a :: st)) rfl rfl (hb C.2.1 hd)
  exact (G p e s0 s m args below meth c T' L Bs C X' e' N).pre st'
theorem go_inst {idx : Nat} {C0 : String} {a : Addr} (D : Dc bytes pc (.instanceof idx) 3 pc') (w : (Cond.classLink y.cls idx C0).before a0 Z = true) (F : Ins Z h a C0 true) (G : Go wd K₀ l Z R y bytes ml ret n0 kc ks Q h k n pc' ls (.int 1 :: st)) : Go wd K₀ l Z R y bytes ml ret n0 kc ks Q h k n pc ls (.ref a :: st) := by
  intro p e s0 s m args below meth c T L Bs C X hh N
  obtain ⟨hd, rfl⟩ := D
  obtain ⟨T', X', e', st'⟩ := instY X C.1 C.2.2.2.2.1 C.2.2.2.1 w hh F (g := mkF m pc ls.toArray (.ref a :: st)) rfl rfl (hb C.2.1 hd)
  exact (G p e s0 s m args below meth c T' L Bs C X' e' N).pre st'
theorem go_wcallS1 {y' : MethodName} {b' : ByteArray} {m' : Nat} {r' : Option FieldType} {rm : Room} {idx W : Nat} {argsL : List Value} {P : Value → Heap → Prop} (D : Dc bytes pc (.invokestatic idx) 3 pc') (hM : Con true l Z y' b' m' r' rm argsL.toArray h n0 (R1 P))
    (w1 : (Cond.methodLink y.cls idx y').before a0 Z = true) (w2 : (Cond.static y').before a0 Z = true) (w3 : (Cond.initialized y'.cls).before a0 Z = true) (w4 : (Cond.code y' b' m' r').before a0 Z = true) (hy : y'.cls ≠ "java/lang/invoke/MethodHandle" ∧ y'.cls ≠ "java/lang/invoke/VarHandle")
    (hlen : ∀ sig, parseMethodDescriptor y'.desc = some sig → argsL.length = sig.parameters.length) {st₀ : List Value} (hst : st₀ = argsL.reverse ++ st) (hW : (st.map fun v => v.category).sum = W) (hf : rm.frames + 1 ≤ R.frames) (hlo : W + (m' + 11) + rm.locals ≤ R.locals) (hk : k + rm.cells ≤ R.cells) (hn : n + rm.slots ≤ R.slots) (hls : ls.length = ml)
    (G : ∀ w h', P w h' → Go true KT l Z R y bytes ml ret n0 kc ks Q h' (k + rm.cells) (n + rm.slots) pc' ls (w :: st)) : Go true K₀ l Z R y bytes ml ret n0 kc ks Q h k n pc ls st₀ := by
  subst hst
  intro p e s0 s m args below meth c T L Bs C X hh N
  obtain ⟨hd, rfl⟩ := D
  have hZ := C.2.2.2.2.1
  obtain ⟨v, vm₁, ⟨B, Lb, kb, nb⟩, -, X', hSi, -, ⟨Lq, ⟨⟨hQ, hsz⟩, Ns⟩, e1, e2, e3⟩, st'⟩ := callSS X C.1 (y := y') C.2.2.2.1 (mvT hZ w1) (mvT hZ w2) (mvT hZ w3) (mvT hZ w4) hy (backOfS (W := W) (Q := fun v h' L => ((R1 P) v h' ∧ h.size ≤ h'.size) ∧ Fr n0 L) (hM []) hZ w4 w3 hf hlo) (g := mkF m pc ls.toArray (argsL.reverse ++ st)) rfl
    (by rw [C.2.2.1]; simpa using hls) (argsL := argsL) (rest := st) hlen rfl (by show 2 * 0 + _ ≤ W; rw [← hW]; omega) (hb C.2.1 hd) (fun _ _ => ⟨rfl, hh, hk, hn⟩)
  dsimp only [Pt.U, Pt.locs, Pt.cells, Pt.slots] at X' hSi hQ hsz e1 e2 e3 st'
  subst e1 e2 e3
  obtain ⟨w, rfl, hP⟩ := hQ
  exact (G w B.heap hP p e s0 _ m args below meth c B _ (Bs.since hSi hsz) (C.since hSi) X' rfl (N.app Ns)).pre (fun t q => st'.trans q)
theorem go_wcallV1 {y' : MethodName} {b' : ByteArray} {m' : Nat} {r' : Option FieldType} {rm : Room} {idx W : Nat} {argsL : List Value} {P : Value → Heap → Prop} {x' : MethodName} {K : String} {a : Addr} (D : Dc bytes pc (.invokevirtual idx) 3 pc') (hM : Con true l Z y' b' m' r' rm (.ref a :: argsL).toArray h n0 (R1 P)) (E : Exa Z h a K)
    (w1 : (Cond.methodLink y.cls idx x').before a0 Z = true) (w5 : (Cond.declares x').before a0 Z = true) (nf : ∀ s : State, Z.Warmed39 s.vm → NotFace s x') (w6 : (Cond.selects K x' y').before a0 Z = true) (w2 : (Cond.instanceMethod y').before a0 Z = true) (w3 : (Cond.initialized y'.cls).before a0 Z = true) (w4 : (Cond.code y' b' m' r').before a0 Z = true)
    (hy : x'.cls ≠ "java/lang/invoke/MethodHandle" ∧ x'.cls ≠ "java/lang/invoke/VarHandle") (hlen : ∀ sig, parseMethodDescriptor x'.desc = some sig → argsL.length = sig.parameters.length) {st₀ : List Value} (hst : st₀ = argsL.reverse ++ .ref a :: st) (hW : (st.map fun v => v.category).sum = W) (hf : rm.frames + 1 ≤ R.frames) (hlo : W + (m' + 11) + rm.locals ≤ R.locals) (hk : k + rm.cells ≤ R.cells) (hn : n + rm.slots ≤ R.slots) (hls : ls.length = ml)
    (G : ∀ w h', P w h' → Go true KT l Z R y bytes ml ret n0 kc ks Q h' (k + rm.cells) (n + rm.slots) pc' ls (w :: st)) : Go true K₀ l Z R y bytes ml ret n0 kc ks Q h k n pc ls st₀ := by
  subst hst
  intro p e s0 s m args below meth c T L Bs C X hh N
  obtain ⟨hd, rfl⟩ := D
  have hZ := C.2.2.2.2.1
  obtain ⟨cq, kq, qa, qb, qc⟩ := isOf (T := T) hZ hh E
  obtain ⟨v, vm₁, ⟨B, Lb, kb, nb⟩, -, X', hSi, -, ⟨Lq, ⟨⟨hQ, hsz⟩, Ns⟩, e1, e2, e3⟩, st'⟩ := X.virtualBackS C.1 (y := x') (z := y') C.2.2.2.1 (mvT hZ w1) (mvT hZ w5) (nf s hZ) (mvT hZ w6) (mvT hZ w2) hy (backOfS (W := W) (Q := fun v h' L => ((R1 P) v h' ∧ h.size ≤ h'.size) ∧ Fr n0 L) (hM []) hZ w4 w3 hf hlo) qa qc (g := mkF m pc ls.toArray (argsL.reverse ++ .ref a :: st)) rfl
    (by rw [C.2.2.1]; simpa using hls) (Steps.refl _) (argsL := argsL) (rest := st) hlen rfl (by show 2 * 0 + _ ≤ W; rw [← hW]; omega) (hb C.2.1 hd) (fun _ _ => ⟨rfl, hh, hk, hn⟩)
  dsimp only [Pt.U, Pt.locs, Pt.cells, Pt.slots] at X' hSi hQ hsz e1 e2 e3 st'
  subst e1 e2 e3
  obtain ⟨w, rfl, hP⟩ := hQ
  exact (G w B.heap hP p e s0 _ m args below meth c B _ (Bs.since hSi hsz) (C.since hSi) X' rfl (N.app Ns)).pre (fun t q => st'.trans q)
theorem go_wcallP1 {y' : MethodName} {b' : ByteArray} {m' : Nat} {r' : Option FieldType} {rm : Room} {idx W : Nat} {argsL : List Value} {P : Value → Heap → Prop} {K : String} {a : Addr} (D : Dc bytes pc (.invokevirtual idx) 3 pc') (hM : Con true l Z y' b' m' r' rm (.ref a :: argsL).toArray h n0 (R1 P)) (E : Exa Z h a K)
    (w1 : (Cond.methodLink y.cls idx y').before a0 Z = true) (w2 : (Cond.instanceMethod y').before a0 Z = true) {kk : Nat} (wi : (Cond.instantiable y'.cls kk).before a0 Z = true) (w5 : (Cond.privateMethod y').before a0 Z = true) (w3 : (Cond.initialized y'.cls).before a0 Z = true) (w4 : (Cond.code y' b' m' r').before a0 Z = true) (hy : y'.cls ≠ "java/lang/invoke/MethodHandle" ∧ y'.cls ≠ "java/lang/invoke/VarHandle")
    (hlen : ∀ sig, parseMethodDescriptor y'.desc = some sig → argsL.length = sig.parameters.length) {st₀ : List Value} (hst : st₀ = argsL.reverse ++ .ref a :: st) (hW : (st.map fun v => v.category).sum = W) (hf : rm.frames + 1 ≤ R.frames) (hlo : W + (m' + 11) + rm.locals ≤ R.locals) (hk : k + rm.cells ≤ R.cells) (hn : n + rm.slots ≤ R.slots) (hls : ls.length = ml)
    (G : ∀ w h', P w h' → Go true KT l Z R y bytes ml ret n0 kc ks Q h' (k + rm.cells) (n + rm.slots) pc' ls (w :: st)) : Go true K₀ l Z R y bytes ml ret n0 kc ks Q h k n pc ls st₀ := by
  subst hst
  intro p e s0 s m args below meth c T L Bs C X hh N
  obtain ⟨hd, rfl⟩ := D
  have hZ := C.2.2.2.2.1
  obtain ⟨cq, q1, q2⟩ := E.cell
  have wi' : (Cond.instantiable y'.cls kk).before args s = true := mvT hZ wi
  obtain ⟨c2, k2, i1, i2, -, i4, -⟩ := Cond.instantiable_spec wi'
  have hpa : s.PrivateAt y' := Cond.privateMethod_at (mvP hZ w5 (args := #[]))
  have w6 : (Cond.selects y'.cls y' y').before args s = true := selects_self_of_private i1 i2 (Bool.or_eq_false_iff.mp i4).1 hpa (mvT hZ w2) hy
  obtain ⟨v, vm₁, ⟨B, Lb, kb, nb⟩, -, X', hSi, -, ⟨Lq, ⟨⟨hQ, hsz⟩, Ns⟩, e1, e2, e3⟩, st'⟩ := X.privateBackS C.1 (y := y') C.2.2.2.1 (mvT hZ w1) (mvT hZ w2) w6 hpa (mvT hZ w4) hy (backOfS (W := W) (Q := fun v h' L => ((R1 P) v h' ∧ h.size ≤ h'.size) ∧ Fr n0 L) (hM []) hZ w4 w3 hf hlo) (g := mkF m pc ls.toArray (argsL.reverse ++ .ref a :: st)) rfl
    (by rw [C.2.2.1]; simpa using hls) (Steps.refl _) (a := a) (by rw [hh]; exact q1) q2 (argsL := argsL) (rest := st) hlen rfl (by show 2 * 0 + _ ≤ W; rw [← hW]; omega) (hb C.2.1 hd) (fun _ _ => ⟨rfl, hh, hk, hn⟩)
  dsimp only [Pt.U, Pt.locs, Pt.cells, Pt.slots] at X' hSi hQ hsz e1 e2 e3 st'
  subst e1 e2 e3
  obtain ⟨w, rfl, hP⟩ := hQ
  exact (G w B.heap hP p e s0 _ m args below meth c B _ (Bs.since hSi hsz) (C.since hSi) X' rfl (N.app Ns)).pre (fun t q => st'.trans q)
theorem go_wcallS0 {y' : MethodName} {b' : ByteArray} {m' : Nat} {r' : Option FieldType} {rm : Room} {idx W : Nat} {argsL : List Value} {P : Heap → Prop} (D : Dc bytes pc (.invokestatic idx) 3 pc') (hM : Con true l Z y' b' m' r' rm argsL.toArray h n0 (R0 P))
    (w1 : (Cond.methodLink y.cls idx y').before a0 Z = true) (w2 : (Cond.static y').before a0 Z = true) (w3 : (Cond.initialized y'.cls).before a0 Z = true) (w4 : (Cond.code y' b' m' r').before a0 Z = true) (hy : y'.cls ≠ "java/lang/invoke/MethodHandle" ∧ y'.cls ≠ "java/lang/invoke/VarHandle")
    (hlen : ∀ sig, parseMethodDescriptor y'.desc = some sig → argsL.length = sig.parameters.length) {st₀ : List Value} (hst : st₀ = argsL.reverse ++ st) (hW : (st.map fun v => v.category).sum = W) (hf : rm.frames + 1 ≤ R.frames) (hlo : W + (m' + 11) + rm.locals ≤ R.locals) (hk : k + rm.cells ≤ R.cells) (hn : n + rm.slots ≤ R.slots) (hls : ls.length = ml)
    (G : ∀ h', P h' → Go true KT l Z R y bytes ml ret n0 kc ks Q h' (k + rm.cells) (n + rm.slots) pc' ls st) : Go true K₀ l Z R y bytes ml ret n0 kc ks Q h k n pc ls st₀ := by
  subst hst
  intro p e s0 s m args below meth c T L Bs C X hh N
  obtain ⟨hd, rfl⟩ := D
  have hZ := C.2.2.2.2.1
  obtain ⟨v, vm₁, ⟨B, Lb, kb, nb⟩, -, X', hSi, -, ⟨Lq, ⟨⟨hQ, hsz⟩, Ns⟩, e1, e2, e3⟩, st'⟩ := callSS X C.1 (y := y') C.2.2.2.1 (mvT hZ w1) (mvT hZ w2) (mvT hZ w3) (mvT hZ w4) hy (backOfS (W := W) (Q := fun v h' L => ((R0 P) v h' ∧ h.size ≤ h'.size) ∧ Fr n0 L) (hM []) hZ w4 w3 hf hlo) (g := mkF m pc ls.toArray (argsL.reverse ++ st)) rfl
    (by rw [C.2.2.1]; simpa using hls) (argsL := argsL) (rest := st) hlen rfl (by show 2 * 0 + _ ≤ W; rw [← hW]; omega) (hb C.2.1 hd) (fun _ _ => ⟨rfl, hh, hk, hn⟩)
  dsimp only [Pt.U, Pt.locs, Pt.cells, Pt.slots] at X' hSi hQ hsz e1 e2 e3 st'
  subst e1 e2 e3
  obtain ⟨rfl, hP⟩ := hQ
  exact (G B.heap hP p e s0 _ m args below meth c B _ (Bs.since hSi hsz) (C.since hSi) X' rfl (N.app Ns)).pre (fun t q => st'.trans q)
theorem go_wcallN0 {y' : MethodName} {b' : ByteArray} {m' : Nat} {r' : Option FieldType} {rm : Room} {idx W : Nat} {argsL : List Value} {P : Heap → Prop} {a : Addr} (D : Dc bytes pc (.invokespecial idx) 3 pc') (hi : y'.name = "<init>") (hr' : r' = none) (hM : Con true l Z y' b' m' r' rm (.ref a :: argsL).toArray h n0 (R0 P))
    (w1 : (Cond.methodLink y.cls idx y').before a0 Z = true) (w2 : (Cond.instanceMethod y').before a0 Z = true) (w3 : (Cond.initialized y'.cls).before a0 Z = true) (w4 : (Cond.code y' b' m' r').before a0 Z = true) (hy : y'.cls ≠ "java/lang/invoke/MethodHandle" ∧ y'.cls ≠ "java/lang/invoke/VarHandle")
    (hlen : ∀ sig, parseMethodDescriptor y'.desc = some sig → argsL.length = sig.parameters.length) {st₀ : List Value} (hst : st₀ = argsL.reverse ++ .ref a :: st) (hW : (st.map fun v => v.category).sum = W) (hf : rm.frames + 1 ≤ R.frames) (hlo : W + (m' + 11) + rm.locals ≤ R.locals) (hk : k + rm.cells ≤ R.cells) (hn : n + rm.slots ≤ R.slots) (hls : ls.length = ml)
    (G : ∀ h', P h' → Go true KT l Z R y bytes ml ret n0 kc ks Q h' (k + rm.cells) (n + rm.slots) pc' ls st) : Go true K₀ l Z R y bytes ml ret n0 kc ks Q h k n pc ls st₀ := by
  subst hst hr'
  intro p e s0 s m args below meth c T L Bs C X hh N
  obtain ⟨hd, rfl⟩ := D
  have hZ := C.2.2.2.2.1
  obtain ⟨v, vm₁, ⟨B, Lb, kb, nb⟩, -, X', hSi, -, ⟨Lq, ⟨⟨hQ, hsz⟩, Ns⟩, e1, e2, e3⟩, st'⟩ := X.specialBackS C.1 (y := y') hi C.2.2.2.1 (mvT hZ w1) (mvT hZ w2) (mvT hZ w4) hy (backOfS (W := W) (Q := fun v h' L => ((R0 P) v h' ∧ h.size ≤ h'.size) ∧ Fr n0 L) (hM []) hZ w4 w3 hf hlo) (g := mkF m pc ls.toArray (argsL.reverse ++ .ref a :: st)) rfl
    (by rw [C.2.2.1]; simpa using hls) (Steps.refl _) (a := a) (argsL := argsL) (rest := st) hlen rfl (by show 2 * 0 + _ ≤ W; rw [← hW]; omega) (hb C.2.1 hd) (fun _ _ => ⟨rfl, hh, hk, hn⟩)
  dsimp only [Pt.U, Pt.locs, Pt.cells, Pt.slots] at X' hSi hQ hsz e1 e2 e3 st'
  subst e1 e2 e3
  obtain ⟨rfl, hP⟩ := hQ
  exact (G B.heap hP p e s0 _ m args below meth c B _ (Bs.since hSi hsz) (C.since hSi) X' rfl (N.app Ns)).pre (fun t q => st'.trans q)
theorem go_wcallV0 {y' : MethodName} {b' : ByteArray} {m' : Nat} {r' : Option FieldType} {rm : Room} {idx W : Nat} {argsL : List Value} {P : Heap → Prop} {x' : MethodName} {K : String} {a : Addr} (D : Dc bytes pc (.invokevirtual idx) 3 pc') (hM : Con true l Z y' b' m' r' rm (.ref a :: argsL).toArray h n0 (R0 P)) (E : Exa Z h a K)
    (w1 : (Cond.methodLink y.cls idx x').before a0 Z = true) (w5 : (Cond.declares x').before a0 Z = true) (nf : ∀ s : State, Z.Warmed39 s.vm → NotFace s x') (w6 : (Cond.selects K x' y').before a0 Z = true) (w2 : (Cond.instanceMethod y').before a0 Z = true) (w3 : (Cond.initialized y'.cls).before a0 Z = true) (w4 : (Cond.code y' b' m' r').before a0 Z = true)
    (hy : x'.cls ≠ "java/lang/invoke/MethodHandle" ∧ x'.cls ≠ "java/lang/invoke/VarHandle") (hlen : ∀ sig, parseMethodDescriptor x'.desc = some sig → argsL.length = sig.parameters.length) {st₀ : List Value} (hst : st₀ = argsL.reverse ++ .ref a :: st) (hW : (st.map fun v => v.category).sum = W) (hf : rm.frames + 1 ≤ R.frames) (hlo : W + (m' + 11) + rm.locals ≤ R.locals) (hk : k + rm.cells ≤ R.cells) (hn : n + rm.slots ≤ R.slots) (hls : ls.length = ml)
    (G : ∀ h', P h' → Go true KT l Z R y bytes ml ret n0 kc ks Q h' (k + rm.cells) (n + rm.slots) pc' ls st) : Go true K₀ l Z R y bytes ml ret n0 kc ks Q h k n pc ls st₀ := by
  subst hst
  intro p e s0 s m args below meth c T L Bs C X hh N
  obtain ⟨hd, rfl⟩ := D
  have hZ := C.2.2.2.2.1
  obtain ⟨cq, kq, qa, qb, qc⟩ := isOf (T := T) hZ hh E
  obtain ⟨v, vm₁, ⟨B, Lb, kb, nb⟩, -, X', hSi, -, ⟨Lq, ⟨⟨hQ, hsz⟩, Ns⟩, e1, e2, e3⟩, st'⟩ := X.virtualBackS C.1 (y := x') (z := y') C.2.2.2.1 (mvT hZ w1) (mvT hZ w5) (nf s hZ) (mvT hZ w6) (mvT hZ w2) hy (backOfS (W := W) (Q := fun v h' L => ((R0 P) v h' ∧ h.size ≤ h'.size) ∧ Fr n0 L) (hM []) hZ w4 w3 hf hlo) qa qc (g := mkF m pc ls.toArray (argsL.reverse ++ .ref a :: st)) rfl
    (by rw [C.2.2.1]; simpa using hls) (Steps.refl _) (argsL := argsL) (rest := st) hlen rfl (by show 2 * 0 + _ ≤ W; rw [← hW]; omega) (hb C.2.1 hd) (fun _ _ => ⟨rfl, hh, hk, hn⟩)
  dsimp only [Pt.U, Pt.locs, Pt.cells, Pt.slots] at X' hSi hQ hsz e1 e2 e3 st'
  subst e1 e2 e3
  obtain ⟨rfl, hP⟩ := hQ
  exact (G B.heap hP p e s0 _ m args below meth c B _ (Bs.since hSi hsz) (C.since hSi) X' rfl (N.app Ns)).pre (fun t q => st'.trans q)
theorem go_wcallP0 {y' : MethodName} {b' : ByteArray} {m' : Nat} {r' : Option FieldType} {rm : Room} {idx W : Nat} {argsL : List Value} {P : Heap → Prop} {K : String} {a : Addr} (D : Dc bytes pc (.invokevirtual idx) 3 pc') (hM : Con true l Z y' b' m' r' rm (.ref a :: argsL).toArray h n0 (R0 P)) (E : Exa Z h a K)
    (w1 : (Cond.methodLink y.cls idx y').before a0 Z = true) (w2 : (Cond.instanceMethod y').before a0 Z = true) {kk : Nat} (wi : (Cond.instantiable y'.cls kk).before a0 Z = true) (w5 : (Cond.privateMethod y').before a0 Z = true) (w3 : (Cond.initialized y'.cls).before a0 Z = true) (w4 : (Cond.code y' b' m' r').before a0 Z = true) (hy : y'.cls ≠ "java/lang/invoke/MethodHandle" ∧ y'.cls ≠ "java/lang/invoke/VarHandle")
    (hlen : ∀ sig, parseMethodDescriptor y'.desc = some sig → argsL.length = sig.parameters.length) {st₀ : List Value} (hst : st₀ = argsL.reverse ++ .ref a :: st) (hW : (st.map fun v => v.category).sum = W) (hf : rm.frames + 1 ≤ R.frames) (hlo : W + (m' + 11) + rm.locals ≤ R.locals) (hk : k + rm.cells ≤ R.cells) (hn : n + rm.slots ≤ R.slots) (hls : ls.length = ml)
    (G : ∀ h', P h' → Go true KT l Z R y bytes ml ret n0 kc ks Q h' (k + rm.cells) (n + rm.slots) pc' ls st) : Go true K₀ l Z R y bytes ml ret n0 kc ks Q h k n pc ls st₀ := by
  subst hst
  intro p e s0 s m args below meth c T L Bs C X hh N
  obtain ⟨hd, rfl⟩ := D
  have hZ := C.2.2.2.2.1
  obtain ⟨cq, q1, q2⟩ := E.cell
  have wi' : (Cond.instantiable y'.cls kk).before args s = true := mvT hZ wi
  obtain ⟨c2, k2, i1, i2, -, i4, -⟩ := Cond.instantiable_spec wi'
  have hpa : s.PrivateAt y' := Cond.privateMethod_at (mvP hZ w5 (args := #[]))
  have w6 : (Cond.selects y'.cls y' y').before args s = true := selects_self_of_private i1 i2 (Bool.or_eq_false_iff.mp i4).1 hpa (mvT hZ w2) hy
  obtain ⟨v, vm₁, ⟨B, Lb, kb, nb⟩, -, X', hSi, -, ⟨Lq, ⟨⟨hQ, hsz⟩, Ns⟩, e1, e2, e3⟩, st'⟩ := X.privateBackS C.1 (y := y') C.2.2.2.1 (mvT hZ w1) (mvT hZ w2) w6 hpa (mvT hZ w4) hy (backOfS (W := W) (Q := fun v h' L => ((R0 P) v h' ∧ h.size ≤ h'.size) ∧ Fr n0 L) (hM []) hZ w4 w3 hf hlo) (g := mkF m pc ls.toArray (argsL.reverse ++ .ref a :: st)) rfl
    (by rw [C.2.2.1]; simpa using hls) (Steps.refl _) (a := a) (by rw [hh]; exact q1) q2 (argsL := argsL) (rest := st) hlen rfl (by show 2 * 0 + _ ≤ W; rw [← hW]; omega) (hb C.2.1 hd) (fun _ _ => ⟨rfl, hh, hk, hn⟩)
  dsimp only [Pt.U, Pt.locs, Pt.cells, Pt.slots] at X' hSi hQ hsz e1 e2 e3 st'
  subst e1 e2 e3
  obtain ⟨rfl, hP⟩ := hQ
  exact (G B.heap hP p e s0 _ m args below meth c B _ (Bs.since hSi hsz) (C.since hSi) X' rfl (N.app Ns)).pre (fun t q => st'.trans q)
theorem go_initO {idx W : Nat} {a : Addr} (D : Dc bytes pc (.invokespecial idx) 3 pc') (w1 : (Cond.methodLink y.cls idx Lib.objectInit).before a0 Z = true) (w2 : (Cond.instanceMethod Lib.objectInit).before a0 Z = true) (w3 : (Cond.code Lib.objectInit ⟨#[0xb1]⟩ 1 none).before a0 Z = true)
    (hls : ls.length = ml) (hf : 1 ≤ R.frames) (hW : (st.map fun v => v.category).sum = W) (hlo : W + 12 ≤ R.locals) (G : Go wd K₀ l Z R y bytes ml ret n0 kc ks Q h k n pc' ls st) : Go wd K₀ l Z R y bytes ml ret n0 kc ks Q h k n pc ls (.ref a :: st) := by
  intro p e s0 s m args below meth c T L Bs C X hh N
  obtain ⟨hd, rfl⟩ := D
  obtain ⟨T', X', e', st'⟩ := initO X C.1 C.2.2.2.2.1 C.2.2.2.1 w1 w2 w3 hh (g := mkF m pc ls.toArray (.ref a :: st)) rfl (by rw [C.2.2.1]; simpa using hls) rfl (hb C.2.1 hd) hf (W := W) (by show 2 * 0 + _ ≤ W; rw [← hW]; omega) hlo
  exact (G p e s0 s m args below meth c T' L Bs C X' e' N).pre st'
/-! ## 2. fields, objects, arrays, by the library's own facts -/
theorem go_getF {idx : Nat} {R0 O nm d host : String} {a : Addr} {v : Value} (D : Dc bytes pc (.getfield idx) 3 pc') (w : (Cond.fieldLink y.cls idx R0 nm d).before a0 Z = true ∨ (Cond.fieldLinkNest y.cls idx R0 nm d host).before a0 Z = true) (via : Via Z R0 O nm d) (F : Fld Z h a O nm d v) (G : Go wd K₀ l Z R y bytes ml ret n0 kc ks Q h k n pc' ls (v :: st)) : Go wd K₀ l Z R y bytes ml ret n0 kc ks Q h k n pc ls (.ref a :: st) := by
  intro p e s0 s m args below meth c T L Bs C X hh N
  obtain ⟨hd, rfl⟩ := D
  obtain ⟨T', X', e', st'⟩ := getF X C.1 C.2.2.2.2.1 C.2.2.2.1 w via hh F (g := mkF m pc ls.toArray (.ref a :: st)) rfl rfl (hb C.2.1 hd)
  exact (G p e s0 s m args below meth c T' L Bs C X' e' N).pre st'
theorem go_getS {idx : Nat} {R0 O nm d host : String} {v : Value} (D : Dc bytes pc (.getstatic idx) 3 pc') (w : (Cond.fieldLink y.cls idx R0 nm d).before a0 Z = true ∨ (Cond.fieldLinkNest y.cls idx R0 nm d host).before a0 Z = true) (via : Via Z R0 O nm d) (F : Sta Z h O nm d v) (G : Go wd K₀ l Z R y bytes ml ret n0 kc ks Q h k n pc' ls (v :: st)) : Go wd K₀ l Z R y bytes ml ret n0 kc ks Q h k n pc ls st := by
  intro p e s0 s m args below meth c T L Bs C X hh N
  obtain ⟨hd, rfl⟩ := D
  obtain ⟨T', X', e', st'⟩ := getS2 X C.1 C.2.2.2.2.1 C.2.2.2.1 w via hh F (g := mkF m pc ls.toArray st) rfl (hb C.2.1 hd)
  exact (G p e s0 s m args below meth c T' L Bs C X' e' N).pre st'
theorem go_putF {idx kk : Nat} {R0 O nm d host K : String} {ty : FieldType} {a : Addr} {v old : Value} (D : Dc bytes pc (.putfield idx) 3 pc') (w : (Cond.fieldLink y.cls idx R0 nm d).before a0 Z = true ∨ (Cond.fieldLinkNest y.cls idx R0 nm d host).before a0 Z = true) (via : Via Z R0 O nm d) (F : Fld Z h a O nm d old) (E : Exa Z h a K)
    (Lw : (Cond.lays K O nm d).before a0 Z = true ∨ ((Cond.laysFinal K O nm d).before a0 Z = true ∧ y.cls = O ∧ y.name = "<init>")) (wi : (Cond.instantiable K kk).before a0 Z = true) (hty : parseFieldDescriptor d = some ty) (hnr : narrow ty v = v) (hfi : fits ty v = true) (ha : n0 ≤ a)
    (G : ∀ h', Wr h h' a (Jvm.RoadKit.slotOf Z O nm d) v → Go wd K₀ l Z R y bytes ml ret n0 kc ks Q h' k n pc' ls st) : Go wd K₀ l Z R y bytes ml ret n0 kc ks Q h k n pc ls (v :: .ref a :: st) := by
  intro p e s0 s m args below meth c T L Bs C X hh N
  obtain ⟨hd, rfl⟩ := D
  obtain ⟨T', h', X', e', W', st'⟩ := putF X C.1 C.2.2.2.2.1 C.2.2.2.1 w via hh F E (Lw.imp id fun q => ⟨q.1, q.2.1, C.2.2.2.2.2.2.2.1.trans q.2.2⟩) wi hty hnr hfi (g := mkF m pc ls.toArray (v :: .ref a :: st)) rfl rfl (hb C.2.1 hd)
  exact (G h' W' p e s0 s m args below meth c T' _ (Bs.mono (Nat.le_of_eq W'.size.symm)) C X' e' (Fr.snoc X' N ha)).pre st'
theorem go_newO {idx sl : Nat} {K : String} (D : Dc bytes pc (.new idx) 3 pc') (w : (Cond.classLink y.cls idx K).before a0 Z = true) (wi : (Cond.instantiable K sl).before a0 Z = true) (wz : (Cond.initialized K).before a0 Z = true) (hk : k + 1 ≤ R.cells) (hn : n + sl ≤ R.slots)
    (G : ∀ h', Ext h h' → Exa Z h' h.size K → (∀ {O nm d : String} {ty : FieldType}, Laid Z a0 K O nm d → parseFieldDescriptor d = some ty → Fld Z h' h.size O nm d (defaultValue ty)) → Go wd K₀ l Z R y bytes ml ret n0 kc ks Q h' (k + 1) (n + sl) pc' ls (.ref h.size :: st)) : Go wd K₀ l Z R y bytes ml ret n0 kc ks Q h k n pc ls st := by
  intro p e s0 s m args below meth c T L Bs C X hh N
  obtain ⟨hd, rfl⟩ := D
  obtain ⟨T', h', X', e', E', A', F', -, st'⟩ := newO X C.1 C.2.2.2.2.1 C.2.2.2.1 w wi wz hh (g := mkF m pc ls.toArray st) rfl (hb C.2.1 hd) hk hn
  exact (G h' E' A' F' p e s0 s m args below meth c T' _ (Bs.mono E'.1) C X' e' N).pre st'
theorem go_newP {aty : ArrayType} {z : Int32} {ad : String} (D : Dc bytes pc (.newarray aty) 2 pc') (w : (Cond.arrayClass (newarray.typeOf aty)).before a0 Z = true) (hz : ¬ z < 0) (cap : Nat) (hcap : z.toNatClampNeg ≤ cap) (hb8 : cap * 8 ≤ 536870912) (hk : k + 1 ≤ R.cells) (hn : n + cap ≤ R.slots) (had : "[" ++ (newarray.typeOf aty).toString = ad)
    (G : ∀ h' cA, Ext h h' → Arr Z h' h.size (newA cA (newarray.typeOf aty) z) (newarray.typeOf aty) → Exa Z h' h.size ad → Go wd K₀ l Z R y bytes ml ret n0 kc ks Q h' (k + 1) (n + cap) pc' ls (.ref h.size :: st)) : Go wd K₀ l Z R y bytes ml ret n0 kc ks Q h k n pc ls (.int z :: st) := by
  intro p e s0 s m args below meth c T L Bs C X hh N
  obtain ⟨hd, rfl⟩ := D
  obtain ⟨T', h', cA, X', e', E', A', F', st'⟩ := newPE X C.1 C.2.2.2.2.1 w hh (g := mkF m pc ls.toArray (.int z :: st)) rfl (hb C.2.1 hd) rfl hz hcap hb8 hk hn had
  exact (G h' cA E' A' F' p e s0 s m args below meth c T' _ (Bs.mono E'.1) C X' e' N).pre st'
theorem go_newR {idx : Nat} {K : String} {z : Int32} {ad : String} (D : Dc bytes pc (.anewarray idx) 3 pc') (w1 : (Cond.classLink y.cls idx K).before a0 Z = true) (w2 : (Cond.arrayOver (.object K)).before a0 Z = true) (hz : ¬ z < 0) (cap : Nat) (hcap : z.toNatClampNeg ≤ cap) (hb8 : cap * 8 ≤ 536870912) (hk : k + 1 ≤ R.cells) (hn : n + cap ≤ R.slots) (had : "[" ++ (FieldType.object K).toString = ad)
    (G : ∀ h' cA, Ext h h' → Arr Z h' h.size (newA cA (.object K) z) (.object K) → Exa Z h' h.size ad → Ovr Z cA K → Go wd K₀ l Z R y bytes ml ret n0 kc ks Q h' (k + 1) (n + cap) pc' ls (.ref h.size :: st)) : Go wd K₀ l Z R y bytes ml ret n0 kc ks Q h k n pc ls (.int z :: st) := by
  intro p e s0 s m args below meth c T L Bs C X hh N
  obtain ⟨hd, rfl⟩ := D
  obtain ⟨T', h', cA, X', e', E', A', F', O', st'⟩ := newRE X C.1 C.2.2.2.2.1 C.2.2.2.1 w1 w2 hh (g := mkF m pc ls.toArray (.int z :: st)) rfl (hb C.2.1 hd) rfl hz hcap hb8 hk hn had
  exact (G h' cA E' A' F' O' p e s0 s m args below meth c T' _ (Bs.mono E'.1) C X' e' N).pre st'
theorem go_len {a : Addr} {cl : Cell} {ty : FieldType} {z : Int32} (D : Dc bytes pc .arraylength 1 pc') (A : Arr Z h a cl ty) (hz : cl.slots.size.toInt32 = z) (G : Go wd K₀ l Z R y bytes ml ret n0 kc ks Q h k n pc' ls (.int z :: st)) : Go wd K₀ l Z R y bytes ml ret n0 kc ks Q h k n pc ls (.ref a :: st) := by
  intro p e s0 s m args below meth c T L Bs C X hh N
  obtain ⟨hd, rfl⟩ := D
  subst hz
  exact (G p e s0 s m args below meth c T L Bs C X hh N).pre fun t q => X.arraylength C.1 (by rw [hh]; exact A.1) (State.isArrayOf_alike C.2.2.2.2.1.alike A.2.1) (g := mkF m pc ls.toArray (.ref a :: st)) rfl rfl (hb C.2.1 hd) _ q
theorem go_iaload {a : Addr} {cl : Cell} {j : Int32} {v : Value} (D : Dc bytes pc .iaload 1 pc') (A : Arr Z h a cl .int) (hj : ¬ (j < 0 ∨ cl.slots.size ≤ j.toNatClampNeg)) (hv : cl.slots[j.toNatClampNeg]? = some v) (G : Go wd K₀ l Z R y bytes ml ret n0 kc ks Q h k n pc' ls (v :: st)) : Go wd K₀ l Z R y bytes ml ret n0 kc ks Q h k n pc ls (.int j :: .ref a :: st) := by
  intro p e s0 s m args below meth c T L Bs C X hh N
  obtain ⟨hd, rfl⟩ := D
  exact (G p e s0 s m args below meth c T L Bs C X hh N).pre fun t q => X.iaload C.1 (j := j) (v := v) (by rw [hh]; exact A.1) (State.isArrayOf_alike C.2.2.2.2.1.alike A.2.1) A.2.2 hj hv (g := mkF m pc ls.toArray (.int j :: .ref a :: st)) rfl rfl (hb C.2.1 hd) _ q
theorem go_caload {a : Addr} {cl : Cell} {j : Int32} {v : Value} (D : Dc bytes pc .caload 1 pc') (A : Arr Z h a cl .char) (hj : ¬ (j < 0 ∨ cl.slots.size ≤ j.toNatClampNeg)) (hv : cl.slots[j.toNatClampNeg]? = some v) (G : Go wd K₀ l Z R y bytes ml ret n0 kc ks Q h k n pc' ls (v :: st)) : Go wd K₀ l Z R y bytes ml ret n0 kc ks Q h k n pc ls (.int j :: .ref a :: st) := by
  intro p e s0 s m args below meth c T L Bs C X hh N
  obtain ⟨hd, rfl⟩ := D
  exact (G p e s0 s m args below meth c T L Bs C X hh N).pre fun t q => X.caload C.1 (j := j) (v := v) (by rw [hh]; exact A.1) (State.isArrayOf_alike C.2.2.2.2.1.alike A.2.1) A.2.2 hj hv (g := mkF m pc ls.toArray (.int j :: .ref a :: st)) rfl rfl (hb C.2.1 hd) _ q
theorem go_baload {a : Addr} {cl : Cell} {j : Int32} {v : Value} (D : Dc bytes pc .baload 1 pc') (A : Arr Z h a cl .byte) (hj : ¬ (j < 0 ∨ cl.slots.size ≤ j.toNatClampNeg)) (hv : cl.slots[j.toNatClampNeg]? = some v) (G : Go wd K₀ l Z R y bytes ml ret n0 kc ks Q h k n pc' ls (v :: st)) : Go wd K₀ l Z R y bytes ml ret n0 kc ks Q h k n pc ls (.int j :: .ref a :: st) := by
  intro p e s0 s m args below meth c T L Bs C X hh N
  obtain ⟨hd, rfl⟩ := D
  exact (G p e s0 s m args below meth c T L Bs C X hh N).pre fun t q => X.baloadBytes C.1 (j := j) (v := v) (by rw [hh]; exact A.1) (State.isArrayOf_alike C.2.2.2.2.1.alike A.2.1) A.2.2 hj hv (g := mkF m pc ls.toArray (.int j :: .ref a :: st)) rfl rfl (hb C.2.1 hd) _ q
theorem go_laload {a : Addr} {cl : Cell} {j : Int32} {v : Value} (D : Dc bytes pc .laload 1 pc') (A : Arr Z h a cl .long) (hj : ¬ (j < 0 ∨ cl.slots.size ≤ j.toNatClampNeg)) (hv : cl.slots[j.toNatClampNeg]? = some v) (G : Go wd K₀ l Z R y bytes ml ret n0 kc ks Q h k n pc' ls (v :: st)) : Go wd K₀ l Z R y bytes ml ret n0 kc ks Q h k n pc ls (.int j :: .ref a :: st) := by
  intro p e s0 s m args below meth c T L Bs C X hh N
  obtain ⟨hd, rfl⟩ := D
  exact (G p e s0 s m args below meth c T L Bs C X hh N).pre fun t q => X.laload C.1 (j := j) (v := v) (by rw [hh]; exact A.1) (State.isArrayOf_alike C.2.2.2.2.1.alike A.2.1) A.2.2 hj hv (g := mkF m pc ls.toArray (.int j :: .ref a :: st)) rfl rfl (hb C.2.1 hd) _ q
theorem go_aaload {a : Addr} {cl : Cell} {ty : FieldType} {j : Int32} {v : Value} (D : Dc bytes pc .aaload 1 pc') (A : Arr Z h a cl ty) (hty : ty.isReference = true) (hj : ¬ (j < 0 ∨ cl.slots.size ≤ j.toNatClampNeg)) (hv : cl.slots[j.toNatClampNeg]? = some v) (G : Go wd K₀ l Z R y bytes ml ret n0 kc ks Q h k n pc' ls (v :: st)) : Go wd K₀ l Z R y bytes ml ret n0 kc ks Q h k n pc ls (.int j :: .ref a :: st) := by
  intro p e s0 s m args below meth c T L Bs C X hh N
  obtain ⟨hd, rfl⟩ := D
  exact (G p e s0 s m args below meth c T L Bs C X hh N).pre fun t q => X.aaload C.1 (j := j) (v := v) (by rw [hh]; exact A.1) (State.isArrayOf_alike C.2.2.2.2.1.alike A.2.1) hty A.2.2 hj hv (g := mkF m pc ls.toArray (.int j :: .ref a :: st)) rfl rfl (hb C.2.1 hd) _ q
theorem go_iastore {a : Addr} {cl : Cell} {j : Int32} {x : Int32} (D : Dc bytes pc .iastore 1 pc') (A : Arr Z h a cl .int) (hj : ¬ (j < 0 ∨ cl.slots.size ≤ j.toNatClampNeg)) (ha : n0 ≤ a) (G : ∀ h', Wr h h' a j.toNatClampNeg (.int x) → Go wd K₀ l Z R y bytes ml ret n0 kc ks Q h' k n pc' ls st) : Go wd K₀ l Z R y bytes ml ret n0 kc ks Q h k n pc ls (.int x :: .int j :: .ref a :: st) := by
  intro p e s0 s m args below meth c T L Bs C X hh N
  obtain ⟨hd, rfl⟩ := D
  obtain ⟨T', h', X', e', W', st'⟩ := stI X C.1 C.2.2.2.2.1 hh A hj (g := mkF m pc ls.toArray (.int x :: .int j :: .ref a :: st)) rfl rfl (hb C.2.1 hd)
  exact (G h' W' p e s0 s m args below meth c T' _ (Bs.mono (Nat.le_of_eq W'.size.symm)) C X' e' (Fr.snoc X' N ha)).pre st'
theorem go_lastore {a : Addr} {cl : Cell} {j : Int32} {x : Int64} (D : Dc bytes pc .lastore 1 pc') (A : Arr Z h a cl .long) (hj : ¬ (j < 0 ∨ cl.slots.size ≤ j.toNatClampNeg)) (ha : n0 ≤ a) (G : ∀ h', Wr h h' a j.toNatClampNeg (.long x) → Go wd K₀ l Z R y bytes ml ret n0 kc ks Q h' k n pc' ls st) : Go wd K₀ l Z R y bytes ml ret n0 kc ks Q h k n pc ls (.long x :: .int j :: .ref a :: st) := by
  intro p e s0 s m args below meth c T L Bs C X hh N
  obtain ⟨hd, rfl⟩ := D
  obtain ⟨T', h', X', e', W', st'⟩ := stJ X C.1 C.2.2.2.2.1 hh A hj (g := mkF m pc ls.toArray (.long x :: .int j :: .ref a :: st)) rfl rfl (hb C.2.1 hd)
  exact (G h' W' p e s0 s m args below meth c T' _ (Bs.mono (Nat.le_of_eq W'.size.symm)) C X' e' (Fr.snoc X' N ha)).pre st'
theorem go_castore {a : Addr} {cl : Cell} {j : Int32} {x : Int32} (D : Dc bytes pc .castore 1 pc') (A : Arr Z h a cl .char) (hj : ¬ (j < 0 ∨ cl.slots.size ≤ j.toNatClampNeg)) (ha : n0 ≤ a) (G : ∀ h', Wr h h' a j.toNatClampNeg (.int (nar .char x)) → Go wd K₀ l Z R y bytes ml ret n0 kc ks Q h' k n pc' ls st) : Go wd K₀ l Z R y bytes ml ret n0 kc ks Q h k n pc ls (.int x :: .int j :: .ref a :: st) := by
  intro p e s0 s m args below meth c T L Bs C X hh N
  obtain ⟨hd, rfl⟩ := D
  obtain ⟨T', h', X', e', W', st'⟩ := stC X C.1 C.2.2.2.2.1 hh A hj (g := mkF m pc ls.toArray (.int x :: .int j :: .ref a :: st)) rfl rfl (hb C.2.1 hd)
  exact (G h' W' p e s0 s m args below meth c T' _ (Bs.mono (Nat.le_of_eq W'.size.symm)) C X' e' (Fr.snoc X' N ha)).pre st'
theorem go_bastore {a : Addr} {cl : Cell} {j : Int32} {x : Int32} (D : Dc bytes pc .bastore 1 pc') (A : Arr Z h a cl .byte) (hj : ¬ (j < 0 ∨ cl.slots.size ≤ j.toNatClampNeg)) (ha : n0 ≤ a) (G : ∀ h', Wr h h' a j.toNatClampNeg (.int (nar .byte x)) → Go wd K₀ l Z R y bytes ml ret n0 kc ks Q h' k n pc' ls st) : Go wd K₀ l Z R y bytes ml ret n0 kc ks Q h k n pc ls (.int x :: .int j :: .ref a :: st) := by
  intro p e s0 s m args below meth c T L Bs C X hh N
  obtain ⟨hd, rfl⟩ := D
  obtain ⟨T', h', X', e', W', st'⟩ := stB X C.1 C.2.2.2.2.1 hh A hj (g := mkF m pc ls.toArray (.int x :: .int j :: .ref a :: st)) rfl rfl (hb C.2.1 hd)
  exact (G h' W' p e s0 s m args below meth c T' _ (Bs.mono (Nat.le_of_eq W'.size.symm)) C X' e' (Fr.snoc X' N ha)).pre st'
theorem go_zastore {a : Addr} {cl : Cell} {j : Int32} {x : Int32} (D : Dc bytes pc .bastore 1 pc') (A : Arr Z h a cl .boolean) (hj : ¬ (j < 0 ∨ cl.slots.size ≤ j.toNatClampNeg)) (ha : n0 ≤ a) (G : ∀ h', Wr h h' a j.toNatClampNeg (.int (nar .boolean x)) → Go wd K₀ l Z R y bytes ml ret n0 kc ks Q h' k n pc' ls st) : Go wd K₀ l Z R y bytes ml ret n0 kc ks Q h k n pc ls (.int x :: .int j :: .ref a :: st) := by
  intro p e s0 s m args below meth c T L Bs C X hh N
  obtain ⟨hd, rfl⟩ := D
  obtain ⟨T', h', X', e', W', st'⟩ := stZ X C.1 C.2.2.2.2.1 hh A hj (g := mkF m pc ls.toArray (.int x :: .int j :: .ref a :: st)) rfl rfl (hb C.2.1 hd)
  exact (G h' W' p e s0 s m args below meth c T' _ (Bs.mono (Nat.le_of_eq W'.size.symm)) C X' e' (Fr.snoc X' N ha)).pre st'
theorem go_aastore {a : Addr} {cl : Cell} {ty : FieldType} {j : Int32} {v : Value} (D : Dc bytes pc .aastore 1 pc') (A : Arr Z h a cl ty) (hj : ¬ (j < 0 ∨ cl.slots.size ≤ j.toNatClampNeg)) (hty : ty.isReference = true) (F : Sto Z h a v) (ha : n0 ≤ a) (G : ∀ h', Wr h h' a j.toNatClampNeg v → Go wd K₀ l Z R y bytes ml ret n0 kc ks Q h' k n pc' ls st) : Go wd K₀ l Z R y bytes ml ret n0 kc ks Q h k n pc ls (v :: .int j :: .ref a :: st) := by
  intro p e s0 s m args below meth c T L Bs C X hh N
  obtain ⟨hd, rfl⟩ := D
  obtain ⟨T', h', X', e', W', st'⟩ := stR X C.1 C.2.2.2.2.1 hh A hj hty F (g := mkF m pc ls.toArray (v :: .int j :: .ref a :: st)) rfl rfl (hb C.2.1 hd)
  exact (G h' W' p e s0 s m args below meth c T' _ (Bs.mono (Nat.le_of_eq W'.size.symm)) C X' e' (Fr.snoc X' N ha)).pre st'
end Walk
end Jvm.OwnGo
namespace Jvm.OwnGo
open Jvm Sem ClassFile Op Lib Jvm.Stand Jvm.Free Jvm.LawKit Jvm.RoadKit
/-! ## 3. the heap since the start, as a list of what lies where -/
abbrev FD := (String × String × String) × Value
abbrev Desc := (String × List FD) ⊕ (FieldType × String × List Value)
def slotF (Z : State) (f : FD) : Nat := Jvm.RoadKit.slotOf Z f.1.1 f.1.2.1 f.1.2.2
def Is (Z : State) (h : Heap) (a : Addr) : Desc → Prop
  | .inl (K, fs) => Exa Z h a K ∧ (fs.map (slotF Z)).Nodup ∧ ∀ f ∈ fs, Fld Z h a f.1.1 f.1.2.1 f.1.2.2 f.2
  | .inr (ty, ad, vs) => Exa Z h a ad ∧ ∃ c : Cell, Arr Z h a c ty ∧ c.slots = vs.toArray ∧ vs.length < 2 ^ 31 ∧ (∀ v ∈ vs, fits ty v = true) ∧ ∀ K, ty = .object K → Ovr Z c.cls K
def Hp (Z : State) (n0 : Nat) (h : Heap) (L : List (Addr × Desc)) : Prop := Old Z n0 h ∧ (L.map Prod.fst).Nodup ∧ ∀ x ∈ L, n0 ≤ x.1 ∧ Is Z h x.1 x.2
def LaysD (Z : State) (a0 : Array Value) (K : String) : List FD → Prop
  | [] => True
  | f :: r => (Laid Z a0 K f.1.1 f.1.2.1 f.1.2.2 ∧ ∃ t, parseFieldDescriptor f.1.2.2 = some t ∧ defaultValue t = f.2) ∧ LaysD Z a0 K r
def front {α : Type} (L : List α) (i : Nat) : List α := match L[i]? with | some x => x :: L.eraseIdx i | none => L
section Hp
variable {Z : State} {n0 : Nat} {h h' : Heap} {L : List (Addr × Desc)} {a b : Addr} {K ad O nm d : String} {fs : List FD} {vs : List Value} {ty : FieldType} {v old : Value} {i j sl : Nat} {a0 : Array Value}
theorem Is.ext {D : Desc} (E : Ext h h') (F : Is Z h a D) : Is Z h' a D := by
  rcases D with ⟨K, fs⟩ | ⟨ty, ad, vs⟩
  · obtain ⟨h1, h2, h3⟩ := F; exact ⟨h1.ext E, h2, fun f hf => (h3 f hf).ext E⟩
  · obtain ⟨h1, c, h2, r⟩ := F; exact ⟨h1.ext E, c, h2.ext E, r⟩
theorem Is.other {D : Desc} (W : Wr h h' b sl v) (ne : a ≠ b) (F : Is Z h a D) : Is Z h' a D := by
  rcases D with ⟨K, fs⟩ | ⟨ty, ad, vs⟩
  · obtain ⟨h1, h2, h3⟩ := F; exact ⟨h1.wr W, h2, fun f hf => (h3 f hf).other W (Or.inl ne)⟩
  · obtain ⟨h1, c, h2, r⟩ := F; exact ⟨h1.wr W, c, h2.other W ne, r⟩
theorem Is.exa {D : Desc} (F : Is Z h a D) : ∃ K, Exa Z h a K := by
  rcases D with ⟨K, fs⟩ | ⟨ty, ad, vs⟩
  · exact ⟨K, F.1⟩
  · exact ⟨ad, F.1⟩
theorem mem_upd {α : Type} {L : List α} {i : Nat} {x y : α} (hx : x ∈ lupd L i y) : x = y ∨ ∃ q, q ≠ i ∧ L[q]? = some x := by
  rw [upd_set] at hx
  obtain ⟨q, hq⟩ := List.mem_iff_getElem?.mp hx
  rw [List.getElem?_set] at hq
  split at hq
  · rename_i e
    split at hq
    · left; exact (Option.some.inj hq).symm
    · cases hq
  · rename_i e
    exact Or.inr ⟨q, fun u => e u.symm, hq⟩
theorem Hp.mem (hi : L[i]? = some (a, D)) : (a, D) ∈ L := List.mem_of_getElem? hi
theorem Hp.is {D : Desc} (P : Hp Z n0 h L) (hi : L[i]? = some (a, D)) : Is Z h a D := (P.2.2 _ (List.mem_of_getElem? hi)).2
theorem Hp.ge {D : Desc} (P : Hp Z n0 h L) (hi : L[i]? = some (a, D)) : n0 ≤ a := (P.2.2 _ (List.mem_of_getElem? hi)).1
theorem Hp.exa (P : Hp Z n0 h L) (hi : L[i]? = some (a, .inl (K, fs))) : Exa Z h a K := (P.is hi).1
theorem Hp.exaA (P : Hp Z n0 h L) (hi : L[i]? = some (a, .inr (ty, ad, vs))) : Exa Z h a ad := (P.is hi).1
theorem Hp.fld (P : Hp Z n0 h L) (hi : L[i]? = some (a, .inl (K, fs))) (hj : fs[j]? = some ((O, nm, d), v)) : Fld Z h a O nm d v := (P.is hi).2.2 _ (List.mem_of_getElem? hj)
theorem Hp.lt {D : Desc} (P : Hp Z n0 h L) (hx : (a, D) ∈ L) : a < h.size := by
  obtain ⟨K, E⟩ := (P.2.2 _ hx).2.exa; exact E.lt
theorem Hp.ne {D D' : Desc} (P : Hp Z n0 h L) (hi : L[i]? = some (a, D)) (hj : L[j]? = some (b, D')) (q : i ≠ j) : a ≠ b := fun e => q (by
  have hl : i < (L.map Prod.fst).length := by rw [List.length_map]; exact (List.getElem?_eq_some_iff.mp hi).1
  refine (List.getElem?_inj hl P.2.1).mp ?_
  rw [List.getElem?_map, List.getElem?_map, hi, hj]; simp [e])
theorem map_upd {α β : Type} {f : α → β} {L : List α} {i : Nat} {x y : α} (hi : L[i]? = some x) (e : f y = f x) : (lupd L i y).map f = L.map f := by
  rw [upd_set]
  apply List.ext_getElem?
  intro q
  rw [List.getElem?_map, List.getElem?_map, List.getElem?_set]
  split
  · rename_i u
    subst u
    obtain ⟨hl, -⟩ := List.getElem?_eq_some_iff.mp hi
    rw [if_pos hl, hi]; simp [e]
  · rfl
theorem Hp.wr {D D' : Desc} (P : Hp Z n0 h L) (hi : L[i]? = some (a, D)) (W : Wr h h' a sl v) (I : Is Z h' a D') : Hp Z n0 h' (lupd L i (a, D')) := by
  have ha := P.ge hi
  refine ⟨P.1.wr W ha, by rw [map_upd (f := Prod.fst) (y := (a, D')) hi rfl]; exact P.2.1, fun x hx => ?_⟩
  rcases mem_upd hx with rfl | ⟨q, hq, hx'⟩
  · exact ⟨ha, I⟩
  · obtain ⟨b, D2⟩ := x
    exact ⟨P.ge hx', (P.is hx').other W (P.ne hx' hi hq)⟩
theorem Hp.put (P : Hp Z n0 h L) (hi : L[i]? = some (a, .inl (K, fs))) (hj : fs[j]? = some ((O, nm, d), old)) (W : Wr h h' a (Jvm.RoadKit.slotOf Z O nm d) v) : Hp Z n0 h' (lupd L i (a, .inl (K, lupd fs j ((O, nm, d), v)))) := by
  obtain ⟨h1, h2, h3⟩ := P.is hi
  refine P.wr hi W ⟨h1.wr W, by rw [map_upd (f := slotF Z) (y := ((O, nm, d), v)) hj rfl]; exact h2, fun f hf => ?_⟩
  rcases mem_upd hf with rfl | ⟨q, hq, hf'⟩
  · exact (h3 _ (List.mem_of_getElem? hj)).same W
  · refine (h3 _ (List.mem_of_getElem? hf')).other W (Or.inr fun e => hq ?_)
    have hl : q < (fs.map (slotF Z)).length := by rw [List.length_map]; exact (List.getElem?_eq_some_iff.mp hf').1
    refine (List.getElem?_inj hl h2).mp ?_
    rw [List.getElem?_map, List.getElem?_map, hf', hj]; simp [slotF, e]
theorem Hp.aput (P : Hp Z n0 h L) (hi : L[i]? = some (a, .inr (ty, ad, vs))) (hv : fits ty v = true) (W : Wr h h' a j v) : Hp Z n0 h' (lupd L i (a, .inr (ty, ad, lupd vs j v))) := by
  obtain ⟨h1, c, h2, h3, h4, h5, h6⟩ := P.is hi
  refine P.wr hi W ⟨h1.wr W, c.setSlot j v, h2.same W, ?_, ?_, fun w hw => ?_, h6⟩
  · rw [upd_set]; show c.slots.setIfInBounds j v = _; rw [h3]; simp
  · rw [upd_set]; simpa using h4
  · rcases mem_upd hw with rfl | ⟨q, -, hq⟩
    · exact hv
    · exact h5 _ (List.mem_of_getElem? hq)
theorem Hp.grow {D : Desc} (P : Hp Z n0 h L) (E : Ext h h') (I : Is Z h' h.size D) : Hp Z n0 h' ((h.size, D) :: L) := by
  have hs : n0 ≤ h.size := by have := P.1.1; have := P.1.2.1; omega
  refine ⟨P.1.ext E, ?_, fun x hx => ?_⟩
  · rw [List.map_cons, List.nodup_cons]
    refine ⟨fun hm => ?_, P.2.1⟩
    obtain ⟨⟨b, D2⟩, hb, e⟩ := List.mem_map.mp hm
    have q := P.lt hb
    have e' : b = h.size := e
    rw [e'] at q
    exact Nat.lt_irrefl _ q
  · rcases List.mem_cons.mp hx with rfl | hx'
    · exact ⟨hs, I⟩
    · exact ⟨(P.2.2 _ hx').1, (P.2.2 _ hx').2.ext E⟩
theorem lays_mem : ∀ {fs : List FD}, LaysD Z a0 K fs → ∀ f ∈ fs, Laid Z a0 K f.1.1 f.1.2.1 f.1.2.2 ∧ ∃ t, parseFieldDescriptor f.1.2.2 = some t ∧ defaultValue t = f.2
  | [], _, _, hf => nomatch hf
  | _ :: _, H, f, hf => (List.mem_cons.mp hf).elim (fun e => e ▸ H.1) (lays_mem H.2 f)
theorem lays_nodup : ∀ {fs : List FD}, LaysD Z a0 K fs → (fs.map fun f => f.1.2.1).Nodup → (fs.map (slotF Z)).Nodup
  | [], _, _ => List.nodup_nil
  | f :: r, H, N => by
    rw [List.map_cons, List.nodup_cons] at N ⊢
    refine ⟨fun hm => ?_, lays_nodup H.2 N.2⟩
    obtain ⟨g, hg, e⟩ := List.mem_map.mp hm
    obtain ⟨Lg, t', ht', -⟩ := lays_mem H.2 g hg
    obtain ⟨Lf, t, ht, -⟩ := H.1
    exact slot_ne Lf Lg (fun q => N.1 (List.mem_map.mpr ⟨g, hg, q.symm⟩)) ht ht' e.symm
theorem Hp.new (P : Hp Z n0 h L) (E : Ext h h') (A : Exa Z h' h.size K) (F : ∀ {O nm d : String} {ty : FieldType}, Laid Z a0 K O nm d → parseFieldDescriptor d = some ty → Fld Z h' h.size O nm d (defaultValue ty)) (Ld : LaysD Z a0 K fs) (nd : (fs.map fun f => f.1.2.1).Nodup) : Hp Z n0 h' ((h.size, .inl (K, fs)) :: L) :=
  P.grow E ⟨A, lays_nodup Ld nd, fun f hf => by
    obtain ⟨Lf, t, ht, e⟩ := lays_mem Ld f hf
    rw [← e]; exact F Lf ht⟩
theorem Hp.newA {cA : ClassId} {z : Int32} (P : Hp Z n0 h L) (E : Ext h h') (A : Arr Z h' h.size (newA cA ty z) ty) (X : Exa Z h' h.size ad) (O : ∀ K, ty = .object K → Ovr Z cA K) (hvs : List.replicate z.toNatClampNeg (defaultValue ty) = vs) (hz : ¬ z < 0) : Hp Z n0 h' ((h.size, .inr (ty, ad, vs)) :: L) :=
  P.grow E ⟨X, _, A, by rw [← hvs]; simp [Jvm.RoadKit.newA], by rw [← hvs, List.length_replicate]; exact (back32 hz).2, fun w hw => by
    rw [← hvs] at hw; rw [List.eq_of_mem_replicate hw]; cases ty <;> rfl, O⟩
theorem Hp.perm {L' : List (Addr × Desc)} (P : Hp Z n0 h L) (q : L'.Perm L) : Hp Z n0 h L' := ⟨P.1, ((q.map Prod.fst).nodup_iff).mpr P.2.1, fun x hx => P.2.2 x (q.mem_iff.mp hx)⟩
theorem erase_perm {α : Type} : ∀ (L : List α) (i : Nat) (h : i < L.length), (L[i] :: L.eraseIdx i).Perm L
  | [], _, h => absurd h (Nat.not_lt_zero _)
  | _ :: _, 0, _ => List.Perm.refl _
  | a :: l, i + 1, h => by
    have hl : i < l.length := Nat.lt_of_succ_lt_succ h
    show (l[i] :: a :: l.eraseIdx i).Perm (a :: l)
    exact (List.Perm.swap _ _ _).trans ((erase_perm l i hl).cons a)
theorem front_perm {α : Type} (L : List α) (i : Nat) : (front L i).Perm L := by
  unfold front
  cases hx : L[i]? with
  | none => exact List.Perm.refl _
  | some x =>
    obtain ⟨hl, rfl⟩ := List.getElem?_eq_some_iff.mp hx
    exact erase_perm L i hl
theorem Hp.front (P : Hp Z n0 h L) (i : Nat) : Hp Z n0 h (front L i) := P.perm (front_perm L i)
theorem Hp.tail {x : Addr × Desc} (P : Hp Z n0 h (x :: L)) : Hp Z n0 h L := ⟨P.1, (List.nodup_cons.mp P.2.1).2, fun z hz => P.2.2 z (List.mem_cons_of_mem _ hz)⟩
theorem Hp.ext (P : Hp Z n0 h L) (E : Ext h h') : Hp Z n0 h' L := ⟨P.1.ext E, P.2.1, fun x hx => ⟨(P.2.2 _ hx).1, (P.2.2 _ hx).2.ext E⟩⟩
theorem Hp.nil (P : Hp Z n0 h L) : Hp Z n0 h [] := ⟨P.1, List.nodup_nil, fun z hz => nomatch hz⟩
theorem Hp.start (s : State) : Hp s s.heap.size s.heap [] := ⟨Old.start s, List.nodup_nil, fun z hz => nomatch hz⟩
theorem Hp.sto {y : Addr} {fs : List FD} (P : Hp Z n0 h L) (hi : L[i]? = some (a, .inr (.object K, ad, vs))) (hj : L[j]? = some (y, .inl (K, fs))) : Sto Z h a (.ref y) := by
  obtain ⟨-, c, h2, -, -, -, h6⟩ := P.is hi
  exact Sto.of h2 (h6 K rfl) (Ins.self (P.exa hj))
theorem Hp.stoI {y : Addr} (P : Hp Z n0 h L) (hi : L[i]? = some (a, .inr (.object K, ad, vs))) (I : Ins Z h y K true) : Sto Z h a (.ref y) := by
  obtain ⟨-, c, h2, -, -, -, h6⟩ := P.is hi
  exact Sto.of h2 (h6 K rfl) I
theorem inb {c : Cell} {j : Int32} (hc : c.slots = vs.toArray) (hj : ¬ j < 0) (hv : vs[j.toNatClampNeg]? = some v) : ¬ (j < 0 ∨ c.slots.size ≤ j.toNatClampNeg) := by
  have := (List.getElem?_eq_some_iff.mp hv).1
  rw [hc]; simp; exact ⟨by simpa using Int32.not_lt.mp hj, this⟩
theorem inb' {c : Cell} {j : Int32} (hc : c.slots = vs.toArray) (hj : ¬ j < 0) (hv : j.toNatClampNeg < vs.length) : ¬ (j < 0 ∨ c.slots.size ≤ j.toNatClampNeg) := by
  rw [hc]; simp; exact ⟨by simpa using Int32.not_lt.mp hj, hv⟩
end Hp
section WalkHp
variable {wd : Bool} {K₀ : State → Prop} {l : Launch} {Z : State} {R : Room} {y : MethodName} {bytes : ByteArray} {ml : Nat} {ret : Option FieldType} {n0 kc ks : Nat} {Q : Option Value → Heap → Prop} {h : Heap} {k n pc pc' tg : Nat} {ls : List Slot} {st : List Value} {a0 : Array Value} {L : List (Addr × Desc)} {i j : Nat} {K ad O nm d R0 host : String} {fs : List FD} {vs : List Value} {a : Addr} {ty : FieldType} {v old : Value}
theorem go_get {idx : Nat} (P : Hp Z n0 h L) (i j : Nat) (D : Dc bytes pc (.getfield idx) 3 pc') (hi : L[i]? = some (a, .inl (K, fs))) (hj : fs[j]? = some ((O, nm, d), v)) (w : (Cond.fieldLink y.cls idx O nm d).before a0 Z = true) (G : Go wd K₀ l Z R y bytes ml ret n0 kc ks Q h k n pc' ls (v :: st)) : Go wd K₀ l Z R y bytes ml ret n0 kc ks Q h k n pc ls (.ref a :: st) :=
  go_getF (host := "") D (Or.inl w) Via.refl (P.fld hi hj) G
theorem go_getN {idx : Nat} (P : Hp Z n0 h L) (i j : Nat) (D : Dc bytes pc (.getfield idx) 3 pc') (hi : L[i]? = some (a, .inl (K, fs))) (hj : fs[j]? = some ((O, nm, d), v)) (w : (Cond.fieldLinkNest y.cls idx O nm d host).before a0 Z = true) (G : Go wd K₀ l Z R y bytes ml ret n0 kc ks Q h k n pc' ls (v :: st)) : Go wd K₀ l Z R y bytes ml ret n0 kc ks Q h k n pc ls (.ref a :: st) :=
  go_getF (host := host) D (Or.inr w) Via.refl (P.fld hi hj) G
theorem go_put {idx kk : Nat} (P : Hp Z n0 h L) (i j : Nat) (ty : FieldType) (D : Dc bytes pc (.putfield idx) 3 pc') (hi : L[i]? = some (a, .inl (K, fs))) (hj : fs[j]? = some ((O, nm, d), old)) (w : (Cond.fieldLink y.cls idx O nm d).before a0 Z = true)
    (Lw : (Cond.lays K O nm d).before a0 Z = true ∨ ((Cond.laysFinal K O nm d).before a0 Z = true ∧ y.cls = O ∧ y.name = "<init>")) (wi : (Cond.instantiable K kk).before a0 Z = true) (hty : parseFieldDescriptor d = some ty) (hnr : narrow ty v = v) (hfi : fits ty v = true)
    (G : ∀ h', Hp Z n0 h' (lupd L i (a, .inl (K, lupd fs j ((O, nm, d), v)))) → Go wd K₀ l Z R y bytes ml ret n0 kc ks Q h' k n pc' ls st) : Go wd K₀ l Z R y bytes ml ret n0 kc ks Q h k n pc ls (v :: .ref a :: st) :=
  go_putF (host := "") D (Or.inl w) Via.refl (P.fld hi hj) (P.exa hi) Lw wi hty hnr hfi (P.ge hi) fun h' W => G h' (P.put hi hj W)
theorem go_new {idx sl : Nat} (P : Hp Z n0 h L) (fs : List FD) (D : Dc bytes pc (.new idx) 3 pc') (w : (Cond.classLink y.cls idx K).before a0 Z = true) (wi : (Cond.instantiable K sl).before a0 Z = true) (wz : (Cond.initialized K).before a0 Z = true) (Ld : LaysD Z a0 K fs) (nd : (fs.map fun f => f.1.2.1).Nodup) (hk : k + 1 ≤ R.cells) (hn : n + sl ≤ R.slots)
    (G : ∀ h' a, Hp Z n0 h' ((a, .inl (K, fs)) :: L) → Go wd K₀ l Z R y bytes ml ret n0 kc ks Q h' (k + 1) (n + sl) pc' ls (.ref a :: st)) : Go wd K₀ l Z R y bytes ml ret n0 kc ks Q h k n pc ls st :=
  go_newO D w wi wz hk hn fun h' E A F => G h' h.size (P.new E A F Ld nd)
theorem go_newarr {aty : ArrayType} {z : Int32} (P : Hp Z n0 h L) (ad : String) (vs : List Value) (cap : Nat) (D : Dc bytes pc (.newarray aty) 2 pc') (w : (Cond.arrayClass (newarray.typeOf aty)).before a0 Z = true) (hz : ¬ z < 0) (hcap : z.toNatClampNeg ≤ cap) (hb8 : cap * 8 ≤ 536870912) (had : "[" ++ (newarray.typeOf aty).toString = ad) (hty : newarray.typeOf aty = ty) (hvs : List.replicate z.toNatClampNeg (defaultValue ty) = vs) (hk : k + 1 ≤ R.cells) (hn : n + cap ≤ R.slots)
    (G : ∀ h' a, Hp Z n0 h' ((a, .inr (ty, ad, vs)) :: L) → Go wd K₀ l Z R y bytes ml ret n0 kc ks Q h' (k + 1) (n + cap) pc' ls (.ref a :: st)) : Go wd K₀ l Z R y bytes ml ret n0 kc ks Q h k n pc ls (.int z :: st) :=
  go_newP D w hz cap hcap hb8 hk hn had fun h' cA E A X => G h' h.size (P.newA E (hty ▸ A) X (fun K q => by subst hty; cases aty <;> cases q) hvs hz)
theorem go_newobjarr {idx : Nat} {z : Int32} (P : Hp Z n0 h L) (ad : String) (vs : List Value) (cap : Nat) (D : Dc bytes pc (.anewarray idx) 3 pc') (w1 : (Cond.classLink y.cls idx K).before a0 Z = true) (w2 : (Cond.arrayOver (.object K)).before a0 Z = true) (hz : ¬ z < 0) (hcap : z.toNatClampNeg ≤ cap) (hb8 : cap * 8 ≤ 536870912) (had : "[" ++ (FieldType.object K).toString = ad) (hvs : List.replicate z.toNatClampNeg Value.null = vs) (hk : k + 1 ≤ R.cells) (hn : n + cap ≤ R.slots)
    (G : ∀ h' a, Hp Z n0 h' ((a, .inr (.object K, ad, vs)) :: L) → Go wd K₀ l Z R y bytes ml ret n0 kc ks Q h' (k + 1) (n + cap) pc' ls (.ref a :: st)) : Go wd K₀ l Z R y bytes ml ret n0 kc ks Q h k n pc ls (.int z :: st) :=
  go_newR D w1 w2 hz cap hcap hb8 hk hn had fun h' cA E A X O => G h' h.size (P.newA E A X (fun K' q => by cases q; exact O) hvs hz)
theorem go_alen {z : Int32} (P : Hp Z n0 h L) (i : Nat) (D : Dc bytes pc .arraylength 1 pc') (hi : L[i]? = some (a, .inr (ty, ad, vs))) (hz : vs.length.toInt32 = z) (G : Go wd K₀ l Z R y bytes ml ret n0 kc ks Q h k n pc' ls (.int z :: st)) : Go wd K₀ l Z R y bytes ml ret n0 kc ks Q h k n pc ls (.ref a :: st) := by
  obtain ⟨-, c, h2, h3, -⟩ := P.is hi
  exact go_len D h2 (by rw [h3]; simpa using hz) G
theorem go_ialoadH {q : Int32} (P : Hp Z n0 h L) (i : Nat) (D : Dc bytes pc .iaload 1 pc') (hi : L[i]? = some (a, .inr (.int, ad, vs))) (hq : ¬ q < 0) (hv : vs[q.toNatClampNeg]? = some v) (G : Go wd K₀ l Z R y bytes ml ret n0 kc ks Q h k n pc' ls (v :: st)) : Go wd K₀ l Z R y bytes ml ret n0 kc ks Q h k n pc ls (.int q :: .ref a :: st) := by
  obtain ⟨-, c, h2, h3, -⟩ := P.is hi
  exact go_iaload D h2 (inb h3 hq hv) (by rw [h3]; simpa using hv) G
theorem go_caloadH {q : Int32} (P : Hp Z n0 h L) (i : Nat) (D : Dc bytes pc .caload 1 pc') (hi : L[i]? = some (a, .inr (.char, ad, vs))) (hq : ¬ q < 0) (hv : vs[q.toNatClampNeg]? = some v) (G : Go wd K₀ l Z R y bytes ml ret n0 kc ks Q h k n pc' ls (v :: st)) : Go wd K₀ l Z R y bytes ml ret n0 kc ks Q h k n pc ls (.int q :: .ref a :: st) := by
  obtain ⟨-, c, h2, h3, -⟩ := P.is hi
  exact go_caload D h2 (inb h3 hq hv) (by rw [h3]; simpa using hv) G
theorem go_baloadH {q : Int32} (P : Hp Z n0 h L) (i : Nat) (D : Dc bytes pc .baload 1 pc') (hi : L[i]? = some (a, .inr (.byte, ad, vs))) (hq : ¬ q < 0) (hv : vs[q.toNatClampNeg]? = some v) (G : Go wd K₀ l Z R y bytes ml ret n0 kc ks Q h k n pc' ls (v :: st)) : Go wd K₀ l Z R y bytes ml ret n0 kc ks Q h k n pc ls (.int q :: .ref a :: st) := by
  obtain ⟨-, c, h2, h3, -⟩ := P.is hi
  exact go_baload D h2 (inb h3 hq hv) (by rw [h3]; simpa using hv) G
theorem go_laloadH {q : Int32} (P : Hp Z n0 h L) (i : Nat) (D : Dc bytes pc .laload 1 pc') (hi : L[i]? = some (a, .inr (.long, ad, vs))) (hq : ¬ q < 0) (hv : vs[q.toNatClampNeg]? = some v) (G : Go wd K₀ l Z R y bytes ml ret n0 kc ks Q h k n pc' ls (v :: st)) : Go wd K₀ l Z R y bytes ml ret n0 kc ks Q h k n pc ls (.int q :: .ref a :: st) := by
  obtain ⟨-, c, h2, h3, -⟩ := P.is hi
  exact go_laload D h2 (inb h3 hq hv) (by rw [h3]; simpa using hv) G
theorem go_aaloadH {q : Int32} (P : Hp Z n0 h L) (i : Nat) (D : Dc bytes pc .aaload 1 pc') (hi : L[i]? = some (a, .inr (ty, ad, vs))) (hty : ty.isReference = true) (hq : ¬ q < 0) (hv : vs[q.toNatClampNeg]? = some v) (G : Go wd K₀ l Z R y bytes ml ret n0 kc ks Q h k n pc' ls (v :: st)) : Go wd K₀ l Z R y bytes ml ret n0 kc ks Q h k n pc ls (.int q :: .ref a :: st) := by
  obtain ⟨-, c, h2, h3, -⟩ := P.is hi
  exact go_aaload D h2 hty (inb h3 hq hv) (by rw [h3]; simpa using hv) G
theorem go_iastoreH {q : Int32} {x : Int32} (P : Hp Z n0 h L) (i : Nat) (D : Dc bytes pc .iastore 1 pc') (hi : L[i]? = some (a, .inr (.int, ad, vs))) (hq : ¬ q < 0) (hv : q.toNatClampNeg < vs.length) (G : ∀ h', Hp Z n0 h' (lupd L i (a, .inr (.int, ad, lupd vs q.toNatClampNeg (.int x)))) → Go wd K₀ l Z R y bytes ml ret n0 kc ks Q h' k n pc' ls st) : Go wd K₀ l Z R y bytes ml ret n0 kc ks Q h k n pc ls (.int x :: .int q :: .ref a :: st) := by
  obtain ⟨-, c, h2, h3, -⟩ := P.is hi
  exact go_iastore D h2 (inb' h3 hq hv) (P.ge hi) fun h' W => G h' (P.aput hi rfl W)
theorem go_lastoreH {q : Int32} {x : Int64} (P : Hp Z n0 h L) (i : Nat) (D : Dc bytes pc .lastore 1 pc') (hi : L[i]? = some (a, .inr (.long, ad, vs))) (hq : ¬ q < 0) (hv : q.toNatClampNeg < vs.length) (G : ∀ h', Hp Z n0 h' (lupd L i (a, .inr (.long, ad, lupd vs q.toNatClampNeg (.long x)))) → Go wd K₀ l Z R y bytes ml ret n0 kc ks Q h' k n pc' ls st) : Go wd K₀ l Z R y bytes ml ret n0 kc ks Q h k n pc ls (.long x :: .int q :: .ref a :: st) := by
  obtain ⟨-, c, h2, h3, -⟩ := P.is hi
  exact go_lastore D h2 (inb' h3 hq hv) (P.ge hi) fun h' W => G h' (P.aput hi rfl W)
theorem go_castoreH {q : Int32} {x : Int32} (P : Hp Z n0 h L) (i : Nat) (D : Dc bytes pc .castore 1 pc') (hi : L[i]? = some (a, .inr (.char, ad, vs))) (hq : ¬ q < 0) (hv : q.toNatClampNeg < vs.length) (G : ∀ h', Hp Z n0 h' (lupd L i (a, .inr (.char, ad, lupd vs q.toNatClampNeg (.int (nar .char x))))) → Go wd K₀ l Z R y bytes ml ret n0 kc ks Q h' k n pc' ls st) : Go wd K₀ l Z R y bytes ml ret n0 kc ks Q h k n pc ls (.int x :: .int q :: .ref a :: st) := by
  obtain ⟨-, c, h2, h3, -⟩ := P.is hi
  exact go_castore D h2 (inb' h3 hq hv) (P.ge hi) fun h' W => G h' (P.aput hi (fits_nar_char x) W)
theorem go_bastoreH {q : Int32} {x : Int32} (P : Hp Z n0 h L) (i : Nat) (D : Dc bytes pc .bastore 1 pc') (hi : L[i]? = some (a, .inr (.byte, ad, vs))) (hq : ¬ q < 0) (hv : q.toNatClampNeg < vs.length) (G : ∀ h', Hp Z n0 h' (lupd L i (a, .inr (.byte, ad, lupd vs q.toNatClampNeg (.int (nar .byte x))))) → Go wd K₀ l Z R y bytes ml ret n0 kc ks Q h' k n pc' ls st) : Go wd K₀ l Z R y bytes ml ret n0 kc ks Q h k n pc ls (.int x :: .int q :: .ref a :: st) := by
  obtain ⟨-, c, h2, h3, -⟩ := P.is hi
  exact go_bastore D h2 (inb' h3 hq hv) (P.ge hi) fun h' W => G h' (P.aput hi (fits_nar_byte x) W)
theorem go_zastoreH {q : Int32} {x : Int32} (P : Hp Z n0 h L) (i : Nat) (D : Dc bytes pc .bastore 1 pc') (hi : L[i]? = some (a, .inr (.boolean, ad, vs))) (hq : ¬ q < 0) (hv : q.toNatClampNeg < vs.length) (G : ∀ h', Hp Z n0 h' (lupd L i (a, .inr (.boolean, ad, lupd vs q.toNatClampNeg (.int (nar .boolean x))))) → Go wd K₀ l Z R y bytes ml ret n0 kc ks Q h' k n pc' ls st) : Go wd K₀ l Z R y bytes ml ret n0 kc ks Q h k n pc ls (.int x :: .int q :: .ref a :: st) := by
  obtain ⟨-, c, h2, h3, -⟩ := P.is hi
  exact go_zastore D h2 (inb' h3 hq hv) (P.ge hi) fun h' W => G h' (P.aput hi (fits_nar_bool x) W)
theorem go_clone {idx W : Nat} (P : Hp Z n0 h L) (i : Nat) (cap : Nat) (D : Dc bytes pc (.invokevirtual idx) 3 pc') (hi : L[i]? = some (a, .inr (ty, ad, vs)))
    (w1 : (Cond.methodLink y.cls idx ⟨ad, "clone", "()Ljava/lang/Object;"⟩).before a0 Z = true) (w2 : (Cond.sameMethod ad "java/lang/Object" "clone" "()Ljava/lang/Object;").before a0 Z = true) (w3 : (Cond.native ⟨"java/lang/Object", "clone", "()Ljava/lang/Object;"⟩).before a0 Z = true)
    (w4 : (Cond.instanceMethod ⟨"java/lang/Object", "clone", "()Ljava/lang/Object;"⟩).before a0 Z = true) (w5 : (Cond.selects ad ⟨ad, "clone", "()Ljava/lang/Object;"⟩ ⟨"java/lang/Object", "clone", "()Ljava/lang/Object;"⟩).before a0 Z = true) (w6 : (Cond.castable ad "java/lang/Cloneable").before a0 Z = true)
    (hlen : vs.length ≤ cap) (hls : ls.length = ml) (hf : 1 ≤ R.frames) (hW : (st.map fun v => v.category).sum = W) (hlo : W + 14 ≤ R.locals) (hk : k + 1 ≤ R.cells) (hn : n + cap ≤ R.slots)
    (G : ∀ h' b, Hp Z n0 h' ((b, .inr (ty, ad, vs)) :: L) → Go wd K₀ l Z R y bytes ml ret n0 kc ks Q h' (k + 1) (n + cap) pc' ls (.ref b :: st)) : Go wd K₀ l Z R y bytes ml ret n0 kc ks Q h k n pc ls (.ref a :: st) := by
  obtain ⟨E, cl, A, hs, hl31, hfit, hov⟩ := P.is hi
  intro p e s0 s m args below meth c T L' Bs C X hh N
  obtain ⟨hd, rfl⟩ := D
  have FC : FitC Z cl := fitC_of A fun q hq v hv => hfit v (by rw [hs] at hv; exact List.mem_of_getElem? (by simpa using hv))
  obtain ⟨T', h', X', e', ex, A', E', st'⟩ := cloneA X C.1 C.2.2.2.2.1 C.2.2.2.1 w1 w2 w3 w4 w5 w6 hh A E FC (g := mkF m pc ls.toArray (.ref a :: st)) rfl (by rw [C.2.2.1]; simpa using hls) rfl (hb C.2.1 hd) hf (W := W) (cap := cap) (by show 2 * 0 + _ ≤ W; rw [← hW]; omega) hlo (by rw [hs]; simpa using hlen) hk hn
  exact (G h' h.size (P.grow ex ⟨E', cloneOf cl, A', hs, hl31, hfit, hov⟩) p e s0 s m args below meth c T' L' (Bs.mono ex.1) C X' e' N).pre st'
def Dts (bytes : ByteArray) (pc : Nat) (x : Int32) (tg : Nat) : Prop := ∃ (d lo hi : Int) (offs : Array Int) (len : Nat) (o : Int), decode bytes pc = .ok (.tableswitch d lo hi offs, len) ∧ ¬ (x.toInt < lo ∨ x.toInt > hi) ∧ offs[(x.toInt - lo).toNat]? = some o ∧ 0 ≤ (pc : Int) + o ∧ ((pc : Int) + o).toNat = tg
def Dlk (bytes : ByteArray) (pc : Nat) (x : Int32) (tg : Nat) : Prop := ∃ (d : Int) (prs : Array (Int × Int)) (len : Nat), decode bytes pc = .ok (.lookupswitch d prs, len) ∧ (prs.toList.zip (prs.toList.drop 1)).all (fun (a, next) => a.1 < next.1) = true ∧ 0 ≤ (pc : Int) + lookupswitch.offset prs.toList d x.toInt ∧ ((pc : Int) + lookupswitch.offset prs.toList d x.toInt).toNat = tg
theorem lswX {tb : Tables} [Ours tb] {e : Env} {below : List Frame} {T target : State} {m : MethodId} {c : Code} {g : JFrame} (h : At T m c below) (hx : tb.exec = Jvm.exec) (hg : g.method = m) {d : Int} {prs : Array (Int × Int)} {len : Nat} {pc0 pc' : Nat} (hpc : g.pc = pc0) (hd : decode c.code g.pc = .ok (.lookupswitch d prs, len)) {i : Int32} {rest : List Value} (hs : g.stack = .int i :: rest)
    (hor : (prs.toList.zip (prs.toList.drop 1)).all (fun (a, next) => a.1 < next.1) = true) (ho : 0 ≤ (pc0 : Int) + lookupswitch.offset prs.toList d i.toInt) (hp : ((pc0 : Int) + lookupswitch.offset prs.toList d i.toInt).toNat = pc')
    (hr : Steps tb e below (T.setTop { g with pc := pc', stack := rest }) target) : Steps tb e below (T.setTop g) target := by
  subst hg hpc hp
  jvm_step h [h.top, hx, hd, hs, hor, ho, lookupswitch.wp_chain]
  exact ⟨by simpa using hor, hr⟩
theorem go_tsw {x : Int32} (D : Dts bytes pc x tg) (G : Go wd K₀ l Z R y bytes ml ret n0 kc ks Q h k n tg ls st) : Go wd K₀ l Z R y bytes ml ret n0 kc ks Q h k n pc ls (.int x :: st) := by
  obtain ⟨d, lo, hi, offs, len, o, hd, h1, h2, h3, h4⟩ := D
  exact go_pure G (fun C X t => XS.tswIn X.here C.1 (g := mkF _ pc ls.toArray (.int x :: st)) rfl (pc0 := pc) rfl (hb C.2.1 hd) rfl h1 h2 h3 h4)
theorem go_lsw {x : Int32} (D : Dlk bytes pc x tg) (G : Go wd K₀ l Z R y bytes ml ret n0 kc ks Q h k n tg ls st) : Go wd K₀ l Z R y bytes ml ret n0 kc ks Q h k n pc ls (.int x :: st) := by
  obtain ⟨d, prs, len, hd, h1, h3, h4⟩ := D
  exact go_pure G (fun C X t => lswX X.here C.1 (g := mkF _ pc ls.toArray (.int x :: st)) rfl (pc0 := pc) rfl (hb C.2.1 hd) rfl h1 h3 h4)
theorem Hp.insA {i : Nat} (P : Hp Z n0 h L) (hi : L[i]? = some (a, .inr (ty, ad, vs))) : Ins Z h a ad true := Ins.self (P.exaA hi)
theorem go_aastoreH {q : Int32} (P : Hp Z n0 h L) (i : Nat) (D : Dc bytes pc .aastore 1 pc') (hi : L[i]? = some (a, .inr (ty, ad, vs))) (hty : ty.isReference = true) (hf : fits ty v = true) (hq : ¬ q < 0) (hv : q.toNatClampNeg < vs.length) (F : Sto Z h a v) (G : ∀ h', Hp Z n0 h' (lupd L i (a, .inr (ty, ad, lupd vs q.toNatClampNeg v))) → Go wd K₀ l Z R y bytes ml ret n0 kc ks Q h' k n pc' ls st) : Go wd K₀ l Z R y bytes ml ret n0 kc ks Q h k n pc ls (v :: .int q :: .ref a :: st) := by
  obtain ⟨-, c, h2, h3, -⟩ := P.is hi
  exact go_aastore D h2 (inb' h3 hq hv) hty F (P.ge hi) fun h' W => G h' (P.aput hi hf W)
end WalkHp
end Jvm.OwnGo
namespace Jvm.Pilot.@@N@@
open Jvm Jvm.ClassFile Sem Op Lib Jvm.Free Jvm.Stand Jvm.LawKit Jvm.RoadKit Bundle Jvm.OwnGo Jvm.Pilot.@@N@@.Jvm.D
theorem t0 {Z : State} {a0 : Array Value} (hw : ∀ d ∈ tables_1, d.before a0 Z = true) : (Jvm.Cond.constantLong "com/example/need_to_know/needtoknow/BudgetRunsOutPinLaw" (7 : Nat) (2147483647 : Int64)).before a0 Z = true := hw _ (List.mem_of_getElem? (i := 0) rfl)
theorem t1 {Z : State} {a0 : Array Value} (hw : ∀ d ∈ tables_1, d.before a0 Z = true) : (Jvm.Cond.constantLong "com/example/need_to_know/needtoknow/BudgetRunsOutPinLaw" (9 : Nat) (2 : Int64)).before a0 Z = true := hw _ (List.mem_of_getElem? (i := 1) rfl)
theorem t2 {Z : State} {a0 : Array Value} (hw : ∀ d ∈ tables_1, d.before a0 Z = true) : (Jvm.Cond.classLink "com/example/need_to_know/needtoknow/BudgetRunsOutPinLaw" (11 : Nat) "com/example/need_to_know/needtoknow/Grant$Budget").before a0 Z = true := hw _ (List.mem_of_getElem? (i := 2) rfl)
theorem t3 {Z : State} {a0 : Array Value} (hw : ∀ d ∈ tables_1, d.before a0 Z = true) : (Jvm.Cond.instantiable "com/example/need_to_know/needtoknow/Grant$Budget" (2 : Nat)).before a0 Z = true := hw _ (List.mem_of_getElem? (i := 3) rfl)
theorem t4 {Z : State} {a0 : Array Value} (hw : ∀ d ∈ tables_1, d.before a0 Z = true) : (Jvm.Cond.initialized "com/example/need_to_know/needtoknow/Grant$Budget").before a0 Z = true := hw _ (List.mem_of_getElem? (i := 4) rfl)
theorem t5 {Z : State} {a0 : Array Value} (hw : ∀ d ∈ tables_1, d.before a0 Z = true) : (Jvm.Cond.methodLink "com/example/need_to_know/needtoknow/BudgetRunsOutPinLaw" (13 : Nat) ({ cls := "com/example/need_to_know/needtoknow/Grant$Budget", name := "<init>", desc := "(JJ)V" } : Jvm.MethodName)).before a0 Z = true := hw _ (List.mem_of_getElem? (i := 5) rfl)
theorem t6 {Z : State} {a0 : Array Value} (hw : ∀ d ∈ tables_1, d.before a0 Z = true) : (Jvm.Cond.instanceMethod ({ cls := "com/example/need_to_know/needtoknow/Grant$Budget", name := "<init>", desc := "(JJ)V" } : Jvm.MethodName)).before a0 Z = true := hw _ (List.mem_of_getElem? (i := 6) rfl)
theorem t7 {Z : State} {a0 : Array Value} (hw : ∀ d ∈ tables_1, d.before a0 Z = true) : (Jvm.Cond.code ({ cls := "com/example/need_to_know/needtoknow/Grant$Budget", name := "<init>", desc := "(JJ)V" } : Jvm.MethodName) prog_11_method_1_code (5 : Nat) (Option.none : Option Jvm.ClassFile.FieldType)).before a0 Z = true := hw _ (List.mem_of_getElem? (i := 7) rfl)
theorem t8 {Z : State} {a0 : Array Value} (hw : ∀ d ∈ tables_1, d.before a0 Z = true) : (Jvm.Cond.methodLink "com/example/need_to_know/needtoknow/Grant$Budget" (1 : Nat) ({ cls := "java/lang/Record", name := "<init>", desc := "()V" } : Jvm.MethodName)).before a0 Z = true := hw _ (List.mem_of_getElem? (i := 8) rfl)
theorem t9 {Z : State} {a0 : Array Value} (hw : ∀ d ∈ tables_1, d.before a0 Z = true) : (Jvm.Cond.instanceMethod ({ cls := "java/lang/Record", name := "<init>", desc := "()V" } : Jvm.MethodName)).before a0 Z = true := hw _ (List.mem_of_getElem? (i := 9) rfl)
theorem t11 {Z : State} {a0 : Array Value} (hw : ∀ d ∈ tables_1, d.before a0 Z = true) : (Jvm.Cond.initialized "java/lang/Record").before a0 Z = true := hw _ (List.mem_of_getElem? (i := 11) rfl)
theorem t12 {Z : State} {a0 : Array Value} (hw : ∀ d ∈ tables_1, d.before a0 Z = true) : (Jvm.Cond.code ({ cls := "java/lang/Record", name := "<init>", desc := "()V" } : Jvm.MethodName) jdk_30_method_1_code (1 : Nat) (Option.none : Option Jvm.ClassFile.FieldType)).before a0 Z = true := hw _ (List.mem_of_getElem? (i := 12) rfl)
theorem t13 {Z : State} {a0 : Array Value} (hw : ∀ d ∈ tables_1, d.before a0 Z = true) : (Jvm.Cond.methodLink "java/lang/Record" (1 : Nat) ({ cls := "java/lang/Object", name := "<init>", desc := "()V" } : Jvm.MethodName)).before a0 Z = true := hw _ (List.mem_of_getElem? (i := 13) rfl)
theorem t14 {Z : State} {a0 : Array Value} (hw : ∀ d ∈ tables_1, d.before a0 Z = true) : (Jvm.Cond.instanceMethod ({ cls := "java/lang/Object", name := "<init>", desc := "()V" } : Jvm.MethodName)).before a0 Z = true := hw _ (List.mem_of_getElem? (i := 14) rfl)
theorem t15 {Z : State} {a0 : Array Value} (hw : ∀ d ∈ tables_1, d.before a0 Z = true) : (Jvm.Cond.code ({ cls := "java/lang/Object", name := "<init>", desc := "()V" } : Jvm.MethodName) object_method_1_code (1 : Nat) (Option.none : Option Jvm.ClassFile.FieldType)).before a0 Z = true := hw _ (List.mem_of_getElem? (i := 15) rfl)
theorem t16 {Z : State} {a0 : Array Value} (hw : ∀ d ∈ tables_1, d.before a0 Z = true) : (Jvm.Cond.fieldLink "com/example/need_to_know/needtoknow/Grant$Budget" (7 : Nat) "com/example/need_to_know/needtoknow/Grant$Budget" "seconds" "J").before a0 Z = true := hw _ (List.mem_of_getElem? (i := 16) rfl)
theorem t17 {Z : State} {a0 : Array Value} (hw : ∀ d ∈ tables_1, d.before a0 Z = true) : (Jvm.Cond.laysFinal "com/example/need_to_know/needtoknow/Grant$Budget" "com/example/need_to_know/needtoknow/Grant$Budget" "seconds" "J").before a0 Z = true := hw _ (List.mem_of_getElem? (i := 17) rfl)
theorem t18 {Z : State} {a0 : Array Value} (hw : ∀ d ∈ tables_1, d.before a0 Z = true) : (Jvm.Cond.fieldLink "com/example/need_to_know/needtoknow/Grant$Budget" (13 : Nat) "com/example/need_to_know/needtoknow/Grant$Budget" "period" "J").before a0 Z = true := hw _ (List.mem_of_getElem? (i := 18) rfl)
theorem t19 {Z : State} {a0 : Array Value} (hw : ∀ d ∈ tables_1, d.before a0 Z = true) : (Jvm.Cond.laysFinal "com/example/need_to_know/needtoknow/Grant$Budget" "com/example/need_to_know/needtoknow/Grant$Budget" "period" "J").before a0 Z = true := hw _ (List.mem_of_getElem? (i := 19) rfl)
theorem t20 {Z : State} {a0 : Array Value} (hw : ∀ d ∈ tables_1, d.before a0 Z = true) : (Jvm.Cond.methodLink "com/example/need_to_know/needtoknow/BudgetRunsOutPinLaw" (16 : Nat) ({ cls := "com/example/need_to_know/needtoknow/Grant$Budget", name := "runsOut", desc := "(JJ)J" } : Jvm.MethodName)).before a0 Z = true := hw _ (List.mem_of_getElem? (i := 20) rfl)
theorem t21 {Z : State} {a0 : Array Value} (hw : ∀ d ∈ tables_1, d.before a0 Z = true) : (Jvm.Cond.declares ({ cls := "com/example/need_to_know/needtoknow/Grant$Budget", name := "runsOut", desc := "(JJ)J" } : Jvm.MethodName)).before a0 Z = true := hw _ (List.mem_of_getElem? (i := 21) rfl)
theorem t22 {Z : State} {a0 : Array Value} (hw : ∀ d ∈ tables_1, d.before a0 Z = true) : (Jvm.Cond.instanceMethod ({ cls := "com/example/need_to_know/needtoknow/Grant$Budget", name := "runsOut", desc := "(JJ)J" } : Jvm.MethodName)).before a0 Z = true := hw _ (List.mem_of_getElem? (i := 22) rfl)
theorem t23 {Z : State} {a0 : Array Value} (hw : ∀ d ∈ tables_1, d.before a0 Z = true) : (Jvm.Cond.selects "com/example/need_to_know/needtoknow/Grant$Budget" ({ cls := "com/example/need_to_know/needtoknow/Grant$Budget", name := "runsOut", desc := "(JJ)J" } : Jvm.MethodName) ({ cls := "com/example/need_to_know/needtoknow/Grant$Budget", name := "runsOut", desc := "(JJ)J" } : Jvm.MethodName)).before a0 Z = true := hw _ (List.mem_of_getElem? (i := 23) rfl)
theorem t24 {Z : State} {a0 : Array Value} (hw : ∀ d ∈ tables_1, d.before a0 Z = true) : (Jvm.Cond.code ({ cls := "com/example/need_to_know/needtoknow/Grant$Budget", name := "runsOut", desc := "(JJ)J" } : Jvm.MethodName) prog_11_method_3_code (9 : Nat) (Option.some Jvm.ClassFile.FieldType.long)).before a0 Z = true := hw _ (List.mem_of_getElem? (i := 24) rfl)
theorem t25 {Z : State} {a0 : Array Value} (hw : ∀ d ∈ tables_1, d.before a0 Z = true) : (Jvm.Cond.methodLink "com/example/need_to_know/needtoknow/Grant$Budget" (22 : Nat) ({ cls := "com/example/need_to_know/needtoknow/Grant$Budget", name := "start", desc := "(J)J" } : Jvm.MethodName)).before a0 Z = true := hw _ (List.mem_of_getElem? (i := 25) rfl)
theorem t26 {Z : State} {a0 : Array Value} (hw : ∀ d ∈ tables_1, d.before a0 Z = true) : (Jvm.Cond.declares ({ cls := "com/example/need_to_know/needtoknow/Grant$Budget", name := "start", desc := "(J)J" } : Jvm.MethodName)).before a0 Z = true := hw _ (List.mem_of_getElem? (i := 26) rfl)
theorem t27 {Z : State} {a0 : Array Value} (hw : ∀ d ∈ tables_1, d.before a0 Z = true) : (Jvm.Cond.instanceMethod ({ cls := "com/example/need_to_know/needtoknow/Grant$Budget", name := "start", desc := "(J)J" } : Jvm.MethodName)).before a0 Z = true := hw _ (List.mem_of_getElem? (i := 27) rfl)
theorem t28 {Z : State} {a0 : Array Value} (hw : ∀ d ∈ tables_1, d.before a0 Z = true) : (Jvm.Cond.selects "com/example/need_to_know/needtoknow/Grant$Budget" ({ cls := "com/example/need_to_know/needtoknow/Grant$Budget", name := "start", desc := "(J)J" } : Jvm.MethodName) ({ cls := "com/example/need_to_know/needtoknow/Grant$Budget", name := "start", desc := "(J)J" } : Jvm.MethodName)).before a0 Z = true := hw _ (List.mem_of_getElem? (i := 28) rfl)
theorem t29 {Z : State} {a0 : Array Value} (hw : ∀ d ∈ tables_1, d.before a0 Z = true) : (Jvm.Cond.code ({ cls := "com/example/need_to_know/needtoknow/Grant$Budget", name := "start", desc := "(J)J" } : Jvm.MethodName) prog_11_method_2_code (3 : Nat) (Option.some Jvm.ClassFile.FieldType.long)).before a0 Z = true := hw _ (List.mem_of_getElem? (i := 29) rfl)
theorem t30 {Z : State} {a0 : Array Value} (hw : ∀ d ∈ tables_1, d.before a0 Z = true) : (Jvm.Cond.methodLink "com/example/need_to_know/needtoknow/Grant$Budget" (16 : Nat) ({ cls := "java/lang/Math", name := "floorDiv", desc := "(JJ)J" } : Jvm.MethodName)).before a0 Z = true := hw _ (List.mem_of_getElem? (i := 30) rfl)
theorem t31 {Z : State} {a0 : Array Value} (hw : ∀ d ∈ tables_1, d.before a0 Z = true) : (Jvm.Cond.static ({ cls := "java/lang/Math", name := "floorDiv", desc := "(JJ)J" } : Jvm.MethodName)).before a0 Z = true := hw _ (List.mem_of_getElem? (i := 31) rfl)
theorem t32 {Z : State} {a0 : Array Value} (hw : ∀ d ∈ tables_1, d.before a0 Z = true) : (Jvm.Cond.initialized "java/lang/Math").before a0 Z = true := hw _ (List.mem_of_getElem? (i := 32) rfl)
theorem t33 {Z : State} {a0 : Array Value} (hw : ∀ d ∈ tables_1, d.before a0 Z = true) : (Jvm.Cond.code ({ cls := "java/lang/Math", name := "floorDiv", desc := "(JJ)J" } : Jvm.MethodName) jdk_29_method_49_code (6 : Nat) (Option.some Jvm.ClassFile.FieldType.long)).before a0 Z = true := hw _ (List.mem_of_getElem? (i := 33) rfl)
theorem t34 {Z : State} {a0 : Array Value} (hw : ∀ d ∈ tables_1, d.before a0 Z = true) : (Jvm.Cond.constantLong "com/example/need_to_know/needtoknow/Grant$Budget" (28 : Nat) (9223372036854775807 : Int64)).before a0 Z = true := hw _ (List.mem_of_getElem? (i := 34) rfl)
theorem t35 {Z : State} {a0 : Array Value} (hw : ∀ d ∈ tables_1, d.before a0 Z = true) : (Jvm.Cond.constantLong "com/example/need_to_know/needtoknow/BudgetRunsOutPinLaw" (22 : Nat) (9223372036854775807 : Int64)).before a0 Z = true := hw _ (List.mem_of_getElem? (i := 35) rfl)
theorem pd0 : parseMethodDescriptor "()V" = some ⟨[], none⟩ := by decide +kernel
theorem pd1 : parseMethodDescriptor "(JJ)J" = some ⟨[.long, .long], some .long⟩ := by decide +kernel
theorem pd2 : parseMethodDescriptor "(J)J" = some ⟨[.long], some .long⟩ := by decide +kernel
theorem pd3 : parseMethodDescriptor "(JJ)V" = some ⟨[.long, .long], none⟩ := by decide +kernel
theorem pn0 : plainName "java/lang/Record" = true := by first | (simp [plainName, overriddenIn]; done) | decide +kernel
theorem pn1 : plainName "com/example/need_to_know/needtoknow/Grant$Budget" = true := by first | (simp [plainName, overriddenIn]; done) | decide +kernel
theorem pn2 : plainName "com/example/need_to_know/needtoknow/BudgetRunsOutPinLaw" = true := by first | (simp [plainName, overriddenIn]; done) | decide +kernel
theorem c2_0 : Dal jdk_30_method_1_code 0 0 1 := Or.inr ⟨0, (by decide +kernel), rfl, rfl⟩
theorem c2_1 : Dc jdk_30_method_1_code 1 (.invokespecial 1) 3 4 := ⟨(by decide +kernel), rfl⟩
theorem c2_4 : Dc jdk_30_method_1_code 4 .return_ 1 5 := ⟨(by decide +kernel), rfl⟩
theorem c1_0 : Dal prog_11_method_1_code 0 0 1 := Or.inr ⟨0, (by decide +kernel), rfl, rfl⟩
theorem c1_1 : Dc prog_11_method_1_code 1 (.invokespecial 1) 3 4 := ⟨(by decide +kernel), rfl⟩
theorem c1_4 : Dal prog_11_method_1_code 4 0 5 := Or.inr ⟨0, (by decide +kernel), rfl, rfl⟩
theorem c1_5 : Dll prog_11_method_1_code 5 1 6 := Or.inr ⟨1, (by decide +kernel), rfl, rfl⟩
theorem c1_6 : Dc prog_11_method_1_code 6 (.putfield 7) 3 9 := ⟨(by decide +kernel), rfl⟩
theorem c1_9 : Dal prog_11_method_1_code 9 0 10 := Or.inr ⟨0, (by decide +kernel), rfl, rfl⟩
theorem c1_10 : Dll prog_11_method_1_code 10 3 11 := Or.inr ⟨3, (by decide +kernel), rfl, rfl⟩
theorem c1_11 : Dc prog_11_method_1_code 11 (.putfield 13) 3 14 := ⟨(by decide +kernel), rfl⟩
theorem c1_14 : Dc prog_11_method_1_code 14 .return_ 1 15 := ⟨(by decide +kernel), rfl⟩
theorem c6_0 : Dll jdk_29_method_49_code 0 0 1 := Or.inr ⟨0, (by decide +kernel), rfl, rfl⟩
theorem c6_1 : Dll jdk_29_method_49_code 1 2 2 := Or.inr ⟨2, (by decide +kernel), rfl, rfl⟩
theorem c6_2 : Dc jdk_29_method_49_code 2 .ldiv 1 3 := ⟨(by decide +kernel), rfl⟩
theorem c6_3 : Dls jdk_29_method_49_code 3 4 5 := Or.inl ⟨(by decide +kernel), rfl⟩
theorem c6_5 : Dll jdk_29_method_49_code 5 0 6 := Or.inr ⟨0, (by decide +kernel), rfl, rfl⟩
theorem c6_6 : Dll jdk_29_method_49_code 6 2 7 := Or.inr ⟨2, (by decide +kernel), rfl, rfl⟩
theorem c6_7 : Dc jdk_29_method_49_code 7 .lxor 1 8 := ⟨(by decide +kernel), rfl⟩
theorem c6_8 : Dlc jdk_29_method_49_code 8 0 9 := ⟨0, (by decide +kernel), by decide, rfl⟩
theorem c6_9 : Dc jdk_29_method_49_code 9 .lcmp 1 10 := ⟨(by decide +kernel), rfl⟩
theorem c6_10 : Db jdk_29_method_49_code 10 (.ifCond .ge) 13 27 := ⟨17, (by decide +kernel), rfl, by decide, by decide⟩
theorem c6_13 : Dll jdk_29_method_49_code 13 4 15 := Or.inl ⟨(by decide +kernel), rfl⟩
theorem c6_15 : Dll jdk_29_method_49_code 15 2 16 := Or.inr ⟨2, (by decide +kernel), rfl, rfl⟩
theorem c6_16 : Dc jdk_29_method_49_code 16 .lmul 1 17 := ⟨(by decide +kernel), rfl⟩
theorem c6_17 : Dll jdk_29_method_49_code 17 0 18 := Or.inr ⟨0, (by decide +kernel), rfl, rfl⟩
theorem c6_18 : Dc jdk_29_method_49_code 18 .lcmp 1 19 := ⟨(by decide +kernel), rfl⟩
theorem c6_19 : Db jdk_29_method_49_code 19 (.ifCond .eq) 22 27 := ⟨8, (by decide +kernel), rfl, by decide, by decide⟩
theorem c6_22 : Dll jdk_29_method_49_code 22 4 24 := Or.inl ⟨(by decide +kernel), rfl⟩
theorem c6_24 : Dlc jdk_29_method_49_code 24 1 25 := ⟨1, (by decide +kernel), by decide, rfl⟩
theorem c6_25 : Dc jdk_29_method_49_code 25 .lsub 1 26 := ⟨(by decide +kernel), rfl⟩
theorem c6_26 : Dc jdk_29_method_49_code 26 .lreturn 1 27 := ⟨(by decide +kernel), rfl⟩
theorem c6_27 : Dll jdk_29_method_49_code 27 4 29 := Or.inl ⟨(by decide +kernel), rfl⟩
theorem c6_29 : Dc jdk_29_method_49_code 29 .lreturn 1 30 := ⟨(by decide +kernel), rfl⟩
theorem c5_0 : Dll prog_11_method_2_code 0 1 1 := Or.inr ⟨1, (by decide +kernel), rfl, rfl⟩
theorem c5_1 : Dal prog_11_method_2_code 1 0 2 := Or.inr ⟨0, (by decide +kernel), rfl, rfl⟩
theorem c5_2 : Dc prog_11_method_2_code 2 (.getfield 13) 3 5 := ⟨(by decide +kernel), rfl⟩
theorem c5_5 : Dc prog_11_method_2_code 5 (.invokestatic 16) 3 8 := ⟨(by decide +kernel), rfl⟩
theorem c5_8 : Dal prog_11_method_2_code 8 0 9 := Or.inr ⟨0, (by decide +kernel), rfl, rfl⟩
theorem c5_9 : Dc prog_11_method_2_code 9 (.getfield 13) 3 12 := ⟨(by decide +kernel), rfl⟩
theorem c5_12 : Dc prog_11_method_2_code 12 .lmul 1 13 := ⟨(by decide +kernel), rfl⟩
theorem c5_13 : Dc prog_11_method_2_code 13 .lreturn 1 14 := ⟨(by decide +kernel), rfl⟩
theorem c4_0 : Dll prog_11_method_3_code 0 3 1 := Or.inr ⟨3, (by decide +kernel), rfl, rfl⟩
theorem c4_1 : Dal prog_11_method_3_code 1 0 2 := Or.inr ⟨0, (by decide +kernel), rfl, rfl⟩
theorem c4_2 : Dc prog_11_method_3_code 2 (.getfield 7) 3 5 := ⟨(by decide +kernel), rfl⟩
theorem c4_5 : Dc prog_11_method_3_code 5 .lcmp 1 6 := ⟨(by decide +kernel), rfl⟩
theorem c4_6 : Db prog_11_method_3_code 6 (.ifCond .lt) 9 11 := ⟨5, (by decide +kernel), rfl, by decide, by decide⟩
theorem c4_9 : Dll prog_11_method_3_code 9 1 10 := Or.inr ⟨1, (by decide +kernel), rfl, rfl⟩
theorem c4_10 : Dc prog_11_method_3_code 10 .lreturn 1 11 := ⟨(by decide +kernel), rfl⟩
theorem c4_11 : Dal prog_11_method_3_code 11 0 12 := Or.inr ⟨0, (by decide +kernel), rfl, rfl⟩
theorem c4_12 : Dll prog_11_method_3_code 12 1 13 := Or.inr ⟨1, (by decide +kernel), rfl, rfl⟩
theorem c4_13 : Dc prog_11_method_3_code 13 (.invokevirtual 22) 3 16 := ⟨(by decide +kernel), rfl⟩
theorem c4_16 : Dal prog_11_method_3_code 16 0 17 := Or.inr ⟨0, (by decide +kernel), rfl, rfl⟩
theorem c4_17 : Dc prog_11_method_3_code 17 (.getfield 13) 3 20 := ⟨(by decide +kernel), rfl⟩
theorem c4_20 : Dc prog_11_method_3_code 20 .ladd 1 21 := ⟨(by decide +kernel), rfl⟩
theorem c4_21 : Dls prog_11_method_3_code 21 5 23 := Or.inl ⟨(by decide +kernel), rfl⟩
theorem c4_23 : Dll prog_11_method_3_code 23 1 24 := Or.inr ⟨1, (by decide +kernel), rfl, rfl⟩
theorem c4_24 : Dal prog_11_method_3_code 24 0 25 := Or.inr ⟨0, (by decide +kernel), rfl, rfl⟩
theorem c4_25 : Dc prog_11_method_3_code 25 (.getfield 7) 3 28 := ⟨(by decide +kernel), rfl⟩
theorem c4_28 : Dc prog_11_method_3_code 28 .ladd 1 29 := ⟨(by decide +kernel), rfl⟩
theorem c4_29 : Dll prog_11_method_3_code 29 3 30 := Or.inr ⟨3, (by decide +kernel), rfl, rfl⟩
theorem c4_30 : Dc prog_11_method_3_code 30 .lsub 1 31 := ⟨(by decide +kernel), rfl⟩
theorem c4_31 : Dls prog_11_method_3_code 31 7 33 := Or.inl ⟨(by decide +kernel), rfl⟩
theorem c4_33 : Dll prog_11_method_3_code 33 7 35 := Or.inl ⟨(by decide +kernel), rfl⟩
theorem c4_35 : Dll prog_11_method_3_code 35 5 37 := Or.inl ⟨(by decide +kernel), rfl⟩
theorem c4_37 : Dc prog_11_method_3_code 37 .lcmp 1 38 := ⟨(by decide +kernel), rfl⟩
theorem c4_38 : Db prog_11_method_3_code 38 (.ifCond .ge) 41 44 := ⟨6, (by decide +kernel), rfl, by decide, by decide⟩
theorem c4_41 : Dll prog_11_method_3_code 41 7 43 := Or.inl ⟨(by decide +kernel), rfl⟩
theorem c4_43 : Dc prog_11_method_3_code 43 .lreturn 1 44 := ⟨(by decide +kernel), rfl⟩
theorem c4_44 : Dal prog_11_method_3_code 44 0 45 := Or.inr ⟨0, (by decide +kernel), rfl, rfl⟩
theorem c4_45 : Dc prog_11_method_3_code 45 (.getfield 7) 3 48 := ⟨(by decide +kernel), rfl⟩
theorem c4_48 : Dal prog_11_method_3_code 48 0 49 := Or.inr ⟨0, (by decide +kernel), rfl, rfl⟩
theorem c4_49 : Dc prog_11_method_3_code 49 (.getfield 13) 3 52 := ⟨(by decide +kernel), rfl⟩
theorem c4_52 : Dc prog_11_method_3_code 52 .lcmp 1 53 := ⟨(by decide +kernel), rfl⟩
theorem c4_53 : Db prog_11_method_3_code 53 (.ifCond .ge) 56 66 := ⟨13, (by decide +kernel), rfl, by decide, by decide⟩
theorem c4_56 : Dll prog_11_method_3_code 56 5 58 := Or.inl ⟨(by decide +kernel), rfl⟩
theorem c4_58 : Dal prog_11_method_3_code 58 0 59 := Or.inr ⟨0, (by decide +kernel), rfl, rfl⟩
theorem c4_59 : Dc prog_11_method_3_code 59 (.getfield 7) 3 62 := ⟨(by decide +kernel), rfl⟩
theorem c4_62 : Dc prog_11_method_3_code 62 .ladd 1 63 := ⟨(by decide +kernel), rfl⟩
theorem c4_63 : Db prog_11_method_3_code 63 .goto 66 69 := ⟨6, (by decide +kernel), rfl, by decide, by decide⟩
theorem c4_66 : Dc prog_11_method_3_code 66 (.ldc2_w 28) 3 69 := ⟨(by decide +kernel), rfl⟩
theorem c4_69 : Dc prog_11_method_3_code 69 .lreturn 1 70 := ⟨(by decide +kernel), rfl⟩
theorem c0_0 : Dlc code 0 1 1 := ⟨1, at_0, by decide, rfl⟩
theorem c0_1 : Dil code 1 1 2 := Or.inr ⟨1, at_1, rfl, rfl⟩
theorem c0_2 : Dc code 2 .i2l 1 3 := ⟨at_2, rfl⟩
theorem c0_3 : Dc code 3 (.ldc2_w 7) 3 6 := ⟨at_3, rfl⟩
theorem c0_6 : Dc code 6 .land 1 7 := ⟨at_6, rfl⟩
theorem c0_7 : Dc code 7 (.ldc2_w 7) 3 10 := ⟨at_7, rfl⟩
theorem c0_10 : Dc code 10 .lrem 1 11 := ⟨at_10, rfl⟩
theorem c0_11 : Dc code 11 .ladd 1 12 := ⟨at_11, rfl⟩
theorem c0_12 : Dls code 12 6 14 := Or.inl ⟨at_12, rfl⟩
theorem c0_14 : Dil code 14 0 15 := Or.inr ⟨0, at_14, rfl, rfl⟩
theorem c0_15 : Dc code 15 .i2l 1 16 := ⟨at_15, rfl⟩
theorem c0_16 : Dc code 16 (.ldc2_w 7) 3 19 := ⟨at_16, rfl⟩
theorem c0_19 : Dc code 19 .land 1 20 := ⟨at_19, rfl⟩
theorem c0_20 : Dls code 20 8 22 := Or.inl ⟨at_20, rfl⟩
theorem c0_22 : Dil code 22 5 24 := Or.inl ⟨at_22, rfl⟩
theorem c0_24 : Dp code 24 3 25 := Or.inl ⟨3, at_24, by decide, rfl⟩
theorem c0_25 : Dc code 25 .iand 1 26 := ⟨at_25, rfl⟩
theorem c0_26 : Dis code 26 12 28 := Or.inl ⟨at_26, rfl⟩
theorem c0_28 : Dil code 28 12 30 := Or.inl ⟨at_28, rfl⟩
theorem c0_30 : Db code 30 (.ifCond .ne) 33 40 := ⟨10, at_30, rfl, by decide, by decide⟩
theorem c0_33 : Dll code 33 8 35 := Or.inl ⟨at_33, rfl⟩
theorem c0_35 : Dls code 35 10 37 := Or.inl ⟨at_35, rfl⟩
theorem c0_37 : Db code 37 .goto 40 81 := ⟨44, at_37, rfl, by decide, by decide⟩
theorem c0_40 : Dil code 40 12 42 := Or.inl ⟨at_40, rfl⟩
theorem c0_42 : Dp code 42 1 43 := Or.inl ⟨1, at_42, by decide, rfl⟩
theorem c0_43 : Db code 43 (.if_icmp .ne) 46 62 := ⟨19, at_43, rfl, by decide, by decide⟩
theorem c0_46 : Dll code 46 8 48 := Or.inl ⟨at_46, rfl⟩
theorem c0_48 : Dc code 48 (.ldc2_w 9) 3 51 := ⟨at_48, rfl⟩
theorem c0_51 : Dll code 51 6 53 := Or.inl ⟨at_51, rfl⟩
theorem c0_53 : Dc code 53 .lmul 1 54 := ⟨at_53, rfl⟩
theorem c0_54 : Dlc code 54 1 55 := ⟨1, at_54, by decide, rfl⟩
theorem c0_55 : Dc code 55 .ladd 1 56 := ⟨at_55, rfl⟩
theorem c0_56 : Dc code 56 .lrem 1 57 := ⟨at_56, rfl⟩
theorem c0_57 : Dls code 57 10 59 := Or.inl ⟨at_57, rfl⟩
theorem c0_59 : Db code 59 .goto 62 81 := ⟨22, at_59, rfl, by decide, by decide⟩
theorem c0_62 : Dil code 62 12 64 := Or.inl ⟨at_62, rfl⟩
theorem c0_64 : Dp code 64 2 65 := Or.inl ⟨2, at_64, by decide, rfl⟩
theorem c0_65 : Db code 65 (.if_icmp .ne) 68 75 := ⟨10, at_65, rfl, by decide, by decide⟩
theorem c0_68 : Dll code 68 6 70 := Or.inl ⟨at_68, rfl⟩
theorem c0_70 : Dls code 70 10 72 := Or.inl ⟨at_70, rfl⟩
theorem c0_72 : Db code 72 .goto 75 81 := ⟨9, at_72, rfl, by decide, by decide⟩
theorem c0_75 : Dll code 75 6 77 := Or.inl ⟨at_75, rfl⟩
theorem c0_77 : Dlc code 77 1 78 := ⟨1, at_77, by decide, rfl⟩
theorem c0_78 : Dc code 78 .lsub 1 79 := ⟨at_78, rfl⟩
theorem c0_79 : Dls code 79 10 81 := Or.inl ⟨at_79, rfl⟩
theorem c0_81 : Dil code 81 4 83 := Or.inl ⟨at_81, rfl⟩
theorem c0_83 : Dc code 83 .i2l 1 84 := ⟨at_83, rfl⟩
theorem c0_84 : Dc code 84 (.ldc2_w 7) 3 87 := ⟨at_84, rfl⟩
theorem c0_87 : Dc code 87 .land 1 88 := ⟨at_87, rfl⟩
theorem c0_88 : Dls code 88 13 90 := Or.inl ⟨at_88, rfl⟩
theorem c0_90 : Dil code 90 5 92 := Or.inl ⟨at_90, rfl⟩
theorem c0_92 : Dp code 92 4 93 := Or.inl ⟨4, at_92, by decide, rfl⟩
theorem c0_93 : Dc code 93 .iand 1 94 := ⟨at_93, rfl⟩
theorem c0_94 : Db code 94 (.ifCond .eq) 97 102 := ⟨8, at_94, rfl, by decide, by decide⟩
theorem c0_97 : Dll code 97 13 99 := Or.inl ⟨at_97, rfl⟩
theorem c0_99 : Db code 99 .goto 102 113 := ⟨14, at_99, rfl, by decide, by decide⟩
theorem c0_102 : Dll code 102 13 104 := Or.inl ⟨at_102, rfl⟩
theorem c0_104 : Dc code 104 (.ldc2_w 9) 3 107 := ⟨at_104, rfl⟩
theorem c0_107 : Dll code 107 6 109 := Or.inl ⟨at_107, rfl⟩
theorem c0_109 : Dc code 109 .lmul 1 110 := ⟨at_109, rfl⟩
theorem c0_110 : Dlc code 110 1 111 := ⟨1, at_110, by decide, rfl⟩
theorem c0_111 : Dc code 111 .ladd 1 112 := ⟨at_111, rfl⟩
theorem c0_112 : Dc code 112 .lrem 1 113 := ⟨at_112, rfl⟩
theorem c0_113 : Dls code 113 15 115 := Or.inl ⟨at_113, rfl⟩
theorem c0_115 : Dil code 115 5 117 := Or.inl ⟨at_115, rfl⟩
theorem c0_117 : Dp code 117 8 119 := Or.inr (Or.inl ⟨8, at_117, by decide, rfl⟩)
theorem c0_119 : Dc code 119 .iand 1 120 := ⟨at_119, rfl⟩
theorem c0_120 : Db code 120 (.ifCond .eq) 123 130 := ⟨10, at_120, rfl, by decide, by decide⟩
theorem c0_123 : Dll code 123 6 125 := Or.inl ⟨at_123, rfl⟩
theorem c0_125 : Dlc code 125 1 126 := ⟨1, at_125, by decide, rfl⟩
theorem c0_126 : Dc code 126 .lsub 1 127 := ⟨at_126, rfl⟩
theorem c0_127 : Db code 127 .goto 130 139 := ⟨12, at_127, rfl, by decide, by decide⟩
theorem c0_130 : Dil code 130 3 131 := Or.inr ⟨3, at_130, rfl, rfl⟩
theorem c0_131 : Dc code 131 .i2l 1 132 := ⟨at_131, rfl⟩
theorem c0_132 : Dc code 132 (.ldc2_w 7) 3 135 := ⟨at_132, rfl⟩
theorem c0_135 : Dc code 135 .land 1 136 := ⟨at_135, rfl⟩
theorem c0_136 : Dll code 136 6 138 := Or.inl ⟨at_136, rfl⟩
theorem c0_138 : Dc code 138 .lrem 1 139 := ⟨at_138, rfl⟩
theorem c0_139 : Dls code 139 17 141 := Or.inl ⟨at_139, rfl⟩
theorem c0_141 : Dil code 141 2 142 := Or.inr ⟨2, at_141, rfl, rfl⟩
theorem c0_142 : Dc code 142 .i2l 1 143 := ⟨at_142, rfl⟩
theorem c0_143 : Dll code 143 6 145 := Or.inl ⟨at_143, rfl⟩
theorem c0_145 : Dc code 145 .lmul 1 146 := ⟨at_145, rfl⟩
theorem c0_146 : Dll code 146 17 148 := Or.inl ⟨at_146, rfl⟩
theorem c0_148 : Dc code 148 .ladd 1 149 := ⟨at_148, rfl⟩
theorem c0_149 : Dls code 149 19 151 := Or.inl ⟨at_149, rfl⟩
theorem c0_151 : Dc code 151 (.new 11) 3 154 := ⟨at_151, rfl⟩
theorem c0_154 : Dc code 154 .dup 1 155 := ⟨at_154, rfl⟩
theorem c0_155 : Dll code 155 10 157 := Or.inl ⟨at_155, rfl⟩
theorem c0_157 : Dll code 157 6 159 := Or.inl ⟨at_157, rfl⟩
theorem c0_159 : Dc code 159 (.invokespecial 13) 3 162 := ⟨at_159, rfl⟩
theorem c0_162 : Das code 162 21 164 := Or.inl ⟨at_162, rfl⟩
theorem c0_164 : Dal code 164 21 166 := Or.inl ⟨at_164, rfl⟩
theorem c0_166 : Dll code 166 19 168 := Or.inl ⟨at_166, rfl⟩
theorem c0_168 : Dll code 168 15 170 := Or.inl ⟨at_168, rfl⟩
theorem c0_170 : Dc code 170 (.invokevirtual 16) 3 173 := ⟨at_170, rfl⟩
theorem c0_173 : Dls code 173 22 175 := Or.inl ⟨at_173, rfl⟩
theorem c0_175 : Dll code 175 15 177 := Or.inl ⟨at_175, rfl⟩
theorem c0_177 : Dll code 177 10 179 := Or.inl ⟨at_177, rfl⟩
theorem c0_179 : Dc code 179 .lcmp 1 180 := ⟨at_179, rfl⟩
theorem c0_180 : Db code 180 (.ifCond .lt) 183 190 := ⟨10, at_180, rfl, by decide, by decide⟩
theorem c0_183 : Dll code 183 19 185 := Or.inl ⟨at_183, rfl⟩
theorem c0_185 : Dls code 185 24 187 := Or.inl ⟨at_185, rfl⟩
theorem c0_187 : Db code 187 .goto 190 245 := ⟨58, at_187, rfl, by decide, by decide⟩
theorem c0_190 : Dll code 190 10 192 := Or.inl ⟨at_190, rfl⟩
theorem c0_192 : Dll code 192 15 194 := Or.inl ⟨at_192, rfl⟩
theorem c0_194 : Dc code 194 .lsub 1 195 := ⟨at_194, rfl⟩
theorem c0_195 : Dll code 195 6 197 := Or.inl ⟨at_195, rfl⟩
theorem c0_197 : Dll code 197 17 199 := Or.inl ⟨at_197, rfl⟩
theorem c0_199 : Dc code 199 .lsub 1 200 := ⟨at_199, rfl⟩
theorem c0_200 : Dc code 200 .lcmp 1 201 := ⟨at_200, rfl⟩
theorem c0_201 : Db code 201 (.ifCond .ge) 204 217 := ⟨16, at_201, rfl, by decide, by decide⟩
theorem c0_204 : Dll code 204 19 206 := Or.inl ⟨at_204, rfl⟩
theorem c0_206 : Dll code 206 10 208 := Or.inl ⟨at_206, rfl⟩
theorem c0_208 : Dll code 208 15 210 := Or.inl ⟨at_208, rfl⟩
theorem c0_210 : Dc code 210 .lsub 1 211 := ⟨at_210, rfl⟩
theorem c0_211 : Dc code 211 .ladd 1 212 := ⟨at_211, rfl⟩
theorem c0_212 : Dls code 212 24 214 := Or.inl ⟨at_212, rfl⟩
theorem c0_214 : Db code 214 .goto 217 245 := ⟨31, at_214, rfl, by decide, by decide⟩
theorem c0_217 : Dll code 217 10 219 := Or.inl ⟨at_217, rfl⟩
theorem c0_219 : Dll code 219 6 221 := Or.inl ⟨at_219, rfl⟩
theorem c0_221 : Dc code 221 .lcmp 1 222 := ⟨at_221, rfl⟩
theorem c0_222 : Db code 222 (.ifCond .ge) 225 240 := ⟨18, at_222, rfl, by decide, by decide⟩
theorem c0_225 : Dil code 225 2 226 := Or.inr ⟨2, at_225, rfl, rfl⟩
theorem c0_226 : Dc code 226 .i2l 1 227 := ⟨at_226, rfl⟩
theorem c0_227 : Dlc code 227 1 228 := ⟨1, at_227, by decide, rfl⟩
theorem c0_228 : Dc code 228 .ladd 1 229 := ⟨at_228, rfl⟩
theorem c0_229 : Dll code 229 6 231 := Or.inl ⟨at_229, rfl⟩
theorem c0_231 : Dc code 231 .lmul 1 232 := ⟨at_231, rfl⟩
theorem c0_232 : Dll code 232 10 234 := Or.inl ⟨at_232, rfl⟩
theorem c0_234 : Dc code 234 .ladd 1 235 := ⟨at_234, rfl⟩
theorem c0_235 : Dls code 235 24 237 := Or.inl ⟨at_235, rfl⟩
theorem c0_237 : Db code 237 .goto 240 245 := ⟨8, at_237, rfl, by decide, by decide⟩
theorem c0_240 : Dc code 240 (.ldc2_w 22) 3 243 := ⟨at_240, rfl⟩
theorem c0_243 : Dls code 243 24 245 := Or.inl ⟨at_243, rfl⟩
theorem c0_245 : Dll code 245 22 247 := Or.inl ⟨at_245, rfl⟩
theorem c0_247 : Dll code 247 24 249 := Or.inl ⟨at_247, rfl⟩
theorem c0_249 : Dc code 249 .lcmp 1 250 := ⟨at_249, rfl⟩
theorem c0_250 : Db code 250 (.ifCond .ne) 253 257 := ⟨7, at_250, rfl, by decide, by decide⟩
theorem c0_253 : Dp code 253 1 254 := Or.inl ⟨1, at_253, by decide, rfl⟩
theorem c0_254 : Db code 254 .goto 257 258 := ⟨4, at_254, rfl, by decide, by decide⟩
theorem c0_257 : Dp code 257 0 258 := Or.inl ⟨0, at_257, by decide, rfl⟩
theorem c0_258 : Dc code 258 .ireturn 1 259 := ⟨at_258, rfl⟩

def own_fd (x P : Int64) : Int64 := if x ^^^ P < 0 then (if x / P * P = x then x / P else x / P - 1) else x / P
theorem own_law (x P : Int64) (hP : 0 < P) : own_fd x P * P = x - (if x % P < 0 then x % P + P else x % P) := by
  have hm := Jvm.OwnGo.lrem64 x P
  have hn : ¬ P < 0 := by rw [Int64.lt_iff_toInt_lt] at hP ⊢; omega
  have s1 : ¬ x < 0 → ¬ x % P < 0 := by
    intro h
    rw [Int64.lt_iff_toInt_lt] at h ⊢
    rw [Int64.toInt_mod]
    have := Int.tmod_nonneg (a := x.toInt) P.toInt (by simpa using h)
    simpa using this
  have s2 : x < 0 → ¬ x % P = 0 → x % P < 0 := by
    intro h h0
    rw [← Int64.toInt_inj] at h0
    rw [Int64.lt_iff_toInt_lt] at h hP ⊢
    rw [Int64.toInt_mod] at h0 ⊢
    simp only [Int64.toInt_zero] at *
    have : (-x.toInt).tmod P.toInt ≥ 0 := Int.tmod_nonneg _ (by omega)
    rw [Int.neg_tmod] at this
    omega
  unfold own_fd
  by_cases hx : x < 0
  · rw [if_pos ((Jvm.Free.XT.xor_neg64 _ _).mpr (by simp [hx, hn]))]
    by_cases hq : x / P * P = x
    · rw [if_pos hq]
      have : x % P = 0 := by rw [← hm, hq]; simp
      rw [this]; simp [hq]
    · rw [if_neg hq]
      have : ¬ x % P = 0 := by rw [← hm]; intro h; exact hq (by grind)
      rw [if_pos (s2 hx this), ← hm]
      grind
  · rw [if_neg (fun h => (Jvm.Free.XT.xor_neg64 _ _).mp h (by simp [hx, hn])), if_neg (s1 hx), ← hm]
    grind
def own_start (x P : Int64) : Int64 := own_fd x P * P
def own_out (sec per frm used : Int64) : Int64 := if used < sec then (if frm + sec - used < own_start frm per + per then frm + sec - used else if sec < per then own_start frm per + per + sec else 9223372036854775807) else frm
theorem own_tmod (q P o : Int) (hP : 0 < P) (ho : 0 ≤ o) (ho' : o < P) : (q * P + o) - (if (q * P + o).tmod P < 0 then (q * P + o).tmod P + P else (q * P + o).tmod P) = q * P := by
  have e : (q * P + o) % P = o := by rw [Int.add_comm, Int.add_mul_emod_self_right]; exact Int.emod_eq_of_lt ho ho'
  have h := Int.tmod_eq_emod (a := q * P + o) (b := P)
  rw [e] at h
  split at h
  · rw [h]; rw [if_neg (by omega)]; omega
  · rw [h]
    have : (P.natAbs : Int) = P := by omega
    rw [this]
    split <;> omega
theorem own_bnd (q P : Int) (h1 : -2147483648 ≤ q) (h2 : q < 2147483648) (h3 : 1 ≤ P) (h4 : P ≤ 2147483647) : -4611686018427387904 ≤ q * P ∧ q * P ≤ 4611686018427387904 := by
  constructor
  · have := Int.mul_le_mul_of_nonneg_right h1 (show 0 ≤ P by omega)
    have := Int.mul_le_mul_of_nonneg_left h4 (show (0:Int) ≤ 2147483648 by omega)
    omega
  · have := Int.mul_le_mul_of_nonneg_right (show q ≤ 2147483648 by omega) (show 0 ≤ P by omega)
    have := Int.mul_le_mul_of_nonneg_left h4 (show (0:Int) ≤ 2147483648 by omega)
    omega
theorem own_b64 {n : Int} (h1 : -9223372036854775808 ≤ n) (h2 : n < 9223372036854775808) : n.bmod (2 ^ 64) = n := Int.bmod_eq_of_le (by omega) (by omega)
theorem own_m2 (sec per used off : Int64) (q : Int32) (hp : 1 ≤ per.toInt ∧ per.toInt ≤ 2147483647) (hs : 0 ≤ sec.toInt ∧ sec.toInt < 8589934592) (hu : 0 ≤ used.toInt ∧ used.toInt < 8589934592) (ho : 0 ≤ off.toInt ∧ off.toInt < per.toInt) :
    own_out sec per (q.toInt64 * per + off) used = (if used < sec then (if sec - used < per - off then q.toInt64 * per + off + (sec - used) else if sec < per then (q.toInt64 + 1) * per + sec else 9223372036854775807) else q.toInt64 * per + off) := by
  have hq1 := q.le_toInt
  have hq2 := q.toInt_lt
  have B := own_bnd q.toInt per.toInt (by omega) (by omega) hp.1 hp.2
  have m1 : (q.toInt64 * per).toInt = q.toInt * per.toInt := by rw [Int64.toInt_mul, Int32.toInt_toInt64]; exact own_b64 (by omega) (by omega)
  have f1 : (q.toInt64 * per + off).toInt = q.toInt * per.toInt + off.toInt := by rw [Int64.toInt_add, m1]; exact own_b64 (by omega) (by omega)
  have hP : 0 < per := by rw [Int64.lt_iff_toInt_lt]; simp only [Int64.toInt_zero]; omega
  have st : own_start (q.toInt64 * per + off) per = q.toInt64 * per := by
    have L := own_law (q.toInt64 * per + off) per hP
    unfold own_start
    rw [L]
    have T := own_tmod q.toInt per.toInt off.toInt (by omega) ho.1 ho.2
    have tl := Int.tmod_lt_of_pos (q.toInt * per.toInt + off.toInt) (show 0 < per.toInt by omega)
    have mm : ((q.toInt64 * per + off) % per).toInt = (q.toInt * per.toInt + off.toInt).tmod per.toInt := by rw [Int64.toInt_mod, f1]
    have c : ((q.toInt64 * per + off) % per < 0) ↔ ((q.toInt * per.toInt + off.toInt).tmod per.toInt < 0) := by rw [Int64.lt_iff_toInt_lt, mm]; exact Iff.rfl
    apply Int64.toInt_inj.mp
    have tg : -per.toInt < (q.toInt * per.toInt + off.toInt).tmod per.toInt := by
      have := Int.lt_tmod_of_pos (q.toInt * per.toInt + off.toInt) (show 0 < per.toInt by omega)
      omega
    by_cases h : (q.toInt * per.toInt + off.toInt).tmod per.toInt < 0
    · rw [if_pos (c.mpr h)]
      rw [if_pos h] at T
      rw [Int64.toInt_sub, f1, Int64.toInt_add, mm, m1, own_b64 (n := _ + per.toInt) (by omega) (by omega), T]
      exact own_b64 (by omega) (by omega)
    · rw [if_neg (fun u => h (c.mp u))]
      rw [if_neg h] at T
      rw [Int64.toInt_sub, f1, mm, m1, T]
      exact own_b64 (by omega) (by omega)
  have g1 : (q.toInt64 * per + off + sec - used).toInt = q.toInt * per.toInt + off.toInt + sec.toInt - used.toInt := by rw [Int64.toInt_sub, Int64.toInt_add, f1, own_b64 (n := _ + sec.toInt) (by omega) (by omega)]; exact own_b64 (by omega) (by omega)
  have g2 : (q.toInt64 * per + per).toInt = q.toInt * per.toInt + per.toInt := by rw [Int64.toInt_add, m1]; exact own_b64 (by omega) (by omega)
  have g3 : (sec - used).toInt = sec.toInt - used.toInt := by rw [Int64.toInt_sub]; exact own_b64 (by omega) (by omega)
  have g4 : (per - off).toInt = per.toInt - off.toInt := by rw [Int64.toInt_sub]; exact own_b64 (by omega) (by omega)
  unfold own_out
  rw [st]
  have cc : (q.toInt64 * per + off + sec - used < q.toInt64 * per + per) ↔ (sec - used < per - off) := by
    rw [Int64.lt_iff_toInt_lt, Int64.lt_iff_toInt_lt, g1, g2, g3, g4]; omega
  by_cases h1 : used < sec
  · rw [if_pos h1, if_pos h1]
    by_cases h2 : sec - used < per - off
    · rw [if_pos (cc.mpr h2), if_pos h2]; grind
    · rw [if_neg (fun u => h2 (cc.mp u)), if_neg h2]
      by_cases h3 : sec < per
      · rw [if_pos h3, if_pos h3]; grind
      · rw [if_neg h3, if_neg h3]
  · rw [if_neg h1, if_neg h1]

def own_ob (p q : Int64) : Desc := .inl ("com/example/need_to_know/needtoknow/Grant$Budget", [(("com/example/need_to_know/needtoknow/Grant$Budget", "seconds", "J"), .long p), (("com/example/need_to_know/needtoknow/Grant$Budget", "period", "J"), .long q)])
set_option maxRecDepth 65536 in
set_option maxHeartbeats 4000000 in
theorem rmR (l : Launch) (Z : State) (a0 : Array Value) (hw : ∀ d ∈ tables_1, d.before a0 Z = true) (h0 : Heap) (n0 : Nat) (a : Addr) :
    Con false l Z (⟨"java/lang/Record", "<init>", "()V"⟩ : MethodName) jdk_30_method_1_code 1 none ({ frames := 1, cells := 0, slots := 0, locals := 12 } : Room) #[(.ref a)] h0 n0 (R0 fun h' => h0 = h') := by
  refine con_of (ls := [.val (.ref a)]) (plainFor_of_name pn0) rfl ?_
  refine go_aload c2_0 rfl rfl ?_
  refine go_initO (y := (⟨"java/lang/Record", "<init>", "()V"⟩ : MethodName)) (W := 0) c2_1 (t13 hw) (t14 hw) (t15 hw) rfl (by decide) rfl (by decide) ?_
  exact go_ret rfl c2_4 (by decide) (by decide) ⟨rfl, rfl⟩
set_option maxRecDepth 65536 in
set_option maxHeartbeats 4000000 in
theorem rmB (l : Launch) (Z : State) (a0 : Array Value) (hw : ∀ d ∈ tables_1, d.before a0 Z = true) (h0 : Heap) (n0 : Nat) (M : List (Addr × Desc)) (a : Addr) (p q : Int64) (P0 : Hp Z n0 h0 ((a, own_ob 0 0) :: M)) :
    Con false l Z (⟨"com/example/need_to_know/needtoknow/Grant$Budget", "<init>", "(JJ)V"⟩ : MethodName) prog_11_method_1_code 5 none ({ frames := 2, cells := 0, slots := 0, locals := 24 } : Room) #[(.ref a), (.long p), (.long q)] h0 n0 (R0 fun h' => Hp Z n0 h' ((a, own_ob p q) :: M)) := by
  refine con_of (ls := [.val (.ref a), .val (.long p), .second, .val (.long q), .second]) (plainFor_of_name pn1) rfl ?_
  unfold own_ob at P0 ⊢
  refine go_aload c1_0 rfl rfl ?_
  refine go_callN0 (y := (⟨"com/example/need_to_know/needtoknow/Grant$Budget", "<init>", "(JJ)V"⟩ : MethodName)) (W := 0) (argsL := []) (st := []) c1_1 rfl rfl (rmR l Z a0 hw h0 n0 a) (t8 hw) (t9 hw) (t11 hw) (t12 hw) (by decide) (lenOf pd0 rfl) rfl rfl (by decide) (by decide) (by decide) (by decide) rfl ?_
  rintro _ rfl
  refine go_more (k' := 0) (n' := 0) (by decide) (by decide) ?_
  refine go_aload c1_4 rfl rfl ?_
  refine go_lload c1_5 rfl ?_
  refine go_put (y := (⟨"com/example/need_to_know/needtoknow/Grant$Budget", "<init>", "(JJ)V"⟩ : MethodName)) P0 0 0 .long c1_6 rfl rfl (t16 hw) (Or.inr ⟨(t17 hw), rfl, rfl⟩) (t3 hw) (by decide) rfl rfl ?_
  intro h1 P2
  dsimp only [lupd] at P2
  refine go_aload c1_9 rfl rfl ?_
  refine go_lload c1_10 rfl ?_
  refine go_put (y := (⟨"com/example/need_to_know/needtoknow/Grant$Budget", "<init>", "(JJ)V"⟩ : MethodName)) P2 0 1 .long c1_11 rfl rfl (t18 hw) (Or.inr ⟨(t19 hw), rfl, rfl⟩) (t3 hw) (by decide) rfl rfl ?_
  intro h3 P4
  dsimp only [lupd] at P4
  exact go_ret rfl c1_14 (by decide) (by decide) ⟨rfl, P4⟩
set_option maxRecDepth 65536 in
set_option maxHeartbeats 4000000 in
theorem rmF (l : Launch) (Z : State) (a0 : Array Value) (hw : ∀ d ∈ tables_1, d.before a0 Z = true) (h0 : Heap) (n0 : Nat) (x q : Int64) (hq : q ≠ 0) :
    Con false l Z (⟨"java/lang/Math", "floorDiv", "(JJ)J"⟩ : MethodName) jdk_29_method_49_code 6 (some .long) ({ frames := 0, cells := 0, slots := 0, locals := 0 } : Room) #[(.long x), (.long q)] h0 n0 (Ret (.long (own_fd x q)) h0) := by
  refine con_of (ls := [.val (.long x), .second, .val (.long q), .second, .unset, .unset]) (Jvm.Free.JP.mathPlain rfl (by decide +kernel)) rfl ?_
  refine go_lload c6_0 rfl ?_
  refine go_lload c6_1 rfl ?_
  refine go_ldiv c6_2 hq ?_
  refine go_lstore c6_3 rfl rfl rfl ?_
  dsimp only [setl]
  refine go_lload c6_5 rfl ?_
  refine go_lload c6_6 rfl ?_
  refine go_lxor c6_7 ?_
  refine go_lconst c6_8 ?_
  refine go_lcmp c6_9 ?_
  refine go_lc_ge c6_10 (fun b10 => ?_) (fun b10 => ?_)
  · refine go_lload c6_27 rfl ?_
    exact go_lret rfl c6_29 (by decide) (by decide) ⟨_, rfl, by simp [own_fd, *], rfl⟩
  · refine go_lload c6_13 rfl ?_
    refine go_lload c6_15 rfl ?_
    refine go_lmul c6_16 ?_
    refine go_lload c6_17 rfl ?_
    refine go_lcmp c6_18 ?_
    refine go_lc_eq c6_19 (fun b19 => ?_) (fun b19 => ?_)
    · refine go_lload c6_27 rfl ?_
      exact go_lret rfl c6_29 (by decide) (by decide) ⟨_, rfl, by simp [own_fd, *], rfl⟩
    · refine go_lload c6_22 rfl ?_
      refine go_lconst c6_24 ?_
      refine go_lsub c6_25 ?_
      exact go_lret rfl c6_26 (by decide) (by decide) ⟨_, rfl, by simp [own_fd, *], rfl⟩
set_option maxRecDepth 65536 in
set_option maxHeartbeats 4000000 in
theorem rmS (l : Launch) (Z : State) (a0 : Array Value) (hw : ∀ d ∈ tables_1, d.before a0 Z = true) (h0 : Heap) (n0 : Nat) (M : List (Addr × Desc)) (a : Addr) (p q x : Int64) (P0 : Hp Z n0 h0 ((a, own_ob p q) :: M)) (hq : q ≠ 0) :
    Con false l Z (⟨"com/example/need_to_know/needtoknow/Grant$Budget", "start", "(J)J"⟩ : MethodName) prog_11_method_2_code 3 (some .long) ({ frames := 1, cells := 0, slots := 0, locals := 20 } : Room) #[(.ref a), (.long x)] h0 n0 (Ret (.long (own_fd x q * q)) h0) := by
  refine con_of (ls := [.val (.ref a), .val (.long x), .second]) (plainFor_of_name pn1) rfl ?_
  unfold own_ob at P0
  refine go_lload c5_0 rfl ?_
  refine go_aload c5_1 rfl rfl ?_
  refine go_get (y := (⟨"com/example/need_to_know/needtoknow/Grant$Budget", "start", "(J)J"⟩ : MethodName)) P0 (0) 1 c5_2 rfl rfl (t18 hw) ?_
  refine go_callS1 (y := (⟨"com/example/need_to_know/needtoknow/Grant$Budget", "start", "(J)J"⟩ : MethodName)) (W := 0) (argsL := [(.long x), (.long q)]) (st := []) c5_5 (rmF l Z a0 hw h0 n0 x q hq) (t30 hw) (t31 hw) (t32 hw) (t33 hw) (by decide) (lenOf pd1 rfl) rfl rfl (by decide) (by decide) (by decide) (by decide) rfl ?_
  rintro _ _ ⟨rfl, rfl⟩
  refine go_more (k' := 0) (n' := 0) (by decide) (by decide) ?_
  refine go_aload c5_8 rfl rfl ?_
  refine go_get (y := (⟨"com/example/need_to_know/needtoknow/Grant$Budget", "start", "(J)J"⟩ : MethodName)) P0 (0) 1 c5_9 rfl rfl (t18 hw) ?_
  refine go_lmul c5_12 ?_
  exact go_lret rfl c5_13 (by decide) (by decide) ⟨_, rfl, rfl, rfl⟩
set_option maxRecDepth 65536 in
set_option maxHeartbeats 4000000 in
theorem rmO (l : Launch) (Z : State) (a0 : Array Value) (hw : ∀ d ∈ tables_1, d.before a0 Z = true) (h0 : Heap) (n0 : Nat) (M : List (Addr × Desc)) (a : Addr) (p q x u : Int64) (P0 : Hp Z n0 h0 ((a, own_ob p q) :: M)) (hq : q ≠ 0) :
    Con false l Z (⟨"com/example/need_to_know/needtoknow/Grant$Budget", "runsOut", "(JJ)J"⟩ : MethodName) prog_11_method_3_code 9 (some .long) ({ frames := 2, cells := 0, slots := 0, locals := 50 } : Room) #[(.ref a), (.long x), (.long u)] h0 n0 (Ret (.long (own_out p q x u)) h0) := by
  refine con_of (ls := [.val (.ref a), .val (.long x), .second, .val (.long u), .second, .unset, .unset, .unset, .unset]) (plainFor_of_name pn1) rfl ?_
  unfold own_ob at P0
  refine go_lload c4_0 rfl ?_
  refine go_aload c4_1 rfl rfl ?_
  refine go_get (y := (⟨"com/example/need_to_know/needtoknow/Grant$Budget", "runsOut", "(JJ)J"⟩ : MethodName)) P0 (0) 0 c4_2 rfl rfl (t16 hw) ?_
  refine go_lcmp c4_5 ?_
  refine go_lc_lt c4_6 (fun b6 => ?_) (fun b6 => ?_)
  · refine go_aload c4_11 rfl rfl ?_
    refine go_lload c4_12 rfl ?_
    refine go_callV1 (y := (⟨"com/example/need_to_know/needtoknow/Grant$Budget", "runsOut", "(JJ)J"⟩ : MethodName)) (W := 0) (argsL := [(.long x)]) (st := []) c4_13 (rmS l Z a0 hw h0 n0 _ a p q x P0 hq) (P0.exa (i := 0) rfl) (t25 hw) (t26 hw) (fun _ q => notFace_of_selects (args := #[]) (mvT q (t28 hw))) (t28 hw) (t27 hw) (t4 hw) (t29 hw) (by decide) (lenOf pd2 rfl) rfl rfl (by decide) (by decide) (by decide) (by decide) rfl ?_
    rintro _ _ ⟨rfl, rfl⟩
    refine go_more (k' := 0) (n' := 0) (by decide) (by decide) ?_
    refine go_aload c4_16 rfl rfl ?_
    refine go_get (y := (⟨"com/example/need_to_know/needtoknow/Grant$Budget", "runsOut", "(JJ)J"⟩ : MethodName)) P0 (0) 1 c4_17 rfl rfl (t18 hw) ?_
    refine go_ladd c4_20 ?_
    refine go_lstore c4_21 rfl rfl rfl ?_
    dsimp only [setl]
    refine go_lload c4_23 rfl ?_
    refine go_aload c4_24 rfl rfl ?_
    refine go_get (y := (⟨"com/example/need_to_know/needtoknow/Grant$Budget", "runsOut", "(JJ)J"⟩ : MethodName)) P0 (0) 0 c4_25 rfl rfl (t16 hw) ?_
    refine go_ladd c4_28 ?_
    refine go_lload c4_29 rfl ?_
    refine go_lsub c4_30 ?_
    refine go_lstore c4_31 rfl rfl rfl ?_
    dsimp only [setl]
    refine go_lload c4_33 rfl ?_
    refine go_lload c4_35 rfl ?_
    refine go_lcmp c4_37 ?_
    refine go_lc_ge c4_38 (fun b38 => ?_) (fun b38 => ?_)
    · refine go_aload c4_44 rfl rfl ?_
      refine go_get (y := (⟨"com/example/need_to_know/needtoknow/Grant$Budget", "runsOut", "(JJ)J"⟩ : MethodName)) P0 (0) 0 c4_45 rfl rfl (t16 hw) ?_
      refine go_aload c4_48 rfl rfl ?_
      refine go_get (y := (⟨"com/example/need_to_know/needtoknow/Grant$Budget", "runsOut", "(JJ)J"⟩ : MethodName)) P0 (0) 1 c4_49 rfl rfl (t18 hw) ?_
      refine go_lcmp c4_52 ?_
      refine go_lc_ge c4_53 (fun b53 => ?_) (fun b53 => ?_)
      · refine go_ldcJ (y := (⟨"com/example/need_to_know/needtoknow/Grant$Budget", "runsOut", "(JJ)J"⟩ : MethodName)) c4_66 (t34 hw) ?_
        exact go_lret rfl c4_69 (by decide) (by decide) ⟨_, rfl, by simp [own_out, own_start, *], rfl⟩
      · refine go_lload c4_56 rfl ?_
        refine go_aload c4_58 rfl rfl ?_
        refine go_get (y := (⟨"com/example/need_to_know/needtoknow/Grant$Budget", "runsOut", "(JJ)J"⟩ : MethodName)) P0 (0) 0 c4_59 rfl rfl (t16 hw) ?_
        refine go_ladd c4_62 ?_
        refine go_goto c4_63 ?_
        exact go_lret rfl c4_69 (by decide) (by decide) ⟨_, rfl, by simp [own_out, own_start, *], rfl⟩
    · refine go_lload c4_41 rfl ?_
      exact go_lret rfl c4_43 (by decide) (by decide) ⟨_, rfl, by simp [own_out, own_start, *], rfl⟩
  · refine go_lload c4_9 rfl ?_
    exact go_lret rfl c4_10 (by decide) (by decide) ⟨_, rfl, by simp [own_out, own_start, *], rfl⟩
theorem own_msk (s : Int32) : 0 ≤ (s.toInt64 &&& 2147483647).toInt ∧ (s.toInt64 &&& 2147483647).toInt ≤ 2147483647 := by
  have h : (s.toInt64 &&& 2147483647).toBitVec.toNat ≤ 2147483647 := by
    rw [Int64.toBitVec_and, BitVec.toNat_and]; exact Nat.and_le_right
  show 0 ≤ (s.toInt64 &&& 2147483647).toBitVec.toInt ∧ (s.toInt64 &&& 2147483647).toBitVec.toInt ≤ 2147483647
  rw [BitVec.toInt_eq_toNat_cond, if_pos (by omega)]
  omega
theorem own_tm (a b : Int64) (ha : 0 ≤ a.toInt) (hb : 0 < b.toInt) : 0 ≤ (a % b).toInt ∧ (a % b).toInt < b.toInt := by
  rw [Int64.toInt_mod]
  exact ⟨Int.tmod_nonneg _ ha, Int.tmod_lt_of_pos _ hb⟩
theorem own_perb (p : Int32) : 1 ≤ (1 + ((p.toInt64 &&& 2147483647) % 2147483647)).toInt ∧ (1 + ((p.toInt64 &&& 2147483647) % 2147483647)).toInt ≤ 2147483647 := by
  have h := own_tm (p.toInt64 &&& 2147483647) 2147483647 (own_msk p).1 (by decide)
  have e : (2147483647 : Int64).toInt = 2147483647 := by decide
  have e1 : (1 : Int64).toInt = 1 := by decide
  rw [Int64.toInt_add, e1, own_b64 (by omega) (by omega)]
  omega
theorem own_2p (per : Int64) (hp : 1 ≤ per.toInt ∧ per.toInt ≤ 2147483647) : (2 * per + 1).toInt = 2 * per.toInt + 1 := by
  have e1 : (1 : Int64).toInt = 1 := by decide
  have e2 : (2 : Int64).toInt = 2 := by decide
  rw [Int64.toInt_add, Int64.toInt_mul, e1, e2, own_b64 (n := 2 * per.toInt) (by omega) (by omega), own_b64 (by omega) (by omega)]
theorem own_nz (per : Int64) (hp : 1 ≤ per.toInt ∧ per.toInt ≤ 2147483647) : (2 * per + 1 : Int64) ≠ 0 := fun h => by
  have := own_2p per hp
  rw [h] at this
  have e : (0 : Int64).toInt = 0 := by decide
  omega
theorem own_p1 (per : Int64) (hp : 1 ≤ per.toInt ∧ per.toInt ≤ 2147483647) : (per - 1).toInt = per.toInt - 1 := by
  have e1 : (1 : Int64).toInt = 1 := by decide
  rw [Int64.toInt_sub, e1, own_b64 (by omega) (by omega)]
theorem own_sec1 (sr per : Int64) (hs : 0 ≤ sr.toInt ∧ sr.toInt ≤ 2147483647) (hp : 1 ≤ per.toInt ∧ per.toInt ≤ 2147483647) : 0 ≤ sr.toInt ∧ sr.toInt < 8589934592 := by omega
theorem own_sec2 (sr per : Int64) (hs : 0 ≤ sr.toInt ∧ sr.toInt ≤ 2147483647) (hp : 1 ≤ per.toInt ∧ per.toInt ≤ 2147483647) : 0 ≤ (sr % (2 * per + 1)).toInt ∧ (sr % (2 * per + 1)).toInt < 8589934592 := by
  have h := own_2p per hp
  have := own_tm sr (2 * per + 1) hs.1 (by omega)
  omega
theorem own_sec3 (sr per : Int64) (hs : 0 ≤ sr.toInt ∧ sr.toInt ≤ 2147483647) (hp : 1 ≤ per.toInt ∧ per.toInt ≤ 2147483647) : 0 ≤ per.toInt ∧ per.toInt < 8589934592 := by omega
theorem own_sec4 (sr per : Int64) (hs : 0 ≤ sr.toInt ∧ sr.toInt ≤ 2147483647) (hp : 1 ≤ per.toInt ∧ per.toInt ≤ 2147483647) : 0 ≤ (per - 1).toInt ∧ (per - 1).toInt < 8589934592 := by
  have := own_p1 per hp; omega
theorem own_used1 (u : Int32) (per : Int64) (hp : 1 ≤ per.toInt ∧ per.toInt ≤ 2147483647) : 0 ≤ (u.toInt64 &&& 2147483647).toInt ∧ (u.toInt64 &&& 2147483647).toInt < 8589934592 := by
  have := own_msk u; omega
theorem own_used2 (u : Int32) (per : Int64) (hp : 1 ≤ per.toInt ∧ per.toInt ≤ 2147483647) : 0 ≤ ((u.toInt64 &&& 2147483647) % (2 * per + 1)).toInt ∧ ((u.toInt64 &&& 2147483647) % (2 * per + 1)).toInt < 8589934592 := own_sec2 _ per (own_msk u) hp
theorem own_off1 (per : Int64) (hp : 1 ≤ per.toInt ∧ per.toInt ≤ 2147483647) : 0 ≤ (per - 1).toInt ∧ (per - 1).toInt < per.toInt := by
  have := own_p1 per hp; omega
theorem own_off2 (r : Int32) (per : Int64) (hp : 1 ≤ per.toInt ∧ per.toInt ≤ 2147483647) : 0 ≤ ((r.toInt64 &&& 2147483647) % per).toInt ∧ ((r.toInt64 &&& 2147483647) % per).toInt < per.toInt := own_tm _ per (own_msk r).1 (by omega)

set_option maxRecDepth 65536 in
set_option maxHeartbeats 4000000 in
theorem rm0 (l : Launch) (Z : State) (a0 : Array Value) (hw : ∀ d ∈ tables_1, d.before a0 Z = true) (h0 : Heap) (n0 : Nat) (P0 : Hp Z n0 h0 []) (s p q r u m : Int32) :
    Con false l Z x code maxLocals ret room_1 #[(.int s), (.int p), (.int q), (.int r), (.int u), (.int m)] h0 n0 (R1 fun w _ => w = .int 1) := by
  refine con_of (ls := [.val (.int s), .val (.int p), .val (.int q), .val (.int r), .val (.int u), .val (.int m), .unset, .unset, .unset, .unset, .unset, .unset, .unset, .unset, .unset, .unset, .unset, .unset, .unset, .unset, .unset, .unset, .unset, .unset, .unset, .unset]) (plainFor_of_name pn2) rfl ?_
  refine go_lconst c0_0 ?_
  refine go_iload c0_1 rfl ?_
  refine go_i2l c0_2 ?_
  refine go_ldcJ (y := x) c0_3 (t0 hw) ?_
  refine go_land c0_6 ?_
  refine go_ldcJ (y := x) c0_7 (t0 hw) ?_
  refine go_lrem c0_10 (by decide) ?_
  refine go_ladd c0_11 ?_
  refine go_nameJ fun per e_per => ?_
  have hper : 1 ≤ per.toInt ∧ per.toInt ≤ 2147483647 := by rw [e_per]; exact own_perb p
  have hq : per ≠ 0 := fun h => by rw [h] at hper; exact absurd hper.1 (by decide)
  refine go_lstore c0_12 rfl rfl rfl ?_
  dsimp only [setl]
  refine go_iload c0_14 rfl ?_
  refine go_i2l c0_15 ?_
  refine go_ldcJ (y := x) c0_16 (t0 hw) ?_
  refine go_land c0_19 ?_
  refine go_nameJ fun sr e_sr => ?_
  have hsr := own_msk s
  rw [← e_sr] at hsr
  refine go_lstore c0_20 rfl rfl rfl ?_
  dsimp only [setl]
  refine go_iload c0_22 rfl ?_
  refine go_push c0_24 ?_
  refine go_iand c0_25 ?_
  refine go_istore c0_26 rfl rfl ?_
  dsimp only [setl]
  refine go_iload c0_28 rfl ?_
  have hz_56 : (2 * per + 1 : Int64) ≠ 0 := own_nz per hper
  have hz_112 := hz_56
  have J3 : ∀ (sec ur used off : Int64), (0 ≤ sec.toInt ∧ sec.toInt < 8589934592) → (0 ≤ used.toInt ∧ used.toInt < 8589934592) → (0 ≤ off.toInt ∧ off.toInt < per.toInt) → Go false KT l Z room_1 x code maxLocals ret n0 room_1.cells room_1.slots (R1 fun w _ => w = .int 1) h0 0 0 139 [.val (.int s), .val (.int p), .val (.int q), .val (.int r), .val (.int u), .val (.int m), .val (.long per), .second, .val (.long sr), .second, .val (.long sec), .second, .val (.int (m &&& 3)), .val (.long ur), .second, .val (.long used), .second, .unset, .unset, .unset, .unset, .unset, .unset, .unset, .unset, .unset] [(.long off)] := by
    intro sec ur used off hsec hused hoff
    refine go_lstore c0_139 rfl rfl rfl ?_
    dsimp only [setl]
    refine go_iload c0_141 rfl ?_
    refine go_i2l c0_142 ?_
    refine go_lload c0_143 rfl ?_
    refine go_lmul c0_145 ?_
    refine go_lload c0_146 rfl ?_
    refine go_ladd c0_148 ?_
    refine go_lstore c0_149 rfl rfl rfl ?_
    dsimp only [setl]
    refine go_new (y := x) P0 [(("com/example/need_to_know/needtoknow/Grant$Budget", "seconds", "J"), (.long 0)), (("com/example/need_to_know/needtoknow/Grant$Budget", "period", "J"), (.long 0))] c0_151 (t2 hw) (t3 hw) (t4 hw) (⟨⟨Or.inr (t17 hw), .long, by decide, rfl⟩, ⟨⟨Or.inr (t19 hw), .long, by decide, rfl⟩, trivial⟩⟩) (by decide) (by decide) (by decide) ?_
    intro h1 a3 P2
    refine go_more (k' := 1) (n' := 2) (by decide) (by decide) ?_
    refine go_dup c0_154 rfl ?_
    refine go_lload c0_155 rfl ?_
    refine go_lload c0_157 rfl ?_
    refine go_callN0 (y := x) (W := 1) (argsL := [(.long sec), (.long per)]) (st := [(.ref a3)]) c0_159 rfl rfl (rmB l Z a0 hw h1 n0 _ a3 sec per P2) (t5 hw) (t6 hw) (t4 hw) (t7 hw) (by decide) (lenOf pd3 rfl) rfl rfl (by decide) (by decide) (by decide) (by decide) rfl ?_
    intro h5 P4
    unfold own_ob at P4
    refine go_more (k' := 1) (n' := 2) (by decide) (by decide) ?_
    refine go_astore c0_162 rfl rfl rfl ?_
    dsimp only [setl]
    refine go_aload c0_164 rfl rfl ?_
    refine go_lload c0_166 rfl ?_
    refine go_lload c0_168 rfl ?_
    refine go_callV1 (y := x) (W := 0) (argsL := [(.long ((q.toInt64 * per) + off)), (.long used)]) (st := []) c0_170 (rmO l Z a0 hw h5 n0 _ a3 sec per ((q.toInt64 * per) + off) used P4 hq) (P4.exa (i := 0) rfl) (t20 hw) (t21 hw) (fun _ q => notFace_of_selects (args := #[]) (mvT q (t23 hw))) (t23 hw) (t22 hw) (t4 hw) (t24 hw) (by decide) (lenOf pd1 rfl) rfl rfl (by decide) (by decide) (by decide) (by decide) rfl ?_
    rintro _ _ ⟨rfl, rfl⟩
    refine go_more (k' := 1) (n' := 2) (by decide) (by decide) ?_
    refine go_lstore c0_173 rfl rfl rfl ?_
    dsimp only [setl]
    refine go_lload c0_175 rfl ?_
    refine go_lload c0_177 rfl ?_
    refine go_lcmp c0_179 ?_
    refine go_lc_lt c0_180 (fun b180 => ?_) (fun b180 => ?_)
    · refine go_lload c0_190 rfl ?_
      refine go_lload c0_192 rfl ?_
      refine go_lsub c0_194 ?_
      refine go_lload c0_195 rfl ?_
      refine go_lload c0_197 rfl ?_
      refine go_lsub c0_199 ?_
      refine go_lcmp c0_200 ?_
      refine go_lc_ge c0_201 (fun b201 => ?_) (fun b201 => ?_)
      · refine go_lload c0_217 rfl ?_
        refine go_lload c0_219 rfl ?_
        refine go_lcmp c0_221 ?_
        refine go_lc_ge c0_222 (fun b222 => ?_) (fun b222 => ?_)
        · refine go_ldcJ (y := x) c0_240 (t35 hw) ?_
          refine go_lstore c0_243 rfl rfl rfl ?_
          dsimp only [setl]
          refine go_lload c0_245 rfl ?_
          refine go_lload c0_247 rfl ?_
          refine go_lcmp c0_249 ?_
          refine go_lc_ne c0_250 (fun b250 => ?_) (fun b250 => ?_)
          · exact absurd (by rw [own_m2 sec per used off q hper hsec hused hoff]; (try clear e_per); (try clear e_per); simp [*]) b250
          · refine go_push c0_253 ?_
            refine go_goto c0_254 ?_
            exact go_bret rfl c0_258 (by decide) (by decide) (by decide) ⟨_, rfl, rfl⟩
        · refine go_iload c0_225 rfl ?_
          refine go_i2l c0_226 ?_
          refine go_lconst c0_227 ?_
          refine go_ladd c0_228 ?_
          refine go_lload c0_229 rfl ?_
          refine go_lmul c0_231 ?_
          refine go_lload c0_232 rfl ?_
          refine go_ladd c0_234 ?_
          refine go_lstore c0_235 rfl rfl rfl ?_
          dsimp only [setl]
          refine go_goto c0_237 ?_
          refine go_lload c0_245 rfl ?_
          refine go_lload c0_247 rfl ?_
          refine go_lcmp c0_249 ?_
          refine go_lc_ne c0_250 (fun b250 => ?_) (fun b250 => ?_)
          · exact absurd (by rw [own_m2 sec per used off q hper hsec hused hoff]; (try clear e_per); (try clear e_per); simp [*]) b250
          · refine go_push c0_253 ?_
            refine go_goto c0_254 ?_
            exact go_bret rfl c0_258 (by decide) (by decide) (by decide) ⟨_, rfl, rfl⟩
      · refine go_lload c0_204 rfl ?_
        refine go_lload c0_206 rfl ?_
        refine go_lload c0_208 rfl ?_
        refine go_lsub c0_210 ?_
        refine go_ladd c0_211 ?_
        refine go_lstore c0_212 rfl rfl rfl ?_
        dsimp only [setl]
        refine go_goto c0_214 ?_
        refine go_lload c0_245 rfl ?_
        refine go_lload c0_247 rfl ?_
        refine go_lcmp c0_249 ?_
        refine go_lc_ne c0_250 (fun b250 => ?_) (fun b250 => ?_)
        · exact absurd (by rw [own_m2 sec per used off q hper hsec hused hoff]; (try clear e_per); (try clear e_per); simp [*]) b250
        · refine go_push c0_253 ?_
          refine go_goto c0_254 ?_
          exact go_bret rfl c0_258 (by decide) (by decide) (by decide) ⟨_, rfl, rfl⟩
    · refine go_lload c0_183 rfl ?_
      refine go_lstore c0_185 rfl rfl rfl ?_
      dsimp only [setl]
      refine go_goto c0_187 ?_
      refine go_lload c0_245 rfl ?_
      refine go_lload c0_247 rfl ?_
      refine go_lcmp c0_249 ?_
      refine go_lc_ne c0_250 (fun b250 => ?_) (fun b250 => ?_)
      · exact absurd (by rw [own_m2 sec per used off q hper hsec hused hoff]; (try clear e_per); (try clear e_per); simp [*]) b250
      · refine go_push c0_253 ?_
        refine go_goto c0_254 ?_
        exact go_bret rfl c0_258 (by decide) (by decide) (by decide) ⟨_, rfl, rfl⟩
  have J2 : ∀ (sec ur used : Int64), (0 ≤ sec.toInt ∧ sec.toInt < 8589934592) → (0 ≤ used.toInt ∧ used.toInt < 8589934592) → Go false KT l Z room_1 x code maxLocals ret n0 room_1.cells room_1.slots (R1 fun w _ => w = .int 1) h0 0 0 113 [.val (.int s), .val (.int p), .val (.int q), .val (.int r), .val (.int u), .val (.int m), .val (.long per), .second, .val (.long sr), .second, .val (.long sec), .second, .val (.int (m &&& 3)), .val (.long ur), .second, .unset, .unset, .unset, .unset, .unset, .unset, .unset, .unset, .unset, .unset, .unset] [(.long used)] := by
    intro sec ur used hsec hused
    refine go_lstore c0_113 rfl rfl rfl ?_
    dsimp only [setl]
    refine go_iload c0_115 rfl ?_
    refine go_push c0_117 ?_
    refine go_iand c0_119 ?_
    refine go_if_eq c0_120 (fun b120 => ?_) (fun b120 => ?_)
    · refine go_iload c0_130 rfl ?_
      refine go_i2l c0_131 ?_
      refine go_ldcJ (y := x) c0_132 (t0 hw) ?_
      refine go_land c0_135 ?_
      refine go_lload c0_136 rfl ?_
      refine go_lrem c0_138 hq ?_
      exact J3 sec ur used _ hsec hused (own_off2 r per hper)
    · refine go_lload c0_123 rfl ?_
      refine go_lconst c0_125 ?_
      refine go_lsub c0_126 ?_
      refine go_goto c0_127 ?_
      exact J3 sec ur used _ hsec hused (own_off1 per hper)
  have J1 : ∀ (sec : Int64), (0 ≤ sec.toInt ∧ sec.toInt < 8589934592) → Go false KT l Z room_1 x code maxLocals ret n0 room_1.cells room_1.slots (R1 fun w _ => w = .int 1) h0 0 0 81 [.val (.int s), .val (.int p), .val (.int q), .val (.int r), .val (.int u), .val (.int m), .val (.long per), .second, .val (.long sr), .second, .val (.long sec), .second, .val (.int (m &&& 3)), .unset, .unset, .unset, .unset, .unset, .unset, .unset, .unset, .unset, .unset, .unset, .unset, .unset] [] := by
    intro sec hsec
    refine go_iload c0_81 rfl ?_
    refine go_i2l c0_83 ?_
    refine go_ldcJ (y := x) c0_84 (t0 hw) ?_
    refine go_land c0_87 ?_
    refine go_lstore c0_88 rfl rfl rfl ?_
    dsimp only [setl]
    refine go_iload c0_90 rfl ?_
    refine go_push c0_92 ?_
    refine go_iand c0_93 ?_
    refine go_if_eq c0_94 (fun b94 => ?_) (fun b94 => ?_)
    · refine go_lload c0_102 rfl ?_
      refine go_ldcJ (y := x) c0_104 (t1 hw) ?_
      refine go_lload c0_107 rfl ?_
      refine go_lmul c0_109 ?_
      refine go_lconst c0_110 ?_
      refine go_ladd c0_111 ?_
      refine go_lrem c0_112 hz_112 ?_
      exact J2 sec _ _ hsec (own_used2 u per hper)
    · refine go_lload c0_97 rfl ?_
      refine go_goto c0_99 ?_
      exact J2 sec _ _ hsec (own_used1 u per hper)
  refine go_if_ne c0_30 (fun b30 => ?_) (fun b30 => ?_)
  · refine go_iload c0_40 rfl ?_
    refine go_push c0_42 ?_
    refine go_icmp_ne c0_43 (fun b43 => ?_) (fun b43 => ?_)
    · refine go_iload c0_62 rfl ?_
      refine go_push c0_64 ?_
      refine go_icmp_ne c0_65 (fun b65 => ?_) (fun b65 => ?_)
      · refine go_lload c0_75 rfl ?_
        refine go_lconst c0_77 ?_
        refine go_lsub c0_78 ?_
        refine go_lstore c0_79 rfl rfl rfl ?_
        dsimp only [setl]
        exact J1 _ (own_sec4 sr per hsr hper)
      · refine go_lload c0_68 rfl ?_
        refine go_lstore c0_70 rfl rfl rfl ?_
        dsimp only [setl]
        refine go_goto c0_72 ?_
        exact J1 _ (own_sec3 sr per hsr hper)
    · refine go_lload c0_46 rfl ?_
      refine go_ldcJ (y := x) c0_48 (t1 hw) ?_
      refine go_lload c0_51 rfl ?_
      refine go_lmul c0_53 ?_
      refine go_lconst c0_54 ?_
      refine go_ladd c0_55 ?_
      refine go_lrem c0_56 hz_56 ?_
      refine go_lstore c0_57 rfl rfl rfl ?_
      dsimp only [setl]
      refine go_goto c0_59 ?_
      exact J1 _ (own_sec2 sr per hsr hper)
  · refine go_lload c0_33 rfl ?_
    refine go_lstore c0_35 rfl rfl rfl ?_
    dsimp only [setl]
    refine go_goto c0_37 ?_
    exact J1 _ (own_sec1 sr per hsr hper)
set_option maxRecDepth 65536 in
set_option maxHeartbeats 4000000 in
theorem comes_1 {Post : Tables → Env → Array Value → State → Outcome → State → Prop} (hpost : ∀ tb e args s v u, (limb_1_1.after args s (.returned v) u = true ∧ limb_1_2.after args s (.returned v) u = true ∧ True) → FrameEnd s (.returned v) u (Jvm.fieldLocs frame_1_writes args s ++ Jvm.arrayLocs frame_1_arrays args s ++ Jvm.staticLocs frame_1_statics s) 16 128 → Post tb e args s (.returned v) u) :
    ArmFor flags0 classFile x code maxLocals ret World_1 tables_1 room_1 Calls_1 rest_1 Pre_1 Post := by
  intro l hfl _ _ p e ha hc hk s m args below hf hA hF happ hP
  obtain ⟨hcalls, hrest, hpre⟩ := hP
  obtain ⟨-, -, -, hnamed, -, -, -, hat⟩ := (Spec.applies_iff hf).mp happ
  obtain ⟨hg, hn⟩ := and_e (Cond.before_iff.mp (show (Jvm.Cond.and given_1 narrow_1).before args s = true from hpre))
  obtain ⟨hct, hg0⟩ := and_e hg
  obtain ⟨ga0, hg1⟩ := and_e hg0
  obtain ⟨ga1, hg2⟩ := and_e hg1
  obtain ⟨ga2, hg3⟩ := and_e hg2
  obtain ⟨ga3, hg4⟩ := and_e hg3
  obtain ⟨ga4, hg5⟩ := and_e hg4
  have ga5 := hg5
  obtain ⟨w0, w1, w2, w3, w4, w5, rfl⟩ : ∃ w0 w1 w2 w3 w4 w5 : Value, args = #[w0, w1, w2, w3, w4, w5] := by
    have hs : args.size = 6 := by simpa [Cond.value, given_1] using hct
    obtain ⟨L⟩ := args
    match L, hs with
    | [w0, w1, w2, w3, w4, w5], _ => exact ⟨w0, w1, w2, w3, w4, w5, rfl⟩
  have hw := fun d (hd : d ∈ tables_1) => atoms_spec (ws := Jvm.Cond.code x code maxLocals ret :: tables_1) hat d (List.mem_cons_of_mem _ hd)
  have hfit : Fit s := fun {y c} hc i hi => by
    obtain ⟨ha, rfl⟩ := Array.getElem?_eq_some_iff.mp hc
    have q := List.all_eq_true.mp ((Array.all_eq_true_iff_forall_mem.mp hF) _ (Array.getElem_mem ha)) i (List.mem_range.mpr hi)
    simpa [Array.getElem?_eq_getElem hi] using q
  obtain ⟨i0, ei0⟩ := is_v ga0
  obtain rfl : w0 = (.int i0) := Option.some.inj ei0
  obtain ⟨i1, ei1⟩ := is_v ga1
  obtain rfl : w1 = (.int i1) := Option.some.inj ei1
  obtain ⟨i2, ei2⟩ := is_v ga2
  obtain rfl : w2 = (.int i2) := Option.some.inj ei2
  obtain ⟨i3, ei3⟩ := is_v ga3
  obtain rfl : w3 = (.int i3) := Option.some.inj ei3
  obtain ⟨i4, ei4⟩ := is_v ga4
  obtain rfl : w4 = (.int i4) := Option.some.inj ei4
  obtain ⟨i5, ei5⟩ := is_v ga5
  obtain rfl : w5 = (.int i5) := Option.some.inj ei5
  have K := rm0 l s _ hw s.heap s.heap.size (Hp.start s) i0 i1 i2 i3 i4 i5
  obtain ⟨n, o, h1, h2, h3, v, L, rfl, ⟨⟨⟨w, rfl, rfl⟩, -⟩, N⟩, hq⟩ := K tables_1 p e ha hc hk s m _ below hf ((Spec.applies_iff_loose hf).mp happ).1 ⟨rfl, State.Warmed39.refl s, rfl⟩ trivial
  refine ⟨n, _, h1, h2, h3, hpost _ _ _ _ _ _ ⟨Cond.after_iff.mpr rfl, Cond.after_iff.mpr (eq_i res_at (Term.int_eval (1)) rfl), trivial⟩ ⟨hq.1, hq.2.1, (hq.2.2.sift fun y hy => Or.inr (N y hy)).mono (by decide) (by decide)⟩⟩
theorem main_1_1 : Claimed_1_1 := comes_1 fun _ _ _ _ _ _ h hF => ⟨h.1, hF⟩
theorem main_1_2 : Claimed_1_2 := comes_1 fun _ _ _ _ _ _ h hF => ⟨h.2.1, hF⟩
end Jvm.Pilot.@@N@@
namespace Jvm.Pilot.@@N@@
open Jvm Jvm.ClassFile Sem Op Lib Jvm.Free Jvm.Stand Jvm.Pilot.@@N@@.Jvm.D
/-! MADE BY PROGRAM (witnessworld.py) out of the Statement's table words and the real class files: 11 classes; the members and pool entries that the words name. The judged class is class 1, her method 1. -/
namespace start1
open Jvm.ClassFile
def u (s : String) : CpInfo := .utf8 (stringToUtf16 s)
/-- a pool by its gaps: so many unusable entries, then the entry; so many at the end -/
def gap : Nat → List CpInfo → List CpInfo
  | 0, r => r
  | n + 1, r => .unusable :: gap n r
def poolList (es : List (Nat × CpInfo)) (last : Nat) : List CpInfo := es.foldr (fun e r => gap e.1 (e.2 :: r)) (gap last [])
def pool (es : List (Nat × CpInfo)) (last : Nat) : Array CpInfo := ⟨poolList es last⟩
def fileOf (pool : Array CpInfo) (this : Nat) (attrs : Array Attribute := #[]) (ms : Array MethodInfo := #[]) (fl : Nat := 33) (sup : Nat := 0) (ifs : Array Nat := #[]) (fds : Array FieldInfo := #[]) : ClassFile where
  minorVersion := 0
  majorVersion := 65
  constantPool := pool
  accessFlags := fl
  thisClass := this
  superClass := sup
  interfaces := ifs
  fields := fds
  methods := ms
  attributes := attrs
def plain (name : String) (sup : Option ClassId) : Class where
  name := name
  kind := .ordinary
  loader := none
  accessFlags := 33
  super := sup
  interfaces := #[]
  cf := none
  fields := #[]
  methods := #[]
  instanceTypes := #[]
  staticTypes := #[]
  resolved := #[]
  callSites := []
  init := .initialized
  statics := none
  mirror := none

def pool0 : Array CpInfo := pool [(5, u "<init>"), (0, u "()V"), (1, .class_ 10), (1, u "java/lang/Object")] 113

def k0c0 : Code := { maxStack := 0, maxLocals := 1, code := object_method_1_code, exceptionTable := #[], attributes := #[] }
def k0m0 : Method := { name := "<init>", desc := "()V", sig := { parameters := [], returnType := none }, accessFlags := 1, code := some k0c0 }
/-- java/lang/Object -/
def k0 : Class := { plain "java/lang/Object" none with
  accessFlags := 33
  interfaces := #[]
  cf := some (fileOf pool0 8 #[] #[{ accessFlags := 1, nameIndex := 5, descriptorIndex := 6, attributes := #[] }] 33 0 #[] #[])
  fields := #[]
  methods := #[k0m0]
  instanceTypes := #[]
  staticTypes := #[]
  resolved := Array.replicate 124 none
  statics := none }

def pool1 : Array CpInfo := pool [(2, .class_ 4), (1, u "java/lang/Object"), (0, u "<init>"), (0, u "()V"), (0, .long 2147483647), (1, .long 2), (1, .class_ 12), (0, u "com/example/need_to_know/needtoknow/Grant$Budget"), (0, .methodref 11 14), (0, .nameAndType 5 15), (0, u "(JJ)V"), (0, .methodref 11 17), (0, .nameAndType 18 19), (0, u "runsOut"), (0, u "(JJ)J"), (2, .long 9223372036854775807), (1, .class_ 25), (0, u "com/example/need_to_know/needtoknow/BudgetRunsOutPinLaw"), (2, u "law"), (0, u "(IIIIII)Z")] 7

def k1m0 : Method := { name := "<init>", desc := "()V", sig := { parameters := [], returnType := none }, accessFlags := 2, code := none }
def k1c1 : Code := { maxStack := 6, maxLocals := 26, code := code, exceptionTable := #[], attributes := #[] }
def k1m1 : Method := { name := "law", desc := "(IIIIII)Z", sig := { parameters := [.int, .int, .int, .int, .int, .int], returnType := some .boolean }, accessFlags := 9, code := some k1c1 }
/-- com/example/need_to_know/needtoknow/BudgetRunsOutPinLaw -/
def k1 : Class := { plain "com/example/need_to_know/needtoknow/BudgetRunsOutPinLaw" (some 0) with
  accessFlags := 49
  interfaces := #[]
  cf := some (fileOf pool1 24 #[] #[{ accessFlags := 2, nameIndex := 5, descriptorIndex := 6, attributes := #[] }, { accessFlags := 9, nameIndex := 28, descriptorIndex := 29, attributes := #[] }] 49 2 #[] #[])
  fields := #[]
  methods := #[k1m0, k1m1]
  instanceTypes := #[]
  staticTypes := #[]
  resolved := Array.replicate 37 none
  statics := none }

def pool2 : Array CpInfo := pool [(1, .methodref 2 3), (0, .class_ 4), (0, .nameAndType 5 6), (0, u "java/lang/Object"), (0, u "<init>"), (0, u "()V"), (0, .class_ 8), (0, u "java/lang/Record")] 13

def k2c0 : Code := { maxStack := 1, maxLocals := 1, code := jdk_30_method_1_code, exceptionTable := #[], attributes := #[] }
def k2m0 : Method := { name := "<init>", desc := "()V", sig := { parameters := [], returnType := none }, accessFlags := 4, code := some k2c0 }
/-- java/lang/Record -/
def k2 : Class := { plain "java/lang/Record" (some 0) with
  accessFlags := 1057
  interfaces := #[]
  cf := some (fileOf pool2 7 #[] #[{ accessFlags := 4, nameIndex := 5, descriptorIndex := 6, attributes := #[] }] 1057 2 #[] #[])
  fields := #[]
  methods := #[k2m0]
  instanceTypes := #[]
  staticTypes := #[]
  resolved := Array.replicate 22 none
  statics := none }

def pool3 : Array CpInfo := pool [(1, .methodref 2 3), (0, .class_ 4), (0, .nameAndType 5 6), (0, u "java/lang/Record"), (0, u "<init>"), (0, u "()V"), (0, .fieldref 8 9), (0, .class_ 10), (0, .nameAndType 11 12), (0, u "com/example/need_to_know/needtoknow/Grant$Budget"), (0, u "seconds"), (0, u "J"), (0, .fieldref 8 14), (0, .nameAndType 15 12), (0, u "period"), (0, .methodref 17 18), (0, .class_ 19), (0, .nameAndType 20 21), (0, u "java/lang/Math"), (0, u "floorDiv"), (0, u "(JJ)J"), (0, .methodref 8 23), (0, .nameAndType 24 25), (0, u "start"), (0, u "(J)J"), (2, .long 9223372036854775807), (13, u "(JJ)V"), (3, u "runsOut"), (8, .class_ 56), (0, u "com/example/need_to_know/needtoknow/Grant")] 20

def k3c0 : Code := { maxStack := 3, maxLocals := 5, code := prog_11_method_1_code, exceptionTable := #[], attributes := #[] }
def k3m0 : Method := { name := "<init>", desc := "(JJ)V", sig := { parameters := [.long, .long], returnType := none }, accessFlags := 0, code := some k3c0 }
def k3c1 : Code := { maxStack := 4, maxLocals := 3, code := prog_11_method_2_code, exceptionTable := #[], attributes := #[] }
def k3m1 : Method := { name := "start", desc := "(J)J", sig := { parameters := [.long], returnType := some .long }, accessFlags := 0, code := some k3c1 }
def k3c2 : Code := { maxStack := 4, maxLocals := 9, code := prog_11_method_3_code, exceptionTable := #[], attributes := #[] }
def k3m2 : Method := { name := "runsOut", desc := "(JJ)J", sig := { parameters := [.long, .long], returnType := some .long }, accessFlags := 0, code := some k3c2 }
/-- com/example/need_to_know/needtoknow/Grant$Budget -/
def k3 : Class := { plain "com/example/need_to_know/needtoknow/Grant$Budget" (some 2) with
  accessFlags := 48
  interfaces := #[]
  cf := some (fileOf pool3 8 #[.nestHost 55] #[{ accessFlags := 0, nameIndex := 5, descriptorIndex := 42, attributes := #[] }, { accessFlags := 0, nameIndex := 24, descriptorIndex := 25, attributes := #[] }, { accessFlags := 0, nameIndex := 46, descriptorIndex := 21, attributes := #[] }] 48 2 #[] #[{ accessFlags := 18, nameIndex := 11, descriptorIndex := 12, attributes := #[] }, { accessFlags := 18, nameIndex := 15, descriptorIndex := 12, attributes := #[] }])
  fields := #[{ name := "seconds", type := .long, accessFlags := 18, slot := 0, constantValue := 0 }, { name := "period", type := .long, accessFlags := 18, slot := 1, constantValue := 0 }]
  methods := #[k3m0, k3m1, k3m2]
  instanceTypes := #[.long, .long]
  staticTypes := #[]
  resolved := Array.replicate 77 none
  statics := none }

def pool4 : Array CpInfo := pool [(1, .class_ 2), (0, u "java/lang/Math"), (1, .class_ 6), (1, u "java/lang/Object"), (0, u "<init>"), (0, u "()V"), (89, .class_ 100), (1, u "java/lang/Math$RandomNumberGeneratorHolder"), (20, u "(JJ)J"), (23, u "floorDiv"), (26, u "negativeZeroFloatBits"), (0, u "J"), (2, u "negativeZeroDoubleBits"), (68, u "$assertionsDisabled"), (0, u "Z"), (91, u "twoToTheDoubleScaleDown"), (0, u "D"), (4, u "twoToTheDoubleScaleUp"), (9, u "E"), (3, u "PI"), (2, u "TAU"), (2, u "DEGREES_TO_RADIANS"), (0, u "RADIANS_TO_DEGREES")] 94

def k4m0 : Method := { name := "<init>", desc := "()V", sig := { parameters := [], returnType := none }, accessFlags := 2, code := none }
def k4c1 : Code := { maxStack := 4, maxLocals := 6, code := jdk_29_method_49_code, exceptionTable := #[], attributes := #[] }
def k4m1 : Method := { name := "floorDiv", desc := "(JJ)J", sig := { parameters := [.long, .long], returnType := some .long }, accessFlags := 9, code := some k4c1 }
/-- java/lang/Math -/
def k4 : Class := { plain "java/lang/Math" (some 0) with
  accessFlags := 49
  interfaces := #[]
  cf := some (fileOf pool4 1 #[.nestMembers #[98]] #[{ accessFlags := 2, nameIndex := 7, descriptorIndex := 8, attributes := #[] }, { accessFlags := 9, nameIndex := 145, descriptorIndex := 121, attributes := #[] }] 49 4 #[] #[{ accessFlags := 25, nameIndex := 354, descriptorIndex := 339, attributes := #[] }, { accessFlags := 25, nameIndex := 358, descriptorIndex := 339, attributes := #[] }, { accessFlags := 25, nameIndex := 361, descriptorIndex := 339, attributes := #[] }, { accessFlags := 26, nameIndex := 364, descriptorIndex := 339, attributes := #[] }, { accessFlags := 26, nameIndex := 365, descriptorIndex := 339, attributes := #[] }, { accessFlags := 26, nameIndex := 172, descriptorIndex := 173, attributes := #[] }, { accessFlags := 26, nameIndex := 176, descriptorIndex := 173, attributes := #[] }, { accessFlags := 8, nameIndex := 344, descriptorIndex := 339, attributes := #[] }, { accessFlags := 8, nameIndex := 338, descriptorIndex := 339, attributes := #[] }, { accessFlags := 4120, nameIndex := 245, descriptorIndex := 246, attributes := #[] }])
  fields := #[{ name := "E", type := .double, accessFlags := 25, slot := 0, constantValue := 0 }, { name := "PI", type := .double, accessFlags := 25, slot := 1, constantValue := 0 }, { name := "TAU", type := .double, accessFlags := 25, slot := 2, constantValue := 0 }, { name := "DEGREES_TO_RADIANS", type := .double, accessFlags := 26, slot := 3, constantValue := 0 }, { name := "RADIANS_TO_DEGREES", type := .double, accessFlags := 26, slot := 4, constantValue := 0 }, { name := "negativeZeroFloatBits", type := .long, accessFlags := 26, slot := 5, constantValue := 0 }, { name := "negativeZeroDoubleBits", type := .long, accessFlags := 26, slot := 6, constantValue := 0 }, { name := "twoToTheDoubleScaleUp", type := .double, accessFlags := 8, slot := 7, constantValue := 0 }, { name := "twoToTheDoubleScaleDown", type := .double, accessFlags := 8, slot := 8, constantValue := 0 }, { name := "$assertionsDisabled", type := .boolean, accessFlags := 4120, slot := 9, constantValue := 0 }]
  methods := #[k4m0, k4m1]
  instanceTypes := #[]
  staticTypes := #[.double, .double, .double, .double, .double, .long, .long, .double, .double, .boolean]
  resolved := Array.replicate 460 none
  statics := none }

def pool5 : Array CpInfo := pool [(1, u "java/lang/Cloneable"), (0, .class_ 1), (0, u "java/lang/Object"), (0, .class_ 3)] 3

/-- java/lang/Cloneable -/
def k5 : Class := { plain "java/lang/Cloneable" (some 0) with
  accessFlags := 1537
  interfaces := #[]
  cf := some (fileOf pool5 2 #[] #[] 1537 4 #[] #[])
  fields := #[]
  methods := #[]
  instanceTypes := #[]
  staticTypes := #[]
  resolved := Array.replicate 8 none
  statics := none }

def pool6 : Array CpInfo := pool [(1, u "java/io/Serializable"), (0, .class_ 1), (0, u "java/lang/Object"), (0, .class_ 3)] 3

/-- java/io/Serializable -/
def k6 : Class := { plain "java/io/Serializable" (some 0) with
  accessFlags := 1537
  interfaces := #[]
  cf := some (fileOf pool6 2 #[] #[] 1537 4 #[] #[])
  fields := #[]
  methods := #[]
  instanceTypes := #[]
  staticTypes := #[]
  resolved := Array.replicate 8 none
  statics := none }

/-- the primitive byte -/
def k7 : Class := { plain "byte" none with kind := .primitive 'B', accessFlags := 0x411 }
/-- [B -/
def k8 : Class := { plain "[B" (some 0) with kind := .array 7 .byte, interfaces := #[5, 6], accessFlags := 1041 }

/-- the primitive int -/
def k9 : Class := { plain "int" none with kind := .primitive 'I', accessFlags := 0x411 }
/-- [I -/
def k10 : Class := { plain "[I" (some 0) with kind := .array 9 .int, interfaces := #[5, 6], accessFlags := 1041 }

def heap : Heap := #[]
def classes : Array Class := #[k0, k1, k2, k3, k4, k5, k6, k7, k8, k9, k10]
def interned : List (Array UInt16 × Addr) := []
def slotsUsed : Nat := 0
def theMethod : MethodId := ⟨1, 1⟩
def args0 : Array Value := #[.int 5, .int 5, .int 5, .int 5, .int 5, .int 5]
def aboutOver (below : List Frame) : State where
  vm := { classes := classes, interned := interned.toArray }
  heap := heap
  slotsUsed := slotsUsed
  threads := #[{ frames := .invoking theMethod args0 :: below }]
def below0 : List Frame := [.native { method := ⟨0, 0⟩, args := #[] }]
def about1 : State := aboutOver below0
def p0 : Program := .bare "" "" ""
def e0 : Env := launch0.env 0 0 0
theorem w_frames : about1.frames = Frame.invoking theMethod args0 :: below0 := rfl
set_option maxRecDepth 65536 in
theorem w_args : argsFit about1.vm theMethod args0 = true := by decide +kernel
set_option maxRecDepth 65536 in
theorem w_heap : heapFits about1 = true := by decide +kernel
set_option maxRecDepth 65536 in
theorem w_runnable : about1.curStatus? = some .runnable := by decide +kernel
set_option maxRecDepth 65536 in
theorem w_alone : about1.alone = true := by decide +kernel
set_option maxRecDepth 65536 in
theorem w_named : about1.methodNamed? x = some theMethod := by decide +kernel
set_option maxRecDepth 65536 in
theorem w_hears : about1.hears theMethod below0 = true := by decide +kernel
set_option maxRecDepth 65536 in
theorem w_ripe : about1.ripe theMethod args0 below0 = true := by decide +kernel
theorem w_running : about1.status = .running := rfl
set_option maxRecDepth 65536 in
theorem w_room : about1.hasRoom e0.platform room_1 = true :=
  launch0.hasRoom_least _ room_1 (by decide +kernel) (by decide +kernel) (by decide +kernel) (by decide +kernel) (by decide +kernel) (by decide +kernel)
theorem allAtoms_all (ts : List Jvm.Cond) (a : Array Jvm.Value) (st : Jvm.State) : (allAtoms ts).before a st = ts.all (fun c => c.before a st) := by
  induction ts with
  | nil => rfl
  | cons c t ih =>
    show (Jvm.Cond.and c (allAtoms t)).before a st = _
    rw [Jvm.Cond.before_and, ih, List.all_cons]
def words1 : List Jvm.Cond := Jvm.Cond.code x code maxLocals ret :: tables_1
/-- a 'code' word, met by the world's own term for the bytes: nothing is compared byte by byte -/
theorem code_word {y : MethodName} {bytes : ByteArray} {mx : Nat} {rt : Option FieldType} {a : Array Value} {s : State} {m : MethodId} {meth : Method} {c : Code} (h1 : s.methodNamed? y = some m) (h2 : s.vm.method? m = some meth) (h3 : meth.code = some c) (h4 : c.code = bytes)
    (h5 : (c.maxLocals == mx && c.exceptionTable.isEmpty && decide (c.maxStack ≤ mostOperands) && decide (meth.sig.returnType = rt) && !meth.locks && decide (parseMethodDescriptor y.desc = some meth.sig)) = true) : (Jvm.Cond.code y bytes mx rt).before a s = true := by
  simp only [Bool.and_eq_true, beq_iff_eq, Bool.not_eq_true', decide_eq_true_eq] at h5
  obtain ⟨⟨⟨⟨⟨g1, g2⟩, g3⟩, g4⟩, g5⟩, g6⟩ := h5
  simp [Cond.before, Cond.holds, Cond.value, h1, h2, h3, h4, g1, g2, g3, g4, g5, g6]
def isCode : Jvm.Cond → Bool
  | .code _ _ _ _ => true
  | _ => false
theorem all_split {L : List Jvm.Cond} {P : Jvm.Cond → Bool} (h1 : L.all (fun c => isCode c || P c) = true) (h2 : ∀ c ∈ L.filter isCode, P c = true) : L.all P = true := by
  refine List.all_eq_true.mpr fun c hc => ?_
  have h := List.all_eq_true.mp h1 c hc
  rcases Bool.eq_false_or_eq_true (isCode c) with hi | hi
  · exact h2 c (List.mem_filter.mpr ⟨hc, hi⟩)
  · simpa [hi] using h
set_option maxRecDepth 65536 in
theorem w_c0 : (Jvm.Cond.code x code maxLocals ret).before args0 about1 = true := code_word (m := ⟨1, 1⟩) (meth := k1m1) (c := k1c1) (by decide +kernel) rfl rfl rfl (by decide +kernel)
set_option maxRecDepth 65536 in
theorem w_c1 : (Jvm.Cond.code ({ cls := "com/example/need_to_know/needtoknow/Grant$Budget", name := "<init>", desc := "(JJ)V" } : Jvm.MethodName) prog_11_method_1_code (5 : Nat) (Option.none : Option Jvm.ClassFile.FieldType)).before args0 about1 = true := code_word (m := ⟨3, 0⟩) (meth := k3m0) (c := k3c0) (by decide +kernel) rfl rfl rfl (by decide +kernel)
set_option maxRecDepth 65536 in
theorem w_c2 : (Jvm.Cond.code ({ cls := "java/lang/Record", name := "<init>", desc := "()V" } : Jvm.MethodName) jdk_30_method_1_code (1 : Nat) (Option.none : Option Jvm.ClassFile.FieldType)).before args0 about1 = true := code_word (m := ⟨2, 0⟩) (meth := k2m0) (c := k2c0) (by decide +kernel) rfl rfl rfl (by decide +kernel)
set_option maxRecDepth 65536 in
theorem w_c3 : (Jvm.Cond.code ({ cls := "java/lang/Object", name := "<init>", desc := "()V" } : Jvm.MethodName) object_method_1_code (1 : Nat) (Option.none : Option Jvm.ClassFile.FieldType)).before args0 about1 = true := code_word (m := ⟨0, 0⟩) (meth := k0m0) (c := k0c0) (by decide +kernel) rfl rfl rfl (by decide +kernel)
set_option maxRecDepth 65536 in
theorem w_c4 : (Jvm.Cond.code ({ cls := "com/example/need_to_know/needtoknow/Grant$Budget", name := "runsOut", desc := "(JJ)J" } : Jvm.MethodName) prog_11_method_3_code (9 : Nat) (Option.some Jvm.ClassFile.FieldType.long)).before args0 about1 = true := code_word (m := ⟨3, 2⟩) (meth := k3m2) (c := k3c2) (by decide +kernel) rfl rfl rfl (by decide +kernel)
set_option maxRecDepth 65536 in
theorem w_c5 : (Jvm.Cond.code ({ cls := "com/example/need_to_know/needtoknow/Grant$Budget", name := "start", desc := "(J)J" } : Jvm.MethodName) prog_11_method_2_code (3 : Nat) (Option.some Jvm.ClassFile.FieldType.long)).before args0 about1 = true := code_word (m := ⟨3, 1⟩) (meth := k3m1) (c := k3c1) (by decide +kernel) rfl rfl rfl (by decide +kernel)
set_option maxRecDepth 65536 in
theorem w_c6 : (Jvm.Cond.code ({ cls := "java/lang/Math", name := "floorDiv", desc := "(JJ)J" } : Jvm.MethodName) jdk_29_method_49_code (6 : Nat) (Option.some Jvm.ClassFile.FieldType.long)).before args0 about1 = true := code_word (m := ⟨4, 1⟩) (meth := k4m1) (c := k4c1) (by decide +kernel) rfl rfl rfl (by decide +kernel)
def codes1 : List Jvm.Cond := [Jvm.Cond.code x code maxLocals ret, Jvm.Cond.code ({ cls := "com/example/need_to_know/needtoknow/Grant$Budget", name := "<init>", desc := "(JJ)V" } : Jvm.MethodName) prog_11_method_1_code (5 : Nat) (Option.none : Option Jvm.ClassFile.FieldType), Jvm.Cond.code ({ cls := "java/lang/Record", name := "<init>", desc := "()V" } : Jvm.MethodName) jdk_30_method_1_code (1 : Nat) (Option.none : Option Jvm.ClassFile.FieldType), Jvm.Cond.code ({ cls := "java/lang/Object", name := "<init>", desc := "()V" } : Jvm.MethodName) object_method_1_code (1 : Nat) (Option.none : Option Jvm.ClassFile.FieldType), Jvm.Cond.code ({ cls := "com/example/need_to_know/needtoknow/Grant$Budget", name := "runsOut", desc := "(JJ)J" } : Jvm.MethodName) prog_11_method_3_code (9 : Nat) (Option.some Jvm.ClassFile.FieldType.long), Jvm.Cond.code ({ cls := "com/example/need_to_know/needtoknow/Grant$Budget", name := "start", desc := "(J)J" } : Jvm.MethodName) prog_11_method_2_code (3 : Nat) (Option.some Jvm.ClassFile.FieldType.long), Jvm.Cond.code ({ cls := "java/lang/Math", name := "floorDiv", desc := "(JJ)J" } : Jvm.MethodName) jdk_29_method_49_code (6 : Nat) (Option.some Jvm.ClassFile.FieldType.long)]
set_option maxRecDepth 65536 in
theorem codes_eq : words1.filter isCode = codes1 := rfl
theorem w_codes : ∀ c ∈ words1.filter isCode, c.before args0 about1 = true := by
  rw [codes_eq]
  intro c hc
  simp only [codes1, List.mem_cons, List.not_mem_nil, or_false] at hc
  rcases hc with rfl | rfl | rfl | rfl | rfl | rfl | rfl
  · exact w_c0
  · exact w_c1
  · exact w_c2
  · exact w_c3
  · exact w_c4
  · exact w_c5
  · exact w_c6
set_option maxRecDepth 65536 in
theorem w_t1 : (words1.take 24).all (fun c => isCode c || c.before args0 about1) = true := by decide +kernel
set_option maxRecDepth 65536 in
theorem w_t2 : (words1.drop 24).all (fun c => isCode c || c.before args0 about1) = true := by decide +kernel
theorem w_tables : (allAtoms (Jvm.Cond.code x code maxLocals ret :: tables_1)).before args0 about1 = true := by
  rw [allAtoms_all]
  show words1.all (fun c => c.before args0 about1) = true
  refine all_split ?_ w_codes
  rw [← List.take_append_drop 24 words1, List.all_append, w_t1, w_t2]
  rfl
set_option maxRecDepth 65536 in
theorem w_case : (Jvm.Cond.and given_1 narrow_1).before args0 about1 = true := by decide +kernel
theorem w_applies : (headSpec (Jvm.Cond.code x code maxLocals ret :: tables_1) room_1).applies x e0.platform about1 = true :=
  (Spec.applies_iff w_frames).mpr ⟨w_running, w_runnable, w_alone, w_named, w_hears, w_ripe, w_room, w_tables⟩
theorem atStart : AtStart classFile x code maxLocals ret World_1 tables_1 room_1 Calls_1 rest_1 Pre_1 launch0 p0 e0 about1 theMethod args0 below0 :=
  ⟨lists_1, trivial, launch0.admits_env _ _ _, launch0.least_env, fairChoices_fair.cas, fairChoices_fair.clock, w_frames, w_args, w_heap, w_applies, trivial, trivial, w_case⟩
end start1
theorem witness_1 : WitnessClaimed_1 := ⟨start1.p0, start1.e0, start1.about1, start1.theMethod, start1.args0, start1.below0, start1.atStart⟩
end Jvm.Pilot.@@N@@
