import JvmDerived
import JvmDerived.Pilot.@@N@@Statement
import JvmDerived.Pilot.@@N@@Code
set_option linter.unusedVariables false
set_option linter.unusedSimpArgs false
namespace Jvm.OwnGo
open Jvm Sem ClassFile Op Lib Jvm.Stand Jvm.Free Jvm.LawKit Jvm.RoadKit
/-! ## 1. where a walk stands, and how it ends -/
/-- a walk may bear one more word on its base; KT: none -/
def KT : State → Prop := fun _ => True
def Ctx (K : State → Prop) (Z : State) (y : MethodName) (bytes : ByteArray) (ml : Nat) (ret : Option FieldType) (p : Program) (s : State) (m : MethodId) (meth : Method) (c : Code) : Prop :=
  p.tables.exec = Jvm.exec ∧ c.code = bytes ∧ c.maxLocals = ml ∧ s.vm.findClass y.cls = some m.cls ∧ Z.Warmed39 s.vm ∧ meth.sig.returnType = ret ∧ meth.locks = false ∧ meth.name = y.name ∧ K s
/-- what the walk's base has to do with the method's start: the same, or (where literals may be made) the start under later tables -/
def Base (wd : Bool) (s0 s : State) (h : Heap) : Prop := if wd = true then ∃ vm0 k0, s = s0.setVm vm0 ∧ s0.Since vm0 k0 ∧ k0 ≤ h.size else s = s0
def EndK (wd : Bool) (s0 : State) (o : Outcome) (t : State) (L : List Loc) (k n : Nat) : Prop := if wd = true then ReturnedEndW s0 o t L k n else FrameEnd s0 o t L k n
def Ends (wd : Bool) (n0 kc ks : Nat) (Q : Option Value → Heap → Prop) (p : Program) (e : Env) (below : List Frame) (s0 T : State) (g : JFrame) : Prop :=
  ∃ s₂ o, Steps p.tables e below (T.setTop g) s₂ ∧ s₂.status = .running ∧ Ended s₂ below o ∧ ∃ v L, o = .returned v ∧ (Q v s₂.heap ∧ Fr n0 L) ∧ EndK wd s0 o s₂ L kc ks
def Go (wd : Bool) (K : State → Prop) (l : Launch) (Z : State) (R : Room) (y : MethodName) (bytes : ByteArray) (ml : Nat) (ret : Option FieldType) (n0 kc ks : Nat) (Q : Option Value → Heap → Prop) (h : Heap) (k n pc : Nat) (ls : List Slot) (st : List Value) : Prop :=
  ∀ (p : Program) (e : Env) (s0 s : State) (m : MethodId) (args : Array Value) (below : List Frame) (meth : Method) (c : Code) (T : State) (L : List Loc),
    Base wd s0 s h → Ctx K Z y bytes ml ret p s m meth c → Stand p l e R s m args below meth c T L k n → T.heap = h → Fr n0 L → Ends wd n0 kc ks Q p e below s0 T (mkF m pc ls.toArray st)
/-- a contract: what a body leaves, called with the values as' over the heap h -/
def Con (wd : Bool) (l : Launch) (Z : State) (y : MethodName) (bytes : ByteArray) (ml : Nat) (ret : Option FieldType) (rm : Room) (as' : Array Value) (h : Heap) (n0 : Nat) (Q : Option Value → Heap → Prop) : Prop :=
  ∀ ws : List Cond, MetFree l y (head1 (Cond.code y bytes ml ret :: ws) rm) (fun a U => a = as' ∧ Z.Warmed39 U.vm ∧ U.heap = h) (fun _ _ _ _ _ => True)
    (fun _ U o U' => ∃ v L, o = .returned v ∧ ((Q v U'.heap ∧ h.size ≤ U'.heap.size) ∧ Fr n0 L) ∧ EndK wd U o U' L rm.cells rm.slots)
/-- it returns a value -/
def R1 (P : Value → Heap → Prop) : Option Value → Heap → Prop := fun v h => ∃ w, v = some w ∧ P w h
/-- it returns nothing -/
def R0 (P : Heap → Prop) : Option Value → Heap → Prop := fun v h => v = none ∧ P h
/-- it returns this value and leaves the heap as it was -/
abbrev Ret (w : Value) (h : Heap) : Option Value → Heap → Prop := R1 fun w' h' => w' = w ∧ h = h'
/-- a local variable written over -/
def setl : List Slot → Nat → Slot → List Slot
  | [], _, _ => []
  | _ :: r, 0, x => x :: r
  | a :: r, i + 1, x => a :: setl r i x
def lupd {α : Type} : List α → Nat → α → List α
  | [], _, _ => []
  | _ :: r, 0, x => x :: r
  | a :: r, i + 1, x => a :: lupd r i x
def one : Slot → Bool
  | .unset => true
  | .val v => v.category == 1
  | .second => false
def two : Slot → Slot → Bool
  | .val v, .second => v.category == 2
  | a, b => one a && one b
def Dc (bytes : ByteArray) (pc : Nat) (i : Instr) (len pc' : Nat) : Prop := decode bytes pc = .ok (i, len) ∧ pc + len = pc'
def Dp (bytes : ByteArray) (pc : Nat) (v : Int32) (pc' : Nat) : Prop := (∃ i, decode bytes pc = .ok (.iconst i, 1) ∧ Int32.ofInt i = v ∧ pc + 1 = pc') ∨ (∃ i, decode bytes pc = .ok (.bipush i, 2) ∧ (Int8.ofInt i).toInt32 = v ∧ pc + 2 = pc') ∨ (∃ i, decode bytes pc = .ok (.sipush i, 3) ∧ (Int16.ofInt i).toInt32 = v ∧ pc + 3 = pc')
def Dlc (bytes : ByteArray) (pc : Nat) (v : Int64) (pc' : Nat) : Prop := ∃ k : Fin 2, decode bytes pc = .ok (.lconst k, 1) ∧ Int64.ofNat k = v ∧ pc + 1 = pc'
/-- a branch: where it goes on, and where it leads -/
def Db (bytes : ByteArray) (pc : Nat) (f : Int → Instr) (pc' tg : Nat) : Prop := ∃ o : Int, decode bytes pc = .ok (f o, 3) ∧ pc + 3 = pc' ∧ 0 ≤ (pc : Int) + o ∧ ((pc : Int) + o).toNat = tg
def Dld (bytes : ByteArray) (pc : Nat) (f : Nat → Instr) (fn : Fin 4 → Instr) (i pc' : Nat) : Prop := (decode bytes pc = .ok (f i, 2) ∧ pc + 2 = pc') ∨ (∃ k : Fin 4, decode bytes pc = .ok (fn k, 1) ∧ k.val = i ∧ pc + 1 = pc')
def Dinc (bytes : ByteArray) (pc i : Nat) (v : Int32) (pc' : Nat) : Prop := ∃ c : Int, decode bytes pc = .ok (.iinc i c, 3) ∧ Int32.ofInt c = v ∧ pc + 3 = pc'
/-- the same, by the instructions' sorts -/
abbrev Dil (b : ByteArray) (pc i pc' : Nat) : Prop := Dld b pc .iload .iload_n i pc'
abbrev Dal (b : ByteArray) (pc i pc' : Nat) : Prop := Dld b pc .aload .aload_n i pc'
abbrev Dll (b : ByteArray) (pc i pc' : Nat) : Prop := Dld b pc .lload .lload_n i pc'
abbrev Dis (b : ByteArray) (pc i pc' : Nat) : Prop := Dld b pc .istore .istore_n i pc'
abbrev Das (b : ByteArray) (pc i pc' : Nat) : Prop := Dld b pc .astore .astore_n i pc'
abbrev Dls (b : ByteArray) (pc i pc' : Nat) : Prop := Dld b pc .lstore .lstore_n i pc'
section Walk
variable {wd : Bool} {K₀ : State → Prop} {l : Launch} {Z : State} {R : Room} {y : MethodName} {bytes : ByteArray} {ml : Nat} {ret : Option FieldType} {n0 kc ks : Nat} {Q : Option Value → Heap → Prop} {h : Heap} {k n pc pc' tg i : Nat} {ls : List Slot} {st : List Value} {a0 : Array Value}
theorem lrem64 (x y : Int64) : x - x / y * y = x % y := by
  apply Int64.toInt_inj.mp
  have h1 := Int64.le_toInt (x % y)
  have h2 := Int64.toInt_lt (x % y)
  rw [Int64.toInt_sub, Int64.toInt_mul, Int64.toInt_div, Int.bmod_mul_bmod, Int.sub_bmod_bmod, Int.mul_comm (x.toInt.tdiv y.toInt), ← Int.tmod_def, ← Int64.toInt_mod]
  exact Int.bmod_eq_of_le_mul_two (by omega) (by omega)
theorem setl_arr : ∀ (ls : List Slot) (i : Nat) (x : Slot), (setl ls i x).toArray = ls.toArray.setIfInBounds i x := by
  intro ls i x
  rw [List.setIfInBounds_toArray]
  congr 1
  induction ls generalizing i with
  | nil => simp [setl]
  | cons a r ih => cases i with
    | zero => simp [setl]
    | succ i => simp [setl, ih]
theorem setl_len : ∀ (ls : List Slot) (i : Nat) (x : Slot), (setl ls i x).length = ls.length := by
  intro ls i x
  induction ls generalizing i with
  | nil => rfl
  | cons a r ih => cases i with
    | zero => rfl
    | succ i => simp [setl, ih]
theorem upd_set {α : Type} : ∀ (ls : List α) (i : Nat) (x : α), lupd ls i x = ls.set i x := by
  intro ls i x
  induction ls generalizing i with
  | nil => simp [lupd]
  | cons a r ih => cases i with
    | zero => simp [lupd]
    | succ i => simp [lupd, ih]
theorem setl_get {ls : List Slot} {i : Nat} {x o : Slot} (h : ls[i]? = some o) (j : Nat) : (setl ls i x)[j]? = if j = i then some x else ls[j]? := by
  induction ls generalizing i j with
  | nil => simp at h
  | cons a r ih => cases i with
    | zero => cases j <;> simp [setl]
    | succ i => cases j with
      | zero => simp [setl]
      | succ j => simp only [setl, List.getElem?_cons_succ] at h ⊢; rw [ih h j]; simp
theorem Base.mono {s0 s : State} {h' : Heap} (B : Base wd s0 s h) (q : h.size ≤ h'.size) : Base wd s0 s h' := by
  cases wd
  · exact B
  · obtain ⟨vm0, k0, e1, e2, e3⟩ := B; exact ⟨vm0, k0, e1, e2, Nat.le_trans e3 q⟩
theorem Base.start (s : State) (hh : s.heap = h) : Base wd s s h := by
  cases wd
  · exact (rfl : s = s)
  · exact ⟨s.vm, h.size, rfl, (State.WarmedH.refl s).since _, Nat.le_refl _⟩
theorem EndK.size {s0 t : State} {o : Outcome} {L : List Loc} {k n : Nat} (E : EndK wd s0 o t L k n) : s0.heap.size ≤ t.heap.size := by
  cases wd
  · exact E.2.2.2.1
  · exact E.2.2.2.2.1
theorem endK {s0 s T : State} {fs : List Frame} {v : Option Value} {L : List Loc} (B : Base wd s0 s h) (hh : T.heap = h) (hW : s.WarmedH (T.setFrames fs).vm) (hsame : s.sameButNew ({ T.setFrames fs with vm := s.vm } : State) L k n) (hk : k ≤ kc) (hn : n ≤ ks) : EndK wd s0 (.returned v) (T.setFrames fs) L kc ks := by
  cases wd
  · have e : s = s0 := B
    subst e
    exact ⟨⟨_, rfl⟩, hW, hsame.mono hk hn⟩
  · obtain ⟨vm0, k0, rfl, hS, hk0⟩ := B
    obtain ⟨a1, a2, a3⟩ := hS.ended (U := T.setFrames fs) hW (by show k0 ≤ T.heap.size; rw [hh]; exact hk0) hsame
    exact ⟨⟨_, rfl⟩, a1, a2, a3.mono hk hn⟩
theorem Ends.pre {p : Program} {e : Env} {below : List Frame} {s0 T T' : State} {g g' : JFrame} (E : Ends wd n0 kc ks Q p e below s0 T' g') (st : ∀ t, Steps p.tables e below (T'.setTop g') t → Steps p.tables e below (T.setTop g) t) : Ends wd n0 kc ks Q p e below s0 T g := by
  obtain ⟨s₂, o, h1, r⟩ := E; exact ⟨s₂, o, st _ h1, r⟩
theorem go_pure {ls' : List Slot} {st' : List Value} (G : Go wd K₀ l Z R y bytes ml ret n0 kc ks Q h k n pc' ls' st') (H : ∀ {p : Program} {e : Env} {s : State} {m : MethodId} {args : Array Value} {below : List Frame} {meth : Method} {c : Code} {T : State} {L : List Loc}, Ctx K₀ Z y bytes ml ret p s m meth c → Stand p l e R s m args below meth c T L k n →
    ∀ t, Steps p.tables e below (T.setTop (mkF m pc' ls'.toArray st')) t → Steps p.tables e below (T.setTop (mkF m pc ls.toArray st)) t) : Go wd K₀ l Z R y bytes ml ret n0 kc ks Q h k n pc ls st :=
  fun p e s0 s m args below meth c T L B C X hh N => (G p e s0 s m args below meth c T L B C X hh N).pre (H C X)
theorem go_more {k' n' : Nat} (hk : k ≤ k') (hn : n ≤ n') (G : Go wd K₀ l Z R y bytes ml ret n0 kc ks Q h k' n' pc ls st) : Go wd K₀ l Z R y bytes ml ret n0 kc ks Q h k n pc ls st :=
  fun p e s0 s m args below meth c T L B C X hh N => G p e s0 s m args below meth c T L B C (X.more hk hn) hh N
theorem go_nameI {x : Int32} (G : ∀ v : Int32, v = x → Go wd K₀ l Z R y bytes ml ret n0 kc ks Q h k n pc ls (.int v :: st)) : Go wd K₀ l Z R y bytes ml ret n0 kc ks Q h k n pc ls (.int x :: st) := G x rfl
theorem go_nameJ {x : Int64} (G : ∀ v : Int64, v = x → Go wd K₀ l Z R y bytes ml ret n0 kc ks Q h k n pc ls (.long v :: st)) : Go wd K₀ l Z R y bytes ml ret n0 kc ks Q h k n pc ls (.long x :: st) := G x rfl
theorem go_isI {x : Int32} (x' : Int32) (q : x = x') (G : Go wd K₀ l Z R y bytes ml ret n0 kc ks Q h k n pc ls (.int x' :: st)) : Go wd K₀ l Z R y bytes ml ret n0 kc ks Q h k n pc ls (.int x :: st) := q ▸ G
theorem go_isJ {x : Int64} (x' : Int64) (q : x = x') (G : Go wd K₀ l Z R y bytes ml ret n0 kc ks Q h k n pc ls (.long x' :: st)) : Go wd K₀ l Z R y bytes ml ret n0 kc ks Q h k n pc ls (.long x :: st) := q ▸ G
theorem go_iload {v : Int32} (D : Dil bytes pc i pc') (hl : ls[i]? = some (.val (.int v))) (G : Go wd K₀ l Z R y bytes ml ret n0 kc ks Q h k n pc' ls (.int v :: st)) : Go wd K₀ l Z R y bytes ml ret n0 kc ks Q h k n pc ls st := by
  rcases D with ⟨hd, rfl⟩ | ⟨kk, hd, rfl, rfl⟩
  · exact go_pure G (fun C X t => XS.iload X.here C.1 (g := mkF _ pc ls.toArray st) rfl (hb C.2.1 hd) (by simpa using hl))
  · exact go_pure G (fun C X t => XS.iloadN X.here C.1 (g := mkF _ pc ls.toArray st) rfl (hb C.2.1 hd) (by simpa using hl))
theorem go_lload {v : Int64} (D : Dll bytes pc i pc') (hl : ls[i]? = some (.val (.long v))) (G : Go wd K₀ l Z R y bytes ml ret n0 kc ks Q h k n pc' ls (.long v :: st)) : Go wd K₀ l Z R y bytes ml ret n0 kc ks Q h k n pc ls st := by
  rcases D with ⟨hd, rfl⟩ | ⟨kk, hd, rfl, rfl⟩
  · exact go_pure G (fun C X t => XT.lload X.here C.1 (g := mkF _ pc ls.toArray st) rfl (hb C.2.1 hd) (by simpa using hl))
  · exact go_pure G (fun C X t => XT.lloadN X.here C.1 (g := mkF _ pc ls.toArray st) rfl (hb C.2.1 hd) (by simpa using hl))
theorem go_aload {v : Value} (D : Dal bytes pc i pc') (hl : ls[i]? = some (.val v)) (hv : v.isRef = true) (G : Go wd K₀ l Z R y bytes ml ret n0 kc ks Q h k n pc' ls (v :: st)) : Go wd K₀ l Z R y bytes ml ret n0 kc ks Q h k n pc ls st := by
  rcases D with ⟨hd, rfl⟩ | ⟨kk, hd, rfl, rfl⟩
  · exact go_pure G (fun C X t => XS.aload X.here C.1 (g := mkF _ pc ls.toArray st) rfl (hb C.2.1 hd) (by simpa using hl) hv)
  · exact go_pure G (fun C X t => XS.aloadN X.here C.1 (g := mkF _ pc ls.toArray st) rfl (hb C.2.1 hd) (by simpa using hl) hv)
theorem store_one {ls : List Slot} {i : Nat} {v : Value} {o : Slot} (hv : v.category = 1) (hl : ls[i]? = some o) (ho : one o = true) : storeLocals ls.toArray i v = some (setl ls i (.val v)).toArray := by
  rw [setl_arr]
  refine storeLocals_cat1 (x := o) (by simpa using hl) hv ?_
  cases o <;> simp [one] at ho ⊢
  exact ho
theorem store_two {ls : List Slot} {i : Nat} {v : Value} {o o' : Slot} (hv : v.category = 2) (hl : ls[i]? = some o) (hl' : ls[i + 1]? = some o') (ho : two o o' = true) : storeLocals ls.toArray i v = some (setl (setl ls i (.val v)) (i + 1) .second).toArray := by
  rw [setl_arr, setl_arr]
  refine Jvm.Free.Fl.storeLocals_cat2 (by simpa using hl) (by simpa using hl') hv ?_
  cases o <;> cases o' <;> simp_all [two, one, Jvm.Free.Fl.Plain1]
theorem go_istore {x : Int32} {o : Slot} (D : Dis bytes pc i pc') (hl : ls[i]? = some o) (ho : one o = true) (G : Go wd K₀ l Z R y bytes ml ret n0 kc ks Q h k n pc' (setl ls i (.val (.int x))) st) : Go wd K₀ l Z R y bytes ml ret n0 kc ks Q h k n pc ls (.int x :: st) := by
  rcases D with ⟨hd, rfl⟩ | ⟨kk, hd, rfl, rfl⟩
  · exact go_pure G (fun C X t => XS.istore X.here C.1 (g := mkF _ pc ls.toArray (.int x :: st)) rfl (hb C.2.1 hd) rfl (store_one rfl hl ho))
  · exact go_pure G (fun C X t => XS.istoreN X.here C.1 (g := mkF _ pc ls.toArray (.int x :: st)) rfl (hb C.2.1 hd) rfl (store_one rfl hl ho))
theorem go_astore {x : Value} {o : Slot} (D : Das bytes pc i pc') (hv : x.isRef = true) (hl : ls[i]? = some o) (ho : one o = true) (G : Go wd K₀ l Z R y bytes ml ret n0 kc ks Q h k n pc' (setl ls i (.val x)) st) : Go wd K₀ l Z R y bytes ml ret n0 kc ks Q h k n pc ls (x :: st) := by
  have hc : x.category = 1 := XT.cat1 hv
  rcases D with ⟨hd, rfl⟩ | ⟨kk, hd, rfl, rfl⟩
  · exact go_pure G (fun C X t => XS.astore X.here C.1 (g := mkF _ pc ls.toArray (x :: st)) rfl (hb C.2.1 hd) rfl hv (store_one hc hl ho))
  · exact go_pure G (fun C X t => XS.astoreN X.here C.1 (g := mkF _ pc ls.toArray (x :: st)) rfl (hb C.2.1 hd) rfl hv (store_one hc hl ho))
theorem go_lstore {x : Int64} {o o' : Slot} (D : Dls bytes pc i pc') (hl : ls[i]? = some o) (hl' : ls[i + 1]? = some o') (ho : two o o' = true) (G : Go wd K₀ l Z R y bytes ml ret n0 kc ks Q h k n pc' (setl (setl ls i (.val (.long x))) (i + 1) .second) st) : Go wd K₀ l Z R y bytes ml ret n0 kc ks Q h k n pc ls (.long x :: st) := by
  rcases D with ⟨hd, rfl⟩ | ⟨kk, hd, rfl, rfl⟩
  · exact go_pure G (fun C X t => XT.lstore X.here C.1 (g := mkF _ pc ls.toArray (.long x :: st)) rfl (hb C.2.1 hd) rfl (store_two rfl hl hl' ho))
  · exact go_pure G (fun C X t => XT.lstoreN X.here C.1 (g := mkF _ pc ls.toArray (.long x :: st)) rfl (hb C.2.1 hd) rfl (store_two rfl hl hl' ho))
/-- any store, the locals said -/
theorem go_istoreX {x : Int32} {ls' : List Slot} (D : Dis bytes pc i pc') (hl : storeLocals ls.toArray i (.int x) = some ls'.toArray) (G : Go wd K₀ l Z R y bytes ml ret n0 kc ks Q h k n pc' ls' st) : Go wd K₀ l Z R y bytes ml ret n0 kc ks Q h k n pc ls (.int x :: st) := by
  rcases D with ⟨hd, rfl⟩ | ⟨kk, hd, rfl, rfl⟩
  · exact go_pure G (fun C X t => XS.istore X.here C.1 (g := mkF _ pc ls.toArray (.int x :: st)) rfl (hb C.2.1 hd) rfl hl)
  · exact go_pure G (fun C X t => XS.istoreN X.here C.1 (g := mkF _ pc ls.toArray (.int x :: st)) rfl (hb C.2.1 hd) rfl hl)
theorem go_astoreX {x : Value} {ls' : List Slot} (D : Das bytes pc i pc') (hv : x.isRef = true) (hl : storeLocals ls.toArray i x = some ls'.toArray) (G : Go wd K₀ l Z R y bytes ml ret n0 kc ks Q h k n pc' ls' st) : Go wd K₀ l Z R y bytes ml ret n0 kc ks Q h k n pc ls (x :: st) := by
  rcases D with ⟨hd, rfl⟩ | ⟨kk, hd, rfl, rfl⟩
  · exact go_pure G (fun C X t => XS.astore X.here C.1 (g := mkF _ pc ls.toArray (x :: st)) rfl (hb C.2.1 hd) rfl hv hl)
  · exact go_pure G (fun C X t => XS.astoreN X.here C.1 (g := mkF _ pc ls.toArray (x :: st)) rfl (hb C.2.1 hd) rfl hv hl)
theorem go_lstoreX {x : Int64} {ls' : List Slot} (D : Dls bytes pc i pc') (hl : storeLocals ls.toArray i (.long x) = some ls'.toArray) (G : Go wd K₀ l Z R y bytes ml ret n0 kc ks Q h k n pc' ls' st) : Go wd K₀ l Z R y bytes ml ret n0 kc ks Q h k n pc ls (.long x :: st) := by
  rcases D with ⟨hd, rfl⟩ | ⟨kk, hd, rfl, rfl⟩
  · exact go_pure G (fun C X t => XT.lstore X.here C.1 (g := mkF _ pc ls.toArray (.long x :: st)) rfl (hb C.2.1 hd) rfl hl)
  · exact go_pure G (fun C X t => XT.lstoreN X.here C.1 (g := mkF _ pc ls.toArray (.long x :: st)) rfl (hb C.2.1 hd) rfl hl)
theorem go_iinc {x v : Int32} (D : Dinc bytes pc i v pc') (hl : ls[i]? = some (.val (.int x))) (G : Go wd K₀ l Z R y bytes ml ret n0 kc ks Q h k n pc' (setl ls i (.val (.int (x + v)))) st) : Go wd K₀ l Z R y bytes ml ret n0 kc ks Q h k n pc ls st := by
  obtain ⟨c, hd, rfl, rfl⟩ := D
  exact go_pure G (fun C X t => XS.iinc X.here C.1 (g := mkF _ pc ls.toArray st) rfl (hb C.2.1 hd) (by simpa using hl) (store_one rfl hl rfl))
theorem go_iincX {x v x' : Int32} (D : Dinc bytes pc i v pc') (hl : ls[i]? = some (.val (.int x))) (q : x + v = x') (G : Go wd K₀ l Z R y bytes ml ret n0 kc ks Q h k n pc' (setl ls i (.val (.int x'))) st) : Go wd K₀ l Z R y bytes ml ret n0 kc ks Q h k n pc ls st := go_iinc D hl (q ▸ G)
theorem go_push {v : Int32} (D : Dp bytes pc v pc') (G : Go wd K₀ l Z R y bytes ml ret n0 kc ks Q h k n pc' ls (.int v :: st)) : Go wd K₀ l Z R y bytes ml ret n0 kc ks Q h k n pc ls st := by
  rcases D with ⟨_, hd, rfl, rfl⟩ | ⟨_, hd, rfl, rfl⟩ | ⟨_, hd, rfl, rfl⟩
  · exact go_pure G (fun C X t => XS.iconst X.here C.1 (g := mkF _ pc ls.toArray st) rfl (hb C.2.1 hd))
  · exact go_pure G (fun C X t => XS.bipush X.here C.1 (g := mkF _ pc ls.toArray st) rfl (hb C.2.1 hd))
  · exact go_pure G (fun C X t => XS.sipush X.here C.1 (g := mkF _ pc ls.toArray st) rfl (hb C.2.1 hd))
theorem go_lconst {v : Int64} (D : Dlc bytes pc v pc') (G : Go wd K₀ l Z R y bytes ml ret n0 kc ks Q h k n pc' ls (.long v :: st)) : Go wd K₀ l Z R y bytes ml ret n0 kc ks Q h k n pc ls st := by
  obtain ⟨_, hd, rfl, rfl⟩ := D
  exact go_pure G (fun C X t => XT.lconst X.here C.1 (g := mkF _ pc ls.toArray st) rfl (hb C.2.1 hd))
theorem go_null (D : Dc bytes pc .aconst_null 1 pc') (G : Go wd K₀ l Z R y bytes ml ret n0 kc ks Q h k n pc' ls (.null :: st)) : Go wd K₀ l Z R y bytes ml ret n0 kc ks Q h k n pc ls st := by
  obtain ⟨hd, rfl⟩ := D
  exact go_pure G (fun C X t => XS.aconstNull X.here C.1 (g := mkF _ pc ls.toArray st) rfl (hb C.2.1 hd))
theorem go_iadd {a : Int32} {b : Int32} (D : Dc bytes pc .iadd 1 pc') (G : Go wd K₀ l Z R y bytes ml ret n0 kc ks Q h k n pc' ls (.int (a + b) :: st)) : Go wd K₀ l Z R y bytes ml ret n0 kc ks Q h k n pc ls (.int b :: .int a :: st) := by
  obtain ⟨hd, rfl⟩ := D
  exact go_pure G (fun C X t => XS.iadd X.here C.1 (g := mkF _ pc ls.toArray (.int b :: .int a :: st)) rfl (hb C.2.1 hd) rfl)
theorem go_isub {a : Int32} {b : Int32} (D : Dc bytes pc .isub 1 pc') (G : Go wd K₀ l Z R y bytes ml ret n0 kc ks Q h k n pc' ls (.int (a - b) :: st)) : Go wd K₀ l Z R y bytes ml ret n0 kc ks Q h k n pc ls (.int b :: .int a :: st) := by
  obtain ⟨hd, rfl⟩ := D
  exact go_pure G (fun C X t => XS.isub X.here C.1 (g := mkF _ pc ls.toArray (.int b :: .int a :: st)) rfl (hb C.2.1 hd) rfl)
theorem go_imul {a : Int32} {b : Int32} (D : Dc bytes pc .imul 1 pc') (G : Go wd K₀ l Z R y bytes ml ret n0 kc ks Q h k n pc' ls (.int (a * b) :: st)) : Go wd K₀ l Z R y bytes ml ret n0 kc ks Q h k n pc ls (.int b :: .int a :: st) := by
  obtain ⟨hd, rfl⟩ := D
  exact go_pure G (fun C X t => XS.imul X.here C.1 (g := mkF _ pc ls.toArray (.int b :: .int a :: st)) rfl (hb C.2.1 hd) rfl)
theorem go_iand {a : Int32} {b : Int32} (D : Dc bytes pc .iand 1 pc') (G : Go wd K₀ l Z R y bytes ml ret n0 kc ks Q h k n pc' ls (.int (a &&& b) :: st)) : Go wd K₀ l Z R y bytes ml ret n0 kc ks Q h k n pc ls (.int b :: .int a :: st) := by
  obtain ⟨hd, rfl⟩ := D
  exact go_pure G (fun C X t => XS.iand X.here C.1 (g := mkF _ pc ls.toArray (.int b :: .int a :: st)) rfl (hb C.2.1 hd) rfl)
theorem go_ior {a : Int32} {b : Int32} (D : Dc bytes pc .ior 1 pc') (G : Go wd K₀ l Z R y bytes ml ret n0 kc ks Q h k n pc' ls (.int (a ||| b) :: st)) : Go wd K₀ l Z R y bytes ml ret n0 kc ks Q h k n pc ls (.int b :: .int a :: st) := by
  obtain ⟨hd, rfl⟩ := D
  exact go_pure G (fun C X t => XT.ior X.here C.1 (g := mkF _ pc ls.toArray (.int b :: .int a :: st)) rfl (hb C.2.1 hd) rfl)
theorem go_ixor {a : Int32} {b : Int32} (D : Dc bytes pc .ixor 1 pc') (G : Go wd K₀ l Z R y bytes ml ret n0 kc ks Q h k n pc' ls (.int (a ^^^ b) :: st)) : Go wd K₀ l Z R y bytes ml ret n0 kc ks Q h k n pc ls (.int b :: .int a :: st) := by
  obtain ⟨hd, rfl⟩ := D
  exact go_pure G (fun C X t => XT.ixor X.here C.1 (g := mkF _ pc ls.toArray (.int b :: .int a :: st)) rfl (hb C.2.1 hd) rfl)
theorem go_idiv {a : Int32} {b : Int32} (D : Dc bytes pc .idiv 1 pc') (hz : b ≠ 0) (G : Go wd K₀ l Z R y bytes ml ret n0 kc ks Q h k n pc' ls (.int (a / b) :: st)) : Go wd K₀ l Z R y bytes ml ret n0 kc ks Q h k n pc ls (.int b :: .int a :: st) := by
  obtain ⟨hd, rfl⟩ := D
  exact go_pure G (fun C X t => XS.idiv X.here C.1 (g := mkF _ pc ls.toArray (.int b :: .int a :: st)) rfl (hb C.2.1 hd) rfl hz)
theorem go_ladd {a : Int64} {b : Int64} (D : Dc bytes pc .ladd 1 pc') (G : Go wd K₀ l Z R y bytes ml ret n0 kc ks Q h k n pc' ls (.long (a + b) :: st)) : Go wd K₀ l Z R y bytes ml ret n0 kc ks Q h k n pc ls (.long b :: .long a :: st) := by
  obtain ⟨hd, rfl⟩ := D
  exact go_pure G (fun C X t => XT.ladd X.here C.1 (g := mkF _ pc ls.toArray (.long b :: .long a :: st)) rfl (hb C.2.1 hd) rfl)
theorem go_lsub {a : Int64} {b : Int64} (D : Dc bytes pc .lsub 1 pc') (G : Go wd K₀ l Z R y bytes ml ret n0 kc ks Q h k n pc' ls (.long (a - b) :: st)) : Go wd K₀ l Z R y bytes ml ret n0 kc ks Q h k n pc ls (.long b :: .long a :: st) := by
  obtain ⟨hd, rfl⟩ := D
  exact go_pure G (fun C X t => XT.lsub X.here C.1 (g := mkF _ pc ls.toArray (.long b :: .long a :: st)) rfl (hb C.2.1 hd) rfl)
theorem go_lmul {a : Int64} {b : Int64} (D : Dc bytes pc .lmul 1 pc') (G : Go wd K₀ l Z R y bytes ml ret n0 kc ks Q h k n pc' ls (.long (a * b) :: st)) : Go wd K₀ l Z R y bytes ml ret n0 kc ks Q h k n pc ls (.long b :: .long a :: st) := by
  obtain ⟨hd, rfl⟩ := D
  exact go_pure G (fun C X t => XT.lmul X.here C.1 (g := mkF _ pc ls.toArray (.long b :: .long a :: st)) rfl (hb C.2.1 hd) rfl)
theorem go_land {a : Int64} {b : Int64} (D : Dc bytes pc .land 1 pc') (G : Go wd K₀ l Z R y bytes ml ret n0 kc ks Q h k n pc' ls (.long (a &&& b) :: st)) : Go wd K₀ l Z R y bytes ml ret n0 kc ks Q h k n pc ls (.long b :: .long a :: st) := by
  obtain ⟨hd, rfl⟩ := D
  exact go_pure G (fun C X t => XT.land X.here C.1 (g := mkF _ pc ls.toArray (.long b :: .long a :: st)) rfl (hb C.2.1 hd) rfl)
theorem go_lor {a : Int64} {b : Int64} (D : Dc bytes pc .lor 1 pc') (G : Go wd K₀ l Z R y bytes ml ret n0 kc ks Q h k n pc' ls (.long (a ||| b) :: st)) : Go wd K₀ l Z R y bytes ml ret n0 kc ks Q h k n pc ls (.long b :: .long a :: st) := by
  obtain ⟨hd, rfl⟩ := D
  exact go_pure G (fun C X t => XT.lor X.here C.1 (g := mkF _ pc ls.toArray (.long b :: .long a :: st)) rfl (hb C.2.1 hd) rfl)
theorem go_lxor {a : Int64} {b : Int64} (D : Dc bytes pc .lxor 1 pc') (G : Go wd K₀ l Z R y bytes ml ret n0 kc ks Q h k n pc' ls (.long (a ^^^ b) :: st)) : Go wd K₀ l Z R y bytes ml ret n0 kc ks Q h k n pc ls (.long b :: .long a :: st) := by
  obtain ⟨hd, rfl⟩ := D
  exact go_pure G (fun C X t => XT.lxor X.here C.1 (g := mkF _ pc ls.toArray (.long b :: .long a :: st)) rfl (hb C.2.1 hd) rfl)
theorem go_ldiv {a : Int64} {b : Int64} (D : Dc bytes pc .ldiv 1 pc') (hz : b ≠ 0) (G : Go wd K₀ l Z R y bytes ml ret n0 kc ks Q h k n pc' ls (.long (a / b) :: st)) : Go wd K₀ l Z R y bytes ml ret n0 kc ks Q h k n pc ls (.long b :: .long a :: st) := by
  obtain ⟨hd, rfl⟩ := D
  exact go_pure G (fun C X t => XT.ldiv X.here C.1 (g := mkF _ pc ls.toArray (.long b :: .long a :: st)) rfl (hb C.2.1 hd) rfl hz)
theorem go_ishl {a : Int32} {b : Int32} (D : Dc bytes pc .ishl 1 pc') (G : Go wd K₀ l Z R y bytes ml ret n0 kc ks Q h k n pc' ls (.int (a <<< (b &&& 31)) :: st)) : Go wd K₀ l Z R y bytes ml ret n0 kc ks Q h k n pc ls (.int b :: .int a :: st) := by
  obtain ⟨hd, rfl⟩ := D
  exact go_pure G (fun C X t => XT.ishl X.here C.1 (g := mkF _ pc ls.toArray (.int b :: .int a :: st)) rfl (hb C.2.1 hd) rfl)
theorem go_ishr {a : Int32} {b : Int32} (D : Dc bytes pc .ishr 1 pc') (G : Go wd K₀ l Z R y bytes ml ret n0 kc ks Q h k n pc' ls (.int (a >>> (b &&& 31)) :: st)) : Go wd K₀ l Z R y bytes ml ret n0 kc ks Q h k n pc ls (.int b :: .int a :: st) := by
  obtain ⟨hd, rfl⟩ := D
  exact go_pure G (fun C X t => XT.ishr X.here C.1 (g := mkF _ pc ls.toArray (.int b :: .int a :: st)) rfl (hb C.2.1 hd) rfl)
theorem go_iushr {a : Int32} {b : Int32} (D : Dc bytes pc .iushr 1 pc') (G : Go wd K₀ l Z R y bytes ml ret n0 kc ks Q h k n pc' ls (.int (XT.ushr a b) :: st)) : Go wd K₀ l Z R y bytes ml ret n0 kc ks Q h k n pc ls (.int b :: .int a :: st) := by
  obtain ⟨hd, rfl⟩ := D
  exact go_pure G (fun C X t => XT.iushr X.here C.1 (g := mkF _ pc ls.toArray (.int b :: .int a :: st)) rfl (hb C.2.1 hd) rfl)
theorem go_lshl {a : Int64} {b : Int32} (D : Dc bytes pc .lshl 1 pc') (G : Go wd K₀ l Z R y bytes ml ret n0 kc ks Q h k n pc' ls (.long (a <<< (b.toInt64 &&& 63)) :: st)) : Go wd K₀ l Z R y bytes ml ret n0 kc ks Q h k n pc ls (.int b :: .long a :: st) := by
  obtain ⟨hd, rfl⟩ := D
  exact go_pure G (fun C X t => XT.lshl X.here C.1 (g := mkF _ pc ls.toArray (.int b :: .long a :: st)) rfl (hb C.2.1 hd) rfl)
theorem go_lshr {a : Int64} {b : Int32} (D : Dc bytes pc .lshr 1 pc') (G : Go wd K₀ l Z R y bytes ml ret n0 kc ks Q h k n pc' ls (.long (a >>> (b.toInt64 &&& 63)) :: st)) : Go wd K₀ l Z R y bytes ml ret n0 kc ks Q h k n pc ls (.int b :: .long a :: st) := by
  obtain ⟨hd, rfl⟩ := D
  exact go_pure G (fun C X t => XT.lshr X.here C.1 (g := mkF _ pc ls.toArray (.int b :: .long a :: st)) rfl (hb C.2.1 hd) rfl)
theorem go_lushr {a : Int64} {b : Int32} (D : Dc bytes pc .lushr 1 pc') (G : Go wd K₀ l Z R y bytes ml ret n0 kc ks Q h k n pc' ls (.long (XT.ushrL a b) :: st)) : Go wd K₀ l Z R y bytes ml ret n0 kc ks Q h k n pc ls (.int b :: .long a :: st) := by
  obtain ⟨hd, rfl⟩ := D
  exact go_pure G (fun C X t => XT.lushr X.here C.1 (g := mkF _ pc ls.toArray (.int b :: .long a :: st)) rfl (hb C.2.1 hd) rfl)
theorem go_lcmp {a : Int64} {b : Int64} (D : Dc bytes pc .lcmp 1 pc') (G : Go wd K₀ l Z R y bytes ml ret n0 kc ks Q h k n pc' ls (.int (XT.cmpL a b) :: st)) : Go wd K₀ l Z R y bytes ml ret n0 kc ks Q h k n pc ls (.long b :: .long a :: st) := by
  obtain ⟨hd, rfl⟩ := D
  exact go_pure G (fun C X t => XT.lcmp X.here C.1 (g := mkF _ pc ls.toArray (.long b :: .long a :: st)) rfl (hb C.2.1 hd) rfl)
theorem go_irem {a b : Int32} (D : Dc bytes pc .irem 1 pc') (hz : b ≠ 0) (G : Go wd K₀ l Z R y bytes ml ret n0 kc ks Q h k n pc' ls (.int (a % b) :: st)) : Go wd K₀ l Z R y bytes ml ret n0 kc ks Q h k n pc ls (.int b :: .int a :: st) := by
  obtain ⟨hd, rfl⟩ := D
  exact go_pure G (fun C X t hr => iremM X C.1 (g := mkF _ pc ls.toArray (.int b :: .int a :: st)) rfl (hb C.2.1 hd) rfl hz hr)
theorem go_lrem {a b : Int64} (D : Dc bytes pc .lrem 1 pc') (hz : b ≠ 0) (G : Go wd K₀ l Z R y bytes ml ret n0 kc ks Q h k n pc' ls (.long (a % b) :: st)) : Go wd K₀ l Z R y bytes ml ret n0 kc ks Q h k n pc ls (.long b :: .long a :: st) := by
  obtain ⟨hd, rfl⟩ := D
  rw [← lrem64] at G
  exact go_pure G (fun C X t => XT.lrem X.here C.1 (g := mkF _ pc ls.toArray (.long b :: .long a :: st)) rfl (hb C.2.1 hd) rfl hz)
theorem go_ineg {a : Int32} (D : Dc bytes pc .ineg 1 pc') (G : Go wd K₀ l Z R y bytes ml ret n0 kc ks Q h k n pc' ls (.int (-a) :: st)) : Go wd K₀ l Z R y bytes ml ret n0 kc ks Q h k n pc ls (.int a :: st) := by
  obtain ⟨hd, rfl⟩ := D
  exact go_pure G (fun C X t => XS.ineg X.here C.1 (g := mkF _ pc ls.toArray (.int a :: st)) rfl (hb C.2.1 hd) rfl)
theorem go_lneg {a : Int64} (D : Dc bytes pc .lneg 1 pc') (G : Go wd K₀ l Z R y bytes ml ret n0 kc ks Q h k n pc' ls (.long (-a) :: st)) : Go wd K₀ l Z R y bytes ml ret n0 kc ks Q h k n pc ls (.long a :: st) := by
  obtain ⟨hd, rfl⟩ := D
  exact go_pure G (fun C X t => XT.lneg X.here C.1 (g := mkF _ pc ls.toArray (.long a :: st)) rfl (hb C.2.1 hd) rfl)
theorem go_i2l {a : Int32} (D : Dc bytes pc .i2l 1 pc') (G : Go wd K₀ l Z R y bytes ml ret n0 kc ks Q h k n pc' ls (.long a.toInt64 :: st)) : Go wd K₀ l Z R y bytes ml ret n0 kc ks Q h k n pc ls (.int a :: st) := by
  obtain ⟨hd, rfl⟩ := D
  exact go_pure G (fun C X t => XT.i2l X.here C.1 (g := mkF _ pc ls.toArray (.int a :: st)) rfl (hb C.2.1 hd) rfl)
theorem go_l2i {a : Int64} (D : Dc bytes pc .l2i 1 pc') (G : Go wd K₀ l Z R y bytes ml ret n0 kc ks Q h k n pc' ls (.int a.toInt32 :: st)) : Go wd K₀ l Z R y bytes ml ret n0 kc ks Q h k n pc ls (.long a :: st) := by
  obtain ⟨hd, rfl⟩ := D
  exact go_pure G (fun C X t => XT.l2i X.here C.1 (g := mkF _ pc ls.toArray (.long a :: st)) rfl (hb C.2.1 hd) rfl)
theorem go_i2b {a : Int32} (D : Dc bytes pc .i2b 1 pc') (G : Go wd K₀ l Z R y bytes ml ret n0 kc ks Q h k n pc' ls (.int a.toInt8.toInt32 :: st)) : Go wd K₀ l Z R y bytes ml ret n0 kc ks Q h k n pc ls (.int a :: st) := by
  obtain ⟨hd, rfl⟩ := D
  exact go_pure G (fun C X t => XT.i2b X.here C.1 (g := mkF _ pc ls.toArray (.int a :: st)) rfl (hb C.2.1 hd) rfl)
theorem go_i2s {a : Int32} (D : Dc bytes pc .i2s 1 pc') (G : Go wd K₀ l Z R y bytes ml ret n0 kc ks Q h k n pc' ls (.int a.toInt16.toInt32 :: st)) : Go wd K₀ l Z R y bytes ml ret n0 kc ks Q h k n pc ls (.int a :: st) := by
  obtain ⟨hd, rfl⟩ := D
  exact go_pure G (fun C X t => XT.i2s X.here C.1 (g := mkF _ pc ls.toArray (.int a :: st)) rfl (hb C.2.1 hd) rfl)
theorem go_i2c {a : Int32} (D : Dc bytes pc .i2c 1 pc') (G : Go wd K₀ l Z R y bytes ml ret n0 kc ks Q h k n pc' ls (.int a.toUInt32.toUInt16.toUInt32.toInt32 :: st)) : Go wd K₀ l Z R y bytes ml ret n0 kc ks Q h k n pc ls (.int a :: st) := by
  obtain ⟨hd, rfl⟩ := D
  exact go_pure G (fun C X t => XT.i2c X.here C.1 (g := mkF _ pc ls.toArray (.int a :: st)) rfl (hb C.2.1 hd) rfl)
theorem go_dup {v : Value} (D : Dc bytes pc .dup 1 pc') (hv : v.category = 1) (G : Go wd K₀ l Z R y bytes ml ret n0 kc ks Q h k n pc' ls (v :: v :: st)) : Go wd K₀ l Z R y bytes ml ret n0 kc ks Q h k n pc ls (v :: st) := by
  obtain ⟨hd, rfl⟩ := D
  exact go_pure G (fun C X t => XS.dup X.here C.1 (g := mkF _ pc ls.toArray (v :: st)) rfl (hb C.2.1 hd) rfl hv)
theorem go_pop {v : Value} (D : Dc bytes pc .pop 1 pc') (hv : v.category = 1) (G : Go wd K₀ l Z R y bytes ml ret n0 kc ks Q h k n pc' ls st) : Go wd K₀ l Z R y bytes ml ret n0 kc ks Q h k n pc ls (v :: st) := by
  obtain ⟨hd, rfl⟩ := D
  exact go_pure G (fun C X t => XT.pop X.here C.1 (g := mkF _ pc ls.toArray (v :: st)) rfl (hb C.2.1 hd) rfl hv)
theorem go_dupx1 {v w : Value} (D : Dc bytes pc .dup_x1 1 pc') (hv : v.category = 1) (hw : w.category = 1) (G : Go wd K₀ l Z R y bytes ml ret n0 kc ks Q h k n pc' ls (v :: w :: v :: st)) : Go wd K₀ l Z R y bytes ml ret n0 kc ks Q h k n pc ls (v :: w :: st) := by
  obtain ⟨hd, rfl⟩ := D
  exact go_pure G (fun C X t => XT.dupX1 X.here C.1 (g := mkF _ pc ls.toArray (v :: w :: st)) rfl (hb C.2.1 hd) rfl hv hw)
theorem go_dup2 {v w : Value} (D : Dc bytes pc .dup2 1 pc') (hv : v.category = 1) (hw : w.category = 1) (G : Go wd K₀ l Z R y bytes ml ret n0 kc ks Q h k n pc' ls (v :: w :: v :: w :: st)) : Go wd K₀ l Z R y bytes ml ret n0 kc ks Q h k n pc ls (v :: w :: st) := by
  obtain ⟨hd, rfl⟩ := D
  exact go_pure G (fun C X t => XT.dup2 X.here C.1 (g := mkF _ pc ls.toArray (v :: w :: st)) rfl (hb C.2.1 hd) rfl hv hw)
theorem go_dup2L {v : Int64} (D : Dc bytes pc .dup2 1 pc') (G : Go wd K₀ l Z R y bytes ml ret n0 kc ks Q h k n pc' ls (.long v :: .long v :: st)) : Go wd K₀ l Z R y bytes ml ret n0 kc ks Q h k n pc ls (.long v :: st) := by
  obtain ⟨hd, rfl⟩ := D
  exact go_pure G (fun C X t => XT.dup2L X.here C.1 (g := mkF _ pc ls.toArray (.long v :: st)) rfl (hb C.2.1 hd) rfl)
theorem go_goto (D : Db bytes pc .goto pc' tg) (G : Go wd K₀ l Z R y bytes ml ret n0 kc ks Q h k n tg ls st) : Go wd K₀ l Z R y bytes ml ret n0 kc ks Q h k n pc ls st := by
  obtain ⟨o, hd, rfl, ho, hp⟩ := D
  exact go_pure G (fun C X t => XS.goto X.here C.1 (g := mkF _ pc ls.toArray st) rfl (pc0 := pc) rfl (hb C.2.1 hd) ho hp)
theorem go_icmp_eq {a b : Int32} (D : Db bytes pc (.if_icmp .eq) pc' tg) (G1 : a = b → Go wd K₀ l Z R y bytes ml ret n0 kc ks Q h k n tg ls st) (G2 : ¬ a = b → Go wd K₀ l Z R y bytes ml ret n0 kc ks Q h k n pc' ls st) : Go wd K₀ l Z R y bytes ml ret n0 kc ks Q h k n pc ls (.int b :: .int a :: st) := by
  obtain ⟨o, hd, rfl, ho, hp⟩ := D
  by_cases q : a = b
  · exact go_pure (G1 q) (fun C X t => XS.icmpYes X.here C.1 (g := mkF _ pc ls.toArray (.int b :: .int a :: st)) rfl (pc0 := pc) rfl (hb C.2.1 hd) rfl (XT.ii_eq_t q) ho hp)
  · exact go_pure (G2 q) (fun C X t => XS.icmpNo X.here C.1 (g := mkF _ pc ls.toArray (.int b :: .int a :: st)) rfl (hb C.2.1 hd) rfl (XT.ii_eq_f q))
theorem go_if_eq {a : Int32} (D : Db bytes pc (.ifCond .eq) pc' tg) (G1 : a = 0 → Go wd K₀ l Z R y bytes ml ret n0 kc ks Q h k n tg ls st) (G2 : ¬ a = 0 → Go wd K₀ l Z R y bytes ml ret n0 kc ks Q h k n pc' ls st) : Go wd K₀ l Z R y bytes ml ret n0 kc ks Q h k n pc ls (.int a :: st) := by
  obtain ⟨o, hd, rfl, ho, hp⟩ := D
  by_cases q : a = 0
  · exact go_pure (G1 q) (fun C X t => XS.ifYes X.here C.1 (g := mkF _ pc ls.toArray (.int a :: st)) rfl (pc0 := pc) rfl (hb C.2.1 hd) rfl (XT.i0_eq_t q) ho hp)
  · exact go_pure (G2 q) (fun C X t => XS.ifNo X.here C.1 (g := mkF _ pc ls.toArray (.int a :: st)) rfl (hb C.2.1 hd) rfl (XT.i0_eq_f q))
theorem go_lc_eq {a b : Int64} (D : Db bytes pc (.ifCond .eq) pc' tg) (G1 : a = b → Go wd K₀ l Z R y bytes ml ret n0 kc ks Q h k n tg ls st) (G2 : ¬ a = b → Go wd K₀ l Z R y bytes ml ret n0 kc ks Q h k n pc' ls st) : Go wd K₀ l Z R y bytes ml ret n0 kc ks Q h k n pc ls (.int (XT.cmpL a b) :: st) := by
  obtain ⟨o, hd, rfl, ho, hp⟩ := D
  by_cases q : a = b
  · exact go_pure (G1 q) (fun C X t => XS.ifYes X.here C.1 (g := mkF _ pc ls.toArray (.int (XT.cmpL a b) :: st)) rfl (pc0 := pc) rfl (hb C.2.1 hd) rfl (XT.ll_eq_t q) ho hp)
  · exact go_pure (G2 q) (fun C X t => XS.ifNo X.here C.1 (g := mkF _ pc ls.toArray (.int (XT.cmpL a b) :: st)) rfl (hb C.2.1 hd) rfl (XT.ll_eq_f q))
theorem go_icmp_ne {a b : Int32} (D : Db bytes pc (.if_icmp .ne) pc' tg) (G1 : ¬ a = b → Go wd K₀ l Z R y bytes ml ret n0 kc ks Q h k n tg ls st) (G2 : a = b → Go wd K₀ l Z R y bytes ml ret n0 kc ks Q h k n pc' ls st) : Go wd K₀ l Z R y bytes ml ret n0 kc ks Q h k n pc ls (.int b :: .int a :: st) := by
  obtain ⟨o, hd, rfl, ho, hp⟩ := D
  by_cases q : a = b
  · exact go_pure (G2 q) (fun C X t => XS.icmpNo X.here C.1 (g := mkF _ pc ls.toArray (.int b :: .int a :: st)) rfl (hb C.2.1 hd) rfl (XT.ii_ne_f q))
  · exact go_pure (G1 q) (fun C X t => XS.icmpYes X.here C.1 (g := mkF _ pc ls.toArray (.int b :: .int a :: st)) rfl (pc0 := pc) rfl (hb C.2.1 hd) rfl (XT.ii_ne_t q) ho hp)
theorem go_if_ne {a : Int32} (D : Db bytes pc (.ifCond .ne) pc' tg) (G1 : ¬ a = 0 → Go wd K₀ l Z R y bytes ml ret n0 kc ks Q h k n tg ls st) (G2 : a = 0 → Go wd K₀ l Z R y bytes ml ret n0 kc ks Q h k n pc' ls st) : Go wd K₀ l Z R y bytes ml ret n0 kc ks Q h k n pc ls (.int a :: st) := by
  obtain ⟨o, hd, rfl, ho, hp⟩ := D
  by_cases q : a = 0
  · exact go_pure (G2 q) (fun C X t => XS.ifNo X.here C.1 (g := mkF _ pc ls.toArray (.int a :: st)) rfl (hb C.2.1 hd) rfl (XT.i0_ne_f q))
  · exact go_pure (G1 q) (fun C X t => XS.ifYes X.here C.1 (g := mkF _ pc ls.toArray (.int a :: st)) rfl (pc0 := pc) rfl (hb C.2.1 hd) rfl (XT.i0_ne_t q) ho hp)
theorem go_lc_ne {a b : Int64} (D : Db bytes pc (.ifCond .ne) pc' tg) (G1 : ¬ a = b → Go wd K₀ l Z R y bytes ml ret n0 kc ks Q h k n tg ls st) (G2 : a = b → Go wd K₀ l Z R y bytes ml ret n0 kc ks Q h k n pc' ls st) : Go wd K₀ l Z R y bytes ml ret n0 kc ks Q h k n pc ls (.int (XT.cmpL a b) :: st) := by
  obtain ⟨o, hd, rfl, ho, hp⟩ := D
  by_cases q : a = b
  · exact go_pure (G2 q) (fun C X t => XS.ifNo X.here C.1 (g := mkF _ pc ls.toArray (.int (XT.cmpL a b) :: st)) rfl (hb C.2.1 hd) rfl (XT.ll_ne_f q))
  · exact go_pure (G1 q) (fun C X t => XS.ifYes X.here C.1 (g := mkF _ pc ls.toArray (.int (XT.cmpL a b) :: st)) rfl (pc0 := pc) rfl (hb C.2.1 hd) rfl (XT.ll_ne_t q) ho hp)
theorem go_icmp_lt {a b : Int32} (D : Db bytes pc (.if_icmp .lt) pc' tg) (G1 : a < b → Go wd K₀ l Z R y bytes ml ret n0 kc ks Q h k n tg ls st) (G2 : ¬ a < b → Go wd K₀ l Z R y bytes ml ret n0 kc ks Q h k n pc' ls st) : Go wd K₀ l Z R y bytes ml ret n0 kc ks Q h k n pc ls (.int b :: .int a :: st) := by
  obtain ⟨o, hd, rfl, ho, hp⟩ := D
  by_cases q : a < b
  · exact go_pure (G1 q) (fun C X t => XS.icmpYes X.here C.1 (g := mkF _ pc ls.toArray (.int b :: .int a :: st)) rfl (pc0 := pc) rfl (hb C.2.1 hd) rfl (XT.ii_lt_t q) ho hp)
  · exact go_pure (G2 q) (fun C X t => XS.icmpNo X.here C.1 (g := mkF _ pc ls.toArray (.int b :: .int a :: st)) rfl (hb C.2.1 hd) rfl (XT.ii_lt_f q))
theorem go_if_lt {a : Int32} (D : Db bytes pc (.ifCond .lt) pc' tg) (G1 : a < 0 → Go wd K₀ l Z R y bytes ml ret n0 kc ks Q h k n tg ls st) (G2 : ¬ a < 0 → Go wd K₀ l Z R y bytes ml ret n0 kc ks Q h k n pc' ls st) : Go wd K₀ l Z R y bytes ml ret n0 kc ks Q h k n pc ls (.int a :: st) := by
  obtain ⟨o, hd, rfl, ho, hp⟩ := D
  by_cases q : a < 0
  · exact go_pure (G1 q) (fun C X t => XS.ifYes X.here C.1 (g := mkF _ pc ls.toArray (.int a :: st)) rfl (pc0 := pc) rfl (hb C.2.1 hd) rfl (XT.i0_lt_t q) ho hp)
  · exact go_pure (G2 q) (fun C X t => XS.ifNo X.here C.1 (g := mkF _ pc ls.toArray (.int a :: st)) rfl (hb C.2.1 hd) rfl (XT.i0_lt_f q))
theorem go_lc_lt {a b : Int64} (D : Db bytes pc (.ifCond .lt) pc' tg) (G1 : a < b → Go wd K₀ l Z R y bytes ml ret n0 kc ks Q h k n tg ls st) (G2 : ¬ a < b → Go wd K₀ l Z R y bytes ml ret n0 kc ks Q h k n pc' ls st) : Go wd K₀ l Z R y bytes ml ret n0 kc ks Q h k n pc ls (.int (XT.cmpL a b) :: st) := by
  obtain ⟨o, hd, rfl, ho, hp⟩ := D
  by_cases q : a < b
  · exact go_pure (G1 q) (fun C X t => XS.ifYes X.here C.1 (g := mkF _ pc ls.toArray (.int (XT.cmpL a b) :: st)) rfl (pc0 := pc) rfl (hb C.2.1 hd) rfl (XT.ll_lt_t q) ho hp)
  · exact go_pure (G2 q) (fun C X t => XS.ifNo X.here C.1 (g := mkF _ pc ls.toArray (.int (XT.cmpL a b) :: st)) rfl (hb C.2.1 hd) rfl (XT.ll_lt_f q))
theorem go_icmp_ge {a b : Int32} (D : Db bytes pc (.if_icmp .ge) pc' tg) (G1 : ¬ a < b → Go wd K₀ l Z R y bytes ml ret n0 kc ks Q h k n tg ls st) (G2 : a < b → Go wd K₀ l Z R y bytes ml ret n0 kc ks Q h k n pc' ls st) : Go wd K₀ l Z R y bytes ml ret n0 kc ks Q h k n pc ls (.int b :: .int a :: st) := by
  obtain ⟨o, hd, rfl, ho, hp⟩ := D
  by_cases q : a < b
  · exact go_pure (G2 q) (fun C X t => XS.icmpNo X.here C.1 (g := mkF _ pc ls.toArray (.int b :: .int a :: st)) rfl (hb C.2.1 hd) rfl (XT.ii_ge_f q))
  · exact go_pure (G1 q) (fun C X t => XS.icmpYes X.here C.1 (g := mkF _ pc ls.toArray (.int b :: .int a :: st)) rfl (pc0 := pc) rfl (hb C.2.1 hd) rfl (XT.ii_ge_t q) ho hp)
theorem go_if_ge {a : Int32} (D : Db bytes pc (.ifCond .ge) pc' tg) (G1 : ¬ a < 0 → Go wd K₀ l Z R y bytes ml ret n0 kc ks Q h k n tg ls st) (G2 : a < 0 → Go wd K₀ l Z R y bytes ml ret n0 kc ks Q h k n pc' ls st) : Go wd K₀ l Z R y bytes ml ret n0 kc ks Q h k n pc ls (.int a :: st) := by
  obtain ⟨o, hd, rfl, ho, hp⟩ := D
  by_cases q : a < 0
  · exact go_pure (G2 q) (fun C X t => XS.ifNo X.here C.1 (g := mkF _ pc ls.toArray (.int a :: st)) rfl (hb C.2.1 hd) rfl (XT.i0_ge_f q))
  · exact go_pure (G1 q) (fun C X t => XS.ifYes X.here C.1 (g := mkF _ pc ls.toArray (.int a :: st)) rfl (pc0 := pc) rfl (hb C.2.1 hd) rfl (XT.i0_ge_t q) ho hp)
theorem go_lc_ge {a b : Int64} (D : Db bytes pc (.ifCond .ge) pc' tg) (G1 : ¬ a < b → Go wd K₀ l Z R y bytes ml ret n0 kc ks Q h k n tg ls st) (G2 : a < b → Go wd K₀ l Z R y bytes ml ret n0 kc ks Q h k n pc' ls st) : Go wd K₀ l Z R y bytes ml ret n0 kc ks Q h k n pc ls (.int (XT.cmpL a b) :: st) := by
  obtain ⟨o, hd, rfl, ho, hp⟩ := D
  by_cases q : a < b
  · exact go_pure (G2 q) (fun C X t => XS.ifNo X.here C.1 (g := mkF _ pc ls.toArray (.int (XT.cmpL a b) :: st)) rfl (hb C.2.1 hd) rfl (XT.ll_ge_f q))
  · exact go_pure (G1 q) (fun C X t => XS.ifYes X.here C.1 (g := mkF _ pc ls.toArray (.int (XT.cmpL a b) :: st)) rfl (pc0 := pc) rfl (hb C.2.1 hd) rfl (XT.ll_ge_t q) ho hp)
theorem go_icmp_gt {a b : Int32} (D : Db bytes pc (.if_icmp .gt) pc' tg) (G1 : b < a → Go wd K₀ l Z R y bytes ml ret n0 kc ks Q h k n tg ls st) (G2 : ¬ b < a → Go wd K₀ l Z R y bytes ml ret n0 kc ks Q h k n pc' ls st) : Go wd K₀ l Z R y bytes ml ret n0 kc ks Q h k n pc ls (.int b :: .int a :: st) := by
  obtain ⟨o, hd, rfl, ho, hp⟩ := D
  by_cases q : b < a
  · exact go_pure (G1 q) (fun C X t => XS.icmpYes X.here C.1 (g := mkF _ pc ls.toArray (.int b :: .int a :: st)) rfl (pc0 := pc) rfl (hb C.2.1 hd) rfl (XT.ii_gt_t q) ho hp)
  · exact go_pure (G2 q) (fun C X t => XS.icmpNo X.here C.1 (g := mkF _ pc ls.toArray (.int b :: .int a :: st)) rfl (hb C.2.1 hd) rfl (XT.ii_gt_f q))
theorem go_if_gt {a : Int32} (D : Db bytes pc (.ifCond .gt) pc' tg) (G1 : 0 < a → Go wd K₀ l Z R y bytes ml ret n0 kc ks Q h k n tg ls st) (G2 : ¬ 0 < a → Go wd K₀ l Z R y bytes ml ret n0 kc ks Q h k n pc' ls st) : Go wd K₀ l Z R y bytes ml ret n0 kc ks Q h k n pc ls (.int a :: st) := by
  obtain ⟨o, hd, rfl, ho, hp⟩ := D
  by_cases q : 0 < a
  · exact go_pure (G1 q) (fun C X t => XS.ifYes X.here C.1 (g := mkF _ pc ls.toArray (.int a :: st)) rfl (pc0 := pc) rfl (hb C.2.1 hd) rfl (XT.i0_gt_t q) ho hp)
  · exact go_pure (G2 q) (fun C X t => XS.ifNo X.here C.1 (g := mkF _ pc ls.toArray (.int a :: st)) rfl (hb C.2.1 hd) rfl (XT.i0_gt_f q))
theorem go_lc_gt {a b : Int64} (D : Db bytes pc (.ifCond .gt) pc' tg) (G1 : b < a → Go wd K₀ l Z R y bytes ml ret n0 kc ks Q h k n tg ls st) (G2 : ¬ b < a → Go wd K₀ l Z R y bytes ml ret n0 kc ks Q h k n pc' ls st) : Go wd K₀ l Z R y bytes ml ret n0 kc ks Q h k n pc ls (.int (XT.cmpL a b) :: st) := by
  obtain ⟨o, hd, rfl, ho, hp⟩ := D
  by_cases q : b < a
  · exact go_pure (G1 q) (fun C X t => XS.ifYes X.here C.1 (g := mkF _ pc ls.toArray (.int (XT.cmpL a b) :: st)) rfl (pc0 := pc) rfl (hb C.2.1 hd) rfl (XT.ll_gt_t q) ho hp)
  · exact go_pure (G2 q) (fun C X t => XS.ifNo X.here C.1 (g := mkF _ pc ls.toArray (.int (XT.cmpL a b) :: st)) rfl (hb C.2.1 hd) rfl (XT.ll_gt_f q))
theorem go_icmp_le {a b : Int32} (D : Db bytes pc (.if_icmp .le) pc' tg) (G1 : ¬ b < a → Go wd K₀ l Z R y bytes ml ret n0 kc ks Q h k n tg ls st) (G2 : b < a → Go wd K₀ l Z R y bytes ml ret n0 kc ks Q h k n pc' ls st) : Go wd K₀ l Z R y bytes ml ret n0 kc ks Q h k n pc ls (.int b :: .int a :: st) := by
  obtain ⟨o, hd, rfl, ho, hp⟩ := D
  by_cases q : b < a
  · exact go_pure (G2 q) (fun C X t => XS.icmpNo X.here C.1 (g := mkF _ pc ls.toArray (.int b :: .int a :: st)) rfl (hb C.2.1 hd) rfl (XT.ii_le_f q))
  · exact go_pure (G1 q) (fun C X t => XS.icmpYes X.here C.1 (g := mkF _ pc ls.toArray (.int b :: .int a :: st)) rfl (pc0 := pc) rfl (hb C.2.1 hd) rfl (XT.ii_le_t q) ho hp)
theorem go_if_le {a : Int32} (D : Db bytes pc (.ifCond .le) pc' tg) (G1 : ¬ 0 < a → Go wd K₀ l Z R y bytes ml ret n0 kc ks Q h k n tg ls st) (G2 : 0 < a → Go wd K₀ l Z R y bytes ml ret n0 kc ks Q h k n pc' ls st) : Go wd K₀ l Z R y bytes ml ret n0 kc ks Q h k n pc ls (.int a :: st) := by
  obtain ⟨o, hd, rfl, ho, hp⟩ := D
  by_cases q : 0 < a
  · exact go_pure (G2 q) (fun C X t => XS.ifNo X.here C.1 (g := mkF _ pc ls.toArray (.int a :: st)) rfl (hb C.2.1 hd) rfl (XT.i0_le_f q))
  · exact go_pure (G1 q) (fun C X t => XS.ifYes X.here C.1 (g := mkF _ pc ls.toArray (.int a :: st)) rfl (pc0 := pc) rfl (hb C.2.1 hd) rfl (XT.i0_le_t q) ho hp)
theorem go_lc_le {a b : Int64} (D : Db bytes pc (.ifCond .le) pc' tg) (G1 : ¬ b < a → Go wd K₀ l Z R y bytes ml ret n0 kc ks Q h k n tg ls st) (G2 : b < a → Go wd K₀ l Z R y bytes ml ret n0 kc ks Q h k n pc' ls st) : Go wd K₀ l Z R y bytes ml ret n0 kc ks Q h k n pc ls (.int (XT.cmpL a b) :: st) := by
  obtain ⟨o, hd, rfl, ho, hp⟩ := D
  by_cases q : b < a
  · exact go_pure (G2 q) (fun C X t => XS.ifNo X.here C.1 (g := mkF _ pc ls.toArray (.int (XT.cmpL a b) :: st)) rfl (hb C.2.1 hd) rfl (XT.ll_le_f q))
  · exact go_pure (G1 q) (fun C X t => XS.ifYes X.here C.1 (g := mkF _ pc ls.toArray (.int (XT.cmpL a b) :: st)) rfl (pc0 := pc) rfl (hb C.2.1 hd) rfl (XT.ll_le_t q) ho hp)
theorem go_acmp_eq {a b : Value} (D : Db bytes pc (.if_acmp .eq) pc' tg) (ha : a.isRef = true) (hb' : b.isRef = true) (G1 : a = b → Go wd K₀ l Z R y bytes ml ret n0 kc ks Q h k n tg ls st) (G2 : ¬ a = b → Go wd K₀ l Z R y bytes ml ret n0 kc ks Q h k n pc' ls st) : Go wd K₀ l Z R y bytes ml ret n0 kc ks Q h k n pc ls (b :: a :: st) := by
  obtain ⟨o, hd, rfl, ho, hp⟩ := D
  by_cases q : a = b
  · exact go_pure (G1 q) (fun C X t => XT.acmpYes X.here C.1 (g := mkF _ pc ls.toArray (b :: a :: st)) rfl (pc0 := pc) rfl (hb C.2.1 hd) rfl ha hb' (XT.aa_eq_t q) ho hp)
  · exact go_pure (G2 q) (fun C X t => XT.acmpNo X.here C.1 (g := mkF _ pc ls.toArray (b :: a :: st)) rfl (hb C.2.1 hd) rfl ha hb' (XT.aa_eq_f q))
theorem go_acmp_ne {a b : Value} (D : Db bytes pc (.if_acmp .ne) pc' tg) (ha : a.isRef = true) (hb' : b.isRef = true) (G1 : ¬ a = b → Go wd K₀ l Z R y bytes ml ret n0 kc ks Q h k n tg ls st) (G2 : a = b → Go wd K₀ l Z R y bytes ml ret n0 kc ks Q h k n pc' ls st) : Go wd K₀ l Z R y bytes ml ret n0 kc ks Q h k n pc ls (b :: a :: st) := by
  obtain ⟨o, hd, rfl, ho, hp⟩ := D
  by_cases q : a = b
  · exact go_pure (G2 q) (fun C X t => XT.acmpNo X.here C.1 (g := mkF _ pc ls.toArray (b :: a :: st)) rfl (hb C.2.1 hd) rfl ha hb' (XT.aa_ne_f q))
  · exact go_pure (G1 q) (fun C X t => XT.acmpYes X.here C.1 (g := mkF _ pc ls.toArray (b :: a :: st)) rfl (pc0 := pc) rfl (hb C.2.1 hd) rfl ha hb' (XT.aa_ne_t q) ho hp)
theorem go_ifnullT (D : Db bytes pc .ifnull pc' tg) (G : Go wd K₀ l Z R y bytes ml ret n0 kc ks Q h k n tg ls st) : Go wd K₀ l Z R y bytes ml ret n0 kc ks Q h k n pc ls (.null :: st) := by
  obtain ⟨o, hd, rfl, ho, hp⟩ := D
  exact go_pure G (fun C X t => XS.ifnullYes X.here C.1 (g := mkF _ pc ls.toArray (.null :: st)) rfl (pc0 := pc) rfl (hb C.2.1 hd) rfl ho hp)
theorem go_ifnullF {a : Addr} (D : Db bytes pc .ifnull pc' tg) (G : Go wd K₀ l Z R y bytes ml ret n0 kc ks Q h k n pc' ls st) : Go wd K₀ l Z R y bytes ml ret n0 kc ks Q h k n pc ls (.ref a :: st) := by
  obtain ⟨o, hd, rfl, ho, hp⟩ := D
  exact go_pure G (fun C X t => XS.ifnullNo X.here C.1 (g := mkF _ pc ls.toArray (.ref a :: st)) rfl (hb C.2.1 hd) rfl)
theorem go_nonnullT {a : Addr} (D : Db bytes pc .ifnonnull pc' tg) (G : Go wd K₀ l Z R y bytes ml ret n0 kc ks Q h k n tg ls st) : Go wd K₀ l Z R y bytes ml ret n0 kc ks Q h k n pc ls (.ref a :: st) := by
  obtain ⟨o, hd, rfl, ho, hp⟩ := D
  exact go_pure G (fun C X t => XT.ifnonnullYes X.here C.1 (g := mkF _ pc ls.toArray (.ref a :: st)) rfl (pc0 := pc) rfl (hb C.2.1 hd) rfl ho hp)
theorem go_nonnullF (D : Db bytes pc .ifnonnull pc' tg) (G : Go wd K₀ l Z R y bytes ml ret n0 kc ks Q h k n pc' ls st) : Go wd K₀ l Z R y bytes ml ret n0 kc ks Q h k n pc ls (.null :: st) := by
  obtain ⟨o, hd, rfl, ho, hp⟩ := D
  exact go_pure G (fun C X t => XT.ifnonnullNo X.here C.1 (g := mkF _ pc ls.toArray (.null :: st)) rfl (hb C.2.1 hd) rfl)
theorem go_nonnullV {v : Value} (D : Db bytes pc .ifnonnull pc' tg) (hv : v.isRef = true) (G1 : v ≠ .null → Go wd K₀ l Z R y bytes ml ret n0 kc ks Q h k n tg ls st) (G2 : v = .null → Go wd K₀ l Z R y bytes ml ret n0 kc ks Q h k n pc' ls st) : Go wd K₀ l Z R y bytes ml ret n0 kc ks Q h k n pc ls (v :: st) := by
  cases v with
  | null => exact go_nonnullF D (G2 rfl)
  | ref a => exact go_nonnullT D (G1 (fun q => nomatch q))
  | int _ => cases hv
  | long _ => cases hv
  | float _ => cases hv
  | double _ => cases hv
  | _ => cases hv
theorem go_ldcI {v : Int32} {idx : Nat} (D : Dc bytes pc (.ldc idx) 2 pc') (w : (Cond.constant y.cls idx v).before a0 Z = true) (G : Go wd K₀ l Z R y bytes ml ret n0 kc ks Q h k n pc' ls (.int v :: st)) : Go wd K₀ l Z R y bytes ml ret n0 kc ks Q h k n pc ls st := by
  obtain ⟨hd, rfl⟩ := D
  exact go_pure G (fun C X t => X.ldcInt C.1 C.2.2.2.1 (mvT C.2.2.2.2.1 w) (g := mkF _ pc ls.toArray st) rfl (hb C.2.1 hd) t)
theorem go_ldcJ {v : Int64} {idx : Nat} (D : Dc bytes pc (.ldc2_w idx) 3 pc') (w : (Cond.constantLong y.cls idx v).before a0 Z = true) (G : Go wd K₀ l Z R y bytes ml ret n0 kc ks Q h k n pc' ls (.long v :: st)) : Go wd K₀ l Z R y bytes ml ret n0 kc ks Q h k n pc ls st := by
  obtain ⟨hd, rfl⟩ := D
  exact go_pure G (fun C X t => X.ldc2Long C.1 C.2.2.2.1 (mvT C.2.2.2.2.1 w) (g := mkF _ pc ls.toArray st) rfl (hb C.2.1 hd) t)
theorem go_iret {z : Int32} (hr : ret = some .int) (D : Dc bytes pc .ireturn 1 pc') (hk : k ≤ kc) (hn : n ≤ ks) (q : Q (some (.int z)) h) : Go wd K₀ l Z R y bytes ml ret n0 kc ks Q h k n pc ls (.int z :: st) := by
  intro p e s0 s m args below meth c T L Bs C X hh N
  obtain ⟨hd, rfl⟩ := D
  have hl := C.2.2.2.2.2.2.1
  obtain ⟨fs, hr', hrun, hended, hW, hsame⟩ := X.leave (v := some (.int z)) (fun q => by rw [C.2.2.2.2.2.1, hr] at q; cases q) hl
  exact ⟨_, _, retOut X C.1 (C.2.2.2.2.2.1.trans hr) rfl (Or.inl ⟨rfl, Or.inl rfl, z, rfl⟩) (hb C.2.1 hd) hr', hrun, hended, _, L, rfl, ⟨by show Q _ T.heap; rw [hh]; exact q, N⟩, endK Bs hh hW hsame hk hn⟩
theorem go_bret {z : Int32} (hr : ret = some .boolean) (D : Dc bytes pc .ireturn 1 pc') (hk : k ≤ kc) (hn : n ≤ ks) (hz : z = 0 ∨ z = 1) (q : Q (some (.int z)) h) : Go wd K₀ l Z R y bytes ml ret n0 kc ks Q h k n pc ls (.int z :: st) := by
  intro p e s0 s m args below meth c T L Bs C X hh N
  obtain ⟨hd, rfl⟩ := D
  have hl := C.2.2.2.2.2.2.1
  obtain ⟨fs, hr', hrun, hended, hW, hsame⟩ := X.leave (v := some (.int z)) (fun q => by rw [C.2.2.2.2.2.1, hr] at q; cases q) hl
  exact ⟨_, _, retOut X C.1 (C.2.2.2.2.2.1.trans hr) (by rcases hz with rfl | rfl <;> rfl) (Or.inl ⟨rfl, Or.inr (Or.inl rfl), z, rfl⟩) (hb C.2.1 hd) hr', hrun, hended, _, L, rfl, ⟨by show Q _ T.heap; rw [hh]; exact q, N⟩, endK Bs hh hW hsame hk hn⟩
theorem go_nret {z : Int32} {ty : FieldType} (hr : ret = some ty) (hty : ty = .byte ∨ ty = .char ∨ ty = .short) (D : Dc bytes pc .ireturn 1 pc') (hk : k ≤ kc) (hn : n ≤ ks) (hz : narrow ty (.int z) = .int z) (q : Q (some (.int z)) h) : Go wd K₀ l Z R y bytes ml ret n0 kc ks Q h k n pc ls (.int z :: st) := by
  intro p e s0 s m args below meth c T L Bs C X hh N
  obtain ⟨hd, rfl⟩ := D
  have hl := C.2.2.2.2.2.2.1
  obtain ⟨fs, hr', hrun, hended, hW, hsame⟩ := X.leave (v := some (.int z)) (fun q => by rw [C.2.2.2.2.2.1, hr] at q; cases q) hl
  exact ⟨_, _, retOut X C.1 (C.2.2.2.2.2.1.trans hr) hz (Or.inl ⟨rfl, Or.inr (Or.inr hty), z, rfl⟩) (hb C.2.1 hd) hr', hrun, hended, _, L, rfl, ⟨by show Q _ T.heap; rw [hh]; exact q, N⟩, endK Bs hh hW hsame hk hn⟩
theorem go_lret {z : Int64} (hr : ret = some .long) (D : Dc bytes pc .lreturn 1 pc') (hk : k ≤ kc) (hn : n ≤ ks) (q : Q (some (.long z)) h) : Go wd K₀ l Z R y bytes ml ret n0 kc ks Q h k n pc ls (.long z :: st) := by
  intro p e s0 s m args below meth c T L Bs C X hh N
  obtain ⟨hd, rfl⟩ := D
  have hl := C.2.2.2.2.2.2.1
  obtain ⟨fs, hr', hrun, hended, hW, hsame⟩ := X.leave (v := some (.long z)) (fun q => by rw [C.2.2.2.2.2.1, hr] at q; cases q) hl
  exact ⟨_, _, retOut X C.1 (C.2.2.2.2.2.1.trans hr) rfl (Or.inr (Or.inl ⟨rfl, rfl, z, rfl⟩)) (hb C.2.1 hd) hr', hrun, hended, _, L, rfl, ⟨by show Q _ T.heap; rw [hh]; exact q, N⟩, endK Bs hh hW hsame hk hn⟩
theorem narrow_ref {t : FieldType} {w : Value} (ht : t.isReference = true) (hw : w.isRef = true) : narrow t w = w := by
  cases t <;> cases w <;> first | rfl | (simp [FieldType.isReference] at ht; done) | (simp [Value.isRef] at hw; done)
theorem go_aret {w : Value} {t : FieldType} (hr : ret = some t) (ht : t.isReference = true) (hw : w.isRef = true) (D : Dc bytes pc .areturn 1 pc') (hk : k ≤ kc) (hn : n ≤ ks) (q : Q (some w) h) : Go wd K₀ l Z R y bytes ml ret n0 kc ks Q h k n pc ls (w :: st) := by
  intro p e s0 s m args below meth c T L Bs C X hh N
  obtain ⟨hd, rfl⟩ := D
  have hl := C.2.2.2.2.2.2.1
  obtain ⟨fs, hr', hrun, hended, hW, hsame⟩ := X.leave (v := some w) (fun q => by rw [C.2.2.2.2.2.1, hr] at q; cases q) hl
  exact ⟨_, _, retOut X C.1 (C.2.2.2.2.2.1.trans hr) (narrow_ref ht hw) (Or.inr (Or.inr (Or.inr (Or.inr ⟨rfl, ht, hw⟩)))) (hb C.2.1 hd) hr', hrun, hended, _, L, rfl, ⟨by show Q _ T.heap; rw [hh]; exact q, N⟩, endK Bs hh hW hsame hk hn⟩
theorem go_ret (hr : ret = none) (D : Dc bytes pc .return_ 1 pc') (hk : k ≤ kc) (hn : n ≤ ks) (q : Q none h) : Go wd K₀ l Z R y bytes ml ret n0 kc ks Q h k n pc ls [] := by
  intro p e s0 s m args below meth c T L Bs C X hh N
  obtain ⟨hd, rfl⟩ := D
  have hl := C.2.2.2.2.2.2.1
  obtain ⟨fs, hr', hrun, hended, hW, hsame⟩ := X.leave (v := none) (fun _ => rfl) hl
  exact ⟨_, _, X.returnOut C.1 (C.2.2.2.2.2.1.trans hr) (hb C.2.1 hd) hr', hrun, hended, _, L, rfl, ⟨by show Q _ T.heap; rw [hh]; exact q, N⟩, endK Bs hh hW hsame hk hn⟩
theorem con_of {as' : Array Value} (hp : plainFor y = true) (he : Jvm.Sym.laidSlots as'.toList ++ List.replicate (ml - (Jvm.Sym.laidSlots as'.toList).length) .unset = ls) (G : Go wd KT l Z R y bytes ml ret n0 R.cells R.slots Q h 0 0 0 ls []) : Con wd l Z y bytes ml ret R as' h n0 Q := by
  intro ws
  refine MetFree.of_bodySF hp hisR ?_
  intro p e s m args below meth c s₁ Bd hml hP hK
  obtain ⟨rfl, hZ, hh⟩ := hP
  have X0 : Stand p l e R s m args below meth c s₁ [] 0 0 := Stand.of_body Bd
  have e0 : s₁.heap = h := by rw [← hh, Bd.state]; rfl
  obtain ⟨s₂, o, h1, h2, h3, v, L, e1, ⟨q1, q2⟩, q3⟩ := G p e s s m args below meth c s₁ [] (Base.start s hh) ⟨Bd.exec, Bd.bytes, hml, findClass_of_methodNamed Bd.named, hZ, Bd.returns, Bd.notSynchronized, (name_of_methodNamed Bd.named Bd.method).1, trivial⟩ X0 e0 (Fr.nil n0)
  exact ⟨s₂, o, (XT.entry (Ls := ls.toArray) (by simpa using he)).trans h1, h2, h3, v, L, e1, ⟨⟨q1, by rw [← hh]; exact q3.size⟩, q2⟩, q3⟩
theorem go_callS1 {y' : MethodName} {b' : ByteArray} {m' : Nat} {r' : Option FieldType} {rm : Room} {idx W : Nat} {argsL : List Value} {P : Value → Heap → Prop} (D : Dc bytes pc (.invokestatic idx) 3 pc') (hM : Con false l Z y' b' m' r' rm argsL.toArray h n0 (R1 P))
    (w1 : (Cond.methodLink y.cls idx y').before a0 Z = true) (w2 : (Cond.static y').before a0 Z = true) (w3 : (Cond.initialized y'.cls).before a0 Z = true) (w4 : (Cond.code y' b' m' r').before a0 Z = true) (hy : y'.cls ≠ "java/lang/invoke/MethodHandle" ∧ y'.cls ≠ "java/lang/invoke/VarHandle")
    (hlen : ∀ sig, parseMethodDescriptor y'.desc = some sig → argsL.length = sig.parameters.length) {st₀ : List Value} (hst : st₀ = argsL.reverse ++ st) (hW : (st.map fun v => v.category).sum = W) (hf : rm.frames + 1 ≤ R.frames) (hlo : W + (m' + 11) + rm.locals ≤ R.locals) (hk : k + rm.cells ≤ R.cells) (hn : n + rm.slots ≤ R.slots) (hls : ls.length = ml)
    (G : ∀ w h', P w h' → Go wd K₀ l Z R y bytes ml ret n0 kc ks Q h' (k + rm.cells) (n + rm.slots) pc' ls (w :: st)) : Go wd K₀ l Z R y bytes ml ret n0 kc ks Q h k n pc ls st₀ := by
  subst hst
  intro p e s0 s m args below meth c T L Bs C X hh N
  obtain ⟨hd, rfl⟩ := D
  have hZ := C.2.2.2.2.1
  obtain ⟨v, vm₁, ⟨B, Lb, kb, nb⟩, -, X', ⟨Lq, ⟨⟨hQ, hsz⟩, Ns⟩, e1, e2, e3⟩, st'⟩ := Jvm.LawKit.callS X C.1 (y := y') C.2.2.2.1 (mvT hZ w1) (mvT hZ w2) (mvT hZ w3) (mvT hZ w4) hy (backOf (W := W) (Q := fun v h' L => ((R1 P) v h' ∧ h.size ≤ h'.size) ∧ Fr n0 L) (hM []) hZ w4 w3 hf hlo) (g := mkF m pc ls.toArray (argsL.reverse ++ st)) rfl
    (by rw [C.2.2.1]; simpa using hls) (argsL := argsL) (rest := st) hlen rfl (by show 2 * 0 + _ ≤ W; rw [← hW]; omega) (hb C.2.1 hd) (fun _ _ => ⟨rfl, hh, hk, hn⟩)
  dsimp only [Pt.U, Pt.locs, Pt.cells, Pt.slots] at X' hQ hsz e1 e2 e3 st'
  subst e1 e2 e3
  obtain ⟨w, rfl, hP⟩ := hQ
  exact (G w B.heap hP p e s0 s m args below meth c B _ (Bs.mono hsz) C X' rfl (N.app Ns)).pre st'
theorem go_callV1 {y' : MethodName} {b' : ByteArray} {m' : Nat} {r' : Option FieldType} {rm : Room} {idx W : Nat} {argsL : List Value} {P : Value → Heap → Prop} {x' : MethodName} {K : String} {a : Addr} (D : Dc bytes pc (.invokevirtual idx) 3 pc') (hM : Con false l Z y' b' m' r' rm (.ref a :: argsL).toArray h n0 (R1 P)) (E : Exa Z h a K)
    (w1 : (Cond.methodLink y.cls idx x').before a0 Z = true) (w5 : (Cond.declares x').before a0 Z = true) (nf : ∀ s : State, Z.Warmed39 s.vm → NotFace s x') (w6 : (Cond.selects K x' y').before a0 Z = true) (w2 : (Cond.instanceMethod y').before a0 Z = true) (w3 : (Cond.initialized y'.cls).before a0 Z = true) (w4 : (Cond.code y' b' m' r').before a0 Z = true)
    (hy : x'.cls ≠ "java/lang/invoke/MethodHandle" ∧ x'.cls ≠ "java/lang/invoke/VarHandle") (hlen : ∀ sig, parseMethodDescriptor x'.desc = some sig → argsL.length = sig.parameters.length) {st₀ : List Value} (hst : st₀ = argsL.reverse ++ .ref a :: st) (hW : (st.map fun v => v.category).sum = W) (hf : rm.frames + 1 ≤ R.frames) (hlo : W + (m' + 11) + rm.locals ≤ R.locals) (hk : k + rm.cells ≤ R.cells) (hn : n + rm.slots ≤ R.slots) (hls : ls.length = ml)
    (G : ∀ w h', P w h' → Go wd K₀ l Z R y bytes ml ret n0 kc ks Q h' (k + rm.cells) (n + rm.slots) pc' ls (w :: st)) : Go wd K₀ l Z R y bytes ml ret n0 kc ks Q h k n pc ls st₀ := by
  subst hst
  intro p e s0 s m args below meth c T L Bs C X hh N
  obtain ⟨hd, rfl⟩ := D
  have hZ := C.2.2.2.2.1
  obtain ⟨cq, kq, qa, qb, qc⟩ := isOf (T := T) hZ hh E
  obtain ⟨v, vm₁, ⟨B, Lb, kb, nb⟩, -, X', ⟨Lq, ⟨⟨hQ, hsz⟩, Ns⟩, e1, e2, e3⟩, st'⟩ := X.virtualBack C.1 (y := x') (z := y') C.2.2.2.1 (mvT hZ w1) (mvT hZ w5) (nf s hZ) (mvT hZ w6) (mvT hZ w2) hy (backOf (W := W) (Q := fun v h' L => ((R1 P) v h' ∧ h.size ≤ h'.size) ∧ Fr n0 L) (hM []) hZ w4 w3 hf hlo) qa qc (g := mkF m pc ls.toArray (argsL.reverse ++ .ref a :: st)) rfl
    (by rw [C.2.2.1]; simpa using hls) (Steps.refl _) (argsL := argsL) (rest := st) hlen rfl (by show 2 * 0 + _ ≤ W; rw [← hW]; omega) (hb C.2.1 hd) (fun _ _ => ⟨rfl, hh, hk, hn⟩)
  dsimp only [Pt.U, Pt.locs, Pt.cells, Pt.slots] at X' hQ hsz e1 e2 e3 st'
  subst e1 e2 e3
  obtain ⟨w, rfl, hP⟩ := hQ
  exact (G w B.heap hP p e s0 s m args below meth c B _ (Bs.mono hsz) C X' rfl (N.app Ns)).pre (fun t q => st'.trans q)
theorem go_callP1 {y' : MethodName} {b' : ByteArray} {m' : Nat} {r' : Option FieldType} {rm : Room} {idx W : Nat} {argsL : List Value} {P : Value → Heap → Prop} {K : String} {a : Addr} (D : Dc bytes pc (.invokevirtual idx) 3 pc') (hM : Con false l Z y' b' m' r' rm (.ref a :: argsL).toArray h n0 (R1 P)) (E : Exa Z h a K)
    (w1 : (Cond.methodLink y.cls idx y').before a0 Z = true) (w2 : (Cond.instanceMethod y').before a0 Z = true) {kk : Nat} (wi : (Cond.instantiable y'.cls kk).before a0 Z = true) (w5 : (Cond.privateMethod y').before a0 Z = true) (w3 : (Cond.initialized y'.cls).before a0 Z = true) (w4 : (Cond.code y' b' m' r').before a0 Z = true) (hy : y'.cls ≠ "java/lang/invoke/MethodHandle" ∧ y'.cls ≠ "java/lang/invoke/VarHandle")
    (hlen : ∀ sig, parseMethodDescriptor y'.desc = some sig → argsL.length = sig.parameters.length) {st₀ : List Value} (hst : st₀ = argsL.reverse ++ .ref a :: st) (hW : (st.map fun v => v.category).sum = W) (hf : rm.frames + 1 ≤ R.frames) (hlo : W + (m' + 11) + rm.locals ≤ R.locals) (hk : k + rm.cells ≤ R.cells) (hn : n + rm.slots ≤ R.slots) (hls : ls.length = ml)
    (G : ∀ w h', P w h' → Go wd K₀ l Z R y bytes ml ret n0 kc ks Q h' (k + rm.cells) (n + rm.slots) pc' ls (w :: st)) : Go wd K₀ l Z R y bytes ml ret n0 kc ks Q h k n pc ls st₀ := by
  subst hst
  intro p e s0 s m args below meth c T L Bs C X hh N
  obtain ⟨hd, rfl⟩ := D
  have hZ := C.2.2.2.2.1
  obtain ⟨cq, q1, q2⟩ := E.cell
  have wi' : (Cond.instantiable y'.cls kk).before args s = true := mvT hZ wi
  obtain ⟨c2, k2, i1, i2, -, i4, -⟩ := Cond.instantiable_spec wi'
  have hpa : s.PrivateAt y' := Cond.privateMethod_at (mvP hZ w5 (args := #[]))
  have w6 : (Cond.selects y'.cls y' y').before args s = true := selects_self_of_private i1 i2 (Bool.or_eq_false_iff.mp i4).1 hpa (mvT hZ w2) hy
  obtain ⟨v, vm₁, ⟨B, Lb, kb, nb⟩, -, X', ⟨Lq, ⟨⟨hQ, hsz⟩, Ns⟩, e1, e2, e3⟩, st'⟩ := X.privateBack C.1 (y := y') C.2.2.2.1 (mvT hZ w1) (mvT hZ w2) w6 hpa (mvT hZ w4) hy (backOf (W := W) (Q := fun v h' L => ((R1 P) v h' ∧ h.size ≤ h'.size) ∧ Fr n0 L) (hM []) hZ w4 w3 hf hlo) (g := mkF m pc ls.toArray (argsL.reverse ++ .ref a :: st)) rfl
    (by rw [C.2.2.1]; simpa using hls) (Steps.refl _) (a := a) (by rw [hh]; exact q1) q2 (argsL := argsL) (rest := st) hlen rfl (by show 2 * 0 + _ ≤ W; rw [← hW]; omega) (hb C.2.1 hd) (fun _ _ => ⟨rfl, hh, hk, hn⟩)
  dsimp only [Pt.U, Pt.locs, Pt.cells, Pt.slots] at X' hQ hsz e1 e2 e3 st'
  subst e1 e2 e3
  obtain ⟨w, rfl, hP⟩ := hQ
  exact (G w B.heap hP p e s0 s m args below meth c B _ (Bs.mono hsz) C X' rfl (N.app Ns)).pre (fun t q => st'.trans q)
theorem go_callS0 {y' : MethodName} {b' : ByteArray} {m' : Nat} {r' : Option FieldType} {rm : Room} {idx W : Nat} {argsL : List Value} {P : Heap → Prop} (D : Dc bytes pc (.invokestatic idx) 3 pc') (hM : Con false l Z y' b' m' r' rm argsL.toArray h n0 (R0 P))
    (w1 : (Cond.methodLink y.cls idx y').before a0 Z = true) (w2 : (Cond.static y').before a0 Z = true) (w3 : (Cond.initialized y'.cls).before a0 Z = true) (w4 : (Cond.code y' b' m' r').before a0 Z = true) (hy : y'.cls ≠ "java/lang/invoke/MethodHandle" ∧ y'.cls ≠ "java/lang/invoke/VarHandle")
    (hlen : ∀ sig, parseMethodDescriptor y'.desc = some sig → argsL.length = sig.parameters.length) {st₀ : List Value} (hst : st₀ = argsL.reverse ++ st) (hW : (st.map fun v => v.category).sum = W) (hf : rm.frames + 1 ≤ R.frames) (hlo : W + (m' + 11) + rm.locals ≤ R.locals) (hk : k + rm.cells ≤ R.cells) (hn : n + rm.slots ≤ R.slots) (hls : ls.length = ml)
    (G : ∀ h', P h' → Go wd K₀ l Z R y bytes ml ret n0 kc ks Q h' (k + rm.cells) (n + rm.slots) pc' ls st) : Go wd K₀ l Z R y bytes ml ret n0 kc ks Q h k n pc ls st₀ := by
  subst hst
  intro p e s0 s m args below meth c T L Bs C X hh N
  obtain ⟨hd, rfl⟩ := D
  have hZ := C.2.2.2.2.1
  obtain ⟨v, vm₁, ⟨B, Lb, kb, nb⟩, -, X', ⟨Lq, ⟨⟨hQ, hsz⟩, Ns⟩, e1, e2, e3⟩, st'⟩ := Jvm.LawKit.callS X C.1 (y := y') C.2.2.2.1 (mvT hZ w1) (mvT hZ w2) (mvT hZ w3) (mvT hZ w4) hy (backOf (W := W) (Q := fun v h' L => ((R0 P) v h' ∧ h.size ≤ h'.size) ∧ Fr n0 L) (hM []) hZ w4 w3 hf hlo) (g := mkF m pc ls.toArray (argsL.reverse ++ st)) rfl
    (by rw [C.2.2.1]; simpa using hls) (argsL := argsL) (rest := st) hlen rfl (by show 2 * 0 + _ ≤ W; rw [← hW]; omega) (hb C.2.1 hd) (fun _ _ => ⟨rfl, hh, hk, hn⟩)
  dsimp only [Pt.U, Pt.locs, Pt.cells, Pt.slots] at X' hQ hsz e1 e2 e3 st'
  subst e1 e2 e3
  obtain ⟨rfl, hP⟩ := hQ
  exact (G B.heap hP p e s0 s m args below meth c B _ (Bs.mono hsz) C X' rfl (N.app Ns)).pre st'
theorem go_callN0 {y' : MethodName} {b' : ByteArray} {m' : Nat} {r' : Option FieldType} {rm : Room} {idx W : Nat} {argsL : List Value} {P : Heap → Prop} {a : Addr} (D : Dc bytes pc (.invokespecial idx) 3 pc') (hi : y'.name = "<init>") (hr' : r' = none) (hM : Con false l Z y' b' m' r' rm (.ref a :: argsL).toArray h n0 (R0 P))
    (w1 : (Cond.methodLink y.cls idx y').before a0 Z = true) (w2 : (Cond.instanceMethod y').before a0 Z = true) (w3 : (Cond.initialized y'.cls).before a0 Z = true) (w4 : (Cond.code y' b' m' r').before a0 Z = true) (hy : y'.cls ≠ "java/lang/invoke/MethodHandle" ∧ y'.cls ≠ "java/lang/invoke/VarHandle")
    (hlen : ∀ sig, parseMethodDescriptor y'.desc = some sig → argsL.length = sig.parameters.length) {st₀ : List Value} (hst : st₀ = argsL.reverse ++ .ref a :: st) (hW : (st.map fun v => v.category).sum = W) (hf : rm.frames + 1 ≤ R.frames) (hlo : W + (m' + 11) + rm.locals ≤ R.locals) (hk : k + rm.cells ≤ R.cells) (hn : n + rm.slots ≤ R.slots) (hls : ls.length = ml)
    (G : ∀ h', P h' → Go wd K₀ l Z R y bytes ml ret n0 kc ks Q h' (k + rm.cells) (n + rm.slots) pc' ls st) : Go wd K₀ l Z R y bytes ml ret n0 kc ks Q h k n pc ls st₀ := by
  subst hst hr'
  intro p e s0 s m args below meth c T L Bs C X hh N
  obtain ⟨hd, rfl⟩ := D
  have hZ := C.2.2.2.2.1
  obtain ⟨v, vm₁, ⟨B, Lb, kb, nb⟩, -, X', ⟨Lq, ⟨⟨hQ, hsz⟩, Ns⟩, e1, e2, e3⟩, st'⟩ := X.specialBack C.1 (y := y') hi C.2.2.2.1 (mvT hZ w1) (mvT hZ w2) (mvT hZ w4) hy (backOf (W := W) (Q := fun v h' L => ((R0 P) v h' ∧ h.size ≤ h'.size) ∧ Fr n0 L) (hM []) hZ w4 w3 hf hlo) (g := mkF m pc ls.toArray (argsL.reverse ++ .ref a :: st)) rfl
    (by rw [C.2.2.1]; simpa using hls) (Steps.refl _) (a := a) (argsL := argsL) (rest := st) hlen rfl (by show 2 * 0 + _ ≤ W; rw [← hW]; omega) (hb C.2.1 hd) (fun _ _ => ⟨rfl, hh, hk, hn⟩)
  dsimp only [Pt.U, Pt.locs, Pt.cells, Pt.slots] at X' hQ hsz e1 e2 e3 st'
  subst e1 e2 e3
  obtain ⟨rfl, hP⟩ := hQ
  exact (G B.heap hP p e s0 s m args below meth c B _ (Bs.mono hsz) C X' rfl (N.app Ns)).pre (fun t q => st'.trans q)
theorem go_callV0 {y' : MethodName} {b' : ByteArray} {m' : Nat} {r' : Option FieldType} {rm : Room} {idx W : Nat} {argsL : List Value} {P : Heap → Prop} {x' : MethodName} {K : String} {a : Addr} (D : Dc bytes pc (.invokevirtual idx) 3 pc') (hM : Con false l Z y' b' m' r' rm (.ref a :: argsL).toArray h n0 (R0 P)) (E : Exa Z h a K)
    (w1 : (Cond.methodLink y.cls idx x').before a0 Z = true) (w5 : (Cond.declares x').before a0 Z = true) (nf : ∀ s : State, Z.Warmed39 s.vm → NotFace s x') (w6 : (Cond.selects K x' y').before a0 Z = true) (w2 : (Cond.instanceMethod y').before a0 Z = true) (w3 : (Cond.initialized y'.cls).before a0 Z = true) (w4 : (Cond.code y' b' m' r').before a0 Z = true)
    (hy : x'.cls ≠ "java/lang/invoke/MethodHandle" ∧ x'.cls ≠ "java/lang/invoke/VarHandle") (hlen : ∀ sig, parseMethodDescriptor x'.desc = some sig → argsL.length = sig.parameters.length) {st₀ : List Value} (hst : st₀ = argsL.reverse ++ .ref a :: st) (hW : (st.map fun v => v.category).sum = W) (hf : rm.frames + 1 ≤ R.frames) (hlo : W + (m' + 11) + rm.locals ≤ R.locals) (hk : k + rm.cells ≤ R.cells) (hn : n + rm.slots ≤ R.slots) (hls : ls.length = ml)
    (G : ∀ h', P h' → Go wd K₀ l Z R y bytes ml ret n0 kc ks Q h' (k + rm.cells) (n + rm.slots) pc' ls st) : Go wd K₀ l Z R y bytes ml ret n0 kc ks Q h k n pc ls st₀ := by
  subst hst
  intro p e s0 s m args below meth c T L Bs C X hh N
  obtain ⟨hd, rfl⟩ := D
  have hZ := C.2.2.2.2.1
  obtain ⟨cq, kq, qa, qb, qc⟩ := isOf (T := T) hZ hh E
  obtain ⟨v, vm₁, ⟨B, Lb, kb, nb⟩, -, X', ⟨Lq, ⟨⟨hQ, hsz⟩, Ns⟩, e1, e2, e3⟩, st'⟩ := X.virtualBack C.1 (y := x') (z := y') C.2.2.2.1 (mvT hZ w1) (mvT hZ w5) (nf s hZ) (mvT hZ w6) (mvT hZ w2) hy (backOf (W := W) (Q := fun v h' L => ((R0 P) v h' ∧ h.size ≤ h'.size) ∧ Fr n0 L) (hM []) hZ w4 w3 hf hlo) qa qc (g := mkF m pc ls.toArray (argsL.reverse ++ .ref a :: st)) rfl
    (by rw [C.2.2.1]; simpa using hls) (Steps.refl _) (argsL := argsL) (rest := st) hlen rfl (by show 2 * 0 + _ ≤ W; rw [← hW]; omega) (hb C.2.1 hd) (fun _ _ => ⟨rfl, hh, hk, hn⟩)
  dsimp only [Pt.U, Pt.locs, Pt.cells, Pt.slots] at X' hQ hsz e1 e2 e3 st'
  subst e1 e2 e3
  obtain ⟨rfl, hP⟩ := hQ
  exact (G B.heap hP p e s0 s m args below meth c B _ (Bs.mono hsz) C X' rfl (N.app Ns)).pre (fun t q => st'.trans q)
theorem go_callP0 {y' : MethodName} {b' : ByteArray} {m' : Nat} {r' : Option FieldType} {rm : Room} {idx W : Nat} {argsL : List Value} {P : Heap → Prop} {K : String} {a : Addr} (D : Dc bytes pc (.invokevirtual idx) 3 pc') (hM : Con false l Z y' b' m' r' rm (.ref a :: argsL).toArray h n0 (R0 P)) (E : Exa Z h a K)
    (w1 : (Cond.methodLink y.cls idx y').before a0 Z = true) (w2 : (Cond.instanceMethod y').before a0 Z = true) {kk : Nat} (wi : (Cond.instantiable y'.cls kk).before a0 Z = true) (w5 : (Cond.privateMethod y').before a0 Z = true) (w3 : (Cond.initialized y'.cls).before a0 Z = true) (w4 : (Cond.code y' b' m' r').before a0 Z = true) (hy : y'.cls ≠ "java/lang/invoke/MethodHandle" ∧ y'.cls ≠ "java/lang/invoke/VarHandle")
    (hlen : ∀ sig, parseMethodDescriptor y'.desc = some sig → argsL.length = sig.parameters.length) {st₀ : List Value} (hst : st₀ = argsL.reverse ++ .ref a :: st) (hW : (st.map fun v => v.category).sum = W) (hf : rm.frames + 1 ≤ R.frames) (hlo : W + (m' + 11) + rm.locals ≤ R.locals) (hk : k + rm.cells ≤ R.cells) (hn : n + rm.slots ≤ R.slots) (hls : ls.length = ml)
    (G : ∀ h', P h' → Go wd K₀ l Z R y bytes ml ret n0 kc ks Q h' (k + rm.cells) (n + rm.slots) pc' ls st) : Go wd K₀ l Z R y bytes ml ret n0 kc ks Q h k n pc ls st₀ := by
  subst hst
  intro p e s0 s m args below meth c T L Bs C X hh N
  obtain ⟨hd, rfl⟩ := D
  have hZ := C.2.2.2.2.1
  obtain ⟨cq, q1, q2⟩ := E.cell
  have wi' : (Cond.instantiable y'.cls kk).before args s = true := mvT hZ wi
  obtain ⟨c2, k2, i1, i2, -, i4, -⟩ := Cond.instantiable_spec wi'
  have hpa : s.PrivateAt y' := Cond.privateMethod_at (mvP hZ w5 (args := #[]))
  have w6 : (Cond.selects y'.cls y' y').before args s = true := selects_self_of_private i1 i2 (Bool.or_eq_false_iff.mp i4).1 hpa (mvT hZ w2) hy
  obtain ⟨v, vm₁, ⟨B, Lb, kb, nb⟩, -, X', ⟨Lq, ⟨⟨hQ, hsz⟩, Ns⟩, e1, e2, e3⟩, st'⟩ := X.privateBack C.1 (y := y') C.2.2.2.1 (mvT hZ w1) (mvT hZ w2) w6 hpa (mvT hZ w4) hy (backOf (W := W) (Q := fun v h' L => ((R0 P) v h' ∧ h.size ≤ h'.size) ∧ Fr n0 L) (hM []) hZ w4 w3 hf hlo) (g := mkF m pc ls.toArray (argsL.reverse ++ .ref a :: st)) rfl
    (by rw [C.2.2.1]; simpa using hls) (Steps.refl _) (a := a) (by rw [hh]; exact q1) q2 (argsL := argsL) (rest := st) hlen rfl (by show 2 * 0 + _ ≤ W; rw [← hW]; omega) (hb C.2.1 hd) (fun _ _ => ⟨rfl, hh, hk, hn⟩)
  dsimp only [Pt.U, Pt.locs, Pt.cells, Pt.slots] at X' hQ hsz e1 e2 e3 st'
  subst e1 e2 e3
  obtain ⟨rfl, hP⟩ := hQ
  exact (G B.heap hP p e s0 s m args below meth c B _ (Bs.mono hsz) C X' rfl (N.app Ns)).pre (fun t q => st'.trans q)
theorem Base.since {s0 s : State} {vm' : Vm} {h' : Heap} (B : Base true s0 s h) (q : s.Since vm' h'.size) (g : h.size ≤ h'.size) : Base true s0 (s.setVm vm') h' := by
  obtain ⟨vm0, k0, rfl, hS, hk⟩ := B
  exact ⟨vm', h'.size, rfl, hS.trans q (Nat.le_trans hk g), Nat.le_refl _⟩
theorem Ctx.since {p : Program} {s : State} {m : MethodId} {meth : Method} {c : Code} {vm' : Vm} {k' : Nat} (C : Ctx K₀ Z y bytes ml ret p s m meth c) (q : s.Since vm' k') : Ctx KT Z y bytes ml ret p (s.setVm vm') m meth c :=
  ⟨C.1, C.2.1, C.2.2.1, by rw [show (s.setVm vm').vm = vm' from rfl, q.1.alike.findClass]; exact C.2.2.2.1, State.Warmed39.trans C.2.2.2.2.1 q.1, C.2.2.2.2.2.1, C.2.2.2.2.2.2.1, C.2.2.2.2.2.2.2.1, trivial⟩
theorem go_ldcS {idx nn : Nat} {text : String} (D : Dc bytes pc (.ldc idx) 2 pc') (w : (Cond.stringLink y.cls idx text).before a0 Z = true) (wS : ∀ a ∈ Bundle.stringAtoms, a.before a0 Z = true) (hn : 4 * text.toList.length ≤ nn) (hbig : nn ≤ 536870912) (hc : k + 2 ≤ R.cells) (hl : n + (nn + 4) ≤ R.slots)
    (G : ∀ (a : Addr) h', Ext h h' → Go true KT l Z R y bytes ml ret n0 kc ks Q h' (k + 2) (n + (nn + 4)) pc' ls (.ref a :: st)) : Go true K₀ l Z R y bytes ml ret n0 kc ks Q h k n pc ls st := by
  intro p e s0 s m args below meth c T L Bs C X hh N
  obtain ⟨hd, rfl⟩ := D
  obtain ⟨vm0, k0, rfl, hS, hk⟩ := Bs
  obtain ⟨a, T', h', k1, X', e', E, hS', hk', hZ', hf', st'⟩ := ldcS X C.1 C.2.2.2.2.1 C.2.2.2.1 w wS hh hS hk (g := mkF m pc ls.toArray st) rfl (hb C.2.1 hd) hn hbig hc hl
  exact (G a h' E p e s0 _ m args below meth c T' L ⟨_, k1, rfl, hS', hk'⟩ ⟨C.1, C.2.1, C.2.2.1, hf', hZ', C.2.2.2.2.2.1, C.2.2.2.2.2.2.1, C.2.2.2.2.2.2.2.1, trivial⟩ X' e' N).pre st'
theorem go_K (G : Go true KT l Z R y bytes ml ret n0 kc ks Q h k n pc ls st) : Go true K₀ l Z R y bytes ml ret n0 kc ks Q h k n pc ls st := fun p e s0 s m args below meth c T L B C X hh N => G p e s0 s m args below meth c T L B ⟨C.1, C.2.1, C.2.2.1, C.2.2.2.1, C.2.2.2.2.1, C.2.2.2.2.2.1, C.2.2.2.2.2.2.1, C.2.2.2.2.2.2.2.1, trivial⟩ X hh N
theorem go_ldcV {idx nn : Nat} {text : String} {vs : List Value} {z : Int32} (D : Dc bytes pc (.ldc idx) 2 pc') (w : (Cond.stringLink y.cls idx text).before a0 Z = true) (wS : ∀ a ∈ Bundle.stringAtoms, a.before a0 Z = true) (hld : Jvm.Lit.constHeld Z y.cls idx) (hcw : Jvm.Lit.compactW.before a0 Z = true)
    (ht : (∀ c ∈ text.toList, c.toNat < 256) ∧ text.toList.map (fun c => Value.int (Jvm.Lit.byteI c.toNat.toUInt16)) = vs) (hz : ¬ z < 0) (hlv : z.toNatClampNeg = vs.length) (hn : 4 * text.toList.length ≤ nn) (hbig : nn ≤ 536870912) (hc : k + 2 ≤ R.cells) (hl : n + (nn + 4) ≤ R.slots) (hn0 : Z.heap.size = n0)
    (G : ∀ (a b : Addr) (kb : ClassId) h', Ext h h' → Exa Z h' a "java/lang/String" → Fld Z h' a "java/lang/String" "coder" "B" (.int 0) → Fld Z h' a "java/lang/String" "value" "[B" (.ref b) → Arv Z h' b kb .byte z vs (.int 0) → Go true KT l Z R y bytes ml ret n0 kc ks Q h' (k + 2) (n + (nn + 4)) pc' ls (.ref a :: st)) : Go true (fun s => s = Z) l Z R y bytes ml ret n0 kc ks Q h k n pc ls st := by
  intro p e s0 s m args below meth c T L Bs C X hh N
  obtain ⟨hd, rfl⟩ := D
  obtain ⟨vm0, k0, rfl, hS, hk⟩ := Bs
  have hZs : s0.setVm vm0 = Z := C.2.2.2.2.2.2.2.2
  subst hZs
  obtain ⟨a, T', h', k1, b, kb, X', e', E, hS', hk', hZ', hf', F1, F2, F3, F4, -, -, -, -, st'⟩ := ldcSVL (Z := s0.setVm vm0) (s := s0) (vm0 := vm0) (Ts := []) X C.1 C.2.2.2.2.1 C.2.2.2.1 w wS hh hS hk (hn0 ▸ N) (fun _ _ q => q) IB.start (by simp) hld hcw ht hz hlv (g := mkF m pc ls.toArray st) rfl (hb C.2.1 hd) hn hbig hc hl
  exact (G a b kb h' E F1 F2 F3 F4 p e s0 _ m args below meth c T' L ⟨_, k1, rfl, hS', hk'⟩ ⟨C.1, C.2.1, C.2.2.1, hf', hZ', C.2.2.2.2.2.1, C.2.2.2.2.2.2.1, C.2.2.2.2.2.2.2.1, trivial⟩ X' e' N).pre st'
theorem con_ofZ {as' : Array Value} (hp : plainFor y = true) (he : Jvm.Sym.laidSlots as'.toList ++ List.replicate (ml - (Jvm.Sym.laidSlots as'.toList).length) .unset = ls) (G : Go wd (fun s => s = Z) l Z R y bytes ml ret n0 R.cells R.slots Q Z.heap 0 0 0 ls []) (ws : List Cond) :
    MetFree l y (head1 (Cond.code y bytes ml ret :: ws) R) (fun a U => a = as' ∧ U = Z) (fun _ _ _ _ _ => True) (fun _ U o U' => ∃ v L, o = .returned v ∧ ((Q v U'.heap ∧ Z.heap.size ≤ U'.heap.size) ∧ Fr n0 L) ∧ EndK wd U o U' L R.cells R.slots) := by
  refine MetFree.of_bodySF hp hisR ?_
  intro p e s m args below meth c s₁ Bd hml hP hK
  obtain ⟨rfl, hZ⟩ := hP
  subst hZ
  have X0 : Stand p l e R s m args below meth c s₁ [] 0 0 := Stand.of_body Bd
  have e0 : s₁.heap = s.heap := by rw [Bd.state]; rfl
  obtain ⟨s₂, o, h1, h2, h3, v, L, e1, ⟨q1, q2⟩, q3⟩ := G p e s s m args below meth c s₁ [] (Base.start s rfl) ⟨Bd.exec, Bd.bytes, hml, findClass_of_methodNamed Bd.named, State.Warmed39.refl s, Bd.returns, Bd.notSynchronized, (name_of_methodNamed Bd.named Bd.method).1, rfl⟩ X0 e0 (Fr.nil n0)
  exact ⟨s₂, o, (XT.entry (Ls := ls.toArray) (by simpa using he)).trans h1, h2, h3, v, L, e1, ⟨⟨q1, q3.size⟩, q2⟩, q3⟩
theorem go_cast {idx : Nat} {C0 : String} {a : Addr} (D : Dc bytes pc (.checkcast idx) 3 pc') (w : (Cond.classLink y.cls idx C0).before a0 Z = true) (F : Ins Z h a C0 true) (G : Go wd K₀ l Z R y bytes ml ret n0 kc ks Q h k n pc' ls (.ref a :: st)) : Go wd K₀ l Z R y bytes ml ret n0 kc ks Q h k n pc ls (.ref a :: st) := by
  intro p e s0 s m args below meth c T L Bs C X hh N
  obtain ⟨hd, rfl⟩ := D
  obtain ⟨T', X', e', st'⟩ := castY X C.1 C.2.2.2.2.1 C.2.2.2.1 w hh F (g := mkF m pc ls.toArray (.ref a :: st)) rfl rfl (hb C.2.1 hd)
  exact (G p e s0 s m args below meth c T' L Bs C X' e' N).pre st'
theorem go_inst {idx : Nat} {C0 : String} {a : Addr} (D : Dc bytes pc (.instanceof idx) 3 pc') (w : (Cond.classLink y.cls idx C0).before a0 Z = true) (F : Ins Z h a C0 true) (G : Go wd K₀ l Z R y bytes ml ret n0 kc ks Q h k n pc' ls (.int 1 :: st)) : Go wd K₀ l Z R y bytes ml ret n0 kc ks Q h k n pc ls (.ref a :: st) := by
  intro p e s0 s m args below meth c T L Bs C X hh N
  obtain ⟨hd, rfl⟩ := D
  obtain ⟨T', X', e', st'⟩ := instY X C.1 C.2.2.2.2.1 C.2.2.2.1 w hh F (g := mkF m pc ls.toArray (.ref a :: st)) rfl rfl (hb C.2.1 hd)
  exact (G p e s0 s m args below meth c T' L Bs C X' e' N).pre st'
theorem go_wcallS1 {y' : MethodName} {b' : ByteArray} {m' : Nat} {r' : Option FieldType} {rm : Room} {idx W : Nat} {argsL : List Value} {P : Value → Heap → Prop} (D : Dc bytes pc (.invokestatic idx) 3 pc') (hM : Con true l Z y' b' m' r' rm argsL.toArray h n0 (R1 P))
    (w1 : (Cond.methodLink y.cls idx y').before a0 Z = true) (w2 : (Cond.static y').before a0 Z = true) (w3 : (Cond.initialized y'.cls).before a0 Z = true) (w4 : (Cond.code y' b' m' r').before a0 Z = true) (hy : y'.cls ≠ "java/lang/invoke/MethodHandle" ∧ y'.cls ≠ "java/lang/invoke/VarHandle")
    (hlen : ∀ sig, parseMethodDescriptor y'.desc = some sig → argsL.length = sig.parameters.length) {st₀ : List Value} (hst : st₀ = argsL.reverse ++ st) (hW : (st.map fun v => v.category).sum = W) (hf : rm.frames + 1 ≤ R.frames) (hlo : W + (m' + 11) + rm.locals ≤ R.locals) (hk : k + rm.cells ≤ R.cells) (hn : n + rm.slots ≤ R.slots) (hls : ls.length = ml)
    (G : ∀ w h', P w h' → Go true KT l Z R y bytes ml ret n0 kc ks Q h' (k + rm.cells) (n + rm.slots) pc' ls (w :: st)) : Go true K₀ l Z R y bytes ml ret n0 kc ks Q h k n pc ls st₀ := by
  subst hst
  intro p e s0 s m args below meth c T L Bs C X hh N
  obtain ⟨hd, rfl⟩ := D
  have hZ := C.2.2.2.2.1
  obtain ⟨v, vm₁, ⟨B, Lb, kb, nb⟩, -, X', hSi, -, ⟨Lq, ⟨⟨hQ, hsz⟩, Ns⟩, e1, e2, e3⟩, st'⟩ := callSS X C.1 (y := y') C.2.2.2.1 (mvT hZ w1) (mvT hZ w2) (mvT hZ w3) (mvT hZ w4) hy (backOfS (W := W) (Q := fun v h' L => ((R1 P) v h' ∧ h.size ≤ h'.size) ∧ Fr n0 L) (hM []) hZ w4 w3 hf hlo) (g := mkF m pc ls.toArray (argsL.reverse ++ st)) rfl
    (by rw [C.2.2.1]; simpa using hls) (argsL := argsL) (rest := st) hlen rfl (by show 2 * 0 + _ ≤ W; rw [← hW]; omega) (hb C.2.1 hd) (fun _ _ => ⟨rfl, hh, hk, hn⟩)
  dsimp only [Pt.U, Pt.locs, Pt.cells, Pt.slots] at X' hSi hQ hsz e1 e2 e3 st'
  subst e1 e2 e3
  obtain ⟨w, rfl, hP⟩ := hQ
  exact (G w B.heap hP p e s0 _ m args below meth c B _ (Bs.since hSi hsz) (C.since hSi) X' rfl (N.app Ns)).pre (fun t q => st'.trans q)
theorem go_wcallV1 {y' : MethodName} {b' : ByteArray} {m' : Nat} {r' : Option FieldType} {rm : Room} {idx W : Nat} {argsL : List Value} {P : Value → Heap → Prop} {x' : MethodName} {K : String} {a : Addr} (D : Dc bytes pc (.invokevirtual idx) 3 pc') (hM : Con true l Z y' b' m' r' rm (.ref a :: argsL).toArray h n0 (R1 P)) (E : Exa Z h a K)
    (w1 : (Cond.methodLink y.cls idx x').before a0 Z = true) (w5 : (Cond.declares x').before a0 Z = true) (nf : ∀ s : State, Z.Warmed39 s.vm → NotFace s x') (w6 : (Cond.selects K x' y').before a0 Z = true) (w2 : (Cond.instanceMethod y').before a0 Z = true) (w3 : (Cond.initialized y'.cls).before a0 Z = true) (w4 : (Cond.code y' b' m' r').before a0 Z = true)
    (hy : x'.cls ≠ "java/lang/invoke/MethodHandle" ∧ x'.cls ≠ "java/lang/invoke/VarHandle") (hlen : ∀ sig, parseMethodDescriptor x'.desc = some sig → argsL.length = sig.parameters.length) {st₀ : List Value} (hst : st₀ = argsL.reverse ++ .ref a :: st) (hW : (st.map fun v => v.category).sum = W) (hf : rm.frames + 1 ≤ R.frames) (hlo : W + (m' + 11) + rm.locals ≤ R.locals) (hk : k + rm.cells ≤ R.cells) (hn : n + rm.slots ≤ R.slots) (hls : ls.length = ml)
    (G : ∀ w h', P w h' → Go true KT l Z R y bytes ml ret n0 kc ks Q h' (k + rm.cells) (n + rm.slots) pc' ls (w :: st)) : Go true K₀ l Z R y bytes ml ret n0 kc ks Q h k n pc ls st₀ := by
  subst hst
  intro p e s0 s m args below meth c T L Bs C X hh N
  obtain ⟨hd, rfl⟩ := D
  have hZ := C.2.2.2.2.1
  obtain ⟨cq, kq, qa, qb, qc⟩ := isOf (T := T) hZ hh E
  obtain ⟨v, vm₁, ⟨B, Lb, kb, nb⟩, -, X', hSi, -, ⟨Lq, ⟨⟨hQ, hsz⟩, Ns⟩, e1, e2, e3⟩, st'⟩ := X.virtualBackS C.1 (y := x') (z := y') C.2.2.2.1 (mvT hZ w1) (mvT hZ w5) (nf s hZ) (mvT hZ w6) (mvT hZ w2) hy (backOfS (W := W) (Q := fun v h' L => ((R1 P) v h' ∧ h.size ≤ h'.size) ∧ Fr n0 L) (hM []) hZ w4 w3 hf hlo) qa qc (g := mkF m pc ls.toArray (argsL.reverse ++ .ref a :: st)) rfl
    (by rw [C.2.2.1]; simpa using hls) (Steps.refl _) (argsL := argsL) (rest := st) hlen rfl (by show 2 * 0 + _ ≤ W; rw [← hW]; omega) (hb C.2.1 hd) (fun _ _ => ⟨rfl, hh, hk, hn⟩)
  dsimp only [Pt.U, Pt.locs, Pt.cells, Pt.slots] at X' hSi hQ hsz e1 e2 e3 st'
  subst e1 e2 e3
  obtain ⟨w, rfl, hP⟩ := hQ
  exact (G w B.heap hP p e s0 _ m args below meth c B _ (Bs.since hSi hsz) (C.since hSi) X' rfl (N.app Ns)).pre (fun t q => st'.trans q)
theorem go_wcallP1 {y' : MethodName} {b' : ByteArray} {m' : Nat} {r' : Option FieldType} {rm : Room} {idx W : Nat} {argsL : List Value} {P : Value → Heap → Prop} {K : String} {a : Addr} (D : Dc bytes pc (.invokevirtual idx) 3 pc') (hM : Con true l Z y' b' m' r' rm (.ref a :: argsL).toArray h n0 (R1 P)) (E : Exa Z h a K)
    (w1 : (Cond.methodLink y.cls idx y').before a0 Z = true) (w2 : (Cond.instanceMethod y').before a0 Z = true) {kk : Nat} (wi : (Cond.instantiable y'.cls kk).before a0 Z = true) (w5 : (Cond.privateMethod y').before a0 Z = true) (w3 : (Cond.initialized y'.cls).before a0 Z = true) (w4 : (Cond.code y' b' m' r').before a0 Z = true) (hy : y'.cls ≠ "java/lang/invoke/MethodHandle" ∧ y'.cls ≠ "java/lang/invoke/VarHandle")
    (hlen : ∀ sig, parseMethodDescriptor y'.desc = some sig → argsL.length = sig.parameters.length) {st₀ : List Value} (hst : st₀ = argsL.reverse ++ .ref a :: st) (hW : (st.map fun v => v.category).sum = W) (hf : rm.frames + 1 ≤ R.frames) (hlo : W + (m' + 11) + rm.locals ≤ R.locals) (hk : k + rm.cells ≤ R.cells) (hn : n + rm.slots ≤ R.slots) (hls : ls.length = ml)
    (G : ∀ w h', P w h' → Go true KT l Z R y bytes ml ret n0 kc ks Q h' (k + rm.cells) (n + rm.slots) pc' ls (w :: st)) : Go true K₀ l Z R y bytes ml ret n0 kc ks Q h k n pc ls st₀ := by
  subst hst
  intro p e s0 s m args below meth c T L Bs C X hh N
  obtain ⟨hd, rfl⟩ := D
  have hZ := C.2.2.2.2.1
  obtain ⟨cq, q1, q2⟩ := E.cell
  have wi' : (Cond.instantiable y'.cls kk).before args s = true := mvT hZ wi
  obtain ⟨c2, k2, i1, i2, -, i4, -⟩ := Cond.instantiable_spec wi'
  have hpa : s.PrivateAt y' := Cond.privateMethod_at (mvP hZ w5 (args := #[]))
  have w6 : (Cond.selects y'.cls y' y').before args s = true := selects_self_of_private i1 i2 (Bool.or_eq_false_iff.mp i4).1 hpa (mvT hZ w2) hy
  obtain ⟨v, vm₁, ⟨B, Lb, kb, nb⟩, -, X', hSi, -, ⟨Lq, ⟨⟨hQ, hsz⟩, Ns⟩, e1, e2, e3⟩, st'⟩ := X.privateBackS C.1 (y := y') C.2.2.2.1 (mvT hZ w1) (mvT hZ w2) w6 hpa (mvT hZ w4) hy (backOfS (W := W) (Q := fun v h' L => ((R1 P) v h' ∧ h.size ≤ h'.size) ∧ Fr n0 L) (hM []) hZ w4 w3 hf hlo) (g := mkF m pc ls.toArray (argsL.reverse ++ .ref a :: st)) rfl
    (by rw [C.2.2.1]; simpa using hls) (Steps.refl _) (a := a) (by rw [hh]; exact q1) q2 (argsL := argsL) (rest := st) hlen rfl (by show 2 * 0 + _ ≤ W; rw [← hW]; omega) (hb C.2.1 hd) (fun _ _ => ⟨rfl, hh, hk, hn⟩)
  dsimp only [Pt.U, Pt.locs, Pt.cells, Pt.slots] at X' hSi hQ hsz e1 e2 e3 st'
  subst e1 e2 e3
  obtain ⟨w, rfl, hP⟩ := hQ
  exact (G w B.heap hP p e s0 _ m args below meth c B _ (Bs.since hSi hsz) (C.since hSi) X' rfl (N.app Ns)).pre (fun t q => st'.trans q)
theorem go_wcallS0 {y' : MethodName} {b' : ByteArray} {m' : Nat} {r' : Option FieldType} {rm : Room} {idx W : Nat} {argsL : List Value} {P : Heap → Prop} (D : Dc bytes pc (.invokestatic idx) 3 pc') (hM : Con true l Z y' b' m' r' rm argsL.toArray h n0 (R0 P))
    (w1 : (Cond.methodLink y.cls idx y').before a0 Z = true) (w2 : (Cond.static y').before a0 Z = true) (w3 : (Cond.initialized y'.cls).before a0 Z = true) (w4 : (Cond.code y' b' m' r').before a0 Z = true) (hy : y'.cls ≠ "java/lang/invoke/MethodHandle" ∧ y'.cls ≠ "java/lang/invoke/VarHandle")
    (hlen : ∀ sig, parseMethodDescriptor y'.desc = some sig → argsL.length = sig.parameters.length) {st₀ : List Value} (hst : st₀ = argsL.reverse ++ st) (hW : (st.map fun v => v.category).sum = W) (hf : rm.frames + 1 ≤ R.frames) (hlo : W + (m' + 11) + rm.locals ≤ R.locals) (hk : k + rm.cells ≤ R.cells) (hn : n + rm.slots ≤ R.slots) (hls : ls.length = ml)
    (G : ∀ h', P h' → Go true KT l Z R y bytes ml ret n0 kc ks Q h' (k + rm.cells) (n + rm.slots) pc' ls st) : Go true K₀ l Z R y bytes ml ret n0 kc ks Q h k n pc ls st₀ := by
  subst hst
  intro p e s0 s m args below meth c T L Bs C X hh N
  obtain ⟨hd, rfl⟩ := D
  have hZ := C.2.2.2.2.1
  obtain ⟨v, vm₁, ⟨B, Lb, kb, nb⟩, -, X', hSi, -, ⟨Lq, ⟨⟨hQ, hsz⟩, Ns⟩, e1, e2, e3⟩, st'⟩ := callSS X C.1 (y := y') C.2.2.2.1 (mvT hZ w1) (mvT hZ w2) (mvT hZ w3) (mvT hZ w4) hy (backOfS (W := W) (Q := fun v h' L => ((R0 P) v h' ∧ h.size ≤ h'.size) ∧ Fr n0 L) (hM []) hZ w4 w3 hf hlo) (g := mkF m pc ls.toArray (argsL.reverse ++ st)) rfl
    (by rw [C.2.2.1]; simpa using hls) (argsL := argsL) (rest := st) hlen rfl (by show 2 * 0 + _ ≤ W; rw [← hW]; omega) (hb C.2.1 hd) (fun _ _ => ⟨rfl, hh, hk, hn⟩)
  dsimp only [Pt.U, Pt.locs, Pt.cells, Pt.slots] at X' hSi hQ hsz e1 e2 e3 st'
  subst e1 e2 e3
  obtain ⟨rfl, hP⟩ := hQ
  exact (G B.heap hP p e s0 _ m args below meth c B _ (Bs.since hSi hsz) (C.since hSi) X' rfl (N.app Ns)).pre (fun t q => st'.trans q)
theorem go_wcallN0 {y' : MethodName} {b' : ByteArray} {m' : Nat} {r' : Option FieldType} {rm : Room} {idx W : Nat} {argsL : List Value} {P : Heap → Prop} {a : Addr} (D : Dc bytes pc (.invokespecial idx) 3 pc') (hi : y'.name = "<init>") (hr' : r' = none) (hM : Con true l Z y' b' m' r' rm (.ref a :: argsL).toArray h n0 (R0 P))
    (w1 : (Cond.methodLink y.cls idx y').before a0 Z = true) (w2 : (Cond.instanceMethod y').before a0 Z = true) (w3 : (Cond.initialized y'.cls).before a0 Z = true) (w4 : (Cond.code y' b' m' r').before a0 Z = true) (hy : y'.cls ≠ "java/lang/invoke/MethodHandle" ∧ y'.cls ≠ "java/lang/invoke/VarHandle")
    (hlen : ∀ sig, parseMethodDescriptor y'.desc = some sig → argsL.length = sig.parameters.length) {st₀ : List Value} (hst : st₀ = argsL.reverse ++ .ref a :: st) (hW : (st.map fun v => v.category).sum = W) (hf : rm.frames + 1 ≤ R.frames) (hlo : W + (m' + 11) + rm.locals ≤ R.locals) (hk : k + rm.cells ≤ R.cells) (hn : n + rm.slots ≤ R.slots) (hls : ls.length = ml)
    (G : ∀ h', P h' → Go true KT l Z R y bytes ml ret n0 kc ks Q h' (k + rm.cells) (n + rm.slots) pc' ls st) : Go true K₀ l Z R y bytes ml ret n0 kc ks Q h k n pc ls st₀ := by
  subst hst hr'
  intro p e s0 s m args below meth c T L Bs C X hh N
  obtain ⟨hd, rfl⟩ := D
  have hZ := C.2.2.2.2.1
  obtain ⟨v, vm₁, ⟨B, Lb, kb, nb⟩, -, X', hSi, -, ⟨Lq, ⟨⟨hQ, hsz⟩, Ns⟩, e1, e2, e3⟩, st'⟩ := X.specialBackS C.1 (y := y') hi C.2.2.2.1 (mvT hZ w1) (mvT hZ w2) (mvT hZ w4) hy (backOfS (W := W) (Q := fun v h' L => ((R0 P) v h' ∧ h.size ≤ h'.size) ∧ Fr n0 L) (hM []) hZ w4 w3 hf hlo) (g := mkF m pc ls.toArray (argsL.reverse ++ .ref a :: st)) rfl
    (by rw [C.2.2.1]; simpa using hls) (Steps.refl _) (a := a) (argsL := argsL) (rest := st) hlen rfl (by show 2 * 0 + _ ≤ W; rw [← hW]; omega) (hb C.2.1 hd) (fun _ _ => ⟨rfl, hh, hk, hn⟩)
  dsimp only [Pt.U, Pt.locs, Pt.cells, Pt.slots] at X' hSi hQ hsz e1 e2 e3 st'
  subst e1 e2 e3
  obtain ⟨rfl, hP⟩ := hQ
  exact (G B.heap hP p e s0 _ m args below meth c B _ (Bs.since hSi hsz) (C.since hSi) X' rfl (N.app Ns)).pre (fun t q => st'.trans q)
theorem go_wcallV0 {y' : MethodName} {b' : ByteArray} {m' : Nat} {r' : Option FieldType} {rm : Room} {idx W : Nat} {argsL : List Value} {P : Heap → Prop} {x' : MethodName} {K : String} {a : Addr} (D : Dc bytes pc (.invokevirtual idx) 3 pc') (hM : Con true l Z y' b' m' r' rm (.ref a :: argsL).toArray h n0 (R0 P)) (E : Exa Z h a K)
    (w1 : (Cond.methodLink y.cls idx x').before a0 Z = true) (w5 : (Cond.declares x').before a0 Z = true) (nf : ∀ s : State, Z.Warmed39 s.vm → NotFace s x') (w6 : (Cond.selects K x' y').before a0 Z = true) (w2 : (Cond.instanceMethod y').before a0 Z = true) (w3 : (Cond.initialized y'.cls).before a0 Z = true) (w4 : (Cond.code y' b' m' r').before a0 Z = true)
    (hy : x'.cls ≠ "java/lang/invoke/MethodHandle" ∧ x'.cls ≠ "java/lang/invoke/VarHandle") (hlen : ∀ sig, parseMethodDescriptor x'.desc = some sig → argsL.length = sig.parameters.length) {st₀ : List Value} (hst : st₀ = argsL.reverse ++ .ref a :: st) (hW : (st.map fun v => v.category).sum = W) (hf : rm.frames + 1 ≤ R.frames) (hlo : W + (m' + 11) + rm.locals ≤ R.locals) (hk : k + rm.cells ≤ R.cells) (hn : n + rm.slots ≤ R.slots) (hls : ls.length = ml)
    (G : ∀ h', P h' → Go true KT l Z R y bytes ml ret n0 kc ks Q h' (k + rm.cells) (n + rm.slots) pc' ls st) : Go true K₀ l Z R y bytes ml ret n0 kc ks Q h k n pc ls st₀ := by
  subst hst
  intro p e s0 s m args below meth c T L Bs C X hh N
  obtain ⟨hd, rfl⟩ := D
  have hZ := C.2.2.2.2.1
  obtain ⟨cq, kq, qa, qb, qc⟩ := isOf (T := T) hZ hh E
  obtain ⟨v, vm₁, ⟨B, Lb, kb, nb⟩, -, X', hSi, -, ⟨Lq, ⟨⟨hQ, hsz⟩, Ns⟩, e1, e2, e3⟩, st'⟩ := X.virtualBackS C.1 (y := x') (z := y') C.2.2.2.1 (mvT hZ w1) (mvT hZ w5) (nf s hZ) (mvT hZ w6) (mvT hZ w2) hy (backOfS (W := W) (Q := fun v h' L => ((R0 P) v h' ∧ h.size ≤ h'.size) ∧ Fr n0 L) (hM []) hZ w4 w3 hf hlo) qa qc (g := mkF m pc ls.toArray (argsL.reverse ++ .ref a :: st)) rfl
    (by rw [C.2.2.1]; simpa using hls) (Steps.refl _) (argsL := argsL) (rest := st) hlen rfl (by show 2 * 0 + _ ≤ W; rw [← hW]; omega) (hb C.2.1 hd) (fun _ _ => ⟨rfl, hh, hk, hn⟩)
  dsimp only [Pt.U, Pt.locs, Pt.cells, Pt.slots] at X' hSi hQ hsz e1 e2 e3 st'
  subst e1 e2 e3
  obtain ⟨rfl, hP⟩ := hQ
  exact (G B.heap hP p e s0 _ m args below meth c B _ (Bs.since hSi hsz) (C.since hSi) X' rfl (N.app Ns)).pre (fun t q => st'.trans q)
theorem go_wcallP0 {y' : MethodName} {b' : ByteArray} {m' : Nat} {r' : Option FieldType} {rm : Room} {idx W : Nat} {argsL : List Value} {P : Heap → Prop} {K : String} {a : Addr} (D : Dc bytes pc (.invokevirtual idx) 3 pc') (hM : Con true l Z y' b' m' r' rm (.ref a :: argsL).toArray h n0 (R0 P)) (E : Exa Z h a K)
    (w1 : (Cond.methodLink y.cls idx y').before a0 Z = true) (w2 : (Cond.instanceMethod y').before a0 Z = true) {kk : Nat} (wi : (Cond.instantiable y'.cls kk).before a0 Z = true) (w5 : (Cond.privateMethod y').before a0 Z = true) (w3 : (Cond.initialized y'.cls).before a0 Z = true) (w4 : (Cond.code y' b' m' r').before a0 Z = true) (hy : y'.cls ≠ "java/lang/invoke/MethodHandle" ∧ y'.cls ≠ "java/lang/invoke/VarHandle")
    (hlen : ∀ sig, parseMethodDescriptor y'.desc = some sig → argsL.length = sig.parameters.length) {st₀ : List Value} (hst : st₀ = argsL.reverse ++ .ref a :: st) (hW : (st.map fun v => v.category).sum = W) (hf : rm.frames + 1 ≤ R.frames) (hlo : W + (m' + 11) + rm.locals ≤ R.locals) (hk : k + rm.cells ≤ R.cells) (hn : n + rm.slots ≤ R.slots) (hls : ls.length = ml)
    (G : ∀ h', P h' → Go true KT l Z R y bytes ml ret n0 kc ks Q h' (k + rm.cells) (n + rm.slots) pc' ls st) : Go true K₀ l Z R y bytes ml ret n0 kc ks Q h k n pc ls st₀ := by
  subst hst
  intro p e s0 s m args below meth c T L Bs C X hh N
  obtain ⟨hd, rfl⟩ := D
  have hZ := C.2.2.2.2.1
  obtain ⟨cq, q1, q2⟩ := E.cell
  have wi' : (Cond.instantiable y'.cls kk).before args s = true := mvT hZ wi
  obtain ⟨c2, k2, i1, i2, -, i4, -⟩ := Cond.instantiable_spec wi'
  have hpa : s.PrivateAt y' := Cond.privateMethod_at (mvP hZ w5 (args := #[]))
  have w6 : (Cond.selects y'.cls y' y').before args s = true := selects_self_of_private i1 i2 (Bool.or_eq_false_iff.mp i4).1 hpa (mvT hZ w2) hy
  obtain ⟨v, vm₁, ⟨B, Lb, kb, nb⟩, -, X', hSi, -, ⟨Lq, ⟨⟨hQ, hsz⟩, Ns⟩, e1, e2, e3⟩, st'⟩ := X.privateBackS C.1 (y := y') C.2.2.2.1 (mvT hZ w1) (mvT hZ w2) w6 hpa (mvT hZ w4) hy (backOfS (W := W) (Q := fun v h' L => ((R0 P) v h' ∧ h.size ≤ h'.size) ∧ Fr n0 L) (hM []) hZ w4 w3 hf hlo) (g := mkF m pc ls.toArray (argsL.reverse ++ .ref a :: st)) rfl
    (by rw [C.2.2.1]; simpa using hls) (Steps.refl _) (a := a) (by rw [hh]; exact q1) q2 (argsL := argsL) (rest := st) hlen rfl (by show 2 * 0 + _ ≤ W; rw [← hW]; omega) (hb C.2.1 hd) (fun _ _ => ⟨rfl, hh, hk, hn⟩)
  dsimp only [Pt.U, Pt.locs, Pt.cells, Pt.slots] at X' hSi hQ hsz e1 e2 e3 st'
  subst e1 e2 e3
  obtain ⟨rfl, hP⟩ := hQ
  exact (G B.heap hP p e s0 _ m args below meth c B _ (Bs.since hSi hsz) (C.since hSi) X' rfl (N.app Ns)).pre (fun t q => st'.trans q)
theorem go_initO {idx W : Nat} {a : Addr} (D : Dc bytes pc (.invokespecial idx) 3 pc') (w1 : (Cond.methodLink y.cls idx Lib.objectInit).before a0 Z = true) (w2 : (Cond.instanceMethod Lib.objectInit).before a0 Z = true) (w3 : (Cond.code Lib.objectInit ⟨#[0xb1]⟩ 1 none).before a0 Z = true)
    (hls : ls.length = ml) (hf : 1 ≤ R.frames) (hW : (st.map fun v => v.category).sum = W) (hlo : W + 12 ≤ R.locals) (G : Go wd K₀ l Z R y bytes ml ret n0 kc ks Q h k n pc' ls st) : Go wd K₀ l Z R y bytes ml ret n0 kc ks Q h k n pc ls (.ref a :: st) := by
  intro p e s0 s m args below meth c T L Bs C X hh N
  obtain ⟨hd, rfl⟩ := D
  obtain ⟨T', X', e', st'⟩ := initO X C.1 C.2.2.2.2.1 C.2.2.2.1 w1 w2 w3 hh (g := mkF m pc ls.toArray (.ref a :: st)) rfl (by rw [C.2.2.1]; simpa using hls) rfl (hb C.2.1 hd) hf (W := W) (by show 2 * 0 + _ ≤ W; rw [← hW]; omega) hlo
  exact (G p e s0 s m args below meth c T' L Bs C X' e' N).pre st'
/-! ## 2. fields, objects, arrays, by the library's own facts -/
theorem go_getF {idx : Nat} {R0 O nm d host : String} {a : Addr} {v : Value} (D : Dc bytes pc (.getfield idx) 3 pc') (w : (Cond.fieldLink y.cls idx R0 nm d).before a0 Z = true ∨ (Cond.fieldLinkNest y.cls idx R0 nm d host).before a0 Z = true) (via : Via Z R0 O nm d) (F : Fld Z h a O nm d v) (G : Go wd K₀ l Z R y bytes ml ret n0 kc ks Q h k n pc' ls (v :: st)) : Go wd K₀ l Z R y bytes ml ret n0 kc ks Q h k n pc ls (.ref a :: st) := by
  intro p e s0 s m args below meth c T L Bs C X hh N
  obtain ⟨hd, rfl⟩ := D
  obtain ⟨T', X', e', st'⟩ := getF X C.1 C.2.2.2.2.1 C.2.2.2.1 w via hh F (g := mkF m pc ls.toArray (.ref a :: st)) rfl rfl (hb C.2.1 hd)
  exact (G p e s0 s m args below meth c T' L Bs C X' e' N).pre st'
theorem go_getS {idx : Nat} {R0 O nm d host : String} {v : Value} (D : Dc bytes pc (.getstatic idx) 3 pc') (w : (Cond.fieldLink y.cls idx R0 nm d).before a0 Z = true ∨ (Cond.fieldLinkNest y.cls idx R0 nm d host).before a0 Z = true) (via : Via Z R0 O nm d) (F : Sta Z h O nm d v) (G : Go wd K₀ l Z R y bytes ml ret n0 kc ks Q h k n pc' ls (v :: st)) : Go wd K₀ l Z R y bytes ml ret n0 kc ks Q h k n pc ls st := by
  intro p e s0 s m args below meth c T L Bs C X hh N
  obtain ⟨hd, rfl⟩ := D
  obtain ⟨T', X', e', st'⟩ := getS2 X C.1 C.2.2.2.2.1 C.2.2.2.1 w via hh F (g := mkF m pc ls.toArray st) rfl (hb C.2.1 hd)
  exact (G p e s0 s m args below meth c T' L Bs C X' e' N).pre st'
theorem go_putF {idx kk : Nat} {R0 O nm d host K : String} {ty : FieldType} {a : Addr} {v old : Value} (D : Dc bytes pc (.putfield idx) 3 pc') (w : (Cond.fieldLink y.cls idx R0 nm d).before a0 Z = true ∨ (Cond.fieldLinkNest y.cls idx R0 nm d host).before a0 Z = true) (via : Via Z R0 O nm d) (F : Fld Z h a O nm d old) (E : Exa Z h a K)
    (Lw : (Cond.lays K O nm d).before a0 Z = true ∨ ((Cond.laysFinal K O nm d).before a0 Z = true ∧ y.cls = O ∧ y.name = "<init>")) (wi : (Cond.instantiable K kk).before a0 Z = true) (hty : parseFieldDescriptor d = some ty) (hnr : narrow ty v = v) (hfi : fits ty v = true) (ha : n0 ≤ a)
    (G : ∀ h', Wr h h' a (Jvm.RoadKit.slotOf Z O nm d) v → Go wd K₀ l Z R y bytes ml ret n0 kc ks Q h' k n pc' ls st) : Go wd K₀ l Z R y bytes ml ret n0 kc ks Q h k n pc ls (v :: .ref a :: st) := by
  intro p e s0 s m args below meth c T L Bs C X hh N
  obtain ⟨hd, rfl⟩ := D
  obtain ⟨T', h', X', e', W', st'⟩ := putF X C.1 C.2.2.2.2.1 C.2.2.2.1 w via hh F E (Lw.imp id fun q => ⟨q.1, q.2.1, C.2.2.2.2.2.2.2.1.trans q.2.2⟩) wi hty hnr hfi (g := mkF m pc ls.toArray (v :: .ref a :: st)) rfl rfl (hb C.2.1 hd)
  exact (G h' W' p e s0 s m args below meth c T' _ (Bs.mono (Nat.le_of_eq W'.size.symm)) C X' e' (Fr.snoc X' N ha)).pre st'
theorem go_newO {idx sl : Nat} {K : String} (D : Dc bytes pc (.new idx) 3 pc') (w : (Cond.classLink y.cls idx K).before a0 Z = true) (wi : (Cond.instantiable K sl).before a0 Z = true) (wz : (Cond.initialized K).before a0 Z = true) (hk : k + 1 ≤ R.cells) (hn : n + sl ≤ R.slots)
    (G : ∀ h', Ext h h' → Exa Z h' h.size K → (∀ {O nm d : String} {ty : FieldType}, Laid Z a0 K O nm d → parseFieldDescriptor d = some ty → Fld Z h' h.size O nm d (defaultValue ty)) → Go wd K₀ l Z R y bytes ml ret n0 kc ks Q h' (k + 1) (n + sl) pc' ls (.ref h.size :: st)) : Go wd K₀ l Z R y bytes ml ret n0 kc ks Q h k n pc ls st := by
  intro p e s0 s m args below meth c T L Bs C X hh N
  obtain ⟨hd, rfl⟩ := D
  obtain ⟨T', h', X', e', E', A', F', -, st'⟩ := newO X C.1 C.2.2.2.2.1 C.2.2.2.1 w wi wz hh (g := mkF m pc ls.toArray st) rfl (hb C.2.1 hd) hk hn
  exact (G h' E' A' F' p e s0 s m args below meth c T' _ (Bs.mono E'.1) C X' e' N).pre st'
theorem go_newP {aty : ArrayType} {z : Int32} {ad : String} (D : Dc bytes pc (.newarray aty) 2 pc') (w : (Cond.arrayClass (newarray.typeOf aty)).before a0 Z = true) (hz : ¬ z < 0) (cap : Nat) (hcap : z.toNatClampNeg ≤ cap) (hb8 : cap * 8 ≤ 536870912) (hk : k + 1 ≤ R.cells) (hn : n + cap ≤ R.slots) (had : "[" ++ (newarray.typeOf aty).toString = ad)
    (G : ∀ h' cA, Ext h h' → Arr Z h' h.size (newA cA (newarray.typeOf aty) z) (newarray.typeOf aty) → Exa Z h' h.size ad → Go wd K₀ l Z R y bytes ml ret n0 kc ks Q h' (k + 1) (n + cap) pc' ls (.ref h.size :: st)) : Go wd K₀ l Z R y bytes ml ret n0 kc ks Q h k n pc ls (.int z :: st) := by
  intro p e s0 s m args below meth c T L Bs C X hh N
  obtain ⟨hd, rfl⟩ := D
  obtain ⟨T', h', cA, X', e', E', A', F', st'⟩ := newPE X C.1 C.2.2.2.2.1 w hh (g := mkF m pc ls.toArray (.int z :: st)) rfl (hb C.2.1 hd) rfl hz hcap hb8 hk hn had
  exact (G h' cA E' A' F' p e s0 s m args below meth c T' _ (Bs.mono E'.1) C X' e' N).pre st'
theorem go_newR {idx : Nat} {K : String} {z : Int32} {ad : String} (D : Dc bytes pc (.anewarray idx) 3 pc') (w1 : (Cond.classLink y.cls idx K).before a0 Z = true) (w2 : (Cond.arrayOver (.object K)).before a0 Z = true) (hz : ¬ z < 0) (cap : Nat) (hcap : z.toNatClampNeg ≤ cap) (hb8 : cap * 8 ≤ 536870912) (hk : k + 1 ≤ R.cells) (hn : n + cap ≤ R.slots) (had : "[" ++ (FieldType.object K).toString = ad)
    (G : ∀ h' cA, Ext h h' → Arr Z h' h.size (newA cA (.object K) z) (.object K) → Exa Z h' h.size ad → Ovr Z cA K → Go wd K₀ l Z R y bytes ml ret n0 kc ks Q h' (k + 1) (n + cap) pc' ls (.ref h.size :: st)) : Go wd K₀ l Z R y bytes ml ret n0 kc ks Q h k n pc ls (.int z :: st) := by
  intro p e s0 s m args below meth c T L Bs C X hh N
  obtain ⟨hd, rfl⟩ := D
  obtain ⟨T', h', cA, X', e', E', A', F', O', st'⟩ := newRE X C.1 C.2.2.2.2.1 C.2.2.2.1 w1 w2 hh (g := mkF m pc ls.toArray (.int z :: st)) rfl (hb C.2.1 hd) rfl hz hcap hb8 hk hn had
  exact (G h' cA E' A' F' O' p e s0 s m args below meth c T' _ (Bs.mono E'.1) C X' e' N).pre st'
theorem go_len {a : Addr} {cl : Cell} {ty : FieldType} {z : Int32} (D : Dc bytes pc .arraylength 1 pc') (A : Arr Z h a cl ty) (hz : cl.slots.size.toInt32 = z) (G : Go wd K₀ l Z R y bytes ml ret n0 kc ks Q h k n pc' ls (.int z :: st)) : Go wd K₀ l Z R y bytes ml ret n0 kc ks Q h k n pc ls (.ref a :: st) := by
  intro p e s0 s m args below meth c T L Bs C X hh N
  obtain ⟨hd, rfl⟩ := D
  subst hz
  exact (G p e s0 s m args below meth c T L Bs C X hh N).pre fun t q => X.arraylength C.1 (by rw [hh]; exact A.1) (State.isArrayOf_alike C.2.2.2.2.1.alike A.2.1) (g := mkF m pc ls.toArray (.ref a :: st)) rfl rfl (hb C.2.1 hd) _ q
theorem go_iaload {a : Addr} {cl : Cell} {j : Int32} {v : Value} (D : Dc bytes pc .iaload 1 pc') (A : Arr Z h a cl .int) (hj : ¬ (j < 0 ∨ cl.slots.size ≤ j.toNatClampNeg)) (hv : cl.slots[j.toNatClampNeg]? = some v) (G : Go wd K₀ l Z R y bytes ml ret n0 kc ks Q h k n pc' ls (v :: st)) : Go wd K₀ l Z R y bytes ml ret n0 kc ks Q h k n pc ls (.int j :: .ref a :: st) := by
  intro p e s0 s m args below meth c T L Bs C X hh N
  obtain ⟨hd, rfl⟩ := D
  exact (G p e s0 s m args below meth c T L Bs C X hh N).pre fun t q => X.iaload C.1 (j := j) (v := v) (by rw [hh]; exact A.1) (State.isArrayOf_alike C.2.2.2.2.1.alike A.2.1) A.2.2 hj hv (g := mkF m pc ls.toArray (.int j :: .ref a :: st)) rfl rfl (hb C.2.1 hd) _ q
theorem go_caload {a : Addr} {cl : Cell} {j : Int32} {v : Value} (D : Dc bytes pc .caload 1 pc') (A : Arr Z h a cl .char) (hj : ¬ (j < 0 ∨ cl.slots.size ≤ j.toNatClampNeg)) (hv : cl.slots[j.toNatClampNeg]? = some v) (G : Go wd K₀ l Z R y bytes ml ret n0 kc ks Q h k n pc' ls (v :: st)) : Go wd K₀ l Z R y bytes ml ret n0 kc ks Q h k n pc ls (.int j :: .ref a :: st) := by
  intro p e s0 s m args below meth c T L Bs C X hh N
  obtain ⟨hd, rfl⟩ := D
  exact (G p e s0 s m args below meth c T L Bs C X hh N).pre fun t q => X.caload C.1 (j := j) (v := v) (by rw [hh]; exact A.1) (State.isArrayOf_alike C.2.2.2.2.1.alike A.2.1) A.2.2 hj hv (g := mkF m pc ls.toArray (.int j :: .ref a :: st)) rfl rfl (hb C.2.1 hd) _ q
theorem go_baload {a : Addr} {cl : Cell} {j : Int32} {v : Value} (D : Dc bytes pc .baload 1 pc') (A : Arr Z h a cl .byte) (hj : ¬ (j < 0 ∨ cl.slots.size ≤ j.toNatClampNeg)) (hv : cl.slots[j.toNatClampNeg]? = some v) (G : Go wd K₀ l Z R y bytes ml ret n0 kc ks Q h k n pc' ls (v :: st)) : Go wd K₀ l Z R y bytes ml ret n0 kc ks Q h k n pc ls (.int j :: .ref a :: st) := by
  intro p e s0 s m args below meth c T L Bs C X hh N
  obtain ⟨hd, rfl⟩ := D
  exact (G p e s0 s m args below meth c T L Bs C X hh N).pre fun t q => X.baloadBytes C.1 (j := j) (v := v) (by rw [hh]; exact A.1) (State.isArrayOf_alike C.2.2.2.2.1.alike A.2.1) A.2.2 hj hv (g := mkF m pc ls.toArray (.int j :: .ref a :: st)) rfl rfl (hb C.2.1 hd) _ q
theorem go_laload {a : Addr} {cl : Cell} {j : Int32} {v : Value} (D : Dc bytes pc .laload 1 pc') (A : Arr Z h a cl .long) (hj : ¬ (j < 0 ∨ cl.slots.size ≤ j.toNatClampNeg)) (hv : cl.slots[j.toNatClampNeg]? = some v) (G : Go wd K₀ l Z R y bytes ml ret n0 kc ks Q h k n pc' ls (v :: st)) : Go wd K₀ l Z R y bytes ml ret n0 kc ks Q h k n pc ls (.int j :: .ref a :: st) := by
  intro p e s0 s m args below meth c T L Bs C X hh N
  obtain ⟨hd, rfl⟩ := D
  exact (G p e s0 s m args below meth c T L Bs C X hh N).pre fun t q => X.laload C.1 (j := j) (v := v) (by rw [hh]; exact A.1) (State.isArrayOf_alike C.2.2.2.2.1.alike A.2.1) A.2.2 hj hv (g := mkF m pc ls.toArray (.int j :: .ref a :: st)) rfl rfl (hb C.2.1 hd) _ q
theorem go_aaload {a : Addr} {cl : Cell} {ty : FieldType} {j : Int32} {v : Value} (D : Dc bytes pc .aaload 1 pc') (A : Arr Z h a cl ty) (hty : ty.isReference = true) (hj : ¬ (j < 0 ∨ cl.slots.size ≤ j.toNatClampNeg)) (hv : cl.slots[j.toNatClampNeg]? = some v) (G : Go wd K₀ l Z R y bytes ml ret n0 kc ks Q h k n pc' ls (v :: st)) : Go wd K₀ l Z R y bytes ml ret n0 kc ks Q h k n pc ls (.int j :: .ref a :: st) := by
  intro p e s0 s m args below meth c T L Bs C X hh N
  obtain ⟨hd, rfl⟩ := D
  exact (G p e s0 s m args below meth c T L Bs C X hh N).pre fun t q => X.aaload C.1 (j := j) (v := v) (by rw [hh]; exact A.1) (State.isArrayOf_alike C.2.2.2.2.1.alike A.2.1) hty A.2.2 hj hv (g := mkF m pc ls.toArray (.int j :: .ref a :: st)) rfl rfl (hb C.2.1 hd) _ q
theorem go_iastore {a : Addr} {cl : Cell} {j : Int32} {x : Int32} (D : Dc bytes pc .iastore 1 pc') (A : Arr Z h a cl .int) (hj : ¬ (j < 0 ∨ cl.slots.size ≤ j.toNatClampNeg)) (ha : n0 ≤ a) (G : ∀ h', Wr h h' a j.toNatClampNeg (.int x) → Go wd K₀ l Z R y bytes ml ret n0 kc ks Q h' k n pc' ls st) : Go wd K₀ l Z R y bytes ml ret n0 kc ks Q h k n pc ls (.int x :: .int j :: .ref a :: st) := by
  intro p e s0 s m args below meth c T L Bs C X hh N
  obtain ⟨hd, rfl⟩ := D
  obtain ⟨T', h', X', e', W', st'⟩ := stI X C.1 C.2.2.2.2.1 hh A hj (g := mkF m pc ls.toArray (.int x :: .int j :: .ref a :: st)) rfl rfl (hb C.2.1 hd)
  exact (G h' W' p e s0 s m args below meth c T' _ (Bs.mono (Nat.le_of_eq W'.size.symm)) C X' e' (Fr.snoc X' N ha)).pre st'
theorem go_lastore {a : Addr} {cl : Cell} {j : Int32} {x : Int64} (D : Dc bytes pc .lastore 1 pc') (A : Arr Z h a cl .long) (hj : ¬ (j < 0 ∨ cl.slots.size ≤ j.toNatClampNeg)) (ha : n0 ≤ a) (G : ∀ h', Wr h h' a j.toNatClampNeg (.long x) → Go wd K₀ l Z R y bytes ml ret n0 kc ks Q h' k n pc' ls st) : Go wd K₀ l Z R y bytes ml ret n0 kc ks Q h k n pc ls (.long x :: .int j :: .ref a :: st) := by
  intro p e s0 s m args below meth c T L Bs C X hh N
  obtain ⟨hd, rfl⟩ := D
  obtain ⟨T', h', X', e', W', st'⟩ := stJ X C.1 C.2.2.2.2.1 hh A hj (g := mkF m pc ls.toArray (.long x :: .int j :: .ref a :: st)) rfl rfl (hb C.2.1 hd)
  exact (G h' W' p e s0 s m args below meth c T' _ (Bs.mono (Nat.le_of_eq W'.size.symm)) C X' e' (Fr.snoc X' N ha)).pre st'
theorem go_castore {a : Addr} {cl : Cell} {j : Int32} {x : Int32} (D : Dc bytes pc .castore 1 pc') (A : Arr Z h a cl .char) (hj : ¬ (j < 0 ∨ cl.slots.size ≤ j.toNatClampNeg)) (ha : n0 ≤ a) (G : ∀ h', Wr h h' a j.toNatClampNeg (.int (nar .char x)) → Go wd K₀ l Z R y bytes ml ret n0 kc ks Q h' k n pc' ls st) : Go wd K₀ l Z R y bytes ml ret n0 kc ks Q h k n pc ls (.int x :: .int j :: .ref a :: st) := by
  intro p e s0 s m args below meth c T L Bs C X hh N
  obtain ⟨hd, rfl⟩ := D
  obtain ⟨T', h', X', e', W', st'⟩ := stC X C.1 C.2.2.2.2.1 hh A hj (g := mkF m pc ls.toArray (.int x :: .int j :: .ref a :: st)) rfl rfl (hb C.2.1 hd)
  exact (G h' W' p e s0 s m args below meth c T' _ (Bs.mono (Nat.le_of_eq W'.size.symm)) C X' e' (Fr.snoc X' N ha)).pre st'
theorem go_bastore {a : Addr} {cl : Cell} {j : Int32} {x : Int32} (D : Dc bytes pc .bastore 1 pc') (A : Arr Z h a cl .byte) (hj : ¬ (j < 0 ∨ cl.slots.size ≤ j.toNatClampNeg)) (ha : n0 ≤ a) (G : ∀ h', Wr h h' a j.toNatClampNeg (.int (nar .byte x)) → Go wd K₀ l Z R y bytes ml ret n0 kc ks Q h' k n pc' ls st) : Go wd K₀ l Z R y bytes ml ret n0 kc ks Q h k n pc ls (.int x :: .int j :: .ref a :: st) := by
  intro p e s0 s m args below meth c T L Bs C X hh N
  obtain ⟨hd, rfl⟩ := D
  obtain ⟨T', h', X', e', W', st'⟩ := stB X C.1 C.2.2.2.2.1 hh A hj (g := mkF m pc ls.toArray (.int x :: .int j :: .ref a :: st)) rfl rfl (hb C.2.1 hd)
  exact (G h' W' p e s0 s m args below meth c T' _ (Bs.mono (Nat.le_of_eq W'.size.symm)) C X' e' (Fr.snoc X' N ha)).pre st'
theorem go_zastore {a : Addr} {cl : Cell} {j : Int32} {x : Int32} (D : Dc bytes pc .bastore 1 pc') (A : Arr Z h a cl .boolean) (hj : ¬ (j < 0 ∨ cl.slots.size ≤ j.toNatClampNeg)) (ha : n0 ≤ a) (G : ∀ h', Wr h h' a j.toNatClampNeg (.int (nar .boolean x)) → Go wd K₀ l Z R y bytes ml ret n0 kc ks Q h' k n pc' ls st) : Go wd K₀ l Z R y bytes ml ret n0 kc ks Q h k n pc ls (.int x :: .int j :: .ref a :: st) := by
  intro p e s0 s m args below meth c T L Bs C X hh N
  obtain ⟨hd, rfl⟩ := D
  obtain ⟨T', h', X', e', W', st'⟩ := stZ X C.1 C.2.2.2.2.1 hh A hj (g := mkF m pc ls.toArray (.int x :: .int j :: .ref a :: st)) rfl rfl (hb C.2.1 hd)
  exact (G h' W' p e s0 s m args below meth c T' _ (Bs.mono (Nat.le_of_eq W'.size.symm)) C X' e' (Fr.snoc X' N ha)).pre st'
theorem go_aastore {a : Addr} {cl : Cell} {ty : FieldType} {j : Int32} {v : Value} (D : Dc bytes pc .aastore 1 pc') (A : Arr Z h a cl ty) (hj : ¬ (j < 0 ∨ cl.slots.size ≤ j.toNatClampNeg)) (hty : ty.isReference = true) (F : Sto Z h a v) (ha : n0 ≤ a) (G : ∀ h', Wr h h' a j.toNatClampNeg v → Go wd K₀ l Z R y bytes ml ret n0 kc ks Q h' k n pc' ls st) : Go wd K₀ l Z R y bytes ml ret n0 kc ks Q h k n pc ls (v :: .int j :: .ref a :: st) := by
  intro p e s0 s m args below meth c T L Bs C X hh N
  obtain ⟨hd, rfl⟩ := D
  obtain ⟨T', h', X', e', W', st'⟩ := stR X C.1 C.2.2.2.2.1 hh A hj hty F (g := mkF m pc ls.toArray (v :: .int j :: .ref a :: st)) rfl rfl (hb C.2.1 hd)
  exact (G h' W' p e s0 s m args below meth c T' _ (Bs.mono (Nat.le_of_eq W'.size.symm)) C X' e' (Fr.snoc X' N ha)).pre st'
end Walk
end Jvm.OwnGo
namespace Jvm.OwnGo
open Jvm Sem ClassFile Op Lib Jvm.Stand Jvm.Free Jvm.LawKit Jvm.RoadKit
/-! ## 3. the heap since the start, as a list of what lies where -/
abbrev FD := (String × String × String) × Value
abbrev Desc := (String × List FD) ⊕ (FieldType × String × List Value)
def slotF (Z : State) (f : FD) : Nat := Jvm.RoadKit.slotOf Z f.1.1 f.1.2.1 f.1.2.2
def Is (Z : State) (h : Heap) (a : Addr) : Desc → Prop
  | .inl (K, fs) => Exa Z h a K ∧ (fs.map (slotF Z)).Nodup ∧ ∀ f ∈ fs, Fld Z h a f.1.1 f.1.2.1 f.1.2.2 f.2
  | .inr (ty, ad, vs) => Exa Z h a ad ∧ ∃ c : Cell, Arr Z h a c ty ∧ c.slots = vs.toArray ∧ vs.length < 2 ^ 31 ∧ (∀ v ∈ vs, fits ty v = true) ∧ ∀ K, ty = .object K → Ovr Z c.cls K
def Hp (Z : State) (n0 : Nat) (h : Heap) (L : List (Addr × Desc)) : Prop := Old Z n0 h ∧ (L.map Prod.fst).Nodup ∧ ∀ x ∈ L, n0 ≤ x.1 ∧ Is Z h x.1 x.2
def LaysD (Z : State) (a0 : Array Value) (K : String) : List FD → Prop
  | [] => True
  | f :: r => (Laid Z a0 K f.1.1 f.1.2.1 f.1.2.2 ∧ ∃ t, parseFieldDescriptor f.1.2.2 = some t ∧ defaultValue t = f.2) ∧ LaysD Z a0 K r
def front {α : Type} (L : List α) (i : Nat) : List α := match L[i]? with | some x => x :: L.eraseIdx i | none => L
section Hp
variable {Z : State} {n0 : Nat} {h h' : Heap} {L : List (Addr × Desc)} {a b : Addr} {K ad O nm d : String} {fs : List FD} {vs : List Value} {ty : FieldType} {v old : Value} {i j sl : Nat} {a0 : Array Value}
theorem Is.ext {D : Desc} (E : Ext h h') (F : Is Z h a D) : Is Z h' a D := by
  rcases D with ⟨K, fs⟩ | ⟨ty, ad, vs⟩
  · obtain ⟨h1, h2, h3⟩ := F; exact ⟨h1.ext E, h2, fun f hf => (h3 f hf).ext E⟩
  · obtain ⟨h1, c, h2, r⟩ := F; exact ⟨h1.ext E, c, h2.ext E, r⟩
theorem Is.other {D : Desc} (W : Wr h h' b sl v) (ne : a ≠ b) (F : Is Z h a D) : Is Z h' a D := by
  rcases D with ⟨K, fs⟩ | ⟨ty, ad, vs⟩
  · obtain ⟨h1, h2, h3⟩ := F; exact ⟨h1.wr W, h2, fun f hf => (h3 f hf).other W (Or.inl ne)⟩
  · obtain ⟨h1, c, h2, r⟩ := F; exact ⟨h1.wr W, c, h2.other W ne, r⟩
theorem Is.exa {D : Desc} (F : Is Z h a D) : ∃ K, Exa Z h a K := by
  rcases D with ⟨K, fs⟩ | ⟨ty, ad, vs⟩
  · exact ⟨K, F.1⟩
  · exact ⟨ad, F.1⟩
theorem mem_upd {α : Type} {L : List α} {i : Nat} {x y : α} (hx : x ∈ lupd L i y) : x = y ∨ ∃ q, q ≠ i ∧ L[q]? = some x := by
  rw [upd_set] at hx
  obtain ⟨q, hq⟩ := List.mem_iff_getElem?.mp hx
  rw [List.getElem?_set] at hq
  split at hq
  · rename_i e
    split at hq
    · left; exact (Option.some.inj hq).symm
    · cases hq
  · rename_i e
    exact Or.inr ⟨q, fun u => e u.symm, hq⟩
theorem Hp.mem (hi : L[i]? = some (a, D)) : (a, D) ∈ L := List.mem_of_getElem? hi
theorem Hp.is {D : Desc} (P : Hp Z n0 h L) (hi : L[i]? = some (a, D)) : Is Z h a D := (P.2.2 _ (List.mem_of_getElem? hi)).2
theorem Hp.ge {D : Desc} (P : Hp Z n0 h L) (hi : L[i]? = some (a, D)) : n0 ≤ a := (P.2.2 _ (List.mem_of_getElem? hi)).1
theorem Hp.exa (P : Hp Z n0 h L) (hi : L[i]? = some (a, .inl (K, fs))) : Exa Z h a K := (P.is hi).1
theorem Hp.exaA (P : Hp Z n0 h L) (hi : L[i]? = some (a, .inr (ty, ad, vs))) : Exa Z h a ad := (P.is hi).1
theorem Hp.fld (P : Hp Z n0 h L) (hi : L[i]? = some (a, .inl (K, fs))) (hj : fs[j]? = some ((O, nm, d), v)) : Fld Z h a O nm d v := (P.is hi).2.2 _ (List.mem_of_getElem? hj)
theorem Hp.lt {D : Desc} (P : Hp Z n0 h L) (hx : (a, D) ∈ L) : a < h.size := by
  obtain ⟨K, E⟩ := (P.2.2 _ hx).2.exa; exact E.lt
theorem Hp.ne {D D' : Desc} (P : Hp Z n0 h L) (hi : L[i]? = some (a, D)) (hj : L[j]? = some (b, D')) (q : i ≠ j) : a ≠ b := fun e => q (by
  have hl : i < (L.map Prod.fst).length := by rw [List.length_map]; exact (List.getElem?_eq_some_iff.mp hi).1
  refine (List.getElem?_inj hl P.2.1).mp ?_
  rw [List.getElem?_map, List.getElem?_map, hi, hj]; simp [e])
theorem map_upd {α β : Type} {f : α → β} {L : List α} {i : Nat} {x y : α} (hi : L[i]? = some x) (e : f y = f x) : (lupd L i y).map f = L.map f := by
  rw [upd_set]
  apply List.ext_getElem?
  intro q
  rw [List.getElem?_map, List.getElem?_map, List.getElem?_set]
  split
  · rename_i u
    subst u
    obtain ⟨hl, -⟩ := List.getElem?_eq_some_iff.mp hi
    rw [if_pos hl, hi]; simp [e]
  · rfl
theorem Hp.wr {D D' : Desc} (P : Hp Z n0 h L) (hi : L[i]? = some (a, D)) (W : Wr h h' a sl v) (I : Is Z h' a D') : Hp Z n0 h' (lupd L i (a, D')) := by
  have ha := P.ge hi
  refine ⟨P.1.wr W ha, by rw [map_upd (f := Prod.fst) (y := (a, D')) hi rfl]; exact P.2.1, fun x hx => ?_⟩
  rcases mem_upd hx with rfl | ⟨q, hq, hx'⟩
  · exact ⟨ha, I⟩
  · obtain ⟨b, D2⟩ := x
    exact ⟨P.ge hx', (P.is hx').other W (P.ne hx' hi hq)⟩
theorem Hp.put (P : Hp Z n0 h L) (hi : L[i]? = some (a, .inl (K, fs))) (hj : fs[j]? = some ((O, nm, d), old)) (W : Wr h h' a (Jvm.RoadKit.slotOf Z O nm d) v) : Hp Z n0 h' (lupd L i (a, .inl (K, lupd fs j ((O, nm, d), v)))) := by
  obtain ⟨h1, h2, h3⟩ := P.is hi
  refine P.wr hi W ⟨h1.wr W, by rw [map_upd (f := slotF Z) (y := ((O, nm, d), v)) hj rfl]; exact h2, fun f hf => ?_⟩
  rcases mem_upd hf with rfl | ⟨q, hq, hf'⟩
  · exact (h3 _ (List.mem_of_getElem? hj)).same W
  · refine (h3 _ (List.mem_of_getElem? hf')).other W (Or.inr fun e => hq ?_)
    have hl : q < (fs.map (slotF Z)).length := by rw [List.length_map]; exact (List.getElem?_eq_some_iff.mp hf').1
    refine (List.getElem?_inj hl h2).mp ?_
    rw [List.getElem?_map, List.getElem?_map, hf', hj]; simp [slotF, e]
theorem Hp.aput (P : Hp Z n0 h L) (hi : L[i]? = some (a, .inr (ty, ad, vs))) (hv : fits ty v = true) (W : Wr h h' a j v) : Hp Z n0 h' (lupd L i (a, .inr (ty, ad, lupd vs j v))) := by
  obtain ⟨h1, c, h2, h3, h4, h5, h6⟩ := P.is hi
  refine P.wr hi W ⟨h1.wr W, c.setSlot j v, h2.same W, ?_, ?_, fun w hw => ?_, h6⟩
  · rw [upd_set]; show c.slots.setIfInBounds j v = _; rw [h3]; simp
  · rw [upd_set]; simpa using h4
  · rcases mem_upd hw with rfl | ⟨q, -, hq⟩
    · exact hv
    · exact h5 _ (List.mem_of_getElem? hq)
theorem Hp.grow {D : Desc} (P : Hp Z n0 h L) (E : Ext h h') (I : Is Z h' h.size D) : Hp Z n0 h' ((h.size, D) :: L) := by
  have hs : n0 ≤ h.size := by have := P.1.1; have := P.1.2.1; omega
  refine ⟨P.1.ext E, ?_, fun x hx => ?_⟩
  · rw [List.map_cons, List.nodup_cons]
    refine ⟨fun hm => ?_, P.2.1⟩
    obtain ⟨⟨b, D2⟩, hb, e⟩ := List.mem_map.mp hm
    have q := P.lt hb
    have e' : b = h.size := e
    rw [e'] at q
    exact Nat.lt_irrefl _ q
  · rcases List.mem_cons.mp hx with rfl | hx'
    · exact ⟨hs, I⟩
    · exact ⟨(P.2.2 _ hx').1, (P.2.2 _ hx').2.ext E⟩
theorem lays_mem : ∀ {fs : List FD}, LaysD Z a0 K fs → ∀ f ∈ fs, Laid Z a0 K f.1.1 f.1.2.1 f.1.2.2 ∧ ∃ t, parseFieldDescriptor f.1.2.2 = some t ∧ defaultValue t = f.2
  | [], _, _, hf => nomatch hf
  | _ :: _, H, f, hf => (List.mem_cons.mp hf).elim (fun e => e ▸ H.1) (lays_mem H.2 f)
theorem lays_nodup : ∀ {fs : List FD}, LaysD Z a0 K fs → (fs.map fun f => f.1.2.1).Nodup → (fs.map (slotF Z)).Nodup
  | [], _, _ => List.nodup_nil
  | f :: r, H, N => by
    rw [List.map_cons, List.nodup_cons] at N ⊢
    refine ⟨fun hm => ?_, lays_nodup H.2 N.2⟩
    obtain ⟨g, hg, e⟩ := List.mem_map.mp hm
    obtain ⟨Lg, t', ht', -⟩ := lays_mem H.2 g hg
    obtain ⟨Lf, t, ht, -⟩ := H.1
    exact slot_ne Lf Lg (fun q => N.1 (List.mem_map.mpr ⟨g, hg, q.symm⟩)) ht ht' e.symm
theorem Hp.new (P : Hp Z n0 h L) (E : Ext h h') (A : Exa Z h' h.size K) (F : ∀ {O nm d : String} {ty : FieldType}, Laid Z a0 K O nm d → parseFieldDescriptor d = some ty → Fld Z h' h.size O nm d (defaultValue ty)) (Ld : LaysD Z a0 K fs) (nd : (fs.map fun f => f.1.2.1).Nodup) : Hp Z n0 h' ((h.size, .inl (K, fs)) :: L) :=
  P.grow E ⟨A, lays_nodup Ld nd, fun f hf => by
    obtain ⟨Lf, t, ht, e⟩ := lays_mem Ld f hf
    rw [← e]; exact F Lf ht⟩
theorem Hp.newA {cA : ClassId} {z : Int32} (P : Hp Z n0 h L) (E : Ext h h') (A : Arr Z h' h.size (newA cA ty z) ty) (X : Exa Z h' h.size ad) (O : ∀ K, ty = .object K → Ovr Z cA K) (hvs : List.replicate z.toNatClampNeg (defaultValue ty) = vs) (hz : ¬ z < 0) : Hp Z n0 h' ((h.size, .inr (ty, ad, vs)) :: L) :=
  P.grow E ⟨X, _, A, by rw [← hvs]; simp [Jvm.RoadKit.newA], by rw [← hvs, List.length_replicate]; exact (back32 hz).2, fun w hw => by
    rw [← hvs] at hw; rw [List.eq_of_mem_replicate hw]; cases ty <;> rfl, O⟩
theorem Hp.perm {L' : List (Addr × Desc)} (P : Hp Z n0 h L) (q : L'.Perm L) : Hp Z n0 h L' := ⟨P.1, ((q.map Prod.fst).nodup_iff).mpr P.2.1, fun x hx => P.2.2 x (q.mem_iff.mp hx)⟩
theorem erase_perm {α : Type} : ∀ (L : List α) (i : Nat) (h : i < L.length), (L[i] :: L.eraseIdx i).Perm L
  | [], _, h => absurd h (Nat.not_lt_zero _)
  | _ :: _, 0, _ => List.Perm.refl _
  | a :: l, i + 1, h => by
    have hl : i < l.length := Nat.lt_of_succ_lt_succ h
    show (l[i] :: a :: l.eraseIdx i).Perm (a :: l)
    exact (List.Perm.swap _ _ _).trans ((erase_perm l i hl).cons a)
theorem front_perm {α : Type} (L : List α) (i : Nat) : (front L i).Perm L := by
  unfold front
  cases hx : L[i]? with
  | none => exact List.Perm.refl _
  | some x =>
    obtain ⟨hl, rfl⟩ := List.getElem?_eq_some_iff.mp hx
    exact erase_perm L i hl
theorem Hp.front (P : Hp Z n0 h L) (i : Nat) : Hp Z n0 h (front L i) := P.perm (front_perm L i)
theorem Hp.tail {x : Addr × Desc} (P : Hp Z n0 h (x :: L)) : Hp Z n0 h L := ⟨P.1, (List.nodup_cons.mp P.2.1).2, fun z hz => P.2.2 z (List.mem_cons_of_mem _ hz)⟩
theorem Hp.ext (P : Hp Z n0 h L) (E : Ext h h') : Hp Z n0 h' L := ⟨P.1.ext E, P.2.1, fun x hx => ⟨(P.2.2 _ hx).1, (P.2.2 _ hx).2.ext E⟩⟩
theorem Hp.nil (P : Hp Z n0 h L) : Hp Z n0 h [] := ⟨P.1, List.nodup_nil, fun z hz => nomatch hz⟩
theorem Hp.start (s : State) : Hp s s.heap.size s.heap [] := ⟨Old.start s, List.nodup_nil, fun z hz => nomatch hz⟩
theorem Hp.sto {y : Addr} {fs : List FD} (P : Hp Z n0 h L) (hi : L[i]? = some (a, .inr (.object K, ad, vs))) (hj : L[j]? = some (y, .inl (K, fs))) : Sto Z h a (.ref y) := by
  obtain ⟨-, c, h2, -, -, -, h6⟩ := P.is hi
  exact Sto.of h2 (h6 K rfl) (Ins.self (P.exa hj))
theorem Hp.stoI {y : Addr} (P : Hp Z n0 h L) (hi : L[i]? = some (a, .inr (.object K, ad, vs))) (I : Ins Z h y K true) : Sto Z h a (.ref y) := by
  obtain ⟨-, c, h2, -, -, -, h6⟩ := P.is hi
  exact Sto.of h2 (h6 K rfl) I
theorem inb {c : Cell} {j : Int32} (hc : c.slots = vs.toArray) (hj : ¬ j < 0) (hv : vs[j.toNatClampNeg]? = some v) : ¬ (j < 0 ∨ c.slots.size ≤ j.toNatClampNeg) := by
  have := (List.getElem?_eq_some_iff.mp hv).1
  rw [hc]; simp; exact ⟨by simpa using Int32.not_lt.mp hj, this⟩
theorem inb' {c : Cell} {j : Int32} (hc : c.slots = vs.toArray) (hj : ¬ j < 0) (hv : j.toNatClampNeg < vs.length) : ¬ (j < 0 ∨ c.slots.size ≤ j.toNatClampNeg) := by
  rw [hc]; simp; exact ⟨by simpa using Int32.not_lt.mp hj, hv⟩
end Hp
section WalkHp
variable {wd : Bool} {K₀ : State → Prop} {l : Launch} {Z : State} {R : Room} {y : MethodName} {bytes : ByteArray} {ml : Nat} {ret : Option FieldType} {n0 kc ks : Nat} {Q : Option Value → Heap → Prop} {h : Heap} {k n pc pc' tg : Nat} {ls : List Slot} {st : List Value} {a0 : Array Value} {L : List (Addr × Desc)} {i j : Nat} {K ad O nm d R0 host : String} {fs : List FD} {vs : List Value} {a : Addr} {ty : FieldType} {v old : Value}
theorem go_get {idx : Nat} (P : Hp Z n0 h L) (i j : Nat) (D : Dc bytes pc (.getfield idx) 3 pc') (hi : L[i]? = some (a, .inl (K, fs))) (hj : fs[j]? = some ((O, nm, d), v)) (w : (Cond.fieldLink y.cls idx O nm d).before a0 Z = true) (G : Go wd K₀ l Z R y bytes ml ret n0 kc ks Q h k n pc' ls (v :: st)) : Go wd K₀ l Z R y bytes ml ret n0 kc ks Q h k n pc ls (.ref a :: st) :=
  go_getF (host := "") D (Or.inl w) Via.refl (P.fld hi hj) G
theorem go_getN {idx : Nat} (P : Hp Z n0 h L) (i j : Nat) (D : Dc bytes pc (.getfield idx) 3 pc') (hi : L[i]? = some (a, .inl (K, fs))) (hj : fs[j]? = some ((O, nm, d), v)) (w : (Cond.fieldLinkNest y.cls idx O nm d host).before a0 Z = true) (G : Go wd K₀ l Z R y bytes ml ret n0 kc ks Q h k n pc' ls (v :: st)) : Go wd K₀ l Z R y bytes ml ret n0 kc ks Q h k n pc ls (.ref a :: st) :=
  go_getF (host := host) D (Or.inr w) Via.refl (P.fld hi hj) G
theorem go_put {idx kk : Nat} (P : Hp Z n0 h L) (i j : Nat) (ty : FieldType) (D : Dc bytes pc (.putfield idx) 3 pc') (hi : L[i]? = some (a, .inl (K, fs))) (hj : fs[j]? = some ((O, nm, d), old)) (w : (Cond.fieldLink y.cls idx O nm d).before a0 Z = true)
    (Lw : (Cond.lays K O nm d).before a0 Z = true ∨ ((Cond.laysFinal K O nm d).before a0 Z = true ∧ y.cls = O ∧ y.name = "<init>")) (wi : (Cond.instantiable K kk).before a0 Z = true) (hty : parseFieldDescriptor d = some ty) (hnr : narrow ty v = v) (hfi : fits ty v = true)
    (G : ∀ h', Hp Z n0 h' (lupd L i (a, .inl (K, lupd fs j ((O, nm, d), v)))) → Go wd K₀ l Z R y bytes ml ret n0 kc ks Q h' k n pc' ls st) : Go wd K₀ l Z R y bytes ml ret n0 kc ks Q h k n pc ls (v :: .ref a :: st) :=
  go_putF (host := "") D (Or.inl w) Via.refl (P.fld hi hj) (P.exa hi) Lw wi hty hnr hfi (P.ge hi) fun h' W => G h' (P.put hi hj W)
theorem go_new {idx sl : Nat} (P : Hp Z n0 h L) (fs : List FD) (D : Dc bytes pc (.new idx) 3 pc') (w : (Cond.classLink y.cls idx K).before a0 Z = true) (wi : (Cond.instantiable K sl).before a0 Z = true) (wz : (Cond.initialized K).before a0 Z = true) (Ld : LaysD Z a0 K fs) (nd : (fs.map fun f => f.1.2.1).Nodup) (hk : k + 1 ≤ R.cells) (hn : n + sl ≤ R.slots)
    (G : ∀ h' a, Hp Z n0 h' ((a, .inl (K, fs)) :: L) → Go wd K₀ l Z R y bytes ml ret n0 kc ks Q h' (k + 1) (n + sl) pc' ls (.ref a :: st)) : Go wd K₀ l Z R y bytes ml ret n0 kc ks Q h k n pc ls st :=
  go_newO D w wi wz hk hn fun h' E A F => G h' h.size (P.new E A F Ld nd)
theorem go_newarr {aty : ArrayType} {z : Int32} (P : Hp Z n0 h L) (ad : String) (vs : List Value) (cap : Nat) (D : Dc bytes pc (.newarray aty) 2 pc') (w : (Cond.arrayClass (newarray.typeOf aty)).before a0 Z = true) (hz : ¬ z < 0) (hcap : z.toNatClampNeg ≤ cap) (hb8 : cap * 8 ≤ 536870912) (had : "[" ++ (newarray.typeOf aty).toString = ad) (hty : newarray.typeOf aty = ty) (hvs : List.replicate z.toNatClampNeg (defaultValue ty) = vs) (hk : k + 1 ≤ R.cells) (hn : n + cap ≤ R.slots)
    (G : ∀ h' a, Hp Z n0 h' ((a, .inr (ty, ad, vs)) :: L) → Go wd K₀ l Z R y bytes ml ret n0 kc ks Q h' (k + 1) (n + cap) pc' ls (.ref a :: st)) : Go wd K₀ l Z R y bytes ml ret n0 kc ks Q h k n pc ls (.int z :: st) :=
  go_newP D w hz cap hcap hb8 hk hn had fun h' cA E A X => G h' h.size (P.newA E (hty ▸ A) X (fun K q => by subst hty; cases aty <;> cases q) hvs hz)
theorem go_newobjarr {idx : Nat} {z : Int32} (P : Hp Z n0 h L) (ad : String) (vs : List Value) (cap : Nat) (D : Dc bytes pc (.anewarray idx) 3 pc') (w1 : (Cond.classLink y.cls idx K).before a0 Z = true) (w2 : (Cond.arrayOver (.object K)).before a0 Z = true) (hz : ¬ z < 0) (hcap : z.toNatClampNeg ≤ cap) (hb8 : cap * 8 ≤ 536870912) (had : "[" ++ (FieldType.object K).toString = ad) (hvs : List.replicate z.toNatClampNeg Value.null = vs) (hk : k + 1 ≤ R.cells) (hn : n + cap ≤ R.slots)
    (G : ∀ h' a, Hp Z n0 h' ((a, .inr (.object K, ad, vs)) :: L) → Go wd K₀ l Z R y bytes ml ret n0 kc ks Q h' (k + 1) (n + cap) pc' ls (.ref a :: st)) : Go wd K₀ l Z R y bytes ml ret n0 kc ks Q h k n pc ls (.int z :: st) :=
  go_newR D w1 w2 hz cap hcap hb8 hk hn had fun h' cA E A X O => G h' h.size (P.newA E A X (fun K' q => by cases q; exact O) hvs hz)
theorem go_alen {z : Int32} (P : Hp Z n0 h L) (i : Nat) (D : Dc bytes pc .arraylength 1 pc') (hi : L[i]? = some (a, .inr (ty, ad, vs))) (hz : vs.length.toInt32 = z) (G : Go wd K₀ l Z R y bytes ml ret n0 kc ks Q h k n pc' ls (.int z :: st)) : Go wd K₀ l Z R y bytes ml ret n0 kc ks Q h k n pc ls (.ref a :: st) := by
  obtain ⟨-, c, h2, h3, -⟩ := P.is hi
  exact go_len D h2 (by rw [h3]; simpa using hz) G
theorem go_ialoadH {q : Int32} (P : Hp Z n0 h L) (i : Nat) (D : Dc bytes pc .iaload 1 pc') (hi : L[i]? = some (a, .inr (.int, ad, vs))) (hq : ¬ q < 0) (hv : vs[q.toNatClampNeg]? = some v) (G : Go wd K₀ l Z R y bytes ml ret n0 kc ks Q h k n pc' ls (v :: st)) : Go wd K₀ l Z R y bytes ml ret n0 kc ks Q h k n pc ls (.int q :: .ref a :: st) := by
  obtain ⟨-, c, h2, h3, -⟩ := P.is hi
  exact go_iaload D h2 (inb h3 hq hv) (by rw [h3]; simpa using hv) G
theorem go_caloadH {q : Int32} (P : Hp Z n0 h L) (i : Nat) (D : Dc bytes pc .caload 1 pc') (hi : L[i]? = some (a, .inr (.char, ad, vs))) (hq : ¬ q < 0) (hv : vs[q.toNatClampNeg]? = some v) (G : Go wd K₀ l Z R y bytes ml ret n0 kc ks Q h k n pc' ls (v :: st)) : Go wd K₀ l Z R y bytes ml ret n0 kc ks Q h k n pc ls (.int q :: .ref a :: st) := by
  obtain ⟨-, c, h2, h3, -⟩ := P.is hi
  exact go_caload D h2 (inb h3 hq hv) (by rw [h3]; simpa using hv) G
theorem go_baloadH {q : Int32} (P : Hp Z n0 h L) (i : Nat) (D : Dc bytes pc .baload 1 pc') (hi : L[i]? = some (a, .inr (.byte, ad, vs))) (hq : ¬ q < 0) (hv : vs[q.toNatClampNeg]? = some v) (G : Go wd K₀ l Z R y bytes ml ret n0 kc ks Q h k n pc' ls (v :: st)) : Go wd K₀ l Z R y bytes ml ret n0 kc ks Q h k n pc ls (.int q :: .ref a :: st) := by
  obtain ⟨-, c, h2, h3, -⟩ := P.is hi
  exact go_baload D h2 (inb h3 hq hv) (by rw [h3]; simpa using hv) G
theorem go_laloadH {q : Int32} (P : Hp Z n0 h L) (i : Nat) (D : Dc bytes pc .laload 1 pc') (hi : L[i]? = some (a, .inr (.long, ad, vs))) (hq : ¬ q < 0) (hv : vs[q.toNatClampNeg]? = some v) (G : Go wd K₀ l Z R y bytes ml ret n0 kc ks Q h k n pc' ls (v :: st)) : Go wd K₀ l Z R y bytes ml ret n0 kc ks Q h k n pc ls (.int q :: .ref a :: st) := by
  obtain ⟨-, c, h2, h3, -⟩ := P.is hi
  exact go_laload D h2 (inb h3 hq hv) (by rw [h3]; simpa using hv) G
theorem go_aaloadH {q : Int32} (P : Hp Z n0 h L) (i : Nat) (D : Dc bytes pc .aaload 1 pc') (hi : L[i]? = some (a, .inr (ty, ad, vs))) (hty : ty.isReference = true) (hq : ¬ q < 0) (hv : vs[q.toNatClampNeg]? = some v) (G : Go wd K₀ l Z R y bytes ml ret n0 kc ks Q h k n pc' ls (v :: st)) : Go wd K₀ l Z R y bytes ml ret n0 kc ks Q h k n pc ls (.int q :: .ref a :: st) := by
  obtain ⟨-, c, h2, h3, -⟩ := P.is hi
  exact go_aaload D h2 hty (inb h3 hq hv) (by rw [h3]; simpa using hv) G
theorem go_iastoreH {q : Int32} {x : Int32} (P : Hp Z n0 h L) (i : Nat) (D : Dc bytes pc .iastore 1 pc') (hi : L[i]? = some (a, .inr (.int, ad, vs))) (hq : ¬ q < 0) (hv : q.toNatClampNeg < vs.length) (G : ∀ h', Hp Z n0 h' (lupd L i (a, .inr (.int, ad, lupd vs q.toNatClampNeg (.int x)))) → Go wd K₀ l Z R y bytes ml ret n0 kc ks Q h' k n pc' ls st) : Go wd K₀ l Z R y bytes ml ret n0 kc ks Q h k n pc ls (.int x :: .int q :: .ref a :: st) := by
  obtain ⟨-, c, h2, h3, -⟩ := P.is hi
  exact go_iastore D h2 (inb' h3 hq hv) (P.ge hi) fun h' W => G h' (P.aput hi rfl W)
theorem go_lastoreH {q : Int32} {x : Int64} (P : Hp Z n0 h L) (i : Nat) (D : Dc bytes pc .lastore 1 pc') (hi : L[i]? = some (a, .inr (.long, ad, vs))) (hq : ¬ q < 0) (hv : q.toNatClampNeg < vs.length) (G : ∀ h', Hp Z n0 h' (lupd L i (a, .inr (.long, ad, lupd vs q.toNatClampNeg (.long x)))) → Go wd K₀ l Z R y bytes ml ret n0 kc ks Q h' k n pc' ls st) : Go wd K₀ l Z R y bytes ml ret n0 kc ks Q h k n pc ls (.long x :: .int q :: .ref a :: st) := by
  obtain ⟨-, c, h2, h3, -⟩ := P.is hi
  exact go_lastore D h2 (inb' h3 hq hv) (P.ge hi) fun h' W => G h' (P.aput hi rfl W)
theorem go_castoreH {q : Int32} {x : Int32} (P : Hp Z n0 h L) (i : Nat) (D : Dc bytes pc .castore 1 pc') (hi : L[i]? = some (a, .inr (.char, ad, vs))) (hq : ¬ q < 0) (hv : q.toNatClampNeg < vs.length) (G : ∀ h', Hp Z n0 h' (lupd L i (a, .inr (.char, ad, lupd vs q.toNatClampNeg (.int (nar .char x))))) → Go wd K₀ l Z R y bytes ml ret n0 kc ks Q h' k n pc' ls st) : Go wd K₀ l Z R y bytes ml ret n0 kc ks Q h k n pc ls (.int x :: .int q :: .ref a :: st) := by
  obtain ⟨-, c, h2, h3, -⟩ := P.is hi
  exact go_castore D h2 (inb' h3 hq hv) (P.ge hi) fun h' W => G h' (P.aput hi (fits_nar_char x) W)
theorem go_bastoreH {q : Int32} {x : Int32} (P : Hp Z n0 h L) (i : Nat) (D : Dc bytes pc .bastore 1 pc') (hi : L[i]? = some (a, .inr (.byte, ad, vs))) (hq : ¬ q < 0) (hv : q.toNatClampNeg < vs.length) (G : ∀ h', Hp Z n0 h' (lupd L i (a, .inr (.byte, ad, lupd vs q.toNatClampNeg (.int (nar .byte x))))) → Go wd K₀ l Z R y bytes ml ret n0 kc ks Q h' k n pc' ls st) : Go wd K₀ l Z R y bytes ml ret n0 kc ks Q h k n pc ls (.int x :: .int q :: .ref a :: st) := by
  obtain ⟨-, c, h2, h3, -⟩ := P.is hi
  exact go_bastore D h2 (inb' h3 hq hv) (P.ge hi) fun h' W => G h' (P.aput hi (fits_nar_byte x) W)
theorem go_zastoreH {q : Int32} {x : Int32} (P : Hp Z n0 h L) (i : Nat) (D : Dc bytes pc .bastore 1 pc') (hi : L[i]? = some (a, .inr (.boolean, ad, vs))) (hq : ¬ q < 0) (hv : q.toNatClampNeg < vs.length) (G : ∀ h', Hp Z n0 h' (lupd L i (a, .inr (.boolean, ad, lupd vs q.toNatClampNeg (.int (nar .boolean x))))) → Go wd K₀ l Z R y bytes ml ret n0 kc ks Q h' k n pc' ls st) : Go wd K₀ l Z R y bytes ml ret n0 kc ks Q h k n pc ls (.int x :: .int q :: .ref a :: st) := by
  obtain ⟨-, c, h2, h3, -⟩ := P.is hi
  exact go_zastore D h2 (inb' h3 hq hv) (P.ge hi) fun h' W => G h' (P.aput hi (fits_nar_bool x) W)
theorem go_clone {idx W : Nat} (P : Hp Z n0 h L) (i : Nat) (cap : Nat) (D : Dc bytes pc (.invokevirtual idx) 3 pc') (hi : L[i]? = some (a, .inr (ty, ad, vs)))
    (w1 : (Cond.methodLink y.cls idx ⟨ad, "clone", "()Ljava/lang/Object;"⟩).before a0 Z = true) (w2 : (Cond.sameMethod ad "java/lang/Object" "clone" "()Ljava/lang/Object;").before a0 Z = true) (w3 : (Cond.native ⟨"java/lang/Object", "clone", "()Ljava/lang/Object;"⟩).before a0 Z = true)
    (w4 : (Cond.instanceMethod ⟨"java/lang/Object", "clone", "()Ljava/lang/Object;"⟩).before a0 Z = true) (w5 : (Cond.selects ad ⟨ad, "clone", "()Ljava/lang/Object;"⟩ ⟨"java/lang/Object", "clone", "()Ljava/lang/Object;"⟩).before a0 Z = true) (w6 : (Cond.castable ad "java/lang/Cloneable").before a0 Z = true)
    (hlen : vs.length ≤ cap) (hls : ls.length = ml) (hf : 1 ≤ R.frames) (hW : (st.map fun v => v.category).sum = W) (hlo : W + 14 ≤ R.locals) (hk : k + 1 ≤ R.cells) (hn : n + cap ≤ R.slots)
    (G : ∀ h' b, Hp Z n0 h' ((b, .inr (ty, ad, vs)) :: L) → Go wd K₀ l Z R y bytes ml ret n0 kc ks Q h' (k + 1) (n + cap) pc' ls (.ref b :: st)) : Go wd K₀ l Z R y bytes ml ret n0 kc ks Q h k n pc ls (.ref a :: st) := by
  obtain ⟨E, cl, A, hs, hl31, hfit, hov⟩ := P.is hi
  intro p e s0 s m args below meth c T L' Bs C X hh N
  obtain ⟨hd, rfl⟩ := D
  have FC : FitC Z cl := fitC_of A fun q hq v hv => hfit v (by rw [hs] at hv; exact List.mem_of_getElem? (by simpa using hv))
  obtain ⟨T', h', X', e', ex, A', E', st'⟩ := cloneA X C.1 C.2.2.2.2.1 C.2.2.2.1 w1 w2 w3 w4 w5 w6 hh A E FC (g := mkF m pc ls.toArray (.ref a :: st)) rfl (by rw [C.2.2.1]; simpa using hls) rfl (hb C.2.1 hd) hf (W := W) (cap := cap) (by show 2 * 0 + _ ≤ W; rw [← hW]; omega) hlo (by rw [hs]; simpa using hlen) hk hn
  exact (G h' h.size (P.grow ex ⟨E', cloneOf cl, A', hs, hl31, hfit, hov⟩) p e s0 s m args below meth c T' L' (Bs.mono ex.1) C X' e' N).pre st'
def Dts (bytes : ByteArray) (pc : Nat) (x : Int32) (tg : Nat) : Prop := ∃ (d lo hi : Int) (offs : Array Int) (len : Nat) (o : Int), decode bytes pc = .ok (.tableswitch d lo hi offs, len) ∧ ¬ (x.toInt < lo ∨ x.toInt > hi) ∧ offs[(x.toInt - lo).toNat]? = some o ∧ 0 ≤ (pc : Int) + o ∧ ((pc : Int) + o).toNat = tg
def Dlk (bytes : ByteArray) (pc : Nat) (x : Int32) (tg : Nat) : Prop := ∃ (d : Int) (prs : Array (Int × Int)) (len : Nat), decode bytes pc = .ok (.lookupswitch d prs, len) ∧ (prs.toList.zip (prs.toList.drop 1)).all (fun (a, next) => a.1 < next.1) = true ∧ 0 ≤ (pc : Int) + lookupswitch.offset prs.toList d x.toInt ∧ ((pc : Int) + lookupswitch.offset prs.toList d x.toInt).toNat = tg
theorem lswX {tb : Tables} [Ours tb] {e : Env} {below : List Frame} {T target : State} {m : MethodId} {c : Code} {g : JFrame} (h : At T m c below) (hx : tb.exec = Jvm.exec) (hg : g.method = m) {d : Int} {prs : Array (Int × Int)} {len : Nat} {pc0 pc' : Nat} (hpc : g.pc = pc0) (hd : decode c.code g.pc = .ok (.lookupswitch d prs, len)) {i : Int32} {rest : List Value} (hs : g.stack = .int i :: rest)
    (hor : (prs.toList.zip (prs.toList.drop 1)).all (fun (a, next) => a.1 < next.1) = true) (ho : 0 ≤ (pc0 : Int) + lookupswitch.offset prs.toList d i.toInt) (hp : ((pc0 : Int) + lookupswitch.offset prs.toList d i.toInt).toNat = pc')
    (hr : Steps tb e below (T.setTop { g with pc := pc', stack := rest }) target) : Steps tb e below (T.setTop g) target := by
  subst hg hpc hp
  jvm_step h [h.top, hx, hd, hs, hor, ho, lookupswitch.wp_chain]
  exact ⟨by simpa using hor, hr⟩
theorem go_tsw {x : Int32} (D : Dts bytes pc x tg) (G : Go wd K₀ l Z R y bytes ml ret n0 kc ks Q h k n tg ls st) : Go wd K₀ l Z R y bytes ml ret n0 kc ks Q h k n pc ls (.int x :: st) := by
  obtain ⟨d, lo, hi, offs, len, o, hd, h1, h2, h3, h4⟩ := D
  exact go_pure G (fun C X t => XS.tswIn X.here C.1 (g := mkF _ pc ls.toArray (.int x :: st)) rfl (pc0 := pc) rfl (hb C.2.1 hd) rfl h1 h2 h3 h4)
theorem go_lsw {x : Int32} (D : Dlk bytes pc x tg) (G : Go wd K₀ l Z R y bytes ml ret n0 kc ks Q h k n tg ls st) : Go wd K₀ l Z R y bytes ml ret n0 kc ks Q h k n pc ls (.int x :: st) := by
  obtain ⟨d, prs, len, hd, h1, h3, h4⟩ := D
  exact go_pure G (fun C X t => lswX X.here C.1 (g := mkF _ pc ls.toArray (.int x :: st)) rfl (pc0 := pc) rfl (hb C.2.1 hd) rfl h1 h3 h4)
theorem Hp.insA {i : Nat} (P : Hp Z n0 h L) (hi : L[i]? = some (a, .inr (ty, ad, vs))) : Ins Z h a ad true := Ins.self (P.exaA hi)
theorem go_aastoreH {q : Int32} (P : Hp Z n0 h L) (i : Nat) (D : Dc bytes pc .aastore 1 pc') (hi : L[i]? = some (a, .inr (ty, ad, vs))) (hty : ty.isReference = true) (hf : fits ty v = true) (hq : ¬ q < 0) (hv : q.toNatClampNeg < vs.length) (F : Sto Z h a v) (G : ∀ h', Hp Z n0 h' (lupd L i (a, .inr (ty, ad, lupd vs q.toNatClampNeg v))) → Go wd K₀ l Z R y bytes ml ret n0 kc ks Q h' k n pc' ls st) : Go wd K₀ l Z R y bytes ml ret n0 kc ks Q h k n pc ls (v :: .int q :: .ref a :: st) := by
  obtain ⟨-, c, h2, h3, -⟩ := P.is hi
  exact go_aastore D h2 (inb' h3 hq hv) hty F (P.ge hi) fun h' W => G h' (P.aput hi hf W)
end WalkHp
end Jvm.OwnGo
namespace Jvm.Pilot.@@N@@
open Jvm Jvm.ClassFile Sem Op Lib Jvm.Free Jvm.Stand Jvm.LawKit Jvm.RoadKit Bundle Jvm.OwnGo Jvm.Pilot.@@N@@.Jvm.D
theorem t0 {Z : State} {a0 : Array Value} (hw : ∀ d ∈ tables_1, d.before a0 Z = true) : (Jvm.Cond.fieldLink "com/example/need_to_know/needtoknow/ModeOfPinLaw" (7 : Nat) "com/example/need_to_know/needtoknow/Mode" "READ" "Lcom/example/need_to_know/needtoknow/Mode;").before a0 Z = true := hw _ (List.mem_of_getElem? (i := 0) rfl)
theorem t1 {Z : State} {a0 : Array Value} (hw : ∀ d ∈ tables_1, d.before a0 Z = true) : (Jvm.Cond.initialized "com/example/need_to_know/needtoknow/Mode").before a0 Z = true := hw _ (List.mem_of_getElem? (i := 1) rfl)
theorem t2 {Z : State} {a0 : Array Value} (hw : ∀ d ∈ tables_1, d.before a0 Z = true) : (Jvm.Cond.laysStatic "com/example/need_to_know/needtoknow/Mode" "READ" "Lcom/example/need_to_know/needtoknow/Mode;").before a0 Z = true := hw _ (List.mem_of_getElem? (i := 2) rfl)
theorem t3 {Z : State} {a0 : Array Value} (hw : ∀ d ∈ tables_1, d.before a0 Z = true) : (Jvm.Cond.arrayClass Jvm.ClassFile.FieldType.char).before a0 Z = true := hw _ (List.mem_of_getElem? (i := 3) rfl)
theorem t4 {Z : State} {a0 : Array Value} (hw : ∀ d ∈ tables_1, d.before a0 Z = true) : (Jvm.Cond.classLink "com/example/need_to_know/needtoknow/ModeOfPinLaw" (22 : Nat) "java/lang/String").before a0 Z = true := hw _ (List.mem_of_getElem? (i := 4) rfl)
theorem t5 {Z : State} {a0 : Array Value} (hw : ∀ d ∈ tables_1, d.before a0 Z = true) : (Jvm.Cond.instantiable "java/lang/String" (4 : Nat)).before a0 Z = true := hw _ (List.mem_of_getElem? (i := 5) rfl)
theorem t6 {Z : State} {a0 : Array Value} (hw : ∀ d ∈ tables_1, d.before a0 Z = true) : (Jvm.Cond.initialized "java/lang/String").before a0 Z = true := hw _ (List.mem_of_getElem? (i := 6) rfl)
theorem t7 {Z : State} {a0 : Array Value} (hw : ∀ d ∈ tables_1, d.before a0 Z = true) : (Jvm.Cond.methodLink "com/example/need_to_know/needtoknow/ModeOfPinLaw" (24 : Nat) ({ cls := "java/lang/String", name := "<init>", desc := "([C)V" } : Jvm.MethodName)).before a0 Z = true := hw _ (List.mem_of_getElem? (i := 7) rfl)
theorem t8 {Z : State} {a0 : Array Value} (hw : ∀ d ∈ tables_1, d.before a0 Z = true) : (Jvm.Cond.instanceMethod ({ cls := "java/lang/String", name := "<init>", desc := "([C)V" } : Jvm.MethodName)).before a0 Z = true := hw _ (List.mem_of_getElem? (i := 8) rfl)
theorem t9 {Z : State} {a0 : Array Value} (hw : ∀ d ∈ tables_1, d.before a0 Z = true) : (Jvm.Cond.code ({ cls := "java/lang/String", name := "<init>", desc := "([C)V" } : Jvm.MethodName) jdk_42_method_3_code (2 : Nat) (Option.none : Option Jvm.ClassFile.FieldType)).before a0 Z = true := hw _ (List.mem_of_getElem? (i := 9) rfl)
theorem t10 {Z : State} {a0 : Array Value} (hw : ∀ d ∈ tables_1, d.before a0 Z = true) : (Jvm.Cond.methodLink "java/lang/String" (27 : Nat) ({ cls := "java/lang/String", name := "<init>", desc := "([CIILjava/lang/Void;)V" } : Jvm.MethodName)).before a0 Z = true := hw _ (List.mem_of_getElem? (i := 10) rfl)
theorem t11 {Z : State} {a0 : Array Value} (hw : ∀ d ∈ tables_1, d.before a0 Z = true) : (Jvm.Cond.instanceMethod ({ cls := "java/lang/String", name := "<init>", desc := "([CIILjava/lang/Void;)V" } : Jvm.MethodName)).before a0 Z = true := hw _ (List.mem_of_getElem? (i := 11) rfl)
theorem t13 {Z : State} {a0 : Array Value} (hw : ∀ d ∈ tables_1, d.before a0 Z = true) : (Jvm.Cond.code ({ cls := "java/lang/String", name := "<init>", desc := "([CIILjava/lang/Void;)V" } : Jvm.MethodName) jdk_42_method_149_code (6 : Nat) (Option.none : Option Jvm.ClassFile.FieldType)).before a0 Z = true := hw _ (List.mem_of_getElem? (i := 13) rfl)
theorem t14 {Z : State} {a0 : Array Value} (hw : ∀ d ∈ tables_1, d.before a0 Z = true) : (Jvm.Cond.methodLink "java/lang/String" (1 : Nat) ({ cls := "java/lang/Object", name := "<init>", desc := "()V" } : Jvm.MethodName)).before a0 Z = true := hw _ (List.mem_of_getElem? (i := 14) rfl)
theorem t15 {Z : State} {a0 : Array Value} (hw : ∀ d ∈ tables_1, d.before a0 Z = true) : (Jvm.Cond.instanceMethod ({ cls := "java/lang/Object", name := "<init>", desc := "()V" } : Jvm.MethodName)).before a0 Z = true := hw _ (List.mem_of_getElem? (i := 15) rfl)
theorem t16 {Z : State} {a0 : Array Value} (hw : ∀ d ∈ tables_1, d.before a0 Z = true) : (Jvm.Cond.code ({ cls := "java/lang/Object", name := "<init>", desc := "()V" } : Jvm.MethodName) object_method_1_code (1 : Nat) (Option.none : Option Jvm.ClassFile.FieldType)).before a0 Z = true := hw _ (List.mem_of_getElem? (i := 16) rfl)
theorem t17 {Z : State} {a0 : Array Value} (hw : ∀ d ∈ tables_1, d.before a0 Z = true) : (Jvm.Cond.fieldLink "java/lang/String" (38 : Nat) "java/lang/String" "COMPACT_STRINGS" "Z").before a0 Z = true := hw _ (List.mem_of_getElem? (i := 17) rfl)
theorem t18 {Z : State} {a0 : Array Value} (hw : ∀ d ∈ tables_1, d.before a0 Z = true) : (Jvm.Cond.methodLink "java/lang/String" (177 : Nat) ({ cls := "java/lang/StringUTF16", name := "compress", desc := "([CII)[B" } : Jvm.MethodName)).before a0 Z = true := hw _ (List.mem_of_getElem? (i := 18) rfl)
theorem t19 {Z : State} {a0 : Array Value} (hw : ∀ d ∈ tables_1, d.before a0 Z = true) : (Jvm.Cond.static ({ cls := "java/lang/StringUTF16", name := "compress", desc := "([CII)[B" } : Jvm.MethodName)).before a0 Z = true := hw _ (List.mem_of_getElem? (i := 19) rfl)
theorem t20 {Z : State} {a0 : Array Value} (hw : ∀ d ∈ tables_1, d.before a0 Z = true) : (Jvm.Cond.initialized "java/lang/StringUTF16").before a0 Z = true := hw _ (List.mem_of_getElem? (i := 20) rfl)
theorem t21 {Z : State} {a0 : Array Value} (hw : ∀ d ∈ tables_1, d.before a0 Z = true) : (Jvm.Cond.code ({ cls := "java/lang/StringUTF16", name := "compress", desc := "([CII)[B" } : Jvm.MethodName) jdk_52_method_16_code (6 : Nat) (Option.some (Jvm.ClassFile.FieldType.array Jvm.ClassFile.FieldType.byte))).before a0 Z = true := hw _ (List.mem_of_getElem? (i := 21) rfl)
theorem t22 {Z : State} {a0 : Array Value} (hw : ∀ d ∈ tables_1, d.before a0 Z = true) : (Jvm.Cond.arrayClass Jvm.ClassFile.FieldType.byte).before a0 Z = true := hw _ (List.mem_of_getElem? (i := 22) rfl)
theorem t23 {Z : State} {a0 : Array Value} (hw : ∀ d ∈ tables_1, d.before a0 Z = true) : (Jvm.Cond.methodLink "java/lang/StringUTF16" (115 : Nat) ({ cls := "java/lang/StringUTF16", name := "compress", desc := "([CI[BII)I" } : Jvm.MethodName)).before a0 Z = true := hw _ (List.mem_of_getElem? (i := 23) rfl)
theorem t24 {Z : State} {a0 : Array Value} (hw : ∀ d ∈ tables_1, d.before a0 Z = true) : (Jvm.Cond.static ({ cls := "java/lang/StringUTF16", name := "compress", desc := "([CI[BII)I" } : Jvm.MethodName)).before a0 Z = true := hw _ (List.mem_of_getElem? (i := 24) rfl)
theorem t25 {Z : State} {a0 : Array Value} (hw : ∀ d ∈ tables_1, d.before a0 Z = true) : (Jvm.Cond.code ({ cls := "java/lang/StringUTF16", name := "compress", desc := "([CI[BII)I" } : Jvm.MethodName) jdk_52_method_21_code (7 : Nat) (Option.some Jvm.ClassFile.FieldType.int)).before a0 Z = true := hw _ (List.mem_of_getElem? (i := 25) rfl)
theorem t26 {Z : State} {a0 : Array Value} (hw : ∀ d ∈ tables_1, d.before a0 Z = true) : (Jvm.Cond.methodLink "java/lang/String" (47 : Nat) ({ cls := "java/lang/StringUTF16", name := "coderFromArrayLen", desc := "([BI)B" } : Jvm.MethodName)).before a0 Z = true := hw _ (List.mem_of_getElem? (i := 26) rfl)
theorem t27 {Z : State} {a0 : Array Value} (hw : ∀ d ∈ tables_1, d.before a0 Z = true) : (Jvm.Cond.static ({ cls := "java/lang/StringUTF16", name := "coderFromArrayLen", desc := "([BI)B" } : Jvm.MethodName)).before a0 Z = true := hw _ (List.mem_of_getElem? (i := 27) rfl)
theorem t28 {Z : State} {a0 : Array Value} (hw : ∀ d ∈ tables_1, d.before a0 Z = true) : (Jvm.Cond.code ({ cls := "java/lang/StringUTF16", name := "coderFromArrayLen", desc := "([BI)B" } : Jvm.MethodName) jdk_52_method_15_code (2 : Nat) (Option.some Jvm.ClassFile.FieldType.byte)).before a0 Z = true := hw _ (List.mem_of_getElem? (i := 28) rfl)
theorem t29 {Z : State} {a0 : Array Value} (hw : ∀ d ∈ tables_1, d.before a0 Z = true) : (Jvm.Cond.fieldLink "java/lang/String" (15 : Nat) "java/lang/String" "coder" "B").before a0 Z = true := hw _ (List.mem_of_getElem? (i := 29) rfl)
theorem t30 {Z : State} {a0 : Array Value} (hw : ∀ d ∈ tables_1, d.before a0 Z = true) : (Jvm.Cond.laysFinal "java/lang/String" "java/lang/String" "coder" "B").before a0 Z = true := hw _ (List.mem_of_getElem? (i := 30) rfl)
theorem t31 {Z : State} {a0 : Array Value} (hw : ∀ d ∈ tables_1, d.before a0 Z = true) : (Jvm.Cond.fieldLink "java/lang/String" (9 : Nat) "java/lang/String" "value" "[B").before a0 Z = true := hw _ (List.mem_of_getElem? (i := 31) rfl)
theorem t32 {Z : State} {a0 : Array Value} (hw : ∀ d ∈ tables_1, d.before a0 Z = true) : (Jvm.Cond.laysFinal "java/lang/String" "java/lang/String" "value" "[B").before a0 Z = true := hw _ (List.mem_of_getElem? (i := 32) rfl)
theorem t33 {Z : State} {a0 : Array Value} (hw : ∀ d ∈ tables_1, d.before a0 Z = true) : (Jvm.Cond.methodLink "com/example/need_to_know/needtoknow/ModeOfPinLaw" (27 : Nat) ({ cls := "com/example/need_to_know/needtoknow/Mode", name := "of", desc := "(Ljava/lang/String;)Lcom/example/need_to_know/needtoknow/Mode;" } : Jvm.MethodName)).before a0 Z = true := hw _ (List.mem_of_getElem? (i := 33) rfl)
theorem t34 {Z : State} {a0 : Array Value} (hw : ∀ d ∈ tables_1, d.before a0 Z = true) : (Jvm.Cond.static ({ cls := "com/example/need_to_know/needtoknow/Mode", name := "of", desc := "(Ljava/lang/String;)Lcom/example/need_to_know/needtoknow/Mode;" } : Jvm.MethodName)).before a0 Z = true := hw _ (List.mem_of_getElem? (i := 34) rfl)
theorem t35 {Z : State} {a0 : Array Value} (hw : ∀ d ∈ tables_1, d.before a0 Z = true) : (Jvm.Cond.code ({ cls := "com/example/need_to_know/needtoknow/Mode", name := "of", desc := "(Ljava/lang/String;)Lcom/example/need_to_know/needtoknow/Mode;" } : Jvm.MethodName) prog_20_method_7_code (5 : Nat) (Option.some (Jvm.ClassFile.FieldType.object "com/example/need_to_know/needtoknow/Mode"))).before a0 Z = true := hw _ (List.mem_of_getElem? (i := 35) rfl)
theorem t36 {Z : State} {a0 : Array Value} (hw : ∀ d ∈ tables_1, d.before a0 Z = true) : (Jvm.Cond.methodLink "com/example/need_to_know/needtoknow/Mode" (46 : Nat) ({ cls := "java/lang/String", name := "length", desc := "()I" } : Jvm.MethodName)).before a0 Z = true := hw _ (List.mem_of_getElem? (i := 36) rfl)
theorem t37 {Z : State} {a0 : Array Value} (hw : ∀ d ∈ tables_1, d.before a0 Z = true) : (Jvm.Cond.declares ({ cls := "java/lang/String", name := "length", desc := "()I" } : Jvm.MethodName)).before a0 Z = true := hw _ (List.mem_of_getElem? (i := 37) rfl)
theorem t38 {Z : State} {a0 : Array Value} (hw : ∀ d ∈ tables_1, d.before a0 Z = true) : (Jvm.Cond.instanceMethod ({ cls := "java/lang/String", name := "length", desc := "()I" } : Jvm.MethodName)).before a0 Z = true := hw _ (List.mem_of_getElem? (i := 38) rfl)
theorem t39 {Z : State} {a0 : Array Value} (hw : ∀ d ∈ tables_1, d.before a0 Z = true) : (Jvm.Cond.selects "java/lang/String" ({ cls := "java/lang/String", name := "length", desc := "()I" } : Jvm.MethodName) ({ cls := "java/lang/String", name := "length", desc := "()I" } : Jvm.MethodName)).before a0 Z = true := hw _ (List.mem_of_getElem? (i := 39) rfl)
theorem t40 {Z : State} {a0 : Array Value} (hw : ∀ d ∈ tables_1, d.before a0 Z = true) : (Jvm.Cond.code ({ cls := "java/lang/String", name := "length", desc := "()I" } : Jvm.MethodName) jdk_42_method_54_code (1 : Nat) (Option.some Jvm.ClassFile.FieldType.int)).before a0 Z = true := hw _ (List.mem_of_getElem? (i := 40) rfl)
theorem t41 {Z : State} {a0 : Array Value} (hw : ∀ d ∈ tables_1, d.before a0 Z = true) : (Jvm.Cond.methodLink "java/lang/String" (335 : Nat) ({ cls := "java/lang/String", name := "coder", desc := "()B" } : Jvm.MethodName)).before a0 Z = true := hw _ (List.mem_of_getElem? (i := 41) rfl)
theorem t42 {Z : State} {a0 : Array Value} (hw : ∀ d ∈ tables_1, d.before a0 Z = true) : (Jvm.Cond.declares ({ cls := "java/lang/String", name := "coder", desc := "()B" } : Jvm.MethodName)).before a0 Z = true := hw _ (List.mem_of_getElem? (i := 42) rfl)
theorem t43 {Z : State} {a0 : Array Value} (hw : ∀ d ∈ tables_1, d.before a0 Z = true) : (Jvm.Cond.instanceMethod ({ cls := "java/lang/String", name := "coder", desc := "()B" } : Jvm.MethodName)).before a0 Z = true := hw _ (List.mem_of_getElem? (i := 43) rfl)
theorem t44 {Z : State} {a0 : Array Value} (hw : ∀ d ∈ tables_1, d.before a0 Z = true) : (Jvm.Cond.selects "java/lang/String" ({ cls := "java/lang/String", name := "coder", desc := "()B" } : Jvm.MethodName) ({ cls := "java/lang/String", name := "coder", desc := "()B" } : Jvm.MethodName)).before a0 Z = true := hw _ (List.mem_of_getElem? (i := 44) rfl)
theorem t45 {Z : State} {a0 : Array Value} (hw : ∀ d ∈ tables_1, d.before a0 Z = true) : (Jvm.Cond.code ({ cls := "java/lang/String", name := "coder", desc := "()B" } : Jvm.MethodName) jdk_42_method_152_code (1 : Nat) (Option.some Jvm.ClassFile.FieldType.byte)).before a0 Z = true := hw _ (List.mem_of_getElem? (i := 45) rfl)
theorem t46 {Z : State} {a0 : Array Value} (hw : ∀ d ∈ tables_1, d.before a0 Z = true) : (Jvm.Cond.methodLink "com/example/need_to_know/needtoknow/Mode" (52 : Nat) ({ cls := "com/example/need_to_know/needtoknow/Mode", name := "values", desc := "()[Lcom/example/need_to_know/needtoknow/Mode;" } : Jvm.MethodName)).before a0 Z = true := hw _ (List.mem_of_getElem? (i := 46) rfl)
theorem t47 {Z : State} {a0 : Array Value} (hw : ∀ d ∈ tables_1, d.before a0 Z = true) : (Jvm.Cond.static ({ cls := "com/example/need_to_know/needtoknow/Mode", name := "values", desc := "()[Lcom/example/need_to_know/needtoknow/Mode;" } : Jvm.MethodName)).before a0 Z = true := hw _ (List.mem_of_getElem? (i := 47) rfl)
theorem t48 {Z : State} {a0 : Array Value} (hw : ∀ d ∈ tables_1, d.before a0 Z = true) : (Jvm.Cond.code ({ cls := "com/example/need_to_know/needtoknow/Mode", name := "values", desc := "()[Lcom/example/need_to_know/needtoknow/Mode;" } : Jvm.MethodName) prog_20_method_1_code (0 : Nat) (Option.some (Jvm.ClassFile.FieldType.array (Jvm.ClassFile.FieldType.object "com/example/need_to_know/needtoknow/Mode")))).before a0 Z = true := hw _ (List.mem_of_getElem? (i := 48) rfl)
theorem t49 {Z : State} {a0 : Array Value} (hw : ∀ d ∈ tables_1, d.before a0 Z = true) : (Jvm.Cond.fieldLink "com/example/need_to_know/needtoknow/Mode" (16 : Nat) "com/example/need_to_know/needtoknow/Mode" "$VALUES" "[Lcom/example/need_to_know/needtoknow/Mode;").before a0 Z = true := hw _ (List.mem_of_getElem? (i := 49) rfl)
theorem t51 {Z : State} {a0 : Array Value} (hw : ∀ d ∈ tables_1, d.before a0 Z = true) : (Jvm.Cond.methodLink "com/example/need_to_know/needtoknow/Mode" (20 : Nat) ({ cls := "[Lcom/example/need_to_know/needtoknow/Mode;", name := "clone", desc := "()Ljava/lang/Object;" } : Jvm.MethodName)).before a0 Z = true := hw _ (List.mem_of_getElem? (i := 51) rfl)
theorem t52 {Z : State} {a0 : Array Value} (hw : ∀ d ∈ tables_1, d.before a0 Z = true) : (Jvm.Cond.sameMethod "[Lcom/example/need_to_know/needtoknow/Mode;" "java/lang/Object" "clone" "()Ljava/lang/Object;").before a0 Z = true := hw _ (List.mem_of_getElem? (i := 52) rfl)
theorem t54 {Z : State} {a0 : Array Value} (hw : ∀ d ∈ tables_1, d.before a0 Z = true) : (Jvm.Cond.instanceMethod ({ cls := "java/lang/Object", name := "clone", desc := "()Ljava/lang/Object;" } : Jvm.MethodName)).before a0 Z = true := hw _ (List.mem_of_getElem? (i := 54) rfl)
theorem t55 {Z : State} {a0 : Array Value} (hw : ∀ d ∈ tables_1, d.before a0 Z = true) : (Jvm.Cond.selects "[Lcom/example/need_to_know/needtoknow/Mode;" ({ cls := "[Lcom/example/need_to_know/needtoknow/Mode;", name := "clone", desc := "()Ljava/lang/Object;" } : Jvm.MethodName) ({ cls := "java/lang/Object", name := "clone", desc := "()Ljava/lang/Object;" } : Jvm.MethodName)).before a0 Z = true := hw _ (List.mem_of_getElem? (i := 55) rfl)
theorem t56 {Z : State} {a0 : Array Value} (hw : ∀ d ∈ tables_1, d.before a0 Z = true) : (Jvm.Cond.native ({ cls := "java/lang/Object", name := "clone", desc := "()Ljava/lang/Object;" } : Jvm.MethodName)).before a0 Z = true := hw _ (List.mem_of_getElem? (i := 56) rfl)
theorem t57 {Z : State} {a0 : Array Value} (hw : ∀ d ∈ tables_1, d.before a0 Z = true) : (Jvm.Cond.castable "[Lcom/example/need_to_know/needtoknow/Mode;" "java/lang/Cloneable").before a0 Z = true := hw _ (List.mem_of_getElem? (i := 57) rfl)
theorem t58 {Z : State} {a0 : Array Value} (hw : ∀ d ∈ tables_1, d.before a0 Z = true) : (Jvm.Cond.laysStatic "com/example/need_to_know/needtoknow/Mode" "WRITE" "Lcom/example/need_to_know/needtoknow/Mode;").before a0 Z = true := hw _ (List.mem_of_getElem? (i := 58) rfl)
theorem t59 {Z : State} {a0 : Array Value} (hw : ∀ d ∈ tables_1, d.before a0 Z = true) : (Jvm.Cond.laysStatic "com/example/need_to_know/needtoknow/Mode" "APPEND" "Lcom/example/need_to_know/needtoknow/Mode;").before a0 Z = true := hw _ (List.mem_of_getElem? (i := 59) rfl)
theorem t60 {Z : State} {a0 : Array Value} (hw : ∀ d ∈ tables_1, d.before a0 Z = true) : (Jvm.Cond.laysStatic "com/example/need_to_know/needtoknow/Mode" "EXECUTE" "Lcom/example/need_to_know/needtoknow/Mode;").before a0 Z = true := hw _ (List.mem_of_getElem? (i := 60) rfl)
theorem t61 {Z : State} {a0 : Array Value} (hw : ∀ d ∈ tables_1, d.before a0 Z = true) : (Jvm.Cond.initializedFor "com/example/need_to_know/needtoknow/Mode" "$VALUES" "[Lcom/example/need_to_know/needtoknow/Mode;").before a0 Z = true := hw _ (List.mem_of_getElem? (i := 61) rfl)
theorem t62 {Z : State} {a0 : Array Value} (hw : ∀ d ∈ tables_1, d.before a0 Z = true) : (Jvm.Cond.classLink "com/example/need_to_know/needtoknow/Mode" (21 : Nat) "[Lcom/example/need_to_know/needtoknow/Mode;").before a0 Z = true := hw _ (List.mem_of_getElem? (i := 62) rfl)
theorem t64 {Z : State} {a0 : Array Value} (hw : ∀ d ∈ tables_1, d.before a0 Z = true) : (Jvm.Cond.fieldLink "com/example/need_to_know/needtoknow/Mode" (35 : Nat) "com/example/need_to_know/needtoknow/Mode" "letter" "C").before a0 Z = true := hw _ (List.mem_of_getElem? (i := 64) rfl)
theorem t66 {Z : State} {a0 : Array Value} (hw : ∀ d ∈ tables_1, d.before a0 Z = true) : (Jvm.Cond.methodLink "com/example/need_to_know/needtoknow/Mode" (56 : Nat) ({ cls := "java/lang/String", name := "charAt", desc := "(I)C" } : Jvm.MethodName)).before a0 Z = true := hw _ (List.mem_of_getElem? (i := 66) rfl)
theorem t67 {Z : State} {a0 : Array Value} (hw : ∀ d ∈ tables_1, d.before a0 Z = true) : (Jvm.Cond.declares ({ cls := "java/lang/String", name := "charAt", desc := "(I)C" } : Jvm.MethodName)).before a0 Z = true := hw _ (List.mem_of_getElem? (i := 67) rfl)
theorem t68 {Z : State} {a0 : Array Value} (hw : ∀ d ∈ tables_1, d.before a0 Z = true) : (Jvm.Cond.instanceMethod ({ cls := "java/lang/String", name := "charAt", desc := "(I)C" } : Jvm.MethodName)).before a0 Z = true := hw _ (List.mem_of_getElem? (i := 68) rfl)
theorem t69 {Z : State} {a0 : Array Value} (hw : ∀ d ∈ tables_1, d.before a0 Z = true) : (Jvm.Cond.selects "java/lang/String" ({ cls := "java/lang/String", name := "charAt", desc := "(I)C" } : Jvm.MethodName) ({ cls := "java/lang/String", name := "charAt", desc := "(I)C" } : Jvm.MethodName)).before a0 Z = true := hw _ (List.mem_of_getElem? (i := 69) rfl)
theorem t70 {Z : State} {a0 : Array Value} (hw : ∀ d ∈ tables_1, d.before a0 Z = true) : (Jvm.Cond.code ({ cls := "java/lang/String", name := "charAt", desc := "(I)C" } : Jvm.MethodName) jdk_42_method_56_code (2 : Nat) (Option.some Jvm.ClassFile.FieldType.char)).before a0 Z = true := hw _ (List.mem_of_getElem? (i := 70) rfl)
theorem t71 {Z : State} {a0 : Array Value} (hw : ∀ d ∈ tables_1, d.before a0 Z = true) : (Jvm.Cond.methodLink "java/lang/String" (492 : Nat) ({ cls := "java/lang/String", name := "isLatin1", desc := "()Z" } : Jvm.MethodName)).before a0 Z = true := hw _ (List.mem_of_getElem? (i := 71) rfl)
theorem t72 {Z : State} {a0 : Array Value} (hw : ∀ d ∈ tables_1, d.before a0 Z = true) : (Jvm.Cond.declares ({ cls := "java/lang/String", name := "isLatin1", desc := "()Z" } : Jvm.MethodName)).before a0 Z = true := hw _ (List.mem_of_getElem? (i := 72) rfl)
theorem t73 {Z : State} {a0 : Array Value} (hw : ∀ d ∈ tables_1, d.before a0 Z = true) : (Jvm.Cond.instanceMethod ({ cls := "java/lang/String", name := "isLatin1", desc := "()Z" } : Jvm.MethodName)).before a0 Z = true := hw _ (List.mem_of_getElem? (i := 73) rfl)
theorem t74 {Z : State} {a0 : Array Value} (hw : ∀ d ∈ tables_1, d.before a0 Z = true) : (Jvm.Cond.selects "java/lang/String" ({ cls := "java/lang/String", name := "isLatin1", desc := "()Z" } : Jvm.MethodName) ({ cls := "java/lang/String", name := "isLatin1", desc := "()Z" } : Jvm.MethodName)).before a0 Z = true := hw _ (List.mem_of_getElem? (i := 74) rfl)
theorem t75 {Z : State} {a0 : Array Value} (hw : ∀ d ∈ tables_1, d.before a0 Z = true) : (Jvm.Cond.code ({ cls := "java/lang/String", name := "isLatin1", desc := "()Z" } : Jvm.MethodName) jdk_42_method_154_code (1 : Nat) (Option.some Jvm.ClassFile.FieldType.boolean)).before a0 Z = true := hw _ (List.mem_of_getElem? (i := 75) rfl)
theorem t76 {Z : State} {a0 : Array Value} (hw : ∀ d ∈ tables_1, d.before a0 Z = true) : (Jvm.Cond.methodLink "java/lang/String" (495 : Nat) ({ cls := "java/lang/StringLatin1", name := "charAt", desc := "([BI)C" } : Jvm.MethodName)).before a0 Z = true := hw _ (List.mem_of_getElem? (i := 76) rfl)
theorem t77 {Z : State} {a0 : Array Value} (hw : ∀ d ∈ tables_1, d.before a0 Z = true) : (Jvm.Cond.static ({ cls := "java/lang/StringLatin1", name := "charAt", desc := "([BI)C" } : Jvm.MethodName)).before a0 Z = true := hw _ (List.mem_of_getElem? (i := 77) rfl)
theorem t78 {Z : State} {a0 : Array Value} (hw : ∀ d ∈ tables_1, d.before a0 Z = true) : (Jvm.Cond.initialized "java/lang/StringLatin1").before a0 Z = true := hw _ (List.mem_of_getElem? (i := 78) rfl)
theorem t79 {Z : State} {a0 : Array Value} (hw : ∀ d ∈ tables_1, d.before a0 Z = true) : (Jvm.Cond.code ({ cls := "java/lang/StringLatin1", name := "charAt", desc := "([BI)C" } : Jvm.MethodName) jdk_43_method_2_code (2 : Nat) (Option.some Jvm.ClassFile.FieldType.char)).before a0 Z = true := hw _ (List.mem_of_getElem? (i := 79) rfl)
theorem t80 {Z : State} {a0 : Array Value} (hw : ∀ d ∈ tables_1, d.before a0 Z = true) : (Jvm.Cond.methodLink "java/lang/StringLatin1" (9 : Nat) ({ cls := "java/lang/String", name := "checkIndex", desc := "(II)V" } : Jvm.MethodName)).before a0 Z = true := hw _ (List.mem_of_getElem? (i := 80) rfl)
theorem t81 {Z : State} {a0 : Array Value} (hw : ∀ d ∈ tables_1, d.before a0 Z = true) : (Jvm.Cond.static ({ cls := "java/lang/String", name := "checkIndex", desc := "(II)V" } : Jvm.MethodName)).before a0 Z = true := hw _ (List.mem_of_getElem? (i := 81) rfl)
theorem t82 {Z : State} {a0 : Array Value} (hw : ∀ d ∈ tables_1, d.before a0 Z = true) : (Jvm.Cond.code ({ cls := "java/lang/String", name := "checkIndex", desc := "(II)V" } : Jvm.MethodName) jdk_42_method_155_code (2 : Nat) (Option.none : Option Jvm.ClassFile.FieldType)).before a0 Z = true := hw _ (List.mem_of_getElem? (i := 82) rfl)
theorem t83 {Z : State} {a0 : Array Value} (hw : ∀ d ∈ tables_1, d.before a0 Z = true) : (Jvm.Cond.fieldLink "java/lang/String" (1053 : Nat) "jdk/internal/util/Preconditions" "SIOOBE_FORMATTER" "Ljava/util/function/BiFunction;").before a0 Z = true := hw _ (List.mem_of_getElem? (i := 83) rfl)
theorem t84 {Z : State} {a0 : Array Value} (hw : ∀ d ∈ tables_1, d.before a0 Z = true) : (Jvm.Cond.initialized "jdk/internal/util/Preconditions").before a0 Z = true := hw _ (List.mem_of_getElem? (i := 84) rfl)
theorem t85 {Z : State} {a0 : Array Value} (hw : ∀ d ∈ tables_1, d.before a0 Z = true) : (Jvm.Cond.methodLink "java/lang/String" (1059 : Nat) ({ cls := "jdk/internal/util/Preconditions", name := "checkIndex", desc := "(IILjava/util/function/BiFunction;)I" } : Jvm.MethodName)).before a0 Z = true := hw _ (List.mem_of_getElem? (i := 85) rfl)
theorem t86 {Z : State} {a0 : Array Value} (hw : ∀ d ∈ tables_1, d.before a0 Z = true) : (Jvm.Cond.static ({ cls := "jdk/internal/util/Preconditions", name := "checkIndex", desc := "(IILjava/util/function/BiFunction;)I" } : Jvm.MethodName)).before a0 Z = true := hw _ (List.mem_of_getElem? (i := 86) rfl)
theorem t87 {Z : State} {a0 : Array Value} (hw : ∀ d ∈ tables_1, d.before a0 Z = true) : (Jvm.Cond.code ({ cls := "jdk/internal/util/Preconditions", name := "checkIndex", desc := "(IILjava/util/function/BiFunction;)I" } : Jvm.MethodName) jdk_41_method_11_code (3 : Nat) (Option.some Jvm.ClassFile.FieldType.int)).before a0 Z = true := hw _ (List.mem_of_getElem? (i := 87) rfl)
theorem t88 {Z : State} {a0 : Array Value} (hw : ∀ d ∈ tables_1, d.before a0 Z = true) : (Jvm.Cond.methodLink "com/example/need_to_know/needtoknow/ModeOfPinLaw" (31 : Nat) ({ cls := "com/example/need_to_know/needtoknow/Mode", name := "letter", desc := "()C" } : Jvm.MethodName)).before a0 Z = true := hw _ (List.mem_of_getElem? (i := 88) rfl)
theorem t89 {Z : State} {a0 : Array Value} (hw : ∀ d ∈ tables_1, d.before a0 Z = true) : (Jvm.Cond.declares ({ cls := "com/example/need_to_know/needtoknow/Mode", name := "letter", desc := "()C" } : Jvm.MethodName)).before a0 Z = true := hw _ (List.mem_of_getElem? (i := 89) rfl)
theorem t90 {Z : State} {a0 : Array Value} (hw : ∀ d ∈ tables_1, d.before a0 Z = true) : (Jvm.Cond.instanceMethod ({ cls := "com/example/need_to_know/needtoknow/Mode", name := "letter", desc := "()C" } : Jvm.MethodName)).before a0 Z = true := hw _ (List.mem_of_getElem? (i := 90) rfl)
theorem t91 {Z : State} {a0 : Array Value} (hw : ∀ d ∈ tables_1, d.before a0 Z = true) : (Jvm.Cond.selects "com/example/need_to_know/needtoknow/Mode" ({ cls := "com/example/need_to_know/needtoknow/Mode", name := "letter", desc := "()C" } : Jvm.MethodName) ({ cls := "com/example/need_to_know/needtoknow/Mode", name := "letter", desc := "()C" } : Jvm.MethodName)).before a0 Z = true := hw _ (List.mem_of_getElem? (i := 91) rfl)
theorem t92 {Z : State} {a0 : Array Value} (hw : ∀ d ∈ tables_1, d.before a0 Z = true) : (Jvm.Cond.code ({ cls := "com/example/need_to_know/needtoknow/Mode", name := "letter", desc := "()C" } : Jvm.MethodName) prog_20_method_4_code (1 : Nat) (Option.some Jvm.ClassFile.FieldType.char)).before a0 Z = true := hw _ (List.mem_of_getElem? (i := 92) rfl)
theorem t93 {Z : State} {a0 : Array Value} (hw : ∀ d ∈ tables_1, d.before a0 Z = true) : (Jvm.Cond.methodLink "com/example/need_to_know/needtoknow/ModeOfPinLaw" (35 : Nat) ({ cls := "com/example/need_to_know/needtoknow/Mode", name := "observes", desc := "()Z" } : Jvm.MethodName)).before a0 Z = true := hw _ (List.mem_of_getElem? (i := 93) rfl)
theorem t94 {Z : State} {a0 : Array Value} (hw : ∀ d ∈ tables_1, d.before a0 Z = true) : (Jvm.Cond.declares ({ cls := "com/example/need_to_know/needtoknow/Mode", name := "observes", desc := "()Z" } : Jvm.MethodName)).before a0 Z = true := hw _ (List.mem_of_getElem? (i := 94) rfl)
theorem t95 {Z : State} {a0 : Array Value} (hw : ∀ d ∈ tables_1, d.before a0 Z = true) : (Jvm.Cond.instanceMethod ({ cls := "com/example/need_to_know/needtoknow/Mode", name := "observes", desc := "()Z" } : Jvm.MethodName)).before a0 Z = true := hw _ (List.mem_of_getElem? (i := 95) rfl)
theorem t96 {Z : State} {a0 : Array Value} (hw : ∀ d ∈ tables_1, d.before a0 Z = true) : (Jvm.Cond.selects "com/example/need_to_know/needtoknow/Mode" ({ cls := "com/example/need_to_know/needtoknow/Mode", name := "observes", desc := "()Z" } : Jvm.MethodName) ({ cls := "com/example/need_to_know/needtoknow/Mode", name := "observes", desc := "()Z" } : Jvm.MethodName)).before a0 Z = true := hw _ (List.mem_of_getElem? (i := 96) rfl)
theorem t97 {Z : State} {a0 : Array Value} (hw : ∀ d ∈ tables_1, d.before a0 Z = true) : (Jvm.Cond.code ({ cls := "com/example/need_to_know/needtoknow/Mode", name := "observes", desc := "()Z" } : Jvm.MethodName) prog_20_method_5_code (1 : Nat) (Option.some Jvm.ClassFile.FieldType.boolean)).before a0 Z = true := hw _ (List.mem_of_getElem? (i := 97) rfl)
theorem t98 {Z : State} {a0 : Array Value} (hw : ∀ d ∈ tables_1, d.before a0 Z = true) : (Jvm.Cond.fieldLink "com/example/need_to_know/needtoknow/Mode" (39 : Nat) "com/example/need_to_know/needtoknow/Mode" "observes" "Z").before a0 Z = true := hw _ (List.mem_of_getElem? (i := 98) rfl)
theorem t100 {Z : State} {a0 : Array Value} (hw : ∀ d ∈ tables_1, d.before a0 Z = true) : (Jvm.Cond.methodLink "com/example/need_to_know/needtoknow/ModeOfPinLaw" (39 : Nat) ({ cls := "com/example/need_to_know/needtoknow/Mode", name := "alters", desc := "()Z" } : Jvm.MethodName)).before a0 Z = true := hw _ (List.mem_of_getElem? (i := 100) rfl)
theorem t101 {Z : State} {a0 : Array Value} (hw : ∀ d ∈ tables_1, d.before a0 Z = true) : (Jvm.Cond.declares ({ cls := "com/example/need_to_know/needtoknow/Mode", name := "alters", desc := "()Z" } : Jvm.MethodName)).before a0 Z = true := hw _ (List.mem_of_getElem? (i := 101) rfl)
theorem t102 {Z : State} {a0 : Array Value} (hw : ∀ d ∈ tables_1, d.before a0 Z = true) : (Jvm.Cond.instanceMethod ({ cls := "com/example/need_to_know/needtoknow/Mode", name := "alters", desc := "()Z" } : Jvm.MethodName)).before a0 Z = true := hw _ (List.mem_of_getElem? (i := 102) rfl)
theorem t103 {Z : State} {a0 : Array Value} (hw : ∀ d ∈ tables_1, d.before a0 Z = true) : (Jvm.Cond.selects "com/example/need_to_know/needtoknow/Mode" ({ cls := "com/example/need_to_know/needtoknow/Mode", name := "alters", desc := "()Z" } : Jvm.MethodName) ({ cls := "com/example/need_to_know/needtoknow/Mode", name := "alters", desc := "()Z" } : Jvm.MethodName)).before a0 Z = true := hw _ (List.mem_of_getElem? (i := 103) rfl)
theorem t104 {Z : State} {a0 : Array Value} (hw : ∀ d ∈ tables_1, d.before a0 Z = true) : (Jvm.Cond.code ({ cls := "com/example/need_to_know/needtoknow/Mode", name := "alters", desc := "()Z" } : Jvm.MethodName) prog_20_method_6_code (1 : Nat) (Option.some Jvm.ClassFile.FieldType.boolean)).before a0 Z = true := hw _ (List.mem_of_getElem? (i := 104) rfl)
theorem t105 {Z : State} {a0 : Array Value} (hw : ∀ d ∈ tables_1, d.before a0 Z = true) : (Jvm.Cond.fieldLink "com/example/need_to_know/needtoknow/Mode" (43 : Nat) "com/example/need_to_know/needtoknow/Mode" "alters" "Z").before a0 Z = true := hw _ (List.mem_of_getElem? (i := 105) rfl)
theorem t107 {Z : State} {a0 : Array Value} (hw : ∀ d ∈ tables_1, d.before a0 Z = true) : (Jvm.Cond.fieldLink "com/example/need_to_know/needtoknow/ModeOfPinLaw" (19 : Nat) "com/example/need_to_know/needtoknow/Mode" "EXECUTE" "Lcom/example/need_to_know/needtoknow/Mode;").before a0 Z = true := hw _ (List.mem_of_getElem? (i := 107) rfl)
theorem t108 {Z : State} {a0 : Array Value} (hw : ∀ d ∈ tables_1, d.before a0 Z = true) : (Jvm.Cond.fieldLink "com/example/need_to_know/needtoknow/ModeOfPinLaw" (16 : Nat) "com/example/need_to_know/needtoknow/Mode" "APPEND" "Lcom/example/need_to_know/needtoknow/Mode;").before a0 Z = true := hw _ (List.mem_of_getElem? (i := 108) rfl)
theorem t109 {Z : State} {a0 : Array Value} (hw : ∀ d ∈ tables_1, d.before a0 Z = true) : (Jvm.Cond.fieldLink "com/example/need_to_know/needtoknow/ModeOfPinLaw" (13 : Nat) "com/example/need_to_know/needtoknow/Mode" "WRITE" "Lcom/example/need_to_know/needtoknow/Mode;").before a0 Z = true := hw _ (List.mem_of_getElem? (i := 109) rfl)
theorem pd0 : parseMethodDescriptor "([CI[BII)I" = some ⟨[(.array .char), .int, (.array .byte), .int, .int], some .int⟩ := by decide +kernel
theorem pd1 : parseMethodDescriptor "([CII)[B" = some ⟨[(.array .char), .int, .int], some (.array .byte)⟩ := by decide +kernel
theorem pd2 : parseMethodDescriptor "([BI)B" = some ⟨[(.array .byte), .int], some .byte⟩ := by decide +kernel
theorem pd3 : parseMethodDescriptor "([CIILjava/lang/Void;)V" = some ⟨[(.array .char), .int, .int, (.object "java/lang/Void")], none⟩ := by decide +kernel
theorem pd4 : parseMethodDescriptor "(IILjava/util/function/BiFunction;)I" = some ⟨[.int, .int, (.object "java/util/function/BiFunction")], some .int⟩ := by decide +kernel
theorem pd5 : parseMethodDescriptor "(II)V" = some ⟨[.int, .int], none⟩ := by decide +kernel
theorem pd6 : parseMethodDescriptor "()Z" = some ⟨[], some .boolean⟩ := by decide +kernel
theorem pd7 : parseMethodDescriptor "([BI)C" = some ⟨[(.array .byte), .int], some .char⟩ := by decide +kernel
theorem pd8 : parseMethodDescriptor "()B" = some ⟨[], some .byte⟩ := by decide +kernel
theorem pd9 : parseMethodDescriptor "()I" = some ⟨[], some .int⟩ := by decide +kernel
theorem pd10 : parseMethodDescriptor "()[Lcom/example/need_to_know/needtoknow/Mode;" = some ⟨[], some (.array (.object "com/example/need_to_know/needtoknow/Mode"))⟩ := by decide +kernel
theorem pd11 : parseMethodDescriptor "(I)C" = some ⟨[.int], some .char⟩ := by decide +kernel
theorem pd12 : parseMethodDescriptor "([C)V" = some ⟨[(.array .char)], none⟩ := by decide +kernel
theorem pd13 : parseMethodDescriptor "(Ljava/lang/String;)Lcom/example/need_to_know/needtoknow/Mode;" = some ⟨[(.object "java/lang/String")], some (.object "com/example/need_to_know/needtoknow/Mode")⟩ := by decide +kernel
theorem pd14 : parseMethodDescriptor "()C" = some ⟨[], some .char⟩ := by decide +kernel
theorem pn0 : plainName "java/lang/StringUTF16" = true := by first | (simp [plainName, overriddenIn]; done) | decide +kernel
theorem pn1 : plainName "java/lang/String" = true := by first | (simp [plainName, overriddenIn]; done) | decide +kernel
theorem pn2 : plainName "jdk/internal/util/Preconditions" = true := by first | (simp [plainName, overriddenIn]; done) | decide +kernel
theorem pn3 : plainName "java/lang/StringLatin1" = true := by first | (simp [plainName, overriddenIn]; done) | decide +kernel
theorem pn4 : plainName "com/example/need_to_know/needtoknow/Mode" = true := by first | (simp [plainName, overriddenIn]; done) | decide +kernel
theorem pn5 : plainName "com/example/need_to_know/needtoknow/ModeOfPinLaw" = true := by first | (simp [plainName, overriddenIn]; done) | decide +kernel
theorem c5_0 : Dp jdk_52_method_21_code 0 0 1 := Or.inl ⟨0, (by decide +kernel), by decide, rfl⟩
theorem c5_1 : Dis jdk_52_method_21_code 1 5 3 := Or.inl ⟨(by decide +kernel), rfl⟩
theorem c5_3 : Dil jdk_52_method_21_code 3 5 5 := Or.inl ⟨(by decide +kernel), rfl⟩
theorem c5_5 : Dil jdk_52_method_21_code 5 4 7 := Or.inl ⟨(by decide +kernel), rfl⟩
theorem c5_7 : Db jdk_52_method_21_code 7 (.if_icmp .ge) 10 44 := ⟨37, (by decide +kernel), rfl, by decide, by decide⟩
theorem c5_10 : Dal jdk_52_method_21_code 10 0 11 := Or.inr ⟨0, (by decide +kernel), rfl, rfl⟩
theorem c5_11 : Dil jdk_52_method_21_code 11 1 12 := Or.inr ⟨1, (by decide +kernel), rfl, rfl⟩
theorem c5_12 : Dc jdk_52_method_21_code 12 .caload 1 13 := ⟨(by decide +kernel), rfl⟩
theorem c5_13 : Dis jdk_52_method_21_code 13 6 15 := Or.inl ⟨(by decide +kernel), rfl⟩
theorem c5_15 : Dil jdk_52_method_21_code 15 6 17 := Or.inl ⟨(by decide +kernel), rfl⟩
theorem c5_17 : Dp jdk_52_method_21_code 17 255 20 := Or.inr (Or.inr ⟨255, (by decide +kernel), by decide, rfl⟩)
theorem c5_20 : Db jdk_52_method_21_code 20 (.if_icmp .le) 23 26 := ⟨6, (by decide +kernel), rfl, by decide, by decide⟩
theorem c5_23 : Dil jdk_52_method_21_code 23 5 25 := Or.inl ⟨(by decide +kernel), rfl⟩
theorem c5_25 : Dc jdk_52_method_21_code 25 .ireturn 1 26 := ⟨(by decide +kernel), rfl⟩
theorem c5_26 : Dal jdk_52_method_21_code 26 2 27 := Or.inr ⟨2, (by decide +kernel), rfl, rfl⟩
theorem c5_27 : Dil jdk_52_method_21_code 27 3 28 := Or.inr ⟨3, (by decide +kernel), rfl, rfl⟩
theorem c5_28 : Dil jdk_52_method_21_code 28 6 30 := Or.inl ⟨(by decide +kernel), rfl⟩
theorem c5_30 : Dc jdk_52_method_21_code 30 .i2b 1 31 := ⟨(by decide +kernel), rfl⟩
theorem c5_31 : Dc jdk_52_method_21_code 31 .bastore 1 32 := ⟨(by decide +kernel), rfl⟩
theorem c5_32 : Dinc jdk_52_method_21_code 32 1 1 35 := ⟨1, (by decide +kernel), by decide, rfl⟩
theorem c5_35 : Dinc jdk_52_method_21_code 35 3 1 38 := ⟨1, (by decide +kernel), by decide, rfl⟩
theorem c5_38 : Dinc jdk_52_method_21_code 38 5 1 41 := ⟨1, (by decide +kernel), by decide, rfl⟩
theorem c5_41 : Db jdk_52_method_21_code 41 .goto 44 3 := ⟨(-38), (by decide +kernel), rfl, by decide, by decide⟩
theorem c5_44 : Dil jdk_52_method_21_code 44 4 46 := Or.inl ⟨(by decide +kernel), rfl⟩
theorem c5_46 : Dc jdk_52_method_21_code 46 .ireturn 1 47 := ⟨(by decide +kernel), rfl⟩
theorem c4_0 : Dil jdk_52_method_16_code 0 2 1 := Or.inr ⟨2, (by decide +kernel), rfl, rfl⟩
theorem c4_1 : Dc jdk_52_method_16_code 1 (.newarray .byte) 2 3 := ⟨(by decide +kernel), rfl⟩
theorem c4_3 : Das jdk_52_method_16_code 3 3 4 := Or.inr ⟨3, (by decide +kernel), rfl, rfl⟩
theorem c4_4 : Dal jdk_52_method_16_code 4 0 5 := Or.inr ⟨0, (by decide +kernel), rfl, rfl⟩
theorem c4_5 : Dil jdk_52_method_16_code 5 1 6 := Or.inr ⟨1, (by decide +kernel), rfl, rfl⟩
theorem c4_6 : Dal jdk_52_method_16_code 6 3 7 := Or.inr ⟨3, (by decide +kernel), rfl, rfl⟩
theorem c4_7 : Dp jdk_52_method_16_code 7 0 8 := Or.inl ⟨0, (by decide +kernel), by decide, rfl⟩
theorem c4_8 : Dil jdk_52_method_16_code 8 2 9 := Or.inr ⟨2, (by decide +kernel), rfl, rfl⟩
theorem c4_9 : Dc jdk_52_method_16_code 9 (.invokestatic 115) 3 12 := ⟨(by decide +kernel), rfl⟩
theorem c4_12 : Dis jdk_52_method_16_code 12 4 14 := Or.inl ⟨(by decide +kernel), rfl⟩
theorem c4_14 : Dil jdk_52_method_16_code 14 4 16 := Or.inl ⟨(by decide +kernel), rfl⟩
theorem c4_16 : Dil jdk_52_method_16_code 16 2 17 := Or.inr ⟨2, (by decide +kernel), rfl, rfl⟩
theorem c4_17 : Db jdk_52_method_16_code 17 (.if_icmp .eq) 20 57 := ⟨40, (by decide +kernel), rfl, by decide, by decide⟩
theorem c4_20 : Dal jdk_52_method_16_code 20 0 21 := Or.inr ⟨0, (by decide +kernel), rfl, rfl⟩
theorem c4_21 : Dil jdk_52_method_16_code 21 1 22 := Or.inr ⟨1, (by decide +kernel), rfl, rfl⟩
theorem c4_22 : Dil jdk_52_method_16_code 22 2 23 := Or.inr ⟨2, (by decide +kernel), rfl, rfl⟩
theorem c4_23 : Dc jdk_52_method_16_code 23 (.invokestatic 119) 3 26 := ⟨(by decide +kernel), rfl⟩
theorem c4_26 : Das jdk_52_method_16_code 26 5 28 := Or.inl ⟨(by decide +kernel), rfl⟩
theorem c4_28 : Dal jdk_52_method_16_code 28 5 30 := Or.inl ⟨(by decide +kernel), rfl⟩
theorem c4_30 : Dil jdk_52_method_16_code 30 4 32 := Or.inl ⟨(by decide +kernel), rfl⟩
theorem c4_32 : Dc jdk_52_method_16_code 32 (.invokestatic 71) 3 35 := ⟨(by decide +kernel), rfl⟩
theorem c4_35 : Dp jdk_52_method_16_code 35 255 38 := Or.inr (Or.inr ⟨255, (by decide +kernel), by decide, rfl⟩)
theorem c4_38 : Db jdk_52_method_16_code 38 (.if_icmp .gt) 41 54 := ⟨16, (by decide +kernel), rfl, by decide, by decide⟩
theorem c4_41 : Dal jdk_52_method_16_code 41 5 43 := Or.inl ⟨(by decide +kernel), rfl⟩
theorem c4_43 : Dp jdk_52_method_16_code 43 0 44 := Or.inl ⟨0, (by decide +kernel), by decide, rfl⟩
theorem c4_44 : Dal jdk_52_method_16_code 44 3 45 := Or.inr ⟨3, (by decide +kernel), rfl, rfl⟩
theorem c4_45 : Dp jdk_52_method_16_code 45 0 46 := Or.inl ⟨0, (by decide +kernel), by decide, rfl⟩
theorem c4_46 : Dil jdk_52_method_16_code 46 2 47 := Or.inr ⟨2, (by decide +kernel), rfl, rfl⟩
theorem c4_47 : Dc jdk_52_method_16_code 47 (.invokestatic 123) 3 50 := ⟨(by decide +kernel), rfl⟩
theorem c4_50 : Dil jdk_52_method_16_code 50 2 51 := Or.inr ⟨2, (by decide +kernel), rfl, rfl⟩
theorem c4_51 : Db jdk_52_method_16_code 51 (.if_icmp .eq) 54 57 := ⟨6, (by decide +kernel), rfl, by decide, by decide⟩
theorem c4_54 : Dal jdk_52_method_16_code 54 5 56 := Or.inl ⟨(by decide +kernel), rfl⟩
theorem c4_56 : Dc jdk_52_method_16_code 56 .areturn 1 57 := ⟨(by decide +kernel), rfl⟩
theorem c4_57 : Dal jdk_52_method_16_code 57 3 58 := Or.inr ⟨3, (by decide +kernel), rfl, rfl⟩
theorem c4_58 : Dc jdk_52_method_16_code 58 .areturn 1 59 := ⟨(by decide +kernel), rfl⟩
theorem c6_0 : Dil jdk_52_method_15_code 0 1 1 := Or.inr ⟨1, (by decide +kernel), rfl, rfl⟩
theorem c6_1 : Dal jdk_52_method_15_code 1 0 2 := Or.inr ⟨0, (by decide +kernel), rfl, rfl⟩
theorem c6_2 : Dc jdk_52_method_15_code 2 .arraylength 1 3 := ⟨(by decide +kernel), rfl⟩
theorem c6_3 : Dc jdk_52_method_15_code 3 .isub 1 4 := ⟨(by decide +kernel), rfl⟩
theorem c6_4 : Dp jdk_52_method_15_code 4 31 6 := Or.inr (Or.inl ⟨31, (by decide +kernel), by decide, rfl⟩)
theorem c6_6 : Dc jdk_52_method_15_code 6 .iushr 1 7 := ⟨(by decide +kernel), rfl⟩
theorem c6_7 : Dc jdk_52_method_15_code 7 .i2b 1 8 := ⟨(by decide +kernel), rfl⟩
theorem c6_8 : Dc jdk_52_method_15_code 8 .ireturn 1 9 := ⟨(by decide +kernel), rfl⟩
theorem c2_0 : Dal jdk_42_method_149_code 0 0 1 := Or.inr ⟨0, (by decide +kernel), rfl, rfl⟩
theorem c2_1 : Dc jdk_42_method_149_code 1 (.invokespecial 1) 3 4 := ⟨(by decide +kernel), rfl⟩
theorem c2_4 : Dil jdk_42_method_149_code 4 3 5 := Or.inr ⟨3, (by decide +kernel), rfl, rfl⟩
theorem c2_5 : Db jdk_42_method_149_code 5 (.ifCond .ne) 8 27 := ⟨22, (by decide +kernel), rfl, by decide, by decide⟩
theorem c2_8 : Dal jdk_42_method_149_code 8 0 9 := Or.inr ⟨0, (by decide +kernel), rfl, rfl⟩
theorem c2_9 : Dc jdk_42_method_149_code 9 (.ldc 7) 2 11 := ⟨(by decide +kernel), rfl⟩
theorem c2_11 : Dc jdk_42_method_149_code 11 (.getfield 9) 3 14 := ⟨(by decide +kernel), rfl⟩
theorem c2_14 : Dc jdk_42_method_149_code 14 (.putfield 9) 3 17 := ⟨(by decide +kernel), rfl⟩
theorem c2_17 : Dal jdk_42_method_149_code 17 0 18 := Or.inr ⟨0, (by decide +kernel), rfl, rfl⟩
theorem c2_18 : Dc jdk_42_method_149_code 18 (.ldc 7) 2 20 := ⟨(by decide +kernel), rfl⟩
theorem c2_20 : Dc jdk_42_method_149_code 20 (.getfield 15) 3 23 := ⟨(by decide +kernel), rfl⟩
theorem c2_23 : Dc jdk_42_method_149_code 23 (.putfield 15) 3 26 := ⟨(by decide +kernel), rfl⟩
theorem c2_26 : Dc jdk_42_method_149_code 26 .return_ 1 27 := ⟨(by decide +kernel), rfl⟩
theorem c2_27 : Dc jdk_42_method_149_code 27 (.getstatic 38) 3 30 := ⟨(by decide +kernel), rfl⟩
theorem c2_30 : Db jdk_42_method_149_code 30 (.ifCond .eq) 33 58 := ⟨28, (by decide +kernel), rfl, by decide, by decide⟩
theorem c2_33 : Dal jdk_42_method_149_code 33 1 34 := Or.inr ⟨1, (by decide +kernel), rfl, rfl⟩
theorem c2_34 : Dil jdk_42_method_149_code 34 2 35 := Or.inr ⟨2, (by decide +kernel), rfl, rfl⟩
theorem c2_35 : Dil jdk_42_method_149_code 35 3 36 := Or.inr ⟨3, (by decide +kernel), rfl, rfl⟩
theorem c2_36 : Dc jdk_42_method_149_code 36 (.invokestatic 177) 3 39 := ⟨(by decide +kernel), rfl⟩
theorem c2_39 : Das jdk_42_method_149_code 39 5 41 := Or.inl ⟨(by decide +kernel), rfl⟩
theorem c2_41 : Dal jdk_42_method_149_code 41 0 42 := Or.inr ⟨0, (by decide +kernel), rfl, rfl⟩
theorem c2_42 : Dal jdk_42_method_149_code 42 5 44 := Or.inl ⟨(by decide +kernel), rfl⟩
theorem c2_44 : Dil jdk_42_method_149_code 44 3 45 := Or.inr ⟨3, (by decide +kernel), rfl, rfl⟩
theorem c2_45 : Dc jdk_42_method_149_code 45 (.invokestatic 47) 3 48 := ⟨(by decide +kernel), rfl⟩
theorem c2_48 : Dc jdk_42_method_149_code 48 (.putfield 15) 3 51 := ⟨(by decide +kernel), rfl⟩
theorem c2_51 : Dal jdk_42_method_149_code 51 0 52 := Or.inr ⟨0, (by decide +kernel), rfl, rfl⟩
theorem c2_52 : Dal jdk_42_method_149_code 52 5 54 := Or.inl ⟨(by decide +kernel), rfl⟩
theorem c2_54 : Dc jdk_42_method_149_code 54 (.putfield 9) 3 57 := ⟨(by decide +kernel), rfl⟩
theorem c2_57 : Dc jdk_42_method_149_code 57 .return_ 1 58 := ⟨(by decide +kernel), rfl⟩
theorem c2_58 : Dal jdk_42_method_149_code 58 0 59 := Or.inr ⟨0, (by decide +kernel), rfl, rfl⟩
theorem c2_59 : Dp jdk_42_method_149_code 59 1 60 := Or.inl ⟨1, (by decide +kernel), by decide, rfl⟩
theorem c2_60 : Dc jdk_42_method_149_code 60 (.putfield 15) 3 63 := ⟨(by decide +kernel), rfl⟩
theorem c2_63 : Dal jdk_42_method_149_code 63 0 64 := Or.inr ⟨0, (by decide +kernel), rfl, rfl⟩
theorem c2_64 : Dal jdk_42_method_149_code 64 1 65 := Or.inr ⟨1, (by decide +kernel), rfl, rfl⟩
theorem c2_65 : Dil jdk_42_method_149_code 65 2 66 := Or.inr ⟨2, (by decide +kernel), rfl, rfl⟩
theorem c2_66 : Dil jdk_42_method_149_code 66 3 67 := Or.inr ⟨3, (by decide +kernel), rfl, rfl⟩
theorem c2_67 : Dc jdk_42_method_149_code 67 (.invokestatic 180) 3 70 := ⟨(by decide +kernel), rfl⟩
theorem c2_70 : Dc jdk_42_method_149_code 70 (.putfield 9) 3 73 := ⟨(by decide +kernel), rfl⟩
theorem c2_73 : Dc jdk_42_method_149_code 73 .return_ 1 74 := ⟨(by decide +kernel), rfl⟩
theorem c1_0 : Dal jdk_42_method_3_code 0 0 1 := Or.inr ⟨0, (by decide +kernel), rfl, rfl⟩
theorem c1_1 : Dal jdk_42_method_3_code 1 1 2 := Or.inr ⟨1, (by decide +kernel), rfl, rfl⟩
theorem c1_2 : Dp jdk_42_method_3_code 2 0 3 := Or.inl ⟨0, (by decide +kernel), by decide, rfl⟩
theorem c1_3 : Dal jdk_42_method_3_code 3 1 4 := Or.inr ⟨1, (by decide +kernel), rfl, rfl⟩
theorem c1_4 : Dc jdk_42_method_3_code 4 .arraylength 1 5 := ⟨(by decide +kernel), rfl⟩
theorem c1_5 : Dc jdk_42_method_3_code 5 .aconst_null 1 6 := ⟨(by decide +kernel), rfl⟩
theorem c1_6 : Dc jdk_42_method_3_code 6 (.invokespecial 27) 3 9 := ⟨(by decide +kernel), rfl⟩
theorem c1_9 : Dc jdk_42_method_3_code 9 .return_ 1 10 := ⟨(by decide +kernel), rfl⟩
theorem c15_0 : Dil jdk_41_method_11_code 0 0 1 := Or.inr ⟨0, (by decide +kernel), rfl, rfl⟩
theorem c15_1 : Db jdk_41_method_11_code 1 (.ifCond .lt) 4 9 := ⟨8, (by decide +kernel), rfl, by decide, by decide⟩
theorem c15_4 : Dil jdk_41_method_11_code 4 0 5 := Or.inr ⟨0, (by decide +kernel), rfl, rfl⟩
theorem c15_5 : Dil jdk_41_method_11_code 5 1 6 := Or.inr ⟨1, (by decide +kernel), rfl, rfl⟩
theorem c15_6 : Db jdk_41_method_11_code 6 (.if_icmp .lt) 9 16 := ⟨10, (by decide +kernel), rfl, by decide, by decide⟩
theorem c15_9 : Dal jdk_41_method_11_code 9 2 10 := Or.inr ⟨2, (by decide +kernel), rfl, rfl⟩
theorem c15_10 : Dil jdk_41_method_11_code 10 0 11 := Or.inr ⟨0, (by decide +kernel), rfl, rfl⟩
theorem c15_11 : Dil jdk_41_method_11_code 11 1 12 := Or.inr ⟨1, (by decide +kernel), rfl, rfl⟩
theorem c15_12 : Dc jdk_41_method_11_code 12 (.invokestatic 95) 3 15 := ⟨(by decide +kernel), rfl⟩
theorem c15_15 : Dc jdk_41_method_11_code 15 .athrow 1 16 := ⟨(by decide +kernel), rfl⟩
theorem c15_16 : Dil jdk_41_method_11_code 16 0 17 := Or.inr ⟨0, (by decide +kernel), rfl, rfl⟩
theorem c15_17 : Dc jdk_41_method_11_code 17 .ireturn 1 18 := ⟨(by decide +kernel), rfl⟩
theorem c14_0 : Dil jdk_42_method_155_code 0 0 1 := Or.inr ⟨0, (by decide +kernel), rfl, rfl⟩
theorem c14_1 : Dil jdk_42_method_155_code 1 1 2 := Or.inr ⟨1, (by decide +kernel), rfl, rfl⟩
theorem c14_2 : Dc jdk_42_method_155_code 2 (.getstatic 1053) 3 5 := ⟨(by decide +kernel), rfl⟩
theorem c14_5 : Dc jdk_42_method_155_code 5 (.invokestatic 1059) 3 8 := ⟨(by decide +kernel), rfl⟩
theorem c14_8 : Dc jdk_42_method_155_code 8 .pop 1 9 := ⟨(by decide +kernel), rfl⟩
theorem c14_9 : Dc jdk_42_method_155_code 9 .return_ 1 10 := ⟨(by decide +kernel), rfl⟩
theorem c13_0 : Dil jdk_43_method_2_code 0 1 1 := Or.inr ⟨1, (by decide +kernel), rfl, rfl⟩
theorem c13_1 : Dal jdk_43_method_2_code 1 0 2 := Or.inr ⟨0, (by decide +kernel), rfl, rfl⟩
theorem c13_2 : Dc jdk_43_method_2_code 2 .arraylength 1 3 := ⟨(by decide +kernel), rfl⟩
theorem c13_3 : Dc jdk_43_method_2_code 3 (.invokestatic 9) 3 6 := ⟨(by decide +kernel), rfl⟩
theorem c13_6 : Dal jdk_43_method_2_code 6 0 7 := Or.inr ⟨0, (by decide +kernel), rfl, rfl⟩
theorem c13_7 : Dil jdk_43_method_2_code 7 1 8 := Or.inr ⟨1, (by decide +kernel), rfl, rfl⟩
theorem c13_8 : Dc jdk_43_method_2_code 8 .baload 1 9 := ⟨(by decide +kernel), rfl⟩
theorem c13_9 : Dp jdk_43_method_2_code 9 255 12 := Or.inr (Or.inr ⟨255, (by decide +kernel), by decide, rfl⟩)
theorem c13_12 : Dc jdk_43_method_2_code 12 .iand 1 13 := ⟨(by decide +kernel), rfl⟩
theorem c13_13 : Dc jdk_43_method_2_code 13 .i2c 1 14 := ⟨(by decide +kernel), rfl⟩
theorem c13_14 : Dc jdk_43_method_2_code 14 .ireturn 1 15 := ⟨(by decide +kernel), rfl⟩
theorem c12_0 : Dc jdk_42_method_154_code 0 (.getstatic 38) 3 3 := ⟨(by decide +kernel), rfl⟩
theorem c12_3 : Db jdk_42_method_154_code 3 (.ifCond .eq) 6 17 := ⟨14, (by decide +kernel), rfl, by decide, by decide⟩
theorem c12_6 : Dal jdk_42_method_154_code 6 0 7 := Or.inr ⟨0, (by decide +kernel), rfl, rfl⟩
theorem c12_7 : Dc jdk_42_method_154_code 7 (.getfield 15) 3 10 := ⟨(by decide +kernel), rfl⟩
theorem c12_10 : Db jdk_42_method_154_code 10 (.ifCond .ne) 13 17 := ⟨7, (by decide +kernel), rfl, by decide, by decide⟩
theorem c12_13 : Dp jdk_42_method_154_code 13 1 14 := Or.inl ⟨1, (by decide +kernel), by decide, rfl⟩
theorem c12_14 : Db jdk_42_method_154_code 14 .goto 17 18 := ⟨4, (by decide +kernel), rfl, by decide, by decide⟩
theorem c12_17 : Dp jdk_42_method_154_code 17 0 18 := Or.inl ⟨0, (by decide +kernel), by decide, rfl⟩
theorem c12_18 : Dc jdk_42_method_154_code 18 .ireturn 1 19 := ⟨(by decide +kernel), rfl⟩
theorem c11_0 : Dal jdk_42_method_56_code 0 0 1 := Or.inr ⟨0, (by decide +kernel), rfl, rfl⟩
theorem c11_1 : Dc jdk_42_method_56_code 1 (.invokevirtual 492) 3 4 := ⟨(by decide +kernel), rfl⟩
theorem c11_4 : Db jdk_42_method_56_code 4 (.ifCond .eq) 7 16 := ⟨12, (by decide +kernel), rfl, by decide, by decide⟩
theorem c11_7 : Dal jdk_42_method_56_code 7 0 8 := Or.inr ⟨0, (by decide +kernel), rfl, rfl⟩
theorem c11_8 : Dc jdk_42_method_56_code 8 (.getfield 9) 3 11 := ⟨(by decide +kernel), rfl⟩
theorem c11_11 : Dil jdk_42_method_56_code 11 1 12 := Or.inr ⟨1, (by decide +kernel), rfl, rfl⟩
theorem c11_12 : Dc jdk_42_method_56_code 12 (.invokestatic 495) 3 15 := ⟨(by decide +kernel), rfl⟩
theorem c11_15 : Dc jdk_42_method_56_code 15 .ireturn 1 16 := ⟨(by decide +kernel), rfl⟩
theorem c11_16 : Dal jdk_42_method_56_code 16 0 17 := Or.inr ⟨0, (by decide +kernel), rfl, rfl⟩
theorem c11_17 : Dc jdk_42_method_56_code 17 (.getfield 9) 3 20 := ⟨(by decide +kernel), rfl⟩
theorem c11_20 : Dil jdk_42_method_56_code 20 1 21 := Or.inr ⟨1, (by decide +kernel), rfl, rfl⟩
theorem c11_21 : Dc jdk_42_method_56_code 21 (.invokestatic 498) 3 24 := ⟨(by decide +kernel), rfl⟩
theorem c11_24 : Dc jdk_42_method_56_code 24 .ireturn 1 25 := ⟨(by decide +kernel), rfl⟩
theorem c9_0 : Dc jdk_42_method_152_code 0 (.getstatic 38) 3 3 := ⟨(by decide +kernel), rfl⟩
theorem c9_3 : Db jdk_42_method_152_code 3 (.ifCond .eq) 6 13 := ⟨10, (by decide +kernel), rfl, by decide, by decide⟩
theorem c9_6 : Dal jdk_42_method_152_code 6 0 7 := Or.inr ⟨0, (by decide +kernel), rfl, rfl⟩
theorem c9_7 : Dc jdk_42_method_152_code 7 (.getfield 15) 3 10 := ⟨(by decide +kernel), rfl⟩
theorem c9_10 : Db jdk_42_method_152_code 10 .goto 13 14 := ⟨4, (by decide +kernel), rfl, by decide, by decide⟩
theorem c9_13 : Dp jdk_42_method_152_code 13 1 14 := Or.inl ⟨1, (by decide +kernel), by decide, rfl⟩
theorem c9_14 : Dc jdk_42_method_152_code 14 .ireturn 1 15 := ⟨(by decide +kernel), rfl⟩
theorem c8_0 : Dal jdk_42_method_54_code 0 0 1 := Or.inr ⟨0, (by decide +kernel), rfl, rfl⟩
theorem c8_1 : Dc jdk_42_method_54_code 1 (.getfield 9) 3 4 := ⟨(by decide +kernel), rfl⟩
theorem c8_4 : Dc jdk_42_method_54_code 4 .arraylength 1 5 := ⟨(by decide +kernel), rfl⟩
theorem c8_5 : Dal jdk_42_method_54_code 5 0 6 := Or.inr ⟨0, (by decide +kernel), rfl, rfl⟩
theorem c8_6 : Dc jdk_42_method_54_code 6 (.invokevirtual 335) 3 9 := ⟨(by decide +kernel), rfl⟩
theorem c8_9 : Dc jdk_42_method_54_code 9 .ishr 1 10 := ⟨(by decide +kernel), rfl⟩
theorem c8_10 : Dc jdk_42_method_54_code 10 .ireturn 1 11 := ⟨(by decide +kernel), rfl⟩
theorem c10_0 : Dc prog_20_method_1_code 0 (.getstatic 16) 3 3 := ⟨(by decide +kernel), rfl⟩
theorem c10_3 : Dc prog_20_method_1_code 3 (.invokevirtual 20) 3 6 := ⟨(by decide +kernel), rfl⟩
theorem c10_6 : Dc prog_20_method_1_code 6 (.checkcast 21) 3 9 := ⟨(by decide +kernel), rfl⟩
theorem c10_9 : Dc prog_20_method_1_code 9 .areturn 1 10 := ⟨(by decide +kernel), rfl⟩
theorem c7_0 : Dal prog_20_method_7_code 0 0 1 := Or.inr ⟨0, (by decide +kernel), rfl, rfl⟩
theorem c7_1 : Dc prog_20_method_7_code 1 (.invokevirtual 46) 3 4 := ⟨(by decide +kernel), rfl⟩
theorem c7_4 : Dp prog_20_method_7_code 4 1 5 := Or.inl ⟨1, (by decide +kernel), by decide, rfl⟩
theorem c7_5 : Db prog_20_method_7_code 5 (.if_icmp .ne) 8 49 := ⟨44, (by decide +kernel), rfl, by decide, by decide⟩
theorem c7_8 : Dc prog_20_method_7_code 8 (.invokestatic 52) 3 11 := ⟨(by decide +kernel), rfl⟩
theorem c7_11 : Das prog_20_method_7_code 11 1 12 := Or.inr ⟨1, (by decide +kernel), rfl, rfl⟩
theorem c7_12 : Dal prog_20_method_7_code 12 1 13 := Or.inr ⟨1, (by decide +kernel), rfl, rfl⟩
theorem c7_13 : Dc prog_20_method_7_code 13 .arraylength 1 14 := ⟨(by decide +kernel), rfl⟩
theorem c7_14 : Dis prog_20_method_7_code 14 2 15 := Or.inr ⟨2, (by decide +kernel), rfl, rfl⟩
theorem c7_15 : Dp prog_20_method_7_code 15 0 16 := Or.inl ⟨0, (by decide +kernel), by decide, rfl⟩
theorem c7_16 : Dis prog_20_method_7_code 16 3 17 := Or.inr ⟨3, (by decide +kernel), rfl, rfl⟩
theorem c7_17 : Dil prog_20_method_7_code 17 3 18 := Or.inr ⟨3, (by decide +kernel), rfl, rfl⟩
theorem c7_18 : Dil prog_20_method_7_code 18 2 19 := Or.inr ⟨2, (by decide +kernel), rfl, rfl⟩
theorem c7_19 : Db prog_20_method_7_code 19 (.if_icmp .ge) 22 49 := ⟨30, (by decide +kernel), rfl, by decide, by decide⟩
theorem c7_22 : Dal prog_20_method_7_code 22 1 23 := Or.inr ⟨1, (by decide +kernel), rfl, rfl⟩
theorem c7_23 : Dil prog_20_method_7_code 23 3 24 := Or.inr ⟨3, (by decide +kernel), rfl, rfl⟩
theorem c7_24 : Dc prog_20_method_7_code 24 .aaload 1 25 := ⟨(by decide +kernel), rfl⟩
theorem c7_25 : Das prog_20_method_7_code 25 4 27 := Or.inl ⟨(by decide +kernel), rfl⟩
theorem c7_27 : Dal prog_20_method_7_code 27 4 29 := Or.inl ⟨(by decide +kernel), rfl⟩
theorem c7_29 : Dc prog_20_method_7_code 29 (.getfield 35) 3 32 := ⟨(by decide +kernel), rfl⟩
theorem c7_32 : Dal prog_20_method_7_code 32 0 33 := Or.inr ⟨0, (by decide +kernel), rfl, rfl⟩
theorem c7_33 : Dp prog_20_method_7_code 33 0 34 := Or.inl ⟨0, (by decide +kernel), by decide, rfl⟩
theorem c7_34 : Dc prog_20_method_7_code 34 (.invokevirtual 56) 3 37 := ⟨(by decide +kernel), rfl⟩
theorem c7_37 : Db prog_20_method_7_code 37 (.if_icmp .ne) 40 43 := ⟨6, (by decide +kernel), rfl, by decide, by decide⟩
theorem c7_40 : Dal prog_20_method_7_code 40 4 42 := Or.inl ⟨(by decide +kernel), rfl⟩
theorem c7_42 : Dc prog_20_method_7_code 42 .areturn 1 43 := ⟨(by decide +kernel), rfl⟩
theorem c7_43 : Dinc prog_20_method_7_code 43 3 1 46 := ⟨1, (by decide +kernel), by decide, rfl⟩
theorem c7_46 : Db prog_20_method_7_code 46 .goto 49 17 := ⟨(-29), (by decide +kernel), rfl, by decide, by decide⟩
theorem c7_49 : Dc prog_20_method_7_code 49 (.new 60) 3 52 := ⟨(by decide +kernel), rfl⟩
theorem c7_52 : Dc prog_20_method_7_code 52 .dup 1 53 := ⟨(by decide +kernel), rfl⟩
theorem c7_53 : Dal prog_20_method_7_code 53 0 54 := Or.inr ⟨0, (by decide +kernel), rfl, rfl⟩
theorem c7_59 : Dc prog_20_method_7_code 59 (.invokespecial 66) 3 62 := ⟨(by decide +kernel), rfl⟩
theorem c7_62 : Dc prog_20_method_7_code 62 .athrow 1 63 := ⟨(by decide +kernel), rfl⟩
theorem c16_0 : Dal prog_20_method_4_code 0 0 1 := Or.inr ⟨0, (by decide +kernel), rfl, rfl⟩
theorem c16_1 : Dc prog_20_method_4_code 1 (.getfield 35) 3 4 := ⟨(by decide +kernel), rfl⟩
theorem c16_4 : Dc prog_20_method_4_code 4 .ireturn 1 5 := ⟨(by decide +kernel), rfl⟩
theorem c17_0 : Dal prog_20_method_5_code 0 0 1 := Or.inr ⟨0, (by decide +kernel), rfl, rfl⟩
theorem c17_1 : Dc prog_20_method_5_code 1 (.getfield 39) 3 4 := ⟨(by decide +kernel), rfl⟩
theorem c17_4 : Dc prog_20_method_5_code 4 .ireturn 1 5 := ⟨(by decide +kernel), rfl⟩
theorem c18_0 : Dal prog_20_method_6_code 0 0 1 := Or.inr ⟨0, (by decide +kernel), rfl, rfl⟩
theorem c18_1 : Dc prog_20_method_6_code 1 (.getfield 43) 3 4 := ⟨(by decide +kernel), rfl⟩
theorem c18_4 : Dc prog_20_method_6_code 4 .ireturn 1 5 := ⟨(by decide +kernel), rfl⟩
theorem c0_0 : Dil code 0 0 1 := Or.inr ⟨0, at_0, rfl, rfl⟩
theorem c0_1 : Dp code 1 3 2 := Or.inl ⟨3, at_1, by decide, rfl⟩
theorem c0_2 : Dc code 2 .iand 1 3 := ⟨at_2, rfl⟩
theorem c0_3 : Dis code 3 1 4 := Or.inr ⟨1, at_3, rfl, rfl⟩
theorem c0_4 : Dil code 4 1 5 := Or.inr ⟨1, at_4, rfl, rfl⟩
theorem c0_5 : Db code 5 (.ifCond .ne) 8 18 := ⟨13, at_5, rfl, by decide, by decide⟩
theorem c0_8 : Dp code 8 114 10 := Or.inr (Or.inl ⟨114, at_8, by decide, rfl⟩)
theorem c0_10 : Dis code 10 2 11 := Or.inr ⟨2, at_10, rfl, rfl⟩
theorem c0_11 : Dc code 11 (.getstatic 7) 3 14 := ⟨at_11, rfl⟩
theorem c0_14 : Das code 14 3 15 := Or.inr ⟨3, at_14, rfl, rfl⟩
theorem c0_15 : Db code 15 .goto 18 55 := ⟨40, at_15, rfl, by decide, by decide⟩
theorem c0_18 : Dil code 18 1 19 := Or.inr ⟨1, at_18, rfl, rfl⟩
theorem c0_19 : Dp code 19 1 20 := Or.inl ⟨1, at_19, by decide, rfl⟩
theorem c0_20 : Db code 20 (.if_icmp .ne) 23 33 := ⟨13, at_20, rfl, by decide, by decide⟩
theorem c0_23 : Dp code 23 119 25 := Or.inr (Or.inl ⟨119, at_23, by decide, rfl⟩)
theorem c0_25 : Dis code 25 2 26 := Or.inr ⟨2, at_25, rfl, rfl⟩
theorem c0_26 : Dc code 26 (.getstatic 13) 3 29 := ⟨at_26, rfl⟩
theorem c0_29 : Das code 29 3 30 := Or.inr ⟨3, at_29, rfl, rfl⟩
theorem c0_30 : Db code 30 .goto 33 55 := ⟨25, at_30, rfl, by decide, by decide⟩
theorem c0_33 : Dil code 33 1 34 := Or.inr ⟨1, at_33, rfl, rfl⟩
theorem c0_34 : Dp code 34 2 35 := Or.inl ⟨2, at_34, by decide, rfl⟩
theorem c0_35 : Db code 35 (.if_icmp .ne) 38 48 := ⟨13, at_35, rfl, by decide, by decide⟩
theorem c0_38 : Dp code 38 97 40 := Or.inr (Or.inl ⟨97, at_38, by decide, rfl⟩)
theorem c0_40 : Dis code 40 2 41 := Or.inr ⟨2, at_40, rfl, rfl⟩
theorem c0_41 : Dc code 41 (.getstatic 16) 3 44 := ⟨at_41, rfl⟩
theorem c0_44 : Das code 44 3 45 := Or.inr ⟨3, at_44, rfl, rfl⟩
theorem c0_45 : Db code 45 .goto 48 55 := ⟨10, at_45, rfl, by decide, by decide⟩
theorem c0_48 : Dp code 48 101 50 := Or.inr (Or.inl ⟨101, at_48, by decide, rfl⟩)
theorem c0_50 : Dis code 50 2 51 := Or.inr ⟨2, at_50, rfl, rfl⟩
theorem c0_51 : Dc code 51 (.getstatic 19) 3 54 := ⟨at_51, rfl⟩
theorem c0_54 : Das code 54 3 55 := Or.inr ⟨3, at_54, rfl, rfl⟩
theorem c0_55 : Dil code 55 1 56 := Or.inr ⟨1, at_55, rfl, rfl⟩
theorem c0_56 : Dp code 56 1 57 := Or.inl ⟨1, at_56, by decide, rfl⟩
theorem c0_57 : Db code 57 (.if_icmp .gt) 60 64 := ⟨7, at_57, rfl, by decide, by decide⟩
theorem c0_60 : Dp code 60 1 61 := Or.inl ⟨1, at_60, by decide, rfl⟩
theorem c0_61 : Db code 61 .goto 64 65 := ⟨4, at_61, rfl, by decide, by decide⟩
theorem c0_64 : Dp code 64 0 65 := Or.inl ⟨0, at_64, by decide, rfl⟩
theorem c0_65 : Dis code 65 4 67 := Or.inl ⟨at_65, rfl⟩
theorem c0_67 : Dil code 67 1 68 := Or.inr ⟨1, at_67, rfl, rfl⟩
theorem c0_68 : Dp code 68 1 69 := Or.inl ⟨1, at_68, by decide, rfl⟩
theorem c0_69 : Db code 69 (.if_icmp .eq) 72 77 := ⟨8, at_69, rfl, by decide, by decide⟩
theorem c0_72 : Dil code 72 1 73 := Or.inr ⟨1, at_72, rfl, rfl⟩
theorem c0_73 : Dp code 73 2 74 := Or.inl ⟨2, at_73, by decide, rfl⟩
theorem c0_74 : Db code 74 (.if_icmp .ne) 77 81 := ⟨7, at_74, rfl, by decide, by decide⟩
theorem c0_77 : Dp code 77 1 78 := Or.inl ⟨1, at_77, by decide, rfl⟩
theorem c0_78 : Db code 78 .goto 81 82 := ⟨4, at_78, rfl, by decide, by decide⟩
theorem c0_81 : Dp code 81 0 82 := Or.inl ⟨0, at_81, by decide, rfl⟩
theorem c0_82 : Dis code 82 5 84 := Or.inl ⟨at_82, rfl⟩
theorem c0_84 : Dp code 84 1 85 := Or.inl ⟨1, at_84, by decide, rfl⟩
theorem c0_85 : Dc code 85 (.newarray .char) 2 87 := ⟨at_85, rfl⟩
theorem c0_87 : Das code 87 6 89 := Or.inl ⟨at_87, rfl⟩
theorem c0_89 : Dal code 89 6 91 := Or.inl ⟨at_89, rfl⟩
theorem c0_91 : Dp code 91 0 92 := Or.inl ⟨0, at_91, by decide, rfl⟩
theorem c0_92 : Dil code 92 2 93 := Or.inr ⟨2, at_92, rfl, rfl⟩
theorem c0_93 : Dc code 93 .castore 1 94 := ⟨at_93, rfl⟩
theorem c0_94 : Dc code 94 (.new 22) 3 97 := ⟨at_94, rfl⟩
theorem c0_97 : Dc code 97 .dup 1 98 := ⟨at_97, rfl⟩
theorem c0_98 : Dal code 98 6 100 := Or.inl ⟨at_98, rfl⟩
theorem c0_100 : Dc code 100 (.invokespecial 24) 3 103 := ⟨at_100, rfl⟩
theorem c0_103 : Dc code 103 (.invokestatic 27) 3 106 := ⟨at_103, rfl⟩
theorem c0_106 : Das code 106 7 108 := Or.inl ⟨at_106, rfl⟩
theorem c0_108 : Dal code 108 7 110 := Or.inl ⟨at_108, rfl⟩
theorem c0_110 : Dal code 110 3 111 := Or.inr ⟨3, at_110, rfl, rfl⟩
theorem c0_111 : Db code 111 (.if_acmp .ne) 114 147 := ⟨36, at_111, rfl, by decide, by decide⟩
theorem c0_114 : Dal code 114 7 116 := Or.inl ⟨at_114, rfl⟩
theorem c0_116 : Dc code 116 (.invokevirtual 31) 3 119 := ⟨at_116, rfl⟩
theorem c0_119 : Dil code 119 2 120 := Or.inr ⟨2, at_119, rfl, rfl⟩
theorem c0_120 : Db code 120 (.if_icmp .ne) 123 147 := ⟨27, at_120, rfl, by decide, by decide⟩
theorem c0_123 : Dal code 123 7 125 := Or.inl ⟨at_123, rfl⟩
theorem c0_125 : Dc code 125 (.invokevirtual 35) 3 128 := ⟨at_125, rfl⟩
theorem c0_128 : Dil code 128 4 130 := Or.inl ⟨at_128, rfl⟩
theorem c0_130 : Db code 130 (.if_icmp .ne) 133 147 := ⟨17, at_130, rfl, by decide, by decide⟩
theorem c0_133 : Dal code 133 7 135 := Or.inl ⟨at_133, rfl⟩
theorem c0_135 : Dc code 135 (.invokevirtual 39) 3 138 := ⟨at_135, rfl⟩
theorem c0_138 : Dil code 138 5 140 := Or.inl ⟨at_138, rfl⟩
theorem c0_140 : Db code 140 (.if_icmp .ne) 143 147 := ⟨7, at_140, rfl, by decide, by decide⟩
theorem c0_143 : Dp code 143 1 144 := Or.inl ⟨1, at_143, by decide, rfl⟩
theorem c0_144 : Db code 144 .goto 147 148 := ⟨4, at_144, rfl, by decide, by decide⟩
theorem c0_147 : Dp code 147 0 148 := Or.inl ⟨0, at_147, by decide, rfl⟩
theorem c0_148 : Dc code 148 .ireturn 1 149 := ⟨at_148, rfl⟩

def Ar (Z : State) (h : Heap) (a : Addr) (ty : FieldType) (vs : List Value) : Prop := ∃ c : Cell, Arr Z h a c ty ∧ c.slots = vs.toArray
theorem Ar.ext {Z : State} {h h' : Heap} {a : Addr} {ty : FieldType} {vs : List Value} (A : Ar Z h a ty vs) (E : Ext h h') : Ar Z h' a ty vs := by obtain ⟨c, A, e⟩ := A; exact ⟨c, A.ext E, e⟩
theorem Ar.of {Z : State} {h : Heap} {a : Addr} {k : ClassId} {ty : FieldType} {z : Int32} {vs : List Value} {d : Value} (A : Arv Z h a k ty z vs d) (hl : z.toNatClampNeg = vs.length) : Ar Z h a ty vs := by
  obtain ⟨c, A, -, hs, -, H, -⟩ := A
  refine ⟨c, A, Array.ext_getElem? fun i => ?_⟩
  by_cases q : i < c.slots.size
  · rw [H i q, List.getElem?_toArray, List.getD_eq_getElem?_getD, List.getElem?_eq_getElem (by omega)]; rfl
  · rw [Array.getElem?_eq_none (by omega), List.getElem?_toArray, List.getElem?_eq_none (by omega)]
theorem Ar.len {Z : State} {h : Heap} {a : Addr} {ty ty' : FieldType} {vs vs' : List Value} (A : Ar Z h a ty vs) (B : Ar Z h a ty' vs') : vs = vs' := by
  obtain ⟨c, A, e⟩ := A
  obtain ⟨c', B, e'⟩ := B
  cases A.1.symm.trans B.1
  have := e.symm.trans e'
  simpa using this
theorem own_fld {Z : State} {h : Heap} {a : Addr} {O n d : String} {v w : Value} (F : Fld Z h a O n d v) (G : Fld Z h a O n d w) : v = w := by
  obtain ⟨c, cf, k, i, f, h1, h2, h3, h4, h5, h6, h7⟩ := F
  obtain ⟨c', cf', k', i', f', g1, g2, g3, g4, g5, g6, g7⟩ := G
  cases h1.symm.trans g1
  cases h2.symm.trans g2
  exact Option.some.inj (h7.symm.trans g7)
section Raw
variable {wd : Bool} {K₀ : State → Prop} {l : Launch} {Z : State} {R : Room} {y : MethodName} {bytes : ByteArray} {ml : Nat} {ret : Option FieldType} {n0 kc ks : Nat} {Q : Option Value → Heap → Prop} {h : Heap} {k n pc pc' : Nat} {ls : List Slot} {st : List Value} {a : Addr} {ty : FieldType} {vs : List Value} {v : Value}
theorem go_lenR {z : Int32} (D : Dc bytes pc .arraylength 1 pc') (A : Ar Z h a ty vs) (hz : vs.length.toInt32 = z) (G : Go wd K₀ l Z R y bytes ml ret n0 kc ks Q h k n pc' ls (.int z :: st)) : Go wd K₀ l Z R y bytes ml ret n0 kc ks Q h k n pc ls (.ref a :: st) := by
  obtain ⟨c, A, e⟩ := A
  exact go_len D A (by rw [e]; simpa using hz) G
theorem go_baloadR {j : Int32} (D : Dc bytes pc .baload 1 pc') (A : Ar Z h a .byte vs) (hj : ¬ j < 0) (hv : vs[j.toNatClampNeg]? = some v) (G : Go wd K₀ l Z R y bytes ml ret n0 kc ks Q h k n pc' ls (v :: st)) : Go wd K₀ l Z R y bytes ml ret n0 kc ks Q h k n pc ls (.int j :: .ref a :: st) := by
  obtain ⟨c, A, e⟩ := A
  exact go_baload D A (inb e hj hv) (by rw [e]; simpa using hv) G
end Raw
section RawB
variable {wd : Bool} {K₀ : State → Prop} {l : Launch} {Z : State} {R : Room} {y : MethodName} {bytes : ByteArray} {ml : Nat} {ret : Option FieldType} {n0 kc ks : Nat} {Q : Option Value → Heap → Prop} {h : Heap} {k n pc pc' : Nat} {ls : List Slot} {st : List Value} {a : Addr} {ty : FieldType} {vs : List Value} {v : Value} {a0 : Array Value}
theorem go_aaloadR {j : Int32} (D : Dc bytes pc .aaload 1 pc') (A : Ar Z h a ty vs) (ht : ty.isReference = true) (hj : ¬ j < 0) (hv : vs[j.toNatClampNeg]? = some v) (G : Go wd K₀ l Z R y bytes ml ret n0 kc ks Q h k n pc' ls (v :: st)) : Go wd K₀ l Z R y bytes ml ret n0 kc ks Q h k n pc ls (.int j :: .ref a :: st) := by
  obtain ⟨c, A, e⟩ := A
  exact go_aaload D A ht (inb e hj hv) (by rw [e]; simpa using hv) G
theorem go_cloneR {idx W : Nat} {ad : String} (cap : Nat) (D : Dc bytes pc (.invokevirtual idx) 3 pc') (A : Ar Z h a ty vs) (E : Exa Z h a ad) (hfit : ∀ v ∈ vs, fits ty v = true)
    (w1 : (Cond.methodLink y.cls idx ⟨ad, "clone", "()Ljava/lang/Object;"⟩).before a0 Z = true) (w2 : (Cond.sameMethod ad "java/lang/Object" "clone" "()Ljava/lang/Object;").before a0 Z = true) (w3 : (Cond.native ⟨"java/lang/Object", "clone", "()Ljava/lang/Object;"⟩).before a0 Z = true)
    (w4 : (Cond.instanceMethod ⟨"java/lang/Object", "clone", "()Ljava/lang/Object;"⟩).before a0 Z = true) (w5 : (Cond.selects ad ⟨ad, "clone", "()Ljava/lang/Object;"⟩ ⟨"java/lang/Object", "clone", "()Ljava/lang/Object;"⟩).before a0 Z = true) (w6 : (Cond.castable ad "java/lang/Cloneable").before a0 Z = true)
    (hlen : vs.length ≤ cap) (hls : ls.length = ml) (hf : 1 ≤ R.frames) (hW : (st.map fun v => v.category).sum = W) (hlo : W + 14 ≤ R.locals) (hk : k + 1 ≤ R.cells) (hn : n + cap ≤ R.slots)
    (G : ∀ h' b, Ext h h' → Ar Z h' b ty vs → Exa Z h' b ad → Go wd K₀ l Z R y bytes ml ret n0 kc ks Q h' (k + 1) (n + cap) pc' ls (.ref b :: st)) : Go wd K₀ l Z R y bytes ml ret n0 kc ks Q h k n pc ls (.ref a :: st) := by
  obtain ⟨cl, A, hs⟩ := A
  intro p e s0 s m args below meth c T L' Bs C X hh N
  obtain ⟨hd, rfl⟩ := D
  have FC : FitC Z cl := fitC_of A fun q hq v hv => hfit v (by rw [hs] at hv; exact List.mem_of_getElem? (by simpa using hv))
  obtain ⟨T', h', X', e', ex, A', E', st'⟩ := cloneA X C.1 C.2.2.2.2.1 C.2.2.2.1 w1 w2 w3 w4 w5 w6 hh A E FC (g := mkF m pc ls.toArray (.ref a :: st)) rfl (by rw [C.2.2.1]; simpa using hls) rfl (hb C.2.1 hd) hf (W := W) (cap := cap) (by show 2 * 0 + _ ≤ W; rw [← hW]; omega) hlo (by rw [hs]; simpa using hlen) hk hn
  exact (G h' h.size ex ⟨cloneOf cl, A', hs⟩ E' p e s0 s m args below meth c T' L' (Bs.mono ex.1) C X' e' N).pre st'
end RawB
section Tab
variable {args : Array Value} {s : State} {t a : Term} {x : Addr} {cc : Cell} {v : Int32} {ty : FieldType}
theorem own_int (h : (Cond.eq t (Term.int v)).value args s none s [] = some true) : t.eval args s none [] s = some (.int v) := by
  obtain ⟨p, q, e1, e2, k1, k2⟩ := cmp_v (Or.inl h)
  have : q = .int v := by simpa [Term.eval] using e2.symm
  subst this
  obtain ⟨z, rfl⟩ : ∃ z, p = .int z := k2
  have hz : z = v := by simpa [Cond.value, e1, e2] using h
  subst hz
  exact e1
theorem own_len (k : Nat) (hk : k < 2 ^ 31) (et : t.eval args s none [] s = some (.ref x)) (A : Arr s s.heap x cc ty) (f : (Cond.eq (Term.length t) (Term.int (Int32.ofNat k))).value args s none s [] = some true) : cc.slots.size = k := by
  have e1 := own_int f
  have ha : s.arrayAt? x = some cc := A.fin (Vm.Alike.refl _)
  have q : cc.slots.size < 2 ^ 31 ∧ cc.slots.size.toInt32 = Int32.ofNat k := by simpa [Term.eval, et, ha] using e1
  have u := len_toInt q.1
  rw [q.2] at u
  have u2 : (Int32.ofNat k).toInt = (k : Int) := len_toInt hk
  omega
theorem own_el (i : Nat) (hi : i < 256) (h : (Cond.eq (Term.elem t (Term.int (Int32.ofNat i))) (Term.int v)).value args s none s [] = some true) (ht : t.eval args s none [] s = some (.ref x)) (A : Arr s s.heap x cc ty) : cc.slots[i]? = some (.int v) := by
  have u := (elem_in (own_int h) ht (show (Term.int (Int32.ofNat i)).eval args s none [] s = some (.int (Int32.ofNat i)) from by simp [Term.eval]) A.1).2
  have e : (Int32.ofNat i).toNatClampNeg = i := by
    show (Int32.ofNat i).toInt.toNat = i
    rw [show (Int32.ofNat i).toInt = (i : Int) from len_toInt (by omega)]; rfl
  rw [e] at u; exact u
end Tab
theorem own_elr {args : Array Value} {s : State} {t r : Term} {x y : Addr} {cc : Cell} {ty : FieldType} (i : Nat) (hi : i < 256) (h : (Cond.eq (Term.elem t (Term.int (Int32.ofNat i))) r).value args s none s [] = some true) (ht : t.eval args s none [] s = some (.ref x)) (A : Arr s s.heap x cc ty) (hr : r.eval args s none [] s = some (.ref y)) : cc.slots[i]? = some (.ref y) := by
  obtain ⟨p, q, e1, e2, k1, k2⟩ := cmp_v (Or.inl h)
  cases hr.symm.trans e2
  have hp : p = .ref y := by
    cases p <;> simp [Cond.value, e1, e2] at h <;> first | (cases k1.1; done) | simp_all
  subst hp
  have u := (elem_in e1 ht (show (Term.int (Int32.ofNat i)).eval args s none [] s = some (.int (Int32.ofNat i)) from by simp [Term.eval]) A.1).2
  have e : (Int32.ofNat i).toNatClampNeg = i := by
    show (Int32.ofNat i).toInt.toNat = i
    rw [show (Int32.ofNat i).toInt = (i : Int) from len_toInt (by omega)]; rfl
  rw [e] at u; exact u

set_option maxRecDepth 65536 in
set_option maxHeartbeats 4000000 in
theorem rm_sc2_1 (l : Launch) (Z : State) (a0 : Array Value) (hw : ∀ d ∈ tables_1, d.before a0 Z = true) (h0 : Heap) (n0 : Nat) (M : List (Addr × Desc)) (a b : Addr) (c0 : Int32) (hc0 : ¬ 255 < c0) (P0 : Hp Z n0 h0 ((b, (.inr (.byte, "[B", [(.int 0)]))) :: (a, (.inr (.char, "[C", [(.int c0)]))) :: M)) :
    Con false l Z (⟨"java/lang/StringUTF16", "compress", "([CI[BII)I"⟩ : MethodName) jdk_52_method_21_code 7 (some .int) ({ frames := 0, cells := 0, slots := 0, locals := 0 } : Room) #[(.ref a), (.int 0), (.ref b), (.int 0), (.int 1)] h0 n0 (R1 fun w h' => w = .int 1 ∧ Hp Z n0 h' ((b, (.inr (.byte, "[B", [(.int (nar .byte c0.toInt8.toInt32))]))) :: (a, (.inr (.char, "[C", [(.int c0)]))) :: M)) := by
  refine con_of (ls := [.val (.ref a), .val (.int 0), .val (.ref b), .val (.int 0), .val (.int 1), .unset, .unset]) (plainFor_of_name pn0) rfl ?_
  refine go_push c5_0 ?_
  refine go_istore c5_1 rfl rfl ?_
  dsimp only [setl]
  refine go_iload c5_3 rfl ?_
  refine go_iload c5_5 rfl ?_
  refine go_icmp_ge c5_7 (fun q => absurd q (by decide)) (fun _ => ?_)
  refine go_aload c5_10 rfl rfl ?_
  refine go_iload c5_11 rfl ?_
  refine go_caloadH P0 (1) c5_12 rfl (by decide) rfl ?_
  refine go_istore c5_13 rfl rfl ?_
  dsimp only [setl]
  refine go_iload c5_15 rfl ?_
  refine go_push c5_17 ?_
  refine go_icmp_le c5_20 (fun _ => ?_) (fun q => absurd q hc0)
  refine go_aload c5_26 rfl rfl ?_
  refine go_iload c5_27 rfl ?_
  refine go_iload c5_28 rfl ?_
  refine go_i2b c5_30 ?_
  refine go_bastoreH P0 0 c5_31 rfl (by decide) (Nat.le_of_ble_eq_true rfl) ?_
  intro h1 P2
  dsimp only [lupd] at P2
  refine go_iincX (x' := 1) c5_32 rfl (by decide) ?_
  dsimp only [setl]
  refine go_iincX (x' := 1) c5_35 rfl (by decide) ?_
  dsimp only [setl]
  refine go_iincX (x' := 1) c5_38 rfl (by decide) ?_
  dsimp only [setl]
  refine go_goto c5_41 ?_
  refine go_iload c5_3 rfl ?_
  refine go_iload c5_5 rfl ?_
  refine go_icmp_ge c5_7 (fun _ => ?_) (fun q => absurd q (by decide))
  refine go_iload c5_44 rfl ?_
  exact go_iret rfl c5_46 (by decide) (by decide) ⟨_, rfl, rfl, P2⟩
set_option maxRecDepth 65536 in
set_option maxHeartbeats 4000000 in
theorem rm_sc1_1 (l : Launch) (Z : State) (a0 : Array Value) (hw : ∀ d ∈ tables_1, d.before a0 Z = true) (h0 : Heap) (n0 : Nat) (M : List (Addr × Desc)) (a : Addr) (c0 : Int32) (hc0 : ¬ 255 < c0) (P0 : Hp Z n0 h0 ((a, (.inr (.char, "[C", [(.int c0)]))) :: M)) :
    Con false l Z (⟨"java/lang/StringUTF16", "compress", "([CII)[B"⟩ : MethodName) jdk_52_method_16_code 6 (some (.array .byte)) ({ frames := 1, cells := 1, slots := 1, locals := 18 } : Room) #[(.ref a), (.int 0), (.int 1)] h0 n0 (R1 fun w h' => ∃ b, w = .ref b ∧ Hp Z n0 h' ((b, (.inr (.byte, "[B", [(.int (nar .byte c0.toInt8.toInt32))]))) :: (a, (.inr (.char, "[C", [(.int c0)]))) :: M)) := by
  refine con_of (ls := [.val (.ref a), .val (.int 0), .val (.int 1), .unset, .unset, .unset]) (plainFor_of_name pn0) rfl ?_
  refine go_iload c4_0 rfl ?_
  refine go_newarr (y := (⟨"java/lang/StringUTF16", "compress", "([CII)[B"⟩ : MethodName)) P0 "[B" [(.int 0)] 1 c4_1 (t22 hw) (by decide) (by decide) (by decide) (by decide) rfl rfl (by decide) (by decide) ?_
  intro h1 a3 P2
  refine go_more (k' := 1) (n' := 1) (by decide) (by decide) ?_
  refine go_astore c4_3 rfl rfl rfl ?_
  dsimp only [setl]
  refine go_aload c4_4 rfl rfl ?_
  refine go_iload c4_5 rfl ?_
  refine go_aload c4_6 rfl rfl ?_
  refine go_push c4_7 ?_
  refine go_iload c4_8 rfl ?_
  refine go_callS1 (y := (⟨"java/lang/StringUTF16", "compress", "([CII)[B"⟩ : MethodName)) (W := 0) (argsL := [(.ref a), (.int 0), (.ref a3), (.int 0), (.int 1)]) (st := []) c4_9 (rm_sc2_1 l Z a0 hw h1 n0 _ a a3 c0 hc0 P2) (t23 hw) (t24 hw) (t20 hw) (t25 hw) (by decide) (lenOf pd0 rfl) rfl rfl (by decide) (by decide) (by decide) (by decide) rfl ?_
  rintro _ h4 ⟨rfl, P5⟩
  refine go_more (k' := 1) (n' := 1) (by decide) (by decide) ?_
  refine go_istore c4_12 rfl rfl ?_
  dsimp only [setl]
  refine go_iload c4_14 rfl ?_
  refine go_iload c4_16 rfl ?_
  refine go_icmp_eq c4_17 (fun _ => ?_) (fun q => absurd q (by decide))
  refine go_aload c4_57 rfl rfl ?_
  exact go_aret rfl rfl rfl c4_58 (by decide) (by decide) ⟨_, rfl, _, rfl, P5⟩
set_option maxRecDepth 65536 in
set_option maxHeartbeats 4000000 in
theorem rm_coder_1 (l : Launch) (Z : State) (a0 : Array Value) (hw : ∀ d ∈ tables_1, d.before a0 Z = true) (h0 : Heap) (n0 : Nat) (M : List (Addr × Desc)) (b : Addr) (v0 : Int32) (P0 : Hp Z n0 h0 ((b, (.inr (.byte, "[B", [(.int v0)]))) :: M)) :
    Con false l Z (⟨"java/lang/StringUTF16", "coderFromArrayLen", "([BI)B"⟩ : MethodName) jdk_52_method_15_code 2 (some .byte) ({ frames := 0, cells := 0, slots := 0, locals := 0 } : Room) #[(.ref b), (.int 1)] h0 n0 (Ret (.int 0) h0) := by
  refine con_of (ls := [.val (.ref b), .val (.int 1)]) (plainFor_of_name pn0) rfl ?_
  refine go_iload c6_0 rfl ?_
  refine go_aload c6_1 rfl rfl ?_
  refine go_alen (z := 1) P0 (0) c6_2 rfl rfl ?_
  refine go_isub c6_3 ?_
  refine go_isI 0 (by decide) ?_
  refine go_push c6_4 ?_
  refine go_iushr c6_6 ?_
  refine go_isI 0 (by decide) ?_
  refine go_i2b c6_7 ?_
  refine go_isI 0 (by decide) ?_
  exact go_nret rfl (Or.inl rfl) c6_8 (by decide) (by decide) (by decide) ⟨_, rfl, rfl, rfl⟩
set_option maxRecDepth 65536 in
set_option maxHeartbeats 4000000 in
theorem rm_si4_1 (l : Launch) (Z : State) (a0 : Array Value) (hw : ∀ d ∈ tables_1, d.before a0 Z = true) (h0 : Heap) (n0 : Nat) (cs : Int32) (hcs : cs ≠ 0) (SC : Sta Z Z.heap "java/lang/String" "COMPACT_STRINGS" "Z" (.int cs)) (M : List (Addr × Desc)) (s a : Addr) (c0 : Int32) (hc0 : ¬ 255 < c0) (P0 : Hp Z n0 h0 ((a, (.inr (.char, "[C", [(.int c0)]))) :: (s, (.inl ("java/lang/String", [(("java/lang/String", "coder", "B"), (.int 0)), (("java/lang/String", "value", "[B"), .null)]))) :: M)) :
    Con false l Z (⟨"java/lang/String", "<init>", "([CIILjava/lang/Void;)V"⟩ : MethodName) jdk_42_method_149_code 6 none ({ frames := 2, cells := 1, slots := 1, locals := 35 } : Room) #[(.ref s), (.ref a), (.int 0), (.int 1), .null] h0 n0 (R0 fun h' => ∃ b, Hp Z n0 h' ((b, (.inr (.byte, "[B", [(.int (nar .byte c0.toInt8.toInt32))]))) :: (a, (.inr (.char, "[C", [(.int c0)]))) :: (s, (.inl ("java/lang/String", [(("java/lang/String", "coder", "B"), (.int 0)), (("java/lang/String", "value", "[B"), (.ref b))]))) :: M)) := by
  refine con_of (ls := [.val (.ref s), .val (.ref a), .val (.int 0), .val (.int 1), .val .null, .unset]) (plainFor_of_name pn1) rfl ?_
  refine go_aload c2_0 rfl rfl ?_
  refine go_initO (y := (⟨"java/lang/String", "<init>", "([CIILjava/lang/Void;)V"⟩ : MethodName)) (W := 0) c2_1 (t14 hw) (t15 hw) (t16 hw) rfl (by decide) rfl (by decide) ?_
  refine go_iload c2_4 rfl ?_
  refine go_if_ne c2_5 (fun _ => ?_) (fun q => absurd q (by decide))
  refine go_getS (y := (⟨"java/lang/String", "<init>", "([CIILjava/lang/Void;)V"⟩ : MethodName)) (host := "") c2_27 (Or.inl (t17 hw)) Via.refl (SC.ext P0.1.2) ?_
  refine go_if_eq c2_30 (fun q => absurd q hcs) (fun _ => ?_)
  refine go_aload c2_33 rfl rfl ?_
  refine go_iload c2_34 rfl ?_
  refine go_iload c2_35 rfl ?_
  refine go_callS1 (y := (⟨"java/lang/String", "<init>", "([CIILjava/lang/Void;)V"⟩ : MethodName)) (W := 0) (argsL := [(.ref a), (.int 0), (.int 1)]) (st := []) c2_36 (rm_sc1_1 l Z a0 hw h0 n0 _ a c0 hc0 P0) (t18 hw) (t19 hw) (t20 hw) (t21 hw) (by decide) (lenOf pd1 rfl) rfl rfl (by decide) (by decide) (by decide) (by decide) rfl ?_
  rintro _ h1 ⟨b3, rfl, P2⟩
  refine go_more (k' := 1) (n' := 1) (by decide) (by decide) ?_
  refine go_astore c2_39 rfl rfl rfl ?_
  dsimp only [setl]
  refine go_aload c2_41 rfl rfl ?_
  refine go_aload c2_42 rfl rfl ?_
  refine go_iload c2_44 rfl ?_
  refine go_callS1 (y := (⟨"java/lang/String", "<init>", "([CIILjava/lang/Void;)V"⟩ : MethodName)) (W := 1) (argsL := [(.ref b3), (.int 1)]) (st := [(.ref s)]) c2_45 (rm_coder_1 l Z a0 hw h1 n0 _ b3 (nar .byte c0.toInt8.toInt32) P2) (t26 hw) (t27 hw) (t20 hw) (t28 hw) (by decide) (lenOf pd2 rfl) rfl rfl (by decide) (by decide) (by decide) (by decide) rfl ?_
  rintro _ _ ⟨rfl, rfl⟩
  refine go_more (k' := 1) (n' := 1) (by decide) (by decide) ?_
  refine go_put (y := (⟨"java/lang/String", "<init>", "([CIILjava/lang/Void;)V"⟩ : MethodName)) P2 2 0 .byte c2_48 rfl rfl (t29 hw) (Or.inr ⟨(t30 hw), rfl, rfl⟩) (t5 hw) (by decide) (by decide) (by decide) ?_
  intro h4 P5
  dsimp only [lupd] at P5
  refine go_aload c2_51 rfl rfl ?_
  refine go_aload c2_52 rfl rfl ?_
  refine go_put (y := (⟨"java/lang/String", "<init>", "([CIILjava/lang/Void;)V"⟩ : MethodName)) P5 2 1 (.array .byte) c2_54 rfl rfl (t31 hw) (Or.inr ⟨(t32 hw), rfl, rfl⟩) (t5 hw) (by decide) rfl rfl ?_
  intro h6 P7
  dsimp only [lupd] at P7
  exact go_ret rfl c2_57 (by decide) (by decide) ⟨rfl, _, P7⟩
set_option maxRecDepth 65536 in
set_option maxHeartbeats 4000000 in
theorem rm_si1_1 (l : Launch) (Z : State) (a0 : Array Value) (hw : ∀ d ∈ tables_1, d.before a0 Z = true) (h0 : Heap) (n0 : Nat) (cs : Int32) (hcs : cs ≠ 0) (SC : Sta Z Z.heap "java/lang/String" "COMPACT_STRINGS" "Z" (.int cs)) (M : List (Addr × Desc)) (s a : Addr) (c0 : Int32) (hc0 : ¬ 255 < c0) (P0 : Hp Z n0 h0 ((a, (.inr (.char, "[C", [(.int c0)]))) :: (s, (.inl ("java/lang/String", [(("java/lang/String", "coder", "B"), (.int 0)), (("java/lang/String", "value", "[B"), .null)]))) :: M)) :
    Con false l Z (⟨"java/lang/String", "<init>", "([C)V"⟩ : MethodName) jdk_42_method_3_code 2 none ({ frames := 3, cells := 1, slots := 1, locals := 52 } : Room) #[(.ref s), (.ref a)] h0 n0 (R0 fun h' => ∃ b, Hp Z n0 h' ((b, (.inr (.byte, "[B", [(.int (nar .byte c0.toInt8.toInt32))]))) :: (a, (.inr (.char, "[C", [(.int c0)]))) :: (s, (.inl ("java/lang/String", [(("java/lang/String", "coder", "B"), (.int 0)), (("java/lang/String", "value", "[B"), (.ref b))]))) :: M)) := by
  refine con_of (ls := [.val (.ref s), .val (.ref a)]) (plainFor_of_name pn1) rfl ?_
  refine go_aload c1_0 rfl rfl ?_
  refine go_aload c1_1 rfl rfl ?_
  refine go_push c1_2 ?_
  refine go_aload c1_3 rfl rfl ?_
  refine go_alen (z := 1) P0 (0) c1_4 rfl rfl ?_
  refine go_null c1_5 ?_
  refine go_callN0 (y := (⟨"java/lang/String", "<init>", "([C)V"⟩ : MethodName)) (W := 0) (argsL := [(.ref a), (.int 0), (.int 1), .null]) (st := []) c1_6 rfl rfl (rm_si4_1 l Z a0 hw h0 n0 cs hcs SC _ s a c0 hc0 P0) (t10 hw) (t11 hw) (t6 hw) (t13 hw) (by decide) (lenOf pd3 rfl) rfl rfl (by decide) (by decide) (by decide) (by decide) rfl ?_
  rintro h1 ⟨b3, P2⟩
  refine go_more (k' := 1) (n' := 1) (by decide) (by decide) ?_
  exact go_ret rfl c1_9 (by decide) (by decide) ⟨rfl, _, P2⟩
set_option maxRecDepth 65536 in
set_option maxHeartbeats 4000000 in
theorem rm_pciN (l : Launch) (Z : State) (a0 : Array Value) (hw : ∀ d ∈ tables_1, d.before a0 Z = true) (h0 : Heap) (n0 : Nat)  :
    Con false l Z (⟨"jdk/internal/util/Preconditions", "checkIndex", "(IILjava/util/function/BiFunction;)I"⟩ : MethodName) jdk_41_method_11_code 3 (some .int) ({ frames := 0, cells := 0, slots := 0, locals := 0 } : Room) #[(.int 0), (.int 1), .null] h0 n0 (Ret (.int 0) h0) := by
  refine con_of (ls := [.val (.int 0), .val (.int 1), .val .null]) (plainFor_of_name pn2) rfl ?_
  refine go_iload c15_0 rfl ?_
  refine go_if_lt c15_1 (fun q => absurd q (by decide)) (fun _ => ?_)
  refine go_iload c15_4 rfl ?_
  refine go_iload c15_5 rfl ?_
  refine go_icmp_lt c15_6 (fun _ => ?_) (fun q => absurd q (by decide))
  refine go_iload c15_16 rfl ?_
  exact go_iret rfl c15_17 (by decide) (by decide) ⟨_, rfl, rfl, rfl⟩
set_option maxRecDepth 65536 in
set_option maxHeartbeats 4000000 in
theorem rm_pciR (l : Launch) (Z : State) (a0 : Array Value) (hw : ∀ d ∈ tables_1, d.before a0 Z = true) (h0 : Heap) (n0 : Nat) (q : Addr) :
    Con false l Z (⟨"jdk/internal/util/Preconditions", "checkIndex", "(IILjava/util/function/BiFunction;)I"⟩ : MethodName) jdk_41_method_11_code 3 (some .int) ({ frames := 0, cells := 0, slots := 0, locals := 0 } : Room) #[(.int 0), (.int 1), (.ref q)] h0 n0 (Ret (.int 0) h0) := by
  refine con_of (ls := [.val (.int 0), .val (.int 1), .val (.ref q)]) (plainFor_of_name pn2) rfl ?_
  refine go_iload c15_0 rfl ?_
  refine go_if_lt c15_1 (fun q => absurd q (by decide)) (fun _ => ?_)
  refine go_iload c15_4 rfl ?_
  refine go_iload c15_5 rfl ?_
  refine go_icmp_lt c15_6 (fun _ => ?_) (fun q => absurd q (by decide))
  refine go_iload c15_16 rfl ?_
  exact go_iret rfl c15_17 (by decide) (by decide) ⟨_, rfl, rfl, rfl⟩
set_option maxRecDepth 65536 in
set_option maxHeartbeats 4000000 in
theorem rm_pci (l : Launch) (Z : State) (a0 : Array Value) (hw : ∀ d ∈ tables_1, d.before a0 Z = true) (h0 : Heap) (n0 : Nat) (fm : Value) (hr_fm : fm.isRef = true) :
    Con false l Z (⟨"jdk/internal/util/Preconditions", "checkIndex", "(IILjava/util/function/BiFunction;)I"⟩ : MethodName) jdk_41_method_11_code 3 (some .int) ({ frames := 0, cells := 0, slots := 0, locals := 0 } : Room) #[(.int 0), (.int 1), fm] h0 n0 (Ret (.int 0) h0) := by
  rcases ref_cases hr_fm with rfl | ⟨q, rfl⟩
  · exact rm_pciN l Z a0 hw h0 n0
  · exact rm_pciR l Z a0 hw h0 n0 q
set_option maxRecDepth 65536 in
set_option maxHeartbeats 4000000 in
theorem rm_sci (l : Launch) (Z : State) (a0 : Array Value) (hw : ∀ d ∈ tables_1, d.before a0 Z = true) (h0 : Heap) (n0 : Nat) (M : List (Addr × Desc)) (P0 : Hp Z n0 h0 M) (fm : Value) (hr_fm : fm.isRef = true) (SF : Sta Z Z.heap "jdk/internal/util/Preconditions" "SIOOBE_FORMATTER" "Ljava/util/function/BiFunction;" fm) :
    Con false l Z (⟨"java/lang/String", "checkIndex", "(II)V"⟩ : MethodName) jdk_42_method_155_code 2 none ({ frames := 1, cells := 0, slots := 0, locals := 16 } : Room) #[(.int 0), (.int 1)] h0 n0 (R0 fun h' => h0 = h') := by
  refine con_of (ls := [.val (.int 0), .val (.int 1)]) (plainFor_of_name pn1) rfl ?_
  refine go_iload c14_0 rfl ?_
  refine go_iload c14_1 rfl ?_
  refine go_getS (y := (⟨"java/lang/String", "checkIndex", "(II)V"⟩ : MethodName)) (host := "") c14_2 (Or.inl (t83 hw)) Via.refl (SF.ext P0.1.2) ?_
  refine go_callS1 (y := (⟨"java/lang/String", "checkIndex", "(II)V"⟩ : MethodName)) (W := 0) (argsL := [(.int 0), (.int 1), fm]) (st := []) c14_5 (rm_pci l Z a0 hw h0 n0 fm hr_fm) (t85 hw) (t86 hw) (t84 hw) (t87 hw) (by decide) (lenOf pd4 rfl) rfl rfl (by decide) (by decide) (by decide) (by decide) rfl ?_
  rintro _ _ ⟨rfl, rfl⟩
  refine go_more (k' := 0) (n' := 0) (by decide) (by decide) ?_
  refine go_pop c14_8 rfl ?_
  exact go_ret rfl c14_9 (by decide) (by decide) ⟨rfl, rfl⟩
set_option maxRecDepth 65536 in
set_option maxHeartbeats 4000000 in
theorem rm_l1_114 (l : Launch) (Z : State) (a0 : Array Value) (hw : ∀ d ∈ tables_1, d.before a0 Z = true) (h0 : Heap) (n0 : Nat) (fm : Value) (hr_fm : fm.isRef = true) (SF : Sta Z Z.heap "jdk/internal/util/Preconditions" "SIOOBE_FORMATTER" "Ljava/util/function/BiFunction;" fm) (M : List (Addr × Desc)) (s b : Addr) (P0 : Hp Z n0 h0 ((b, (.inr (.byte, "[B", [(.int 114)]))) :: (s, (.inl ("java/lang/String", [(("java/lang/String", "coder", "B"), (.int 0)), (("java/lang/String", "value", "[B"), (.ref b))]))) :: M)) :
    Con false l Z (⟨"java/lang/StringLatin1", "charAt", "([BI)C"⟩ : MethodName) jdk_43_method_2_code 2 (some .char) ({ frames := 2, cells := 0, slots := 0, locals := 32 } : Room) #[(.ref b), (.int 0)] h0 n0 (Ret (.int 114) h0) := by
  refine con_of (ls := [.val (.ref b), .val (.int 0)]) (plainFor_of_name pn3) rfl ?_
  refine go_iload c13_0 rfl ?_
  refine go_aload c13_1 rfl rfl ?_
  refine go_alen (z := 1) P0 (0) c13_2 rfl rfl ?_
  refine go_callS0 (y := (⟨"java/lang/StringLatin1", "charAt", "([BI)C"⟩ : MethodName)) (W := 0) (argsL := [(.int 0), (.int 1)]) (st := []) c13_3 (rm_sci l Z a0 hw h0 n0 _ P0 fm hr_fm SF) (t80 hw) (t81 hw) (t6 hw) (t82 hw) (by decide) (lenOf pd5 rfl) rfl rfl (by decide) (by decide) (by decide) (by decide) rfl ?_
  rintro _ rfl
  refine go_more (k' := 0) (n' := 0) (by decide) (by decide) ?_
  refine go_aload c13_6 rfl rfl ?_
  refine go_iload c13_7 rfl ?_
  refine go_baloadH P0 (0) c13_8 rfl (by decide) rfl ?_
  refine go_push c13_9 ?_
  refine go_iand c13_12 ?_
  refine go_isI 114 (by decide) ?_
  refine go_i2c c13_13 ?_
  refine go_isI 114 (by decide) ?_
  exact go_nret rfl (Or.inr (Or.inl rfl)) c13_14 (by decide) (by decide) (by decide) ⟨_, rfl, rfl, rfl⟩
set_option maxRecDepth 65536 in
set_option maxHeartbeats 4000000 in
theorem rm_il_114 (l : Launch) (Z : State) (a0 : Array Value) (hw : ∀ d ∈ tables_1, d.before a0 Z = true) (h0 : Heap) (n0 : Nat) (cs : Int32) (hcs : cs ≠ 0) (SC : Sta Z Z.heap "java/lang/String" "COMPACT_STRINGS" "Z" (.int cs)) (M : List (Addr × Desc)) (s b : Addr) (P0 : Hp Z n0 h0 ((b, (.inr (.byte, "[B", [(.int 114)]))) :: (s, (.inl ("java/lang/String", [(("java/lang/String", "coder", "B"), (.int 0)), (("java/lang/String", "value", "[B"), (.ref b))]))) :: M)) :
    Con false l Z (⟨"java/lang/String", "isLatin1", "()Z"⟩ : MethodName) jdk_42_method_154_code 1 (some .boolean) ({ frames := 0, cells := 0, slots := 0, locals := 0 } : Room) #[(.ref s)] h0 n0 (Ret (.int 1) h0) := by
  refine con_of (ls := [.val (.ref s)]) (plainFor_of_name pn1) rfl ?_
  refine go_getS (y := (⟨"java/lang/String", "isLatin1", "()Z"⟩ : MethodName)) (host := "") c12_0 (Or.inl (t17 hw)) Via.refl (SC.ext P0.1.2) ?_
  refine go_if_eq c12_3 (fun q => absurd q hcs) (fun _ => ?_)
  refine go_aload c12_6 rfl rfl ?_
  refine go_get (y := (⟨"java/lang/String", "isLatin1", "()Z"⟩ : MethodName)) P0 (1) 0 c12_7 rfl rfl (t29 hw) ?_
  refine go_if_ne c12_10 (fun q => absurd q (by decide)) (fun _ => ?_)
  refine go_push c12_13 ?_
  refine go_goto c12_14 ?_
  exact go_bret rfl c12_18 (by decide) (by decide) (by decide) ⟨_, rfl, rfl, rfl⟩
set_option maxRecDepth 65536 in
set_option maxHeartbeats 4000000 in
theorem rm_ca_114 (l : Launch) (Z : State) (a0 : Array Value) (hw : ∀ d ∈ tables_1, d.before a0 Z = true) (h0 : Heap) (n0 : Nat) (cs : Int32) (hcs : cs ≠ 0) (SC : Sta Z Z.heap "java/lang/String" "COMPACT_STRINGS" "Z" (.int cs)) (fm : Value) (hr_fm : fm.isRef = true) (SF : Sta Z Z.heap "jdk/internal/util/Preconditions" "SIOOBE_FORMATTER" "Ljava/util/function/BiFunction;" fm) (M : List (Addr × Desc)) (s b : Addr) (P0 : Hp Z n0 h0 ((b, (.inr (.byte, "[B", [(.int 114)]))) :: (s, (.inl ("java/lang/String", [(("java/lang/String", "coder", "B"), (.int 0)), (("java/lang/String", "value", "[B"), (.ref b))]))) :: M)) :
    Con false l Z (⟨"java/lang/String", "charAt", "(I)C"⟩ : MethodName) jdk_42_method_56_code 2 (some .char) ({ frames := 3, cells := 0, slots := 0, locals := 48 } : Room) #[(.ref s), (.int 0)] h0 n0 (Ret (.int 114) h0) := by
  refine con_of (ls := [.val (.ref s), .val (.int 0)]) (plainFor_of_name pn1) rfl ?_
  refine go_aload c11_0 rfl rfl ?_
  refine go_callV1 (y := (⟨"java/lang/String", "charAt", "(I)C"⟩ : MethodName)) (W := 0) (argsL := []) (st := []) c11_1 (rm_il_114 l Z a0 hw h0 n0 cs hcs SC _ s b P0) (P0.exa (i := 1) rfl) (t71 hw) (t72 hw) (fun _ q => notFace_of_selects (args := #[]) (mvT q (t74 hw))) (t74 hw) (t73 hw) (t6 hw) (t75 hw) (by decide) (lenOf pd6 rfl) rfl rfl (by decide) (by decide) (by decide) (by decide) rfl ?_
  rintro _ _ ⟨rfl, rfl⟩
  refine go_more (k' := 0) (n' := 0) (by decide) (by decide) ?_
  refine go_if_eq c11_4 (fun q => absurd q (by decide)) (fun _ => ?_)
  refine go_aload c11_7 rfl rfl ?_
  refine go_get (y := (⟨"java/lang/String", "charAt", "(I)C"⟩ : MethodName)) P0 (1) 1 c11_8 rfl rfl (t31 hw) ?_
  refine go_iload c11_11 rfl ?_
  refine go_callS1 (y := (⟨"java/lang/String", "charAt", "(I)C"⟩ : MethodName)) (W := 0) (argsL := [(.ref b), (.int 0)]) (st := []) c11_12 (rm_l1_114 l Z a0 hw h0 n0 fm hr_fm SF _ s b P0) (t76 hw) (t77 hw) (t78 hw) (t79 hw) (by decide) (lenOf pd7 rfl) rfl rfl (by decide) (by decide) (by decide) (by decide) rfl ?_
  rintro _ _ ⟨rfl, rfl⟩
  refine go_more (k' := 0) (n' := 0) (by decide) (by decide) ?_
  exact go_nret rfl (Or.inr (Or.inl rfl)) c11_15 (by decide) (by decide) (by decide) ⟨_, rfl, rfl, rfl⟩
set_option maxRecDepth 65536 in
set_option maxHeartbeats 4000000 in
theorem rm_cd_114 (l : Launch) (Z : State) (a0 : Array Value) (hw : ∀ d ∈ tables_1, d.before a0 Z = true) (h0 : Heap) (n0 : Nat) (cs : Int32) (hcs : cs ≠ 0) (SC : Sta Z Z.heap "java/lang/String" "COMPACT_STRINGS" "Z" (.int cs)) (M : List (Addr × Desc)) (s b : Addr) (P0 : Hp Z n0 h0 ((b, (.inr (.byte, "[B", [(.int 114)]))) :: (s, (.inl ("java/lang/String", [(("java/lang/String", "coder", "B"), (.int 0)), (("java/lang/String", "value", "[B"), (.ref b))]))) :: M)) :
    Con false l Z (⟨"java/lang/String", "coder", "()B"⟩ : MethodName) jdk_42_method_152_code 1 (some .byte) ({ frames := 0, cells := 0, slots := 0, locals := 0 } : Room) #[(.ref s)] h0 n0 (Ret (.int 0) h0) := by
  refine con_of (ls := [.val (.ref s)]) (plainFor_of_name pn1) rfl ?_
  refine go_getS (y := (⟨"java/lang/String", "coder", "()B"⟩ : MethodName)) (host := "") c9_0 (Or.inl (t17 hw)) Via.refl (SC.ext P0.1.2) ?_
  refine go_if_eq c9_3 (fun q => absurd q hcs) (fun _ => ?_)
  refine go_aload c9_6 rfl rfl ?_
  refine go_get (y := (⟨"java/lang/String", "coder", "()B"⟩ : MethodName)) P0 (1) 0 c9_7 rfl rfl (t29 hw) ?_
  refine go_goto c9_10 ?_
  exact go_nret rfl (Or.inl rfl) c9_14 (by decide) (by decide) (by decide) ⟨_, rfl, rfl, rfl⟩
set_option maxRecDepth 65536 in
set_option maxHeartbeats 4000000 in
theorem rm_ln_114 (l : Launch) (Z : State) (a0 : Array Value) (hw : ∀ d ∈ tables_1, d.before a0 Z = true) (h0 : Heap) (n0 : Nat) (cs : Int32) (hcs : cs ≠ 0) (SC : Sta Z Z.heap "java/lang/String" "COMPACT_STRINGS" "Z" (.int cs)) (M : List (Addr × Desc)) (s b : Addr) (P0 : Hp Z n0 h0 ((b, (.inr (.byte, "[B", [(.int 114)]))) :: (s, (.inl ("java/lang/String", [(("java/lang/String", "coder", "B"), (.int 0)), (("java/lang/String", "value", "[B"), (.ref b))]))) :: M)) :
    Con false l Z (⟨"java/lang/String", "length", "()I"⟩ : MethodName) jdk_42_method_54_code 1 (some .int) ({ frames := 1, cells := 0, slots := 0, locals := 14 } : Room) #[(.ref s)] h0 n0 (Ret (.int 1) h0) := by
  refine con_of (ls := [.val (.ref s)]) (plainFor_of_name pn1) rfl ?_
  refine go_aload c8_0 rfl rfl ?_
  refine go_get (y := (⟨"java/lang/String", "length", "()I"⟩ : MethodName)) P0 (1) 1 c8_1 rfl rfl (t31 hw) ?_
  refine go_alen (z := 1) P0 (0) c8_4 rfl rfl ?_
  refine go_aload c8_5 rfl rfl ?_
  refine go_callV1 (y := (⟨"java/lang/String", "length", "()I"⟩ : MethodName)) (W := 1) (argsL := []) (st := [(.int 1)]) c8_6 (rm_cd_114 l Z a0 hw h0 n0 cs hcs SC _ s b P0) (P0.exa (i := 1) rfl) (t41 hw) (t42 hw) (fun _ q => notFace_of_selects (args := #[]) (mvT q (t44 hw))) (t44 hw) (t43 hw) (t6 hw) (t45 hw) (by decide) (lenOf pd8 rfl) rfl rfl (by decide) (by decide) (by decide) (by decide) rfl ?_
  rintro _ _ ⟨rfl, rfl⟩
  refine go_more (k' := 0) (n' := 0) (by decide) (by decide) ?_
  refine go_ishr c8_9 ?_
  refine go_isI 1 (by decide) ?_
  exact go_iret rfl c8_10 (by decide) (by decide) ⟨_, rfl, rfl, rfl⟩
set_option maxRecDepth 65536 in
set_option maxHeartbeats 4000000 in
theorem rm_l1_119 (l : Launch) (Z : State) (a0 : Array Value) (hw : ∀ d ∈ tables_1, d.before a0 Z = true) (h0 : Heap) (n0 : Nat) (fm : Value) (hr_fm : fm.isRef = true) (SF : Sta Z Z.heap "jdk/internal/util/Preconditions" "SIOOBE_FORMATTER" "Ljava/util/function/BiFunction;" fm) (M : List (Addr × Desc)) (s b : Addr) (P0 : Hp Z n0 h0 ((b, (.inr (.byte, "[B", [(.int 119)]))) :: (s, (.inl ("java/lang/String", [(("java/lang/String", "coder", "B"), (.int 0)), (("java/lang/String", "value", "[B"), (.ref b))]))) :: M)) :
    Con false l Z (⟨"java/lang/StringLatin1", "charAt", "([BI)C"⟩ : MethodName) jdk_43_method_2_code 2 (some .char) ({ frames := 2, cells := 0, slots := 0, locals := 32 } : Room) #[(.ref b), (.int 0)] h0 n0 (Ret (.int 119) h0) := by
  refine con_of (ls := [.val (.ref b), .val (.int 0)]) (plainFor_of_name pn3) rfl ?_
  refine go_iload c13_0 rfl ?_
  refine go_aload c13_1 rfl rfl ?_
  refine go_alen (z := 1) P0 (0) c13_2 rfl rfl ?_
  refine go_callS0 (y := (⟨"java/lang/StringLatin1", "charAt", "([BI)C"⟩ : MethodName)) (W := 0) (argsL := [(.int 0), (.int 1)]) (st := []) c13_3 (rm_sci l Z a0 hw h0 n0 _ P0 fm hr_fm SF) (t80 hw) (t81 hw) (t6 hw) (t82 hw) (by decide) (lenOf pd5 rfl) rfl rfl (by decide) (by decide) (by decide) (by decide) rfl ?_
  rintro _ rfl
  refine go_more (k' := 0) (n' := 0) (by decide) (by decide) ?_
  refine go_aload c13_6 rfl rfl ?_
  refine go_iload c13_7 rfl ?_
  refine go_baloadH P0 (0) c13_8 rfl (by decide) rfl ?_
  refine go_push c13_9 ?_
  refine go_iand c13_12 ?_
  refine go_isI 119 (by decide) ?_
  refine go_i2c c13_13 ?_
  refine go_isI 119 (by decide) ?_
  exact go_nret rfl (Or.inr (Or.inl rfl)) c13_14 (by decide) (by decide) (by decide) ⟨_, rfl, rfl, rfl⟩
set_option maxRecDepth 65536 in
set_option maxHeartbeats 4000000 in
theorem rm_il_119 (l : Launch) (Z : State) (a0 : Array Value) (hw : ∀ d ∈ tables_1, d.before a0 Z = true) (h0 : Heap) (n0 : Nat) (cs : Int32) (hcs : cs ≠ 0) (SC : Sta Z Z.heap "java/lang/String" "COMPACT_STRINGS" "Z" (.int cs)) (M : List (Addr × Desc)) (s b : Addr) (P0 : Hp Z n0 h0 ((b, (.inr (.byte, "[B", [(.int 119)]))) :: (s, (.inl ("java/lang/String", [(("java/lang/String", "coder", "B"), (.int 0)), (("java/lang/String", "value", "[B"), (.ref b))]))) :: M)) :
    Con false l Z (⟨"java/lang/String", "isLatin1", "()Z"⟩ : MethodName) jdk_42_method_154_code 1 (some .boolean) ({ frames := 0, cells := 0, slots := 0, locals := 0 } : Room) #[(.ref s)] h0 n0 (Ret (.int 1) h0) := by
  refine con_of (ls := [.val (.ref s)]) (plainFor_of_name pn1) rfl ?_
  refine go_getS (y := (⟨"java/lang/String", "isLatin1", "()Z"⟩ : MethodName)) (host := "") c12_0 (Or.inl (t17 hw)) Via.refl (SC.ext P0.1.2) ?_
  refine go_if_eq c12_3 (fun q => absurd q hcs) (fun _ => ?_)
  refine go_aload c12_6 rfl rfl ?_
  refine go_get (y := (⟨"java/lang/String", "isLatin1", "()Z"⟩ : MethodName)) P0 (1) 0 c12_7 rfl rfl (t29 hw) ?_
  refine go_if_ne c12_10 (fun q => absurd q (by decide)) (fun _ => ?_)
  refine go_push c12_13 ?_
  refine go_goto c12_14 ?_
  exact go_bret rfl c12_18 (by decide) (by decide) (by decide) ⟨_, rfl, rfl, rfl⟩
set_option maxRecDepth 65536 in
set_option maxHeartbeats 4000000 in
theorem rm_ca_119 (l : Launch) (Z : State) (a0 : Array Value) (hw : ∀ d ∈ tables_1, d.before a0 Z = true) (h0 : Heap) (n0 : Nat) (cs : Int32) (hcs : cs ≠ 0) (SC : Sta Z Z.heap "java/lang/String" "COMPACT_STRINGS" "Z" (.int cs)) (fm : Value) (hr_fm : fm.isRef = true) (SF : Sta Z Z.heap "jdk/internal/util/Preconditions" "SIOOBE_FORMATTER" "Ljava/util/function/BiFunction;" fm) (M : List (Addr × Desc)) (s b : Addr) (P0 : Hp Z n0 h0 ((b, (.inr (.byte, "[B", [(.int 119)]))) :: (s, (.inl ("java/lang/String", [(("java/lang/String", "coder", "B"), (.int 0)), (("java/lang/String", "value", "[B"), (.ref b))]))) :: M)) :
    Con false l Z (⟨"java/lang/String", "charAt", "(I)C"⟩ : MethodName) jdk_42_method_56_code 2 (some .char) ({ frames := 3, cells := 0, slots := 0, locals := 48 } : Room) #[(.ref s), (.int 0)] h0 n0 (Ret (.int 119) h0) := by
  refine con_of (ls := [.val (.ref s), .val (.int 0)]) (plainFor_of_name pn1) rfl ?_
  refine go_aload c11_0 rfl rfl ?_
  refine go_callV1 (y := (⟨"java/lang/String", "charAt", "(I)C"⟩ : MethodName)) (W := 0) (argsL := []) (st := []) c11_1 (rm_il_119 l Z a0 hw h0 n0 cs hcs SC _ s b P0) (P0.exa (i := 1) rfl) (t71 hw) (t72 hw) (fun _ q => notFace_of_selects (args := #[]) (mvT q (t74 hw))) (t74 hw) (t73 hw) (t6 hw) (t75 hw) (by decide) (lenOf pd6 rfl) rfl rfl (by decide) (by decide) (by decide) (by decide) rfl ?_
  rintro _ _ ⟨rfl, rfl⟩
  refine go_more (k' := 0) (n' := 0) (by decide) (by decide) ?_
  refine go_if_eq c11_4 (fun q => absurd q (by decide)) (fun _ => ?_)
  refine go_aload c11_7 rfl rfl ?_
  refine go_get (y := (⟨"java/lang/String", "charAt", "(I)C"⟩ : MethodName)) P0 (1) 1 c11_8 rfl rfl (t31 hw) ?_
  refine go_iload c11_11 rfl ?_
  refine go_callS1 (y := (⟨"java/lang/String", "charAt", "(I)C"⟩ : MethodName)) (W := 0) (argsL := [(.ref b), (.int 0)]) (st := []) c11_12 (rm_l1_119 l Z a0 hw h0 n0 fm hr_fm SF _ s b P0) (t76 hw) (t77 hw) (t78 hw) (t79 hw) (by decide) (lenOf pd7 rfl) rfl rfl (by decide) (by decide) (by decide) (by decide) rfl ?_
  rintro _ _ ⟨rfl, rfl⟩
  refine go_more (k' := 0) (n' := 0) (by decide) (by decide) ?_
  exact go_nret rfl (Or.inr (Or.inl rfl)) c11_15 (by decide) (by decide) (by decide) ⟨_, rfl, rfl, rfl⟩
set_option maxRecDepth 65536 in
set_option maxHeartbeats 4000000 in
theorem rm_cd_119 (l : Launch) (Z : State) (a0 : Array Value) (hw : ∀ d ∈ tables_1, d.before a0 Z = true) (h0 : Heap) (n0 : Nat) (cs : Int32) (hcs : cs ≠ 0) (SC : Sta Z Z.heap "java/lang/String" "COMPACT_STRINGS" "Z" (.int cs)) (M : List (Addr × Desc)) (s b : Addr) (P0 : Hp Z n0 h0 ((b, (.inr (.byte, "[B", [(.int 119)]))) :: (s, (.inl ("java/lang/String", [(("java/lang/String", "coder", "B"), (.int 0)), (("java/lang/String", "value", "[B"), (.ref b))]))) :: M)) :
    Con false l Z (⟨"java/lang/String", "coder", "()B"⟩ : MethodName) jdk_42_method_152_code 1 (some .byte) ({ frames := 0, cells := 0, slots := 0, locals := 0 } : Room) #[(.ref s)] h0 n0 (Ret (.int 0) h0) := by
  refine con_of (ls := [.val (.ref s)]) (plainFor_of_name pn1) rfl ?_
  refine go_getS (y := (⟨"java/lang/String", "coder", "()B"⟩ : MethodName)) (host := "") c9_0 (Or.inl (t17 hw)) Via.refl (SC.ext P0.1.2) ?_
  refine go_if_eq c9_3 (fun q => absurd q hcs) (fun _ => ?_)
  refine go_aload c9_6 rfl rfl ?_
  refine go_get (y := (⟨"java/lang/String", "coder", "()B"⟩ : MethodName)) P0 (1) 0 c9_7 rfl rfl (t29 hw) ?_
  refine go_goto c9_10 ?_
  exact go_nret rfl (Or.inl rfl) c9_14 (by decide) (by decide) (by decide) ⟨_, rfl, rfl, rfl⟩
set_option maxRecDepth 65536 in
set_option maxHeartbeats 4000000 in
theorem rm_ln_119 (l : Launch) (Z : State) (a0 : Array Value) (hw : ∀ d ∈ tables_1, d.before a0 Z = true) (h0 : Heap) (n0 : Nat) (cs : Int32) (hcs : cs ≠ 0) (SC : Sta Z Z.heap "java/lang/String" "COMPACT_STRINGS" "Z" (.int cs)) (M : List (Addr × Desc)) (s b : Addr) (P0 : Hp Z n0 h0 ((b, (.inr (.byte, "[B", [(.int 119)]))) :: (s, (.inl ("java/lang/String", [(("java/lang/String", "coder", "B"), (.int 0)), (("java/lang/String", "value", "[B"), (.ref b))]))) :: M)) :
    Con false l Z (⟨"java/lang/String", "length", "()I"⟩ : MethodName) jdk_42_method_54_code 1 (some .int) ({ frames := 1, cells := 0, slots := 0, locals := 14 } : Room) #[(.ref s)] h0 n0 (Ret (.int 1) h0) := by
  refine con_of (ls := [.val (.ref s)]) (plainFor_of_name pn1) rfl ?_
  refine go_aload c8_0 rfl rfl ?_
  refine go_get (y := (⟨"java/lang/String", "length", "()I"⟩ : MethodName)) P0 (1) 1 c8_1 rfl rfl (t31 hw) ?_
  refine go_alen (z := 1) P0 (0) c8_4 rfl rfl ?_
  refine go_aload c8_5 rfl rfl ?_
  refine go_callV1 (y := (⟨"java/lang/String", "length", "()I"⟩ : MethodName)) (W := 1) (argsL := []) (st := [(.int 1)]) c8_6 (rm_cd_119 l Z a0 hw h0 n0 cs hcs SC _ s b P0) (P0.exa (i := 1) rfl) (t41 hw) (t42 hw) (fun _ q => notFace_of_selects (args := #[]) (mvT q (t44 hw))) (t44 hw) (t43 hw) (t6 hw) (t45 hw) (by decide) (lenOf pd8 rfl) rfl rfl (by decide) (by decide) (by decide) (by decide) rfl ?_
  rintro _ _ ⟨rfl, rfl⟩
  refine go_more (k' := 0) (n' := 0) (by decide) (by decide) ?_
  refine go_ishr c8_9 ?_
  refine go_isI 1 (by decide) ?_
  exact go_iret rfl c8_10 (by decide) (by decide) ⟨_, rfl, rfl, rfl⟩
set_option maxRecDepth 65536 in
set_option maxHeartbeats 4000000 in
theorem rm_l1_97 (l : Launch) (Z : State) (a0 : Array Value) (hw : ∀ d ∈ tables_1, d.before a0 Z = true) (h0 : Heap) (n0 : Nat) (fm : Value) (hr_fm : fm.isRef = true) (SF : Sta Z Z.heap "jdk/internal/util/Preconditions" "SIOOBE_FORMATTER" "Ljava/util/function/BiFunction;" fm) (M : List (Addr × Desc)) (s b : Addr) (P0 : Hp Z n0 h0 ((b, (.inr (.byte, "[B", [(.int 97)]))) :: (s, (.inl ("java/lang/String", [(("java/lang/String", "coder", "B"), (.int 0)), (("java/lang/String", "value", "[B"), (.ref b))]))) :: M)) :
    Con false l Z (⟨"java/lang/StringLatin1", "charAt", "([BI)C"⟩ : MethodName) jdk_43_method_2_code 2 (some .char) ({ frames := 2, cells := 0, slots := 0, locals := 32 } : Room) #[(.ref b), (.int 0)] h0 n0 (Ret (.int 97) h0) := by
  refine con_of (ls := [.val (.ref b), .val (.int 0)]) (plainFor_of_name pn3) rfl ?_
  refine go_iload c13_0 rfl ?_
  refine go_aload c13_1 rfl rfl ?_
  refine go_alen (z := 1) P0 (0) c13_2 rfl rfl ?_
  refine go_callS0 (y := (⟨"java/lang/StringLatin1", "charAt", "([BI)C"⟩ : MethodName)) (W := 0) (argsL := [(.int 0), (.int 1)]) (st := []) c13_3 (rm_sci l Z a0 hw h0 n0 _ P0 fm hr_fm SF) (t80 hw) (t81 hw) (t6 hw) (t82 hw) (by decide) (lenOf pd5 rfl) rfl rfl (by decide) (by decide) (by decide) (by decide) rfl ?_
  rintro _ rfl
  refine go_more (k' := 0) (n' := 0) (by decide) (by decide) ?_
  refine go_aload c13_6 rfl rfl ?_
  refine go_iload c13_7 rfl ?_
  refine go_baloadH P0 (0) c13_8 rfl (by decide) rfl ?_
  refine go_push c13_9 ?_
  refine go_iand c13_12 ?_
  refine go_isI 97 (by decide) ?_
  refine go_i2c c13_13 ?_
  refine go_isI 97 (by decide) ?_
  exact go_nret rfl (Or.inr (Or.inl rfl)) c13_14 (by decide) (by decide) (by decide) ⟨_, rfl, rfl, rfl⟩
set_option maxRecDepth 65536 in
set_option maxHeartbeats 4000000 in
theorem rm_il_97 (l : Launch) (Z : State) (a0 : Array Value) (hw : ∀ d ∈ tables_1, d.before a0 Z = true) (h0 : Heap) (n0 : Nat) (cs : Int32) (hcs : cs ≠ 0) (SC : Sta Z Z.heap "java/lang/String" "COMPACT_STRINGS" "Z" (.int cs)) (M : List (Addr × Desc)) (s b : Addr) (P0 : Hp Z n0 h0 ((b, (.inr (.byte, "[B", [(.int 97)]))) :: (s, (.inl ("java/lang/String", [(("java/lang/String", "coder", "B"), (.int 0)), (("java/lang/String", "value", "[B"), (.ref b))]))) :: M)) :
    Con false l Z (⟨"java/lang/String", "isLatin1", "()Z"⟩ : MethodName) jdk_42_method_154_code 1 (some .boolean) ({ frames := 0, cells := 0, slots := 0, locals := 0 } : Room) #[(.ref s)] h0 n0 (Ret (.int 1) h0) := by
  refine con_of (ls := [.val (.ref s)]) (plainFor_of_name pn1) rfl ?_
  refine go_getS (y := (⟨"java/lang/String", "isLatin1", "()Z"⟩ : MethodName)) (host := "") c12_0 (Or.inl (t17 hw)) Via.refl (SC.ext P0.1.2) ?_
  refine go_if_eq c12_3 (fun q => absurd q hcs) (fun _ => ?_)
  refine go_aload c12_6 rfl rfl ?_
  refine go_get (y := (⟨"java/lang/String", "isLatin1", "()Z"⟩ : MethodName)) P0 (1) 0 c12_7 rfl rfl (t29 hw) ?_
  refine go_if_ne c12_10 (fun q => absurd q (by decide)) (fun _ => ?_)
  refine go_push c12_13 ?_
  refine go_goto c12_14 ?_
  exact go_bret rfl c12_18 (by decide) (by decide) (by decide) ⟨_, rfl, rfl, rfl⟩
set_option maxRecDepth 65536 in
set_option maxHeartbeats 4000000 in
theorem rm_ca_97 (l : Launch) (Z : State) (a0 : Array Value) (hw : ∀ d ∈ tables_1, d.before a0 Z = true) (h0 : Heap) (n0 : Nat) (cs : Int32) (hcs : cs ≠ 0) (SC : Sta Z Z.heap "java/lang/String" "COMPACT_STRINGS" "Z" (.int cs)) (fm : Value) (hr_fm : fm.isRef = true) (SF : Sta Z Z.heap "jdk/internal/util/Preconditions" "SIOOBE_FORMATTER" "Ljava/util/function/BiFunction;" fm) (M : List (Addr × Desc)) (s b : Addr) (P0 : Hp Z n0 h0 ((b, (.inr (.byte, "[B", [(.int 97)]))) :: (s, (.inl ("java/lang/String", [(("java/lang/String", "coder", "B"), (.int 0)), (("java/lang/String", "value", "[B"), (.ref b))]))) :: M)) :
    Con false l Z (⟨"java/lang/String", "charAt", "(I)C"⟩ : MethodName) jdk_42_method_56_code 2 (some .char) ({ frames := 3, cells := 0, slots := 0, locals := 48 } : Room) #[(.ref s), (.int 0)] h0 n0 (Ret (.int 97) h0) := by
  refine con_of (ls := [.val (.ref s), .val (.int 0)]) (plainFor_of_name pn1) rfl ?_
  refine go_aload c11_0 rfl rfl ?_
  refine go_callV1 (y := (⟨"java/lang/String", "charAt", "(I)C"⟩ : MethodName)) (W := 0) (argsL := []) (st := []) c11_1 (rm_il_97 l Z a0 hw h0 n0 cs hcs SC _ s b P0) (P0.exa (i := 1) rfl) (t71 hw) (t72 hw) (fun _ q => notFace_of_selects (args := #[]) (mvT q (t74 hw))) (t74 hw) (t73 hw) (t6 hw) (t75 hw) (by decide) (lenOf pd6 rfl) rfl rfl (by decide) (by decide) (by decide) (by decide) rfl ?_
  rintro _ _ ⟨rfl, rfl⟩
  refine go_more (k' := 0) (n' := 0) (by decide) (by decide) ?_
  refine go_if_eq c11_4 (fun q => absurd q (by decide)) (fun _ => ?_)
  refine go_aload c11_7 rfl rfl ?_
  refine go_get (y := (⟨"java/lang/String", "charAt", "(I)C"⟩ : MethodName)) P0 (1) 1 c11_8 rfl rfl (t31 hw) ?_
  refine go_iload c11_11 rfl ?_
  refine go_callS1 (y := (⟨"java/lang/String", "charAt", "(I)C"⟩ : MethodName)) (W := 0) (argsL := [(.ref b), (.int 0)]) (st := []) c11_12 (rm_l1_97 l Z a0 hw h0 n0 fm hr_fm SF _ s b P0) (t76 hw) (t77 hw) (t78 hw) (t79 hw) (by decide) (lenOf pd7 rfl) rfl rfl (by decide) (by decide) (by decide) (by decide) rfl ?_
  rintro _ _ ⟨rfl, rfl⟩
  refine go_more (k' := 0) (n' := 0) (by decide) (by decide) ?_
  exact go_nret rfl (Or.inr (Or.inl rfl)) c11_15 (by decide) (by decide) (by decide) ⟨_, rfl, rfl, rfl⟩
set_option maxRecDepth 65536 in
set_option maxHeartbeats 4000000 in
theorem rm_cd_97 (l : Launch) (Z : State) (a0 : Array Value) (hw : ∀ d ∈ tables_1, d.before a0 Z = true) (h0 : Heap) (n0 : Nat) (cs : Int32) (hcs : cs ≠ 0) (SC : Sta Z Z.heap "java/lang/String" "COMPACT_STRINGS" "Z" (.int cs)) (M : List (Addr × Desc)) (s b : Addr) (P0 : Hp Z n0 h0 ((b, (.inr (.byte, "[B", [(.int 97)]))) :: (s, (.inl ("java/lang/String", [(("java/lang/String", "coder", "B"), (.int 0)), (("java/lang/String", "value", "[B"), (.ref b))]))) :: M)) :
    Con false l Z (⟨"java/lang/String", "coder", "()B"⟩ : MethodName) jdk_42_method_152_code 1 (some .byte) ({ frames := 0, cells := 0, slots := 0, locals := 0 } : Room) #[(.ref s)] h0 n0 (Ret (.int 0) h0) := by
  refine con_of (ls := [.val (.ref s)]) (plainFor_of_name pn1) rfl ?_
  refine go_getS (y := (⟨"java/lang/String", "coder", "()B"⟩ : MethodName)) (host := "") c9_0 (Or.inl (t17 hw)) Via.refl (SC.ext P0.1.2) ?_
  refine go_if_eq c9_3 (fun q => absurd q hcs) (fun _ => ?_)
  refine go_aload c9_6 rfl rfl ?_
  refine go_get (y := (⟨"java/lang/String", "coder", "()B"⟩ : MethodName)) P0 (1) 0 c9_7 rfl rfl (t29 hw) ?_
  refine go_goto c9_10 ?_
  exact go_nret rfl (Or.inl rfl) c9_14 (by decide) (by decide) (by decide) ⟨_, rfl, rfl, rfl⟩
set_option maxRecDepth 65536 in
set_option maxHeartbeats 4000000 in
theorem rm_ln_97 (l : Launch) (Z : State) (a0 : Array Value) (hw : ∀ d ∈ tables_1, d.before a0 Z = true) (h0 : Heap) (n0 : Nat) (cs : Int32) (hcs : cs ≠ 0) (SC : Sta Z Z.heap "java/lang/String" "COMPACT_STRINGS" "Z" (.int cs)) (M : List (Addr × Desc)) (s b : Addr) (P0 : Hp Z n0 h0 ((b, (.inr (.byte, "[B", [(.int 97)]))) :: (s, (.inl ("java/lang/String", [(("java/lang/String", "coder", "B"), (.int 0)), (("java/lang/String", "value", "[B"), (.ref b))]))) :: M)) :
    Con false l Z (⟨"java/lang/String", "length", "()I"⟩ : MethodName) jdk_42_method_54_code 1 (some .int) ({ frames := 1, cells := 0, slots := 0, locals := 14 } : Room) #[(.ref s)] h0 n0 (Ret (.int 1) h0) := by
  refine con_of (ls := [.val (.ref s)]) (plainFor_of_name pn1) rfl ?_
  refine go_aload c8_0 rfl rfl ?_
  refine go_get (y := (⟨"java/lang/String", "length", "()I"⟩ : MethodName)) P0 (1) 1 c8_1 rfl rfl (t31 hw) ?_
  refine go_alen (z := 1) P0 (0) c8_4 rfl rfl ?_
  refine go_aload c8_5 rfl rfl ?_
  refine go_callV1 (y := (⟨"java/lang/String", "length", "()I"⟩ : MethodName)) (W := 1) (argsL := []) (st := [(.int 1)]) c8_6 (rm_cd_97 l Z a0 hw h0 n0 cs hcs SC _ s b P0) (P0.exa (i := 1) rfl) (t41 hw) (t42 hw) (fun _ q => notFace_of_selects (args := #[]) (mvT q (t44 hw))) (t44 hw) (t43 hw) (t6 hw) (t45 hw) (by decide) (lenOf pd8 rfl) rfl rfl (by decide) (by decide) (by decide) (by decide) rfl ?_
  rintro _ _ ⟨rfl, rfl⟩
  refine go_more (k' := 0) (n' := 0) (by decide) (by decide) ?_
  refine go_ishr c8_9 ?_
  refine go_isI 1 (by decide) ?_
  exact go_iret rfl c8_10 (by decide) (by decide) ⟨_, rfl, rfl, rfl⟩
set_option maxRecDepth 65536 in
set_option maxHeartbeats 4000000 in
theorem rm_l1_101 (l : Launch) (Z : State) (a0 : Array Value) (hw : ∀ d ∈ tables_1, d.before a0 Z = true) (h0 : Heap) (n0 : Nat) (fm : Value) (hr_fm : fm.isRef = true) (SF : Sta Z Z.heap "jdk/internal/util/Preconditions" "SIOOBE_FORMATTER" "Ljava/util/function/BiFunction;" fm) (M : List (Addr × Desc)) (s b : Addr) (P0 : Hp Z n0 h0 ((b, (.inr (.byte, "[B", [(.int 101)]))) :: (s, (.inl ("java/lang/String", [(("java/lang/String", "coder", "B"), (.int 0)), (("java/lang/String", "value", "[B"), (.ref b))]))) :: M)) :
    Con false l Z (⟨"java/lang/StringLatin1", "charAt", "([BI)C"⟩ : MethodName) jdk_43_method_2_code 2 (some .char) ({ frames := 2, cells := 0, slots := 0, locals := 32 } : Room) #[(.ref b), (.int 0)] h0 n0 (Ret (.int 101) h0) := by
  refine con_of (ls := [.val (.ref b), .val (.int 0)]) (plainFor_of_name pn3) rfl ?_
  refine go_iload c13_0 rfl ?_
  refine go_aload c13_1 rfl rfl ?_
  refine go_alen (z := 1) P0 (0) c13_2 rfl rfl ?_
  refine go_callS0 (y := (⟨"java/lang/StringLatin1", "charAt", "([BI)C"⟩ : MethodName)) (W := 0) (argsL := [(.int 0), (.int 1)]) (st := []) c13_3 (rm_sci l Z a0 hw h0 n0 _ P0 fm hr_fm SF) (t80 hw) (t81 hw) (t6 hw) (t82 hw) (by decide) (lenOf pd5 rfl) rfl rfl (by decide) (by decide) (by decide) (by decide) rfl ?_
  rintro _ rfl
  refine go_more (k' := 0) (n' := 0) (by decide) (by decide) ?_
  refine go_aload c13_6 rfl rfl ?_
  refine go_iload c13_7 rfl ?_
  refine go_baloadH P0 (0) c13_8 rfl (by decide) rfl ?_
  refine go_push c13_9 ?_
  refine go_iand c13_12 ?_
  refine go_isI 101 (by decide) ?_
  refine go_i2c c13_13 ?_
  refine go_isI 101 (by decide) ?_
  exact go_nret rfl (Or.inr (Or.inl rfl)) c13_14 (by decide) (by decide) (by decide) ⟨_, rfl, rfl, rfl⟩
set_option maxRecDepth 65536 in
set_option maxHeartbeats 4000000 in
theorem rm_il_101 (l : Launch) (Z : State) (a0 : Array Value) (hw : ∀ d ∈ tables_1, d.before a0 Z = true) (h0 : Heap) (n0 : Nat) (cs : Int32) (hcs : cs ≠ 0) (SC : Sta Z Z.heap "java/lang/String" "COMPACT_STRINGS" "Z" (.int cs)) (M : List (Addr × Desc)) (s b : Addr) (P0 : Hp Z n0 h0 ((b, (.inr (.byte, "[B", [(.int 101)]))) :: (s, (.inl ("java/lang/String", [(("java/lang/String", "coder", "B"), (.int 0)), (("java/lang/String", "value", "[B"), (.ref b))]))) :: M)) :
    Con false l Z (⟨"java/lang/String", "isLatin1", "()Z"⟩ : MethodName) jdk_42_method_154_code 1 (some .boolean) ({ frames := 0, cells := 0, slots := 0, locals := 0 } : Room) #[(.ref s)] h0 n0 (Ret (.int 1) h0) := by
  refine con_of (ls := [.val (.ref s)]) (plainFor_of_name pn1) rfl ?_
  refine go_getS (y := (⟨"java/lang/String", "isLatin1", "()Z"⟩ : MethodName)) (host := "") c12_0 (Or.inl (t17 hw)) Via.refl (SC.ext P0.1.2) ?_
  refine go_if_eq c12_3 (fun q => absurd q hcs) (fun _ => ?_)
  refine go_aload c12_6 rfl rfl ?_
  refine go_get (y := (⟨"java/lang/String", "isLatin1", "()Z"⟩ : MethodName)) P0 (1) 0 c12_7 rfl rfl (t29 hw) ?_
  refine go_if_ne c12_10 (fun q => absurd q (by decide)) (fun _ => ?_)
  refine go_push c12_13 ?_
  refine go_goto c12_14 ?_
  exact go_bret rfl c12_18 (by decide) (by decide) (by decide) ⟨_, rfl, rfl, rfl⟩
set_option maxRecDepth 65536 in
set_option maxHeartbeats 4000000 in
theorem rm_ca_101 (l : Launch) (Z : State) (a0 : Array Value) (hw : ∀ d ∈ tables_1, d.before a0 Z = true) (h0 : Heap) (n0 : Nat) (cs : Int32) (hcs : cs ≠ 0) (SC : Sta Z Z.heap "java/lang/String" "COMPACT_STRINGS" "Z" (.int cs)) (fm : Value) (hr_fm : fm.isRef = true) (SF : Sta Z Z.heap "jdk/internal/util/Preconditions" "SIOOBE_FORMATTER" "Ljava/util/function/BiFunction;" fm) (M : List (Addr × Desc)) (s b : Addr) (P0 : Hp Z n0 h0 ((b, (.inr (.byte, "[B", [(.int 101)]))) :: (s, (.inl ("java/lang/String", [(("java/lang/String", "coder", "B"), (.int 0)), (("java/lang/String", "value", "[B"), (.ref b))]))) :: M)) :
    Con false l Z (⟨"java/lang/String", "charAt", "(I)C"⟩ : MethodName) jdk_42_method_56_code 2 (some .char) ({ frames := 3, cells := 0, slots := 0, locals := 48 } : Room) #[(.ref s), (.int 0)] h0 n0 (Ret (.int 101) h0) := by
  refine con_of (ls := [.val (.ref s), .val (.int 0)]) (plainFor_of_name pn1) rfl ?_
  refine go_aload c11_0 rfl rfl ?_
  refine go_callV1 (y := (⟨"java/lang/String", "charAt", "(I)C"⟩ : MethodName)) (W := 0) (argsL := []) (st := []) c11_1 (rm_il_101 l Z a0 hw h0 n0 cs hcs SC _ s b P0) (P0.exa (i := 1) rfl) (t71 hw) (t72 hw) (fun _ q => notFace_of_selects (args := #[]) (mvT q (t74 hw))) (t74 hw) (t73 hw) (t6 hw) (t75 hw) (by decide) (lenOf pd6 rfl) rfl rfl (by decide) (by decide) (by decide) (by decide) rfl ?_
  rintro _ _ ⟨rfl, rfl⟩
  refine go_more (k' := 0) (n' := 0) (by decide) (by decide) ?_
  refine go_if_eq c11_4 (fun q => absurd q (by decide)) (fun _ => ?_)
  refine go_aload c11_7 rfl rfl ?_
  refine go_get (y := (⟨"java/lang/String", "charAt", "(I)C"⟩ : MethodName)) P0 (1) 1 c11_8 rfl rfl (t31 hw) ?_
  refine go_iload c11_11 rfl ?_
  refine go_callS1 (y := (⟨"java/lang/String", "charAt", "(I)C"⟩ : MethodName)) (W := 0) (argsL := [(.ref b), (.int 0)]) (st := []) c11_12 (rm_l1_101 l Z a0 hw h0 n0 fm hr_fm SF _ s b P0) (t76 hw) (t77 hw) (t78 hw) (t79 hw) (by decide) (lenOf pd7 rfl) rfl rfl (by decide) (by decide) (by decide) (by decide) rfl ?_
  rintro _ _ ⟨rfl, rfl⟩
  refine go_more (k' := 0) (n' := 0) (by decide) (by decide) ?_
  exact go_nret rfl (Or.inr (Or.inl rfl)) c11_15 (by decide) (by decide) (by decide) ⟨_, rfl, rfl, rfl⟩
set_option maxRecDepth 65536 in
set_option maxHeartbeats 4000000 in
theorem rm_cd_101 (l : Launch) (Z : State) (a0 : Array Value) (hw : ∀ d ∈ tables_1, d.before a0 Z = true) (h0 : Heap) (n0 : Nat) (cs : Int32) (hcs : cs ≠ 0) (SC : Sta Z Z.heap "java/lang/String" "COMPACT_STRINGS" "Z" (.int cs)) (M : List (Addr × Desc)) (s b : Addr) (P0 : Hp Z n0 h0 ((b, (.inr (.byte, "[B", [(.int 101)]))) :: (s, (.inl ("java/lang/String", [(("java/lang/String", "coder", "B"), (.int 0)), (("java/lang/String", "value", "[B"), (.ref b))]))) :: M)) :
    Con false l Z (⟨"java/lang/String", "coder", "()B"⟩ : MethodName) jdk_42_method_152_code 1 (some .byte) ({ frames := 0, cells := 0, slots := 0, locals := 0 } : Room) #[(.ref s)] h0 n0 (Ret (.int 0) h0) := by
  refine con_of (ls := [.val (.ref s)]) (plainFor_of_name pn1) rfl ?_
  refine go_getS (y := (⟨"java/lang/String", "coder", "()B"⟩ : MethodName)) (host := "") c9_0 (Or.inl (t17 hw)) Via.refl (SC.ext P0.1.2) ?_
  refine go_if_eq c9_3 (fun q => absurd q hcs) (fun _ => ?_)
  refine go_aload c9_6 rfl rfl ?_
  refine go_get (y := (⟨"java/lang/String", "coder", "()B"⟩ : MethodName)) P0 (1) 0 c9_7 rfl rfl (t29 hw) ?_
  refine go_goto c9_10 ?_
  exact go_nret rfl (Or.inl rfl) c9_14 (by decide) (by decide) (by decide) ⟨_, rfl, rfl, rfl⟩
set_option maxRecDepth 65536 in
set_option maxHeartbeats 4000000 in
theorem rm_ln_101 (l : Launch) (Z : State) (a0 : Array Value) (hw : ∀ d ∈ tables_1, d.before a0 Z = true) (h0 : Heap) (n0 : Nat) (cs : Int32) (hcs : cs ≠ 0) (SC : Sta Z Z.heap "java/lang/String" "COMPACT_STRINGS" "Z" (.int cs)) (M : List (Addr × Desc)) (s b : Addr) (P0 : Hp Z n0 h0 ((b, (.inr (.byte, "[B", [(.int 101)]))) :: (s, (.inl ("java/lang/String", [(("java/lang/String", "coder", "B"), (.int 0)), (("java/lang/String", "value", "[B"), (.ref b))]))) :: M)) :
    Con false l Z (⟨"java/lang/String", "length", "()I"⟩ : MethodName) jdk_42_method_54_code 1 (some .int) ({ frames := 1, cells := 0, slots := 0, locals := 14 } : Room) #[(.ref s)] h0 n0 (Ret (.int 1) h0) := by
  refine con_of (ls := [.val (.ref s)]) (plainFor_of_name pn1) rfl ?_
  refine go_aload c8_0 rfl rfl ?_
  refine go_get (y := (⟨"java/lang/String", "length", "()I"⟩ : MethodName)) P0 (1) 1 c8_1 rfl rfl (t31 hw) ?_
  refine go_alen (z := 1) P0 (0) c8_4 rfl rfl ?_
  refine go_aload c8_5 rfl rfl ?_
  refine go_callV1 (y := (⟨"java/lang/String", "length", "()I"⟩ : MethodName)) (W := 1) (argsL := []) (st := [(.int 1)]) c8_6 (rm_cd_101 l Z a0 hw h0 n0 cs hcs SC _ s b P0) (P0.exa (i := 1) rfl) (t41 hw) (t42 hw) (fun _ q => notFace_of_selects (args := #[]) (mvT q (t44 hw))) (t44 hw) (t43 hw) (t6 hw) (t45 hw) (by decide) (lenOf pd8 rfl) rfl rfl (by decide) (by decide) (by decide) (by decide) rfl ?_
  rintro _ _ ⟨rfl, rfl⟩
  refine go_more (k' := 0) (n' := 0) (by decide) (by decide) ?_
  refine go_ishr c8_9 ?_
  refine go_isI 1 (by decide) ?_
  exact go_iret rfl c8_10 (by decide) (by decide) ⟨_, rfl, rfl, rfl⟩
set_option maxRecDepth 65536 in
set_option maxHeartbeats 4000000 in
theorem rm_vals (l : Launch) (Z : State) (a0 : Array Value) (hw : ∀ d ∈ tables_1, d.before a0 Z = true) (h0 : Heap) (n0 : Nat) (M : List (Addr × Desc)) (P0 : Hp Z n0 h0 M) (mr mw ma me va : Addr) (Smr : Sta Z Z.heap "com/example/need_to_know/needtoknow/Mode" "READ" "Lcom/example/need_to_know/needtoknow/Mode;" (.ref mr)) (Xmr : Exa Z Z.heap mr "com/example/need_to_know/needtoknow/Mode") (Lmr : Fld Z Z.heap mr "com/example/need_to_know/needtoknow/Mode" "letter" "C" (.int 114)) (Omr : Fld Z Z.heap mr "com/example/need_to_know/needtoknow/Mode" "observes" "Z" (.int 1)) (Amr : Fld Z Z.heap mr "com/example/need_to_know/needtoknow/Mode" "alters" "Z" (.int 0)) (Smw : Sta Z Z.heap "com/example/need_to_know/needtoknow/Mode" "WRITE" "Lcom/example/need_to_know/needtoknow/Mode;" (.ref mw)) (Xmw : Exa Z Z.heap mw "com/example/need_to_know/needtoknow/Mode") (Lmw : Fld Z Z.heap mw "com/example/need_to_know/needtoknow/Mode" "letter" "C" (.int 119)) (Omw : Fld Z Z.heap mw "com/example/need_to_know/needtoknow/Mode" "observes" "Z" (.int 1)) (Amw : Fld Z Z.heap mw "com/example/need_to_know/needtoknow/Mode" "alters" "Z" (.int 1)) (Sma : Sta Z Z.heap "com/example/need_to_know/needtoknow/Mode" "APPEND" "Lcom/example/need_to_know/needtoknow/Mode;" (.ref ma)) (Xma : Exa Z Z.heap ma "com/example/need_to_know/needtoknow/Mode") (Lma : Fld Z Z.heap ma "com/example/need_to_know/needtoknow/Mode" "letter" "C" (.int 97)) (Oma : Fld Z Z.heap ma "com/example/need_to_know/needtoknow/Mode" "observes" "Z" (.int 0)) (Ama : Fld Z Z.heap ma "com/example/need_to_know/needtoknow/Mode" "alters" "Z" (.int 1)) (Sme : Sta Z Z.heap "com/example/need_to_know/needtoknow/Mode" "EXECUTE" "Lcom/example/need_to_know/needtoknow/Mode;" (.ref me)) (Xme : Exa Z Z.heap me "com/example/need_to_know/needtoknow/Mode") (Lme : Fld Z Z.heap me "com/example/need_to_know/needtoknow/Mode" "letter" "C" (.int 101)) (Ome : Fld Z Z.heap me "com/example/need_to_know/needtoknow/Mode" "observes" "Z" (.int 0)) (Ame : Fld Z Z.heap me "com/example/need_to_know/needtoknow/Mode" "alters" "Z" (.int 0)) (SV : Sta Z Z.heap "com/example/need_to_know/needtoknow/Mode" "$VALUES" "[Lcom/example/need_to_know/needtoknow/Mode;" (.ref va)) (XV : Exa Z Z.heap va "[Lcom/example/need_to_know/needtoknow/Mode;") (AV : Ar Z Z.heap va (.object "com/example/need_to_know/needtoknow/Mode") [.ref mr, .ref mw, .ref ma, .ref me]) :
    Con false l Z (⟨"com/example/need_to_know/needtoknow/Mode", "values", "()[Lcom/example/need_to_know/needtoknow/Mode;"⟩ : MethodName) prog_20_method_1_code 0 (some (.array (.object "com/example/need_to_know/needtoknow/Mode"))) ({ frames := 1, cells := 1, slots := 4, locals := 14 } : Room) #[] h0 n0 (R1 fun w h' => ∃ b, w = .ref b ∧ Ext h0 h' ∧ Ar Z h' b (.object "com/example/need_to_know/needtoknow/Mode") [.ref mr, .ref mw, .ref ma, .ref me]) := by
  refine con_of (ls := []) (plainFor_of_name pn4) rfl ?_
  refine go_getS (y := (⟨"com/example/need_to_know/needtoknow/Mode", "values", "()[Lcom/example/need_to_know/needtoknow/Mode;"⟩ : MethodName)) (host := "") c10_0 (Or.inl (t49 hw)) Via.refl (SV.ext P0.1.2) ?_
  refine go_cloneR (y := (⟨"com/example/need_to_know/needtoknow/Mode", "values", "()[Lcom/example/need_to_know/needtoknow/Mode;"⟩ : MethodName)) (W := 0) 4 c10_3 (Ar.ext AV P0.1.2) (XV.ext P0.1.2) (by simp [fits, FieldType.isReference, Value.isRef]) (t51 hw) (t52 hw) (t56 hw) (t54 hw) (t55 hw) (t57 hw) (Nat.le_of_ble_eq_true rfl) rfl (by decide) rfl (by decide) (by decide) (by decide) ?_
  intro h1 vc E Ac Xc
  have P2 := P0.ext E
  refine go_more (k' := 1) (n' := 4) (by decide) (by decide) ?_
  refine go_cast (y := (⟨"com/example/need_to_know/needtoknow/Mode", "values", "()[Lcom/example/need_to_know/needtoknow/Mode;"⟩ : MethodName)) c10_6 (t62 hw) (Ins.self Xc) ?_
  exact go_aret rfl rfl rfl c10_9 (by decide) (by decide) ⟨_, rfl, _, rfl, E, Ac⟩
set_option maxRecDepth 65536 in
set_option maxHeartbeats 4000000 in
theorem rm_of_114 (l : Launch) (Z : State) (a0 : Array Value) (hw : ∀ d ∈ tables_1, d.before a0 Z = true) (h0 : Heap) (n0 : Nat) (cs : Int32) (hcs : cs ≠ 0) (SC : Sta Z Z.heap "java/lang/String" "COMPACT_STRINGS" "Z" (.int cs)) (fm : Value) (hr_fm : fm.isRef = true) (SF : Sta Z Z.heap "jdk/internal/util/Preconditions" "SIOOBE_FORMATTER" "Ljava/util/function/BiFunction;" fm) (mr mw ma me va : Addr) (Smr : Sta Z Z.heap "com/example/need_to_know/needtoknow/Mode" "READ" "Lcom/example/need_to_know/needtoknow/Mode;" (.ref mr)) (Xmr : Exa Z Z.heap mr "com/example/need_to_know/needtoknow/Mode") (Lmr : Fld Z Z.heap mr "com/example/need_to_know/needtoknow/Mode" "letter" "C" (.int 114)) (Omr : Fld Z Z.heap mr "com/example/need_to_know/needtoknow/Mode" "observes" "Z" (.int 1)) (Amr : Fld Z Z.heap mr "com/example/need_to_know/needtoknow/Mode" "alters" "Z" (.int 0)) (Smw : Sta Z Z.heap "com/example/need_to_know/needtoknow/Mode" "WRITE" "Lcom/example/need_to_know/needtoknow/Mode;" (.ref mw)) (Xmw : Exa Z Z.heap mw "com/example/need_to_know/needtoknow/Mode") (Lmw : Fld Z Z.heap mw "com/example/need_to_know/needtoknow/Mode" "letter" "C" (.int 119)) (Omw : Fld Z Z.heap mw "com/example/need_to_know/needtoknow/Mode" "observes" "Z" (.int 1)) (Amw : Fld Z Z.heap mw "com/example/need_to_know/needtoknow/Mode" "alters" "Z" (.int 1)) (Sma : Sta Z Z.heap "com/example/need_to_know/needtoknow/Mode" "APPEND" "Lcom/example/need_to_know/needtoknow/Mode;" (.ref ma)) (Xma : Exa Z Z.heap ma "com/example/need_to_know/needtoknow/Mode") (Lma : Fld Z Z.heap ma "com/example/need_to_know/needtoknow/Mode" "letter" "C" (.int 97)) (Oma : Fld Z Z.heap ma "com/example/need_to_know/needtoknow/Mode" "observes" "Z" (.int 0)) (Ama : Fld Z Z.heap ma "com/example/need_to_know/needtoknow/Mode" "alters" "Z" (.int 1)) (Sme : Sta Z Z.heap "com/example/need_to_know/needtoknow/Mode" "EXECUTE" "Lcom/example/need_to_know/needtoknow/Mode;" (.ref me)) (Xme : Exa Z Z.heap me "com/example/need_to_know/needtoknow/Mode") (Lme : Fld Z Z.heap me "com/example/need_to_know/needtoknow/Mode" "letter" "C" (.int 101)) (Ome : Fld Z Z.heap me "com/example/need_to_know/needtoknow/Mode" "observes" "Z" (.int 0)) (Ame : Fld Z Z.heap me "com/example/need_to_know/needtoknow/Mode" "alters" "Z" (.int 0)) (SV : Sta Z Z.heap "com/example/need_to_know/needtoknow/Mode" "$VALUES" "[Lcom/example/need_to_know/needtoknow/Mode;" (.ref va)) (XV : Exa Z Z.heap va "[Lcom/example/need_to_know/needtoknow/Mode;") (AV : Ar Z Z.heap va (.object "com/example/need_to_know/needtoknow/Mode") [.ref mr, .ref mw, .ref ma, .ref me]) (M : List (Addr × Desc)) (s b : Addr) (P0 : Hp Z n0 h0 ((b, (.inr (.byte, "[B", [(.int 114)]))) :: (s, (.inl ("java/lang/String", [(("java/lang/String", "coder", "B"), (.int 0)), (("java/lang/String", "value", "[B"), (.ref b))]))) :: M)) :
    Con false l Z (⟨"com/example/need_to_know/needtoknow/Mode", "of", "(Ljava/lang/String;)Lcom/example/need_to_know/needtoknow/Mode;"⟩ : MethodName) prog_20_method_7_code 5 (some (.object "com/example/need_to_know/needtoknow/Mode")) ({ frames := 4, cells := 1, slots := 4, locals := 68 } : Room) #[(.ref s)] h0 n0 (R1 fun w h' => w = .ref mr ∧ Hp Z n0 h' ((b, (.inr (.byte, "[B", [(.int 114)]))) :: (s, (.inl ("java/lang/String", [(("java/lang/String", "coder", "B"), (.int 0)), (("java/lang/String", "value", "[B"), (.ref b))]))) :: M)) := by
  refine con_of (ls := [.val (.ref s), .unset, .unset, .unset, .unset]) (plainFor_of_name pn4) rfl ?_
  refine go_aload c7_0 rfl rfl ?_
  refine go_callV1 (y := (⟨"com/example/need_to_know/needtoknow/Mode", "of", "(Ljava/lang/String;)Lcom/example/need_to_know/needtoknow/Mode;"⟩ : MethodName)) (W := 0) (argsL := []) (st := []) c7_1 (rm_ln_114 l Z a0 hw h0 n0 cs hcs SC _ s b P0) (P0.exa (i := 1) rfl) (t36 hw) (t37 hw) (fun _ q => notFace_of_selects (args := #[]) (mvT q (t39 hw))) (t39 hw) (t38 hw) (t6 hw) (t40 hw) (by decide) (lenOf pd9 rfl) rfl rfl (by decide) (by decide) (by decide) (by decide) rfl ?_
  rintro _ _ ⟨rfl, rfl⟩
  refine go_more (k' := 0) (n' := 0) (by decide) (by decide) ?_
  refine go_push c7_4 ?_
  refine go_icmp_ne c7_5 (fun q => absurd q (by decide)) (fun _ => ?_)
  refine go_callS1 (y := (⟨"com/example/need_to_know/needtoknow/Mode", "of", "(Ljava/lang/String;)Lcom/example/need_to_know/needtoknow/Mode;"⟩ : MethodName)) (W := 0) (argsL := []) (st := []) c7_8 (rm_vals l Z a0 hw h0 n0 _ P0 mr mw ma me va Smr Xmr Lmr Omr Amr Smw Xmw Lmw Omw Amw Sma Xma Lma Oma Ama Sme Xme Lme Ome Ame SV XV AV) (t46 hw) (t47 hw) (t1 hw) (t48 hw) (by decide) (lenOf pd10 rfl) rfl rfl (by decide) (by decide) (by decide) (by decide) rfl ?_
  rintro _ h1 ⟨vc, rfl, E, Ac⟩
  have P2 := P0.ext E
  refine go_more (k' := 1) (n' := 4) (by decide) (by decide) ?_
  refine go_astore c7_11 rfl rfl rfl ?_
  dsimp only [setl]
  refine go_aload c7_12 rfl rfl ?_
  refine go_lenR (z := 4) c7_13 Ac rfl ?_
  refine go_istore c7_14 rfl rfl ?_
  dsimp only [setl]
  refine go_push c7_15 ?_
  refine go_istore c7_16 rfl rfl ?_
  dsimp only [setl]
  refine go_iload c7_17 rfl ?_
  refine go_iload c7_18 rfl ?_
  refine go_icmp_ge c7_19 (fun q => absurd q (by decide)) (fun _ => ?_)
  refine go_aload c7_22 rfl rfl ?_
  refine go_iload c7_23 rfl ?_
  refine go_aaloadR c7_24 Ac rfl (by decide) rfl ?_
  refine go_astore c7_25 rfl rfl rfl ?_
  dsimp only [setl]
  refine go_aload c7_27 rfl rfl ?_
  refine go_getF (y := (⟨"com/example/need_to_know/needtoknow/Mode", "of", "(Ljava/lang/String;)Lcom/example/need_to_know/needtoknow/Mode;"⟩ : MethodName)) (host := "") c7_29 (Or.inl (t64 hw)) Via.refl (Lmr.ext P2.1.2) ?_
  refine go_aload c7_32 rfl rfl ?_
  refine go_push c7_33 ?_
  refine go_callV1 (y := (⟨"com/example/need_to_know/needtoknow/Mode", "of", "(Ljava/lang/String;)Lcom/example/need_to_know/needtoknow/Mode;"⟩ : MethodName)) (W := 1) (argsL := [(.int 0)]) (st := [(.int 114)]) c7_34 (rm_ca_114 l Z a0 hw h1 n0 cs hcs SC fm hr_fm SF _ s b P2) (P2.exa (i := 1) rfl) (t66 hw) (t67 hw) (fun _ q => notFace_of_selects (args := #[]) (mvT q (t69 hw))) (t69 hw) (t68 hw) (t6 hw) (t70 hw) (by decide) (lenOf pd11 rfl) rfl rfl (by decide) (by decide) (by decide) (by decide) rfl ?_
  rintro _ _ ⟨rfl, rfl⟩
  refine go_more (k' := 1) (n' := 4) (by decide) (by decide) ?_
  refine go_icmp_ne c7_37 (fun q => absurd q (by decide)) (fun _ => ?_)
  refine go_aload c7_40 rfl rfl ?_
  exact go_aret rfl rfl rfl c7_42 (by decide) (by decide) ⟨_, rfl, rfl, P2⟩
set_option maxRecDepth 65536 in
set_option maxHeartbeats 4000000 in
theorem rm_of_119 (l : Launch) (Z : State) (a0 : Array Value) (hw : ∀ d ∈ tables_1, d.before a0 Z = true) (h0 : Heap) (n0 : Nat) (cs : Int32) (hcs : cs ≠ 0) (SC : Sta Z Z.heap "java/lang/String" "COMPACT_STRINGS" "Z" (.int cs)) (fm : Value) (hr_fm : fm.isRef = true) (SF : Sta Z Z.heap "jdk/internal/util/Preconditions" "SIOOBE_FORMATTER" "Ljava/util/function/BiFunction;" fm) (mr mw ma me va : Addr) (Smr : Sta Z Z.heap "com/example/need_to_know/needtoknow/Mode" "READ" "Lcom/example/need_to_know/needtoknow/Mode;" (.ref mr)) (Xmr : Exa Z Z.heap mr "com/example/need_to_know/needtoknow/Mode") (Lmr : Fld Z Z.heap mr "com/example/need_to_know/needtoknow/Mode" "letter" "C" (.int 114)) (Omr : Fld Z Z.heap mr "com/example/need_to_know/needtoknow/Mode" "observes" "Z" (.int 1)) (Amr : Fld Z Z.heap mr "com/example/need_to_know/needtoknow/Mode" "alters" "Z" (.int 0)) (Smw : Sta Z Z.heap "com/example/need_to_know/needtoknow/Mode" "WRITE" "Lcom/example/need_to_know/needtoknow/Mode;" (.ref mw)) (Xmw : Exa Z Z.heap mw "com/example/need_to_know/needtoknow/Mode") (Lmw : Fld Z Z.heap mw "com/example/need_to_know/needtoknow/Mode" "letter" "C" (.int 119)) (Omw : Fld Z Z.heap mw "com/example/need_to_know/needtoknow/Mode" "observes" "Z" (.int 1)) (Amw : Fld Z Z.heap mw "com/example/need_to_know/needtoknow/Mode" "alters" "Z" (.int 1)) (Sma : Sta Z Z.heap "com/example/need_to_know/needtoknow/Mode" "APPEND" "Lcom/example/need_to_know/needtoknow/Mode;" (.ref ma)) (Xma : Exa Z Z.heap ma "com/example/need_to_know/needtoknow/Mode") (Lma : Fld Z Z.heap ma "com/example/need_to_know/needtoknow/Mode" "letter" "C" (.int 97)) (Oma : Fld Z Z.heap ma "com/example/need_to_know/needtoknow/Mode" "observes" "Z" (.int 0)) (Ama : Fld Z Z.heap ma "com/example/need_to_know/needtoknow/Mode" "alters" "Z" (.int 1)) (Sme : Sta Z Z.heap "com/example/need_to_know/needtoknow/Mode" "EXECUTE" "Lcom/example/need_to_know/needtoknow/Mode;" (.ref me)) (Xme : Exa Z Z.heap me "com/example/need_to_know/needtoknow/Mode") (Lme : Fld Z Z.heap me "com/example/need_to_know/needtoknow/Mode" "letter" "C" (.int 101)) (Ome : Fld Z Z.heap me "com/example/need_to_know/needtoknow/Mode" "observes" "Z" (.int 0)) (Ame : Fld Z Z.heap me "com/example/need_to_know/needtoknow/Mode" "alters" "Z" (.int 0)) (SV : Sta Z Z.heap "com/example/need_to_know/needtoknow/Mode" "$VALUES" "[Lcom/example/need_to_know/needtoknow/Mode;" (.ref va)) (XV : Exa Z Z.heap va "[Lcom/example/need_to_know/needtoknow/Mode;") (AV : Ar Z Z.heap va (.object "com/example/need_to_know/needtoknow/Mode") [.ref mr, .ref mw, .ref ma, .ref me]) (M : List (Addr × Desc)) (s b : Addr) (P0 : Hp Z n0 h0 ((b, (.inr (.byte, "[B", [(.int 119)]))) :: (s, (.inl ("java/lang/String", [(("java/lang/String", "coder", "B"), (.int 0)), (("java/lang/String", "value", "[B"), (.ref b))]))) :: M)) :
    Con false l Z (⟨"com/example/need_to_know/needtoknow/Mode", "of", "(Ljava/lang/String;)Lcom/example/need_to_know/needtoknow/Mode;"⟩ : MethodName) prog_20_method_7_code 5 (some (.object "com/example/need_to_know/needtoknow/Mode")) ({ frames := 4, cells := 1, slots := 4, locals := 68 } : Room) #[(.ref s)] h0 n0 (R1 fun w h' => w = .ref mw ∧ Hp Z n0 h' ((b, (.inr (.byte, "[B", [(.int 119)]))) :: (s, (.inl ("java/lang/String", [(("java/lang/String", "coder", "B"), (.int 0)), (("java/lang/String", "value", "[B"), (.ref b))]))) :: M)) := by
  refine con_of (ls := [.val (.ref s), .unset, .unset, .unset, .unset]) (plainFor_of_name pn4) rfl ?_
  refine go_aload c7_0 rfl rfl ?_
  refine go_callV1 (y := (⟨"com/example/need_to_know/needtoknow/Mode", "of", "(Ljava/lang/String;)Lcom/example/need_to_know/needtoknow/Mode;"⟩ : MethodName)) (W := 0) (argsL := []) (st := []) c7_1 (rm_ln_119 l Z a0 hw h0 n0 cs hcs SC _ s b P0) (P0.exa (i := 1) rfl) (t36 hw) (t37 hw) (fun _ q => notFace_of_selects (args := #[]) (mvT q (t39 hw))) (t39 hw) (t38 hw) (t6 hw) (t40 hw) (by decide) (lenOf pd9 rfl) rfl rfl (by decide) (by decide) (by decide) (by decide) rfl ?_
  rintro _ _ ⟨rfl, rfl⟩
  refine go_more (k' := 0) (n' := 0) (by decide) (by decide) ?_
  refine go_push c7_4 ?_
  refine go_icmp_ne c7_5 (fun q => absurd q (by decide)) (fun _ => ?_)
  refine go_callS1 (y := (⟨"com/example/need_to_know/needtoknow/Mode", "of", "(Ljava/lang/String;)Lcom/example/need_to_know/needtoknow/Mode;"⟩ : MethodName)) (W := 0) (argsL := []) (st := []) c7_8 (rm_vals l Z a0 hw h0 n0 _ P0 mr mw ma me va Smr Xmr Lmr Omr Amr Smw Xmw Lmw Omw Amw Sma Xma Lma Oma Ama Sme Xme Lme Ome Ame SV XV AV) (t46 hw) (t47 hw) (t1 hw) (t48 hw) (by decide) (lenOf pd10 rfl) rfl rfl (by decide) (by decide) (by decide) (by decide) rfl ?_
  rintro _ h1 ⟨vc, rfl, E, Ac⟩
  have P2 := P0.ext E
  refine go_more (k' := 1) (n' := 4) (by decide) (by decide) ?_
  refine go_astore c7_11 rfl rfl rfl ?_
  dsimp only [setl]
  refine go_aload c7_12 rfl rfl ?_
  refine go_lenR (z := 4) c7_13 Ac rfl ?_
  refine go_istore c7_14 rfl rfl ?_
  dsimp only [setl]
  refine go_push c7_15 ?_
  refine go_istore c7_16 rfl rfl ?_
  dsimp only [setl]
  refine go_iload c7_17 rfl ?_
  refine go_iload c7_18 rfl ?_
  refine go_icmp_ge c7_19 (fun q => absurd q (by decide)) (fun _ => ?_)
  refine go_aload c7_22 rfl rfl ?_
  refine go_iload c7_23 rfl ?_
  refine go_aaloadR c7_24 Ac rfl (by decide) rfl ?_
  refine go_astore c7_25 rfl rfl rfl ?_
  dsimp only [setl]
  refine go_aload c7_27 rfl rfl ?_
  refine go_getF (y := (⟨"com/example/need_to_know/needtoknow/Mode", "of", "(Ljava/lang/String;)Lcom/example/need_to_know/needtoknow/Mode;"⟩ : MethodName)) (host := "") c7_29 (Or.inl (t64 hw)) Via.refl (Lmr.ext P2.1.2) ?_
  refine go_aload c7_32 rfl rfl ?_
  refine go_push c7_33 ?_
  refine go_callV1 (y := (⟨"com/example/need_to_know/needtoknow/Mode", "of", "(Ljava/lang/String;)Lcom/example/need_to_know/needtoknow/Mode;"⟩ : MethodName)) (W := 1) (argsL := [(.int 0)]) (st := [(.int 114)]) c7_34 (rm_ca_119 l Z a0 hw h1 n0 cs hcs SC fm hr_fm SF _ s b P2) (P2.exa (i := 1) rfl) (t66 hw) (t67 hw) (fun _ q => notFace_of_selects (args := #[]) (mvT q (t69 hw))) (t69 hw) (t68 hw) (t6 hw) (t70 hw) (by decide) (lenOf pd11 rfl) rfl rfl (by decide) (by decide) (by decide) (by decide) rfl ?_
  rintro _ _ ⟨rfl, rfl⟩
  refine go_more (k' := 1) (n' := 4) (by decide) (by decide) ?_
  refine go_icmp_ne c7_37 (fun _ => ?_) (fun q => absurd q (by decide))
  refine go_iincX (x' := 1) c7_43 rfl (by decide) ?_
  dsimp only [setl]
  refine go_goto c7_46 ?_
  refine go_iload c7_17 rfl ?_
  refine go_iload c7_18 rfl ?_
  refine go_icmp_ge c7_19 (fun q => absurd q (by decide)) (fun _ => ?_)
  refine go_aload c7_22 rfl rfl ?_
  refine go_iload c7_23 rfl ?_
  refine go_aaloadR c7_24 Ac rfl (by decide) rfl ?_
  refine go_astore c7_25 rfl rfl rfl ?_
  dsimp only [setl]
  refine go_aload c7_27 rfl rfl ?_
  refine go_getF (y := (⟨"com/example/need_to_know/needtoknow/Mode", "of", "(Ljava/lang/String;)Lcom/example/need_to_know/needtoknow/Mode;"⟩ : MethodName)) (host := "") c7_29 (Or.inl (t64 hw)) Via.refl (Lmw.ext P2.1.2) ?_
  refine go_aload c7_32 rfl rfl ?_
  refine go_push c7_33 ?_
  refine go_callV1 (y := (⟨"com/example/need_to_know/needtoknow/Mode", "of", "(Ljava/lang/String;)Lcom/example/need_to_know/needtoknow/Mode;"⟩ : MethodName)) (W := 1) (argsL := [(.int 0)]) (st := [(.int 119)]) c7_34 (rm_ca_119 l Z a0 hw h1 n0 cs hcs SC fm hr_fm SF _ s b P2) (P2.exa (i := 1) rfl) (t66 hw) (t67 hw) (fun _ q => notFace_of_selects (args := #[]) (mvT q (t69 hw))) (t69 hw) (t68 hw) (t6 hw) (t70 hw) (by decide) (lenOf pd11 rfl) rfl rfl (by decide) (by decide) (by decide) (by decide) rfl ?_
  rintro _ _ ⟨rfl, rfl⟩
  refine go_more (k' := 1) (n' := 4) (by decide) (by decide) ?_
  refine go_icmp_ne c7_37 (fun q => absurd q (by decide)) (fun _ => ?_)
  refine go_aload c7_40 rfl rfl ?_
  exact go_aret rfl rfl rfl c7_42 (by decide) (by decide) ⟨_, rfl, rfl, P2⟩
set_option maxRecDepth 65536 in
set_option maxHeartbeats 4000000 in
theorem rm_of_97 (l : Launch) (Z : State) (a0 : Array Value) (hw : ∀ d ∈ tables_1, d.before a0 Z = true) (h0 : Heap) (n0 : Nat) (cs : Int32) (hcs : cs ≠ 0) (SC : Sta Z Z.heap "java/lang/String" "COMPACT_STRINGS" "Z" (.int cs)) (fm : Value) (hr_fm : fm.isRef = true) (SF : Sta Z Z.heap "jdk/internal/util/Preconditions" "SIOOBE_FORMATTER" "Ljava/util/function/BiFunction;" fm) (mr mw ma me va : Addr) (Smr : Sta Z Z.heap "com/example/need_to_know/needtoknow/Mode" "READ" "Lcom/example/need_to_know/needtoknow/Mode;" (.ref mr)) (Xmr : Exa Z Z.heap mr "com/example/need_to_know/needtoknow/Mode") (Lmr : Fld Z Z.heap mr "com/example/need_to_know/needtoknow/Mode" "letter" "C" (.int 114)) (Omr : Fld Z Z.heap mr "com/example/need_to_know/needtoknow/Mode" "observes" "Z" (.int 1)) (Amr : Fld Z Z.heap mr "com/example/need_to_know/needtoknow/Mode" "alters" "Z" (.int 0)) (Smw : Sta Z Z.heap "com/example/need_to_know/needtoknow/Mode" "WRITE" "Lcom/example/need_to_know/needtoknow/Mode;" (.ref mw)) (Xmw : Exa Z Z.heap mw "com/example/need_to_know/needtoknow/Mode") (Lmw : Fld Z Z.heap mw "com/example/need_to_know/needtoknow/Mode" "letter" "C" (.int 119)) (Omw : Fld Z Z.heap mw "com/example/need_to_know/needtoknow/Mode" "observes" "Z" (.int 1)) (Amw : Fld Z Z.heap mw "com/example/need_to_know/needtoknow/Mode" "alters" "Z" (.int 1)) (Sma : Sta Z Z.heap "com/example/need_to_know/needtoknow/Mode" "APPEND" "Lcom/example/need_to_know/needtoknow/Mode;" (.ref ma)) (Xma : Exa Z Z.heap ma "com/example/need_to_know/needtoknow/Mode") (Lma : Fld Z Z.heap ma "com/example/need_to_know/needtoknow/Mode" "letter" "C" (.int 97)) (Oma : Fld Z Z.heap ma "com/example/need_to_know/needtoknow/Mode" "observes" "Z" (.int 0)) (Ama : Fld Z Z.heap ma "com/example/need_to_know/needtoknow/Mode" "alters" "Z" (.int 1)) (Sme : Sta Z Z.heap "com/example/need_to_know/needtoknow/Mode" "EXECUTE" "Lcom/example/need_to_know/needtoknow/Mode;" (.ref me)) (Xme : Exa Z Z.heap me "com/example/need_to_know/needtoknow/Mode") (Lme : Fld Z Z.heap me "com/example/need_to_know/needtoknow/Mode" "letter" "C" (.int 101)) (Ome : Fld Z Z.heap me "com/example/need_to_know/needtoknow/Mode" "observes" "Z" (.int 0)) (Ame : Fld Z Z.heap me "com/example/need_to_know/needtoknow/Mode" "alters" "Z" (.int 0)) (SV : Sta Z Z.heap "com/example/need_to_know/needtoknow/Mode" "$VALUES" "[Lcom/example/need_to_know/needtoknow/Mode;" (.ref va)) (XV : Exa Z Z.heap va "[Lcom/example/need_to_know/needtoknow/Mode;") (AV : Ar Z Z.heap va (.object "com/example/need_to_know/needtoknow/Mode") [.ref mr, .ref mw, .ref ma, .ref me]) (M : List (Addr × Desc)) (s b : Addr) (P0 : Hp Z n0 h0 ((b, (.inr (.byte, "[B", [(.int 97)]))) :: (s, (.inl ("java/lang/String", [(("java/lang/String", "coder", "B"), (.int 0)), (("java/lang/String", "value", "[B"), (.ref b))]))) :: M)) :
    Con false l Z (⟨"com/example/need_to_know/needtoknow/Mode", "of", "(Ljava/lang/String;)Lcom/example/need_to_know/needtoknow/Mode;"⟩ : MethodName) prog_20_method_7_code 5 (some (.object "com/example/need_to_know/needtoknow/Mode")) ({ frames := 4, cells := 1, slots := 4, locals := 68 } : Room) #[(.ref s)] h0 n0 (R1 fun w h' => w = .ref ma ∧ Hp Z n0 h' ((b, (.inr (.byte, "[B", [(.int 97)]))) :: (s, (.inl ("java/lang/String", [(("java/lang/String", "coder", "B"), (.int 0)), (("java/lang/String", "value", "[B"), (.ref b))]))) :: M)) := by
  refine con_of (ls := [.val (.ref s), .unset, .unset, .unset, .unset]) (plainFor_of_name pn4) rfl ?_
  refine go_aload c7_0 rfl rfl ?_
  refine go_callV1 (y := (⟨"com/example/need_to_know/needtoknow/Mode", "of", "(Ljava/lang/String;)Lcom/example/need_to_know/needtoknow/Mode;"⟩ : MethodName)) (W := 0) (argsL := []) (st := []) c7_1 (rm_ln_97 l Z a0 hw h0 n0 cs hcs SC _ s b P0) (P0.exa (i := 1) rfl) (t36 hw) (t37 hw) (fun _ q => notFace_of_selects (args := #[]) (mvT q (t39 hw))) (t39 hw) (t38 hw) (t6 hw) (t40 hw) (by decide) (lenOf pd9 rfl) rfl rfl (by decide) (by decide) (by decide) (by decide) rfl ?_
  rintro _ _ ⟨rfl, rfl⟩
  refine go_more (k' := 0) (n' := 0) (by decide) (by decide) ?_
  refine go_push c7_4 ?_
  refine go_icmp_ne c7_5 (fun q => absurd q (by decide)) (fun _ => ?_)
  refine go_callS1 (y := (⟨"com/example/need_to_know/needtoknow/Mode", "of", "(Ljava/lang/String;)Lcom/example/need_to_know/needtoknow/Mode;"⟩ : MethodName)) (W := 0) (argsL := []) (st := []) c7_8 (rm_vals l Z a0 hw h0 n0 _ P0 mr mw ma me va Smr Xmr Lmr Omr Amr Smw Xmw Lmw Omw Amw Sma Xma Lma Oma Ama Sme Xme Lme Ome Ame SV XV AV) (t46 hw) (t47 hw) (t1 hw) (t48 hw) (by decide) (lenOf pd10 rfl) rfl rfl (by decide) (by decide) (by decide) (by decide) rfl ?_
  rintro _ h1 ⟨vc, rfl, E, Ac⟩
  have P2 := P0.ext E
  refine go_more (k' := 1) (n' := 4) (by decide) (by decide) ?_
  refine go_astore c7_11 rfl rfl rfl ?_
  dsimp only [setl]
  refine go_aload c7_12 rfl rfl ?_
  refine go_lenR (z := 4) c7_13 Ac rfl ?_
  refine go_istore c7_14 rfl rfl ?_
  dsimp only [setl]
  refine go_push c7_15 ?_
  refine go_istore c7_16 rfl rfl ?_
  dsimp only [setl]
  refine go_iload c7_17 rfl ?_
  refine go_iload c7_18 rfl ?_
  refine go_icmp_ge c7_19 (fun q => absurd q (by decide)) (fun _ => ?_)
  refine go_aload c7_22 rfl rfl ?_
  refine go_iload c7_23 rfl ?_
  refine go_aaloadR c7_24 Ac rfl (by decide) rfl ?_
  refine go_astore c7_25 rfl rfl rfl ?_
  dsimp only [setl]
  refine go_aload c7_27 rfl rfl ?_
  refine go_getF (y := (⟨"com/example/need_to_know/needtoknow/Mode", "of", "(Ljava/lang/String;)Lcom/example/need_to_know/needtoknow/Mode;"⟩ : MethodName)) (host := "") c7_29 (Or.inl (t64 hw)) Via.refl (Lmr.ext P2.1.2) ?_
  refine go_aload c7_32 rfl rfl ?_
  refine go_push c7_33 ?_
  refine go_callV1 (y := (⟨"com/example/need_to_know/needtoknow/Mode", "of", "(Ljava/lang/String;)Lcom/example/need_to_know/needtoknow/Mode;"⟩ : MethodName)) (W := 1) (argsL := [(.int 0)]) (st := [(.int 114)]) c7_34 (rm_ca_97 l Z a0 hw h1 n0 cs hcs SC fm hr_fm SF _ s b P2) (P2.exa (i := 1) rfl) (t66 hw) (t67 hw) (fun _ q => notFace_of_selects (args := #[]) (mvT q (t69 hw))) (t69 hw) (t68 hw) (t6 hw) (t70 hw) (by decide) (lenOf pd11 rfl) rfl rfl (by decide) (by decide) (by decide) (by decide) rfl ?_
  rintro _ _ ⟨rfl, rfl⟩
  refine go_more (k' := 1) (n' := 4) (by decide) (by decide) ?_
  refine go_icmp_ne c7_37 (fun _ => ?_) (fun q => absurd q (by decide))
  refine go_iincX (x' := 1) c7_43 rfl (by decide) ?_
  dsimp only [setl]
  refine go_goto c7_46 ?_
  refine go_iload c7_17 rfl ?_
  refine go_iload c7_18 rfl ?_
  refine go_icmp_ge c7_19 (fun q => absurd q (by decide)) (fun _ => ?_)
  refine go_aload c7_22 rfl rfl ?_
  refine go_iload c7_23 rfl ?_
  refine go_aaloadR c7_24 Ac rfl (by decide) rfl ?_
  refine go_astore c7_25 rfl rfl rfl ?_
  dsimp only [setl]
  refine go_aload c7_27 rfl rfl ?_
  refine go_getF (y := (⟨"com/example/need_to_know/needtoknow/Mode", "of", "(Ljava/lang/String;)Lcom/example/need_to_know/needtoknow/Mode;"⟩ : MethodName)) (host := "") c7_29 (Or.inl (t64 hw)) Via.refl (Lmw.ext P2.1.2) ?_
  refine go_aload c7_32 rfl rfl ?_
  refine go_push c7_33 ?_
  refine go_callV1 (y := (⟨"com/example/need_to_know/needtoknow/Mode", "of", "(Ljava/lang/String;)Lcom/example/need_to_know/needtoknow/Mode;"⟩ : MethodName)) (W := 1) (argsL := [(.int 0)]) (st := [(.int 119)]) c7_34 (rm_ca_97 l Z a0 hw h1 n0 cs hcs SC fm hr_fm SF _ s b P2) (P2.exa (i := 1) rfl) (t66 hw) (t67 hw) (fun _ q => notFace_of_selects (args := #[]) (mvT q (t69 hw))) (t69 hw) (t68 hw) (t6 hw) (t70 hw) (by decide) (lenOf pd11 rfl) rfl rfl (by decide) (by decide) (by decide) (by decide) rfl ?_
  rintro _ _ ⟨rfl, rfl⟩
  refine go_more (k' := 1) (n' := 4) (by decide) (by decide) ?_
  refine go_icmp_ne c7_37 (fun _ => ?_) (fun q => absurd q (by decide))
  refine go_iincX (x' := 2) c7_43 rfl (by decide) ?_
  dsimp only [setl]
  refine go_goto c7_46 ?_
  refine go_iload c7_17 rfl ?_
  refine go_iload c7_18 rfl ?_
  refine go_icmp_ge c7_19 (fun q => absurd q (by decide)) (fun _ => ?_)
  refine go_aload c7_22 rfl rfl ?_
  refine go_iload c7_23 rfl ?_
  refine go_aaloadR c7_24 Ac rfl (by decide) rfl ?_
  refine go_astore c7_25 rfl rfl rfl ?_
  dsimp only [setl]
  refine go_aload c7_27 rfl rfl ?_
  refine go_getF (y := (⟨"com/example/need_to_know/needtoknow/Mode", "of", "(Ljava/lang/String;)Lcom/example/need_to_know/needtoknow/Mode;"⟩ : MethodName)) (host := "") c7_29 (Or.inl (t64 hw)) Via.refl (Lma.ext P2.1.2) ?_
  refine go_aload c7_32 rfl rfl ?_
  refine go_push c7_33 ?_
  refine go_callV1 (y := (⟨"com/example/need_to_know/needtoknow/Mode", "of", "(Ljava/lang/String;)Lcom/example/need_to_know/needtoknow/Mode;"⟩ : MethodName)) (W := 1) (argsL := [(.int 0)]) (st := [(.int 97)]) c7_34 (rm_ca_97 l Z a0 hw h1 n0 cs hcs SC fm hr_fm SF _ s b P2) (P2.exa (i := 1) rfl) (t66 hw) (t67 hw) (fun _ q => notFace_of_selects (args := #[]) (mvT q (t69 hw))) (t69 hw) (t68 hw) (t6 hw) (t70 hw) (by decide) (lenOf pd11 rfl) rfl rfl (by decide) (by decide) (by decide) (by decide) rfl ?_
  rintro _ _ ⟨rfl, rfl⟩
  refine go_more (k' := 1) (n' := 4) (by decide) (by decide) ?_
  refine go_icmp_ne c7_37 (fun q => absurd q (by decide)) (fun _ => ?_)
  refine go_aload c7_40 rfl rfl ?_
  exact go_aret rfl rfl rfl c7_42 (by decide) (by decide) ⟨_, rfl, rfl, P2⟩
set_option maxRecDepth 65536 in
set_option maxHeartbeats 4000000 in
theorem rm_of_101 (l : Launch) (Z : State) (a0 : Array Value) (hw : ∀ d ∈ tables_1, d.before a0 Z = true) (h0 : Heap) (n0 : Nat) (cs : Int32) (hcs : cs ≠ 0) (SC : Sta Z Z.heap "java/lang/String" "COMPACT_STRINGS" "Z" (.int cs)) (fm : Value) (hr_fm : fm.isRef = true) (SF : Sta Z Z.heap "jdk/internal/util/Preconditions" "SIOOBE_FORMATTER" "Ljava/util/function/BiFunction;" fm) (mr mw ma me va : Addr) (Smr : Sta Z Z.heap "com/example/need_to_know/needtoknow/Mode" "READ" "Lcom/example/need_to_know/needtoknow/Mode;" (.ref mr)) (Xmr : Exa Z Z.heap mr "com/example/need_to_know/needtoknow/Mode") (Lmr : Fld Z Z.heap mr "com/example/need_to_know/needtoknow/Mode" "letter" "C" (.int 114)) (Omr : Fld Z Z.heap mr "com/example/need_to_know/needtoknow/Mode" "observes" "Z" (.int 1)) (Amr : Fld Z Z.heap mr "com/example/need_to_know/needtoknow/Mode" "alters" "Z" (.int 0)) (Smw : Sta Z Z.heap "com/example/need_to_know/needtoknow/Mode" "WRITE" "Lcom/example/need_to_know/needtoknow/Mode;" (.ref mw)) (Xmw : Exa Z Z.heap mw "com/example/need_to_know/needtoknow/Mode") (Lmw : Fld Z Z.heap mw "com/example/need_to_know/needtoknow/Mode" "letter" "C" (.int 119)) (Omw : Fld Z Z.heap mw "com/example/need_to_know/needtoknow/Mode" "observes" "Z" (.int 1)) (Amw : Fld Z Z.heap mw "com/example/need_to_know/needtoknow/Mode" "alters" "Z" (.int 1)) (Sma : Sta Z Z.heap "com/example/need_to_know/needtoknow/Mode" "APPEND" "Lcom/example/need_to_know/needtoknow/Mode;" (.ref ma)) (Xma : Exa Z Z.heap ma "com/example/need_to_know/needtoknow/Mode") (Lma : Fld Z Z.heap ma "com/example/need_to_know/needtoknow/Mode" "letter" "C" (.int 97)) (Oma : Fld Z Z.heap ma "com/example/need_to_know/needtoknow/Mode" "observes" "Z" (.int 0)) (Ama : Fld Z Z.heap ma "com/example/need_to_know/needtoknow/Mode" "alters" "Z" (.int 1)) (Sme : Sta Z Z.heap "com/example/need_to_know/needtoknow/Mode" "EXECUTE" "Lcom/example/need_to_know/needtoknow/Mode;" (.ref me)) (Xme : Exa Z Z.heap me "com/example/need_to_know/needtoknow/Mode") (Lme : Fld Z Z.heap me "com/example/need_to_know/needtoknow/Mode" "letter" "C" (.int 101)) (Ome : Fld Z Z.heap me "com/example/need_to_know/needtoknow/Mode" "observes" "Z" (.int 0)) (Ame : Fld Z Z.heap me "com/example/need_to_know/needtoknow/Mode" "alters" "Z" (.int 0)) (SV : Sta Z Z.heap "com/example/need_to_know/needtoknow/Mode" "$VALUES" "[Lcom/example/need_to_know/needtoknow/Mode;" (.ref va)) (XV : Exa Z Z.heap va "[Lcom/example/need_to_know/needtoknow/Mode;") (AV : Ar Z Z.heap va (.object "com/example/need_to_know/needtoknow/Mode") [.ref mr, .ref mw, .ref ma, .ref me]) (M : List (Addr × Desc)) (s b : Addr) (P0 : Hp Z n0 h0 ((b, (.inr (.byte, "[B", [(.int 101)]))) :: (s, (.inl ("java/lang/String", [(("java/lang/String", "coder", "B"), (.int 0)), (("java/lang/String", "value", "[B"), (.ref b))]))) :: M)) :
    Con false l Z (⟨"com/example/need_to_know/needtoknow/Mode", "of", "(Ljava/lang/String;)Lcom/example/need_to_know/needtoknow/Mode;"⟩ : MethodName) prog_20_method_7_code 5 (some (.object "com/example/need_to_know/needtoknow/Mode")) ({ frames := 4, cells := 1, slots := 4, locals := 68 } : Room) #[(.ref s)] h0 n0 (R1 fun w h' => w = .ref me ∧ Hp Z n0 h' ((b, (.inr (.byte, "[B", [(.int 101)]))) :: (s, (.inl ("java/lang/String", [(("java/lang/String", "coder", "B"), (.int 0)), (("java/lang/String", "value", "[B"), (.ref b))]))) :: M)) := by
  refine con_of (ls := [.val (.ref s), .unset, .unset, .unset, .unset]) (plainFor_of_name pn4) rfl ?_
  refine go_aload c7_0 rfl rfl ?_
  refine go_callV1 (y := (⟨"com/example/need_to_know/needtoknow/Mode", "of", "(Ljava/lang/String;)Lcom/example/need_to_know/needtoknow/Mode;"⟩ : MethodName)) (W := 0) (argsL := []) (st := []) c7_1 (rm_ln_101 l Z a0 hw h0 n0 cs hcs SC _ s b P0) (P0.exa (i := 1) rfl) (t36 hw) (t37 hw) (fun _ q => notFace_of_selects (args := #[]) (mvT q (t39 hw))) (t39 hw) (t38 hw) (t6 hw) (t40 hw) (by decide) (lenOf pd9 rfl) rfl rfl (by decide) (by decide) (by decide) (by decide) rfl ?_
  rintro _ _ ⟨rfl, rfl⟩
  refine go_more (k' := 0) (n' := 0) (by decide) (by decide) ?_
  refine go_push c7_4 ?_
  refine go_icmp_ne c7_5 (fun q => absurd q (by decide)) (fun _ => ?_)
  refine go_callS1 (y := (⟨"com/example/need_to_know/needtoknow/Mode", "of", "(Ljava/lang/String;)Lcom/example/need_to_know/needtoknow/Mode;"⟩ : MethodName)) (W := 0) (argsL := []) (st := []) c7_8 (rm_vals l Z a0 hw h0 n0 _ P0 mr mw ma me va Smr Xmr Lmr Omr Amr Smw Xmw Lmw Omw Amw Sma Xma Lma Oma Ama Sme Xme Lme Ome Ame SV XV AV) (t46 hw) (t47 hw) (t1 hw) (t48 hw) (by decide) (lenOf pd10 rfl) rfl rfl (by decide) (by decide) (by decide) (by decide) rfl ?_
  rintro _ h1 ⟨vc, rfl, E, Ac⟩
  have P2 := P0.ext E
  refine go_more (k' := 1) (n' := 4) (by decide) (by decide) ?_
  refine go_astore c7_11 rfl rfl rfl ?_
  dsimp only [setl]
  refine go_aload c7_12 rfl rfl ?_
  refine go_lenR (z := 4) c7_13 Ac rfl ?_
  refine go_istore c7_14 rfl rfl ?_
  dsimp only [setl]
  refine go_push c7_15 ?_
  refine go_istore c7_16 rfl rfl ?_
  dsimp only [setl]
  refine go_iload c7_17 rfl ?_
  refine go_iload c7_18 rfl ?_
  refine go_icmp_ge c7_19 (fun q => absurd q (by decide)) (fun _ => ?_)
  refine go_aload c7_22 rfl rfl ?_
  refine go_iload c7_23 rfl ?_
  refine go_aaloadR c7_24 Ac rfl (by decide) rfl ?_
  refine go_astore c7_25 rfl rfl rfl ?_
  dsimp only [setl]
  refine go_aload c7_27 rfl rfl ?_
  refine go_getF (y := (⟨"com/example/need_to_know/needtoknow/Mode", "of", "(Ljava/lang/String;)Lcom/example/need_to_know/needtoknow/Mode;"⟩ : MethodName)) (host := "") c7_29 (Or.inl (t64 hw)) Via.refl (Lmr.ext P2.1.2) ?_
  refine go_aload c7_32 rfl rfl ?_
  refine go_push c7_33 ?_
  refine go_callV1 (y := (⟨"com/example/need_to_know/needtoknow/Mode", "of", "(Ljava/lang/String;)Lcom/example/need_to_know/needtoknow/Mode;"⟩ : MethodName)) (W := 1) (argsL := [(.int 0)]) (st := [(.int 114)]) c7_34 (rm_ca_101 l Z a0 hw h1 n0 cs hcs SC fm hr_fm SF _ s b P2) (P2.exa (i := 1) rfl) (t66 hw) (t67 hw) (fun _ q => notFace_of_selects (args := #[]) (mvT q (t69 hw))) (t69 hw) (t68 hw) (t6 hw) (t70 hw) (by decide) (lenOf pd11 rfl) rfl rfl (by decide) (by decide) (by decide) (by decide) rfl ?_
  rintro _ _ ⟨rfl, rfl⟩
  refine go_more (k' := 1) (n' := 4) (by decide) (by decide) ?_
  refine go_icmp_ne c7_37 (fun _ => ?_) (fun q => absurd q (by decide))
  refine go_iincX (x' := 1) c7_43 rfl (by decide) ?_
  dsimp only [setl]
  refine go_goto c7_46 ?_
  refine go_iload c7_17 rfl ?_
  refine go_iload c7_18 rfl ?_
  refine go_icmp_ge c7_19 (fun q => absurd q (by decide)) (fun _ => ?_)
  refine go_aload c7_22 rfl rfl ?_
  refine go_iload c7_23 rfl ?_
  refine go_aaloadR c7_24 Ac rfl (by decide) rfl ?_
  refine go_astore c7_25 rfl rfl rfl ?_
  dsimp only [setl]
  refine go_aload c7_27 rfl rfl ?_
  refine go_getF (y := (⟨"com/example/need_to_know/needtoknow/Mode", "of", "(Ljava/lang/String;)Lcom/example/need_to_know/needtoknow/Mode;"⟩ : MethodName)) (host := "") c7_29 (Or.inl (t64 hw)) Via.refl (Lmw.ext P2.1.2) ?_
  refine go_aload c7_32 rfl rfl ?_
  refine go_push c7_33 ?_
  refine go_callV1 (y := (⟨"com/example/need_to_know/needtoknow/Mode", "of", "(Ljava/lang/String;)Lcom/example/need_to_know/needtoknow/Mode;"⟩ : MethodName)) (W := 1) (argsL := [(.int 0)]) (st := [(.int 119)]) c7_34 (rm_ca_101 l Z a0 hw h1 n0 cs hcs SC fm hr_fm SF _ s b P2) (P2.exa (i := 1) rfl) (t66 hw) (t67 hw) (fun _ q => notFace_of_selects (args := #[]) (mvT q (t69 hw))) (t69 hw) (t68 hw) (t6 hw) (t70 hw) (by decide) (lenOf pd11 rfl) rfl rfl (by decide) (by decide) (by decide) (by decide) rfl ?_
  rintro _ _ ⟨rfl, rfl⟩
  refine go_more (k' := 1) (n' := 4) (by decide) (by decide) ?_
  refine go_icmp_ne c7_37 (fun _ => ?_) (fun q => absurd q (by decide))
  refine go_iincX (x' := 2) c7_43 rfl (by decide) ?_
  dsimp only [setl]
  refine go_goto c7_46 ?_
  refine go_iload c7_17 rfl ?_
  refine go_iload c7_18 rfl ?_
  refine go_icmp_ge c7_19 (fun q => absurd q (by decide)) (fun _ => ?_)
  refine go_aload c7_22 rfl rfl ?_
  refine go_iload c7_23 rfl ?_
  refine go_aaloadR c7_24 Ac rfl (by decide) rfl ?_
  refine go_astore c7_25 rfl rfl rfl ?_
  dsimp only [setl]
  refine go_aload c7_27 rfl rfl ?_
  refine go_getF (y := (⟨"com/example/need_to_know/needtoknow/Mode", "of", "(Ljava/lang/String;)Lcom/example/need_to_know/needtoknow/Mode;"⟩ : MethodName)) (host := "") c7_29 (Or.inl (t64 hw)) Via.refl (Lma.ext P2.1.2) ?_
  refine go_aload c7_32 rfl rfl ?_
  refine go_push c7_33 ?_
  refine go_callV1 (y := (⟨"com/example/need_to_know/needtoknow/Mode", "of", "(Ljava/lang/String;)Lcom/example/need_to_know/needtoknow/Mode;"⟩ : MethodName)) (W := 1) (argsL := [(.int 0)]) (st := [(.int 97)]) c7_34 (rm_ca_101 l Z a0 hw h1 n0 cs hcs SC fm hr_fm SF _ s b P2) (P2.exa (i := 1) rfl) (t66 hw) (t67 hw) (fun _ q => notFace_of_selects (args := #[]) (mvT q (t69 hw))) (t69 hw) (t68 hw) (t6 hw) (t70 hw) (by decide) (lenOf pd11 rfl) rfl rfl (by decide) (by decide) (by decide) (by decide) rfl ?_
  rintro _ _ ⟨rfl, rfl⟩
  refine go_more (k' := 1) (n' := 4) (by decide) (by decide) ?_
  refine go_icmp_ne c7_37 (fun _ => ?_) (fun q => absurd q (by decide))
  refine go_iincX (x' := 3) c7_43 rfl (by decide) ?_
  dsimp only [setl]
  refine go_goto c7_46 ?_
  refine go_iload c7_17 rfl ?_
  refine go_iload c7_18 rfl ?_
  refine go_icmp_ge c7_19 (fun q => absurd q (by decide)) (fun _ => ?_)
  refine go_aload c7_22 rfl rfl ?_
  refine go_iload c7_23 rfl ?_
  refine go_aaloadR c7_24 Ac rfl (by decide) rfl ?_
  refine go_astore c7_25 rfl rfl rfl ?_
  dsimp only [setl]
  refine go_aload c7_27 rfl rfl ?_
  refine go_getF (y := (⟨"com/example/need_to_know/needtoknow/Mode", "of", "(Ljava/lang/String;)Lcom/example/need_to_know/needtoknow/Mode;"⟩ : MethodName)) (host := "") c7_29 (Or.inl (t64 hw)) Via.refl (Lme.ext P2.1.2) ?_
  refine go_aload c7_32 rfl rfl ?_
  refine go_push c7_33 ?_
  refine go_callV1 (y := (⟨"com/example/need_to_know/needtoknow/Mode", "of", "(Ljava/lang/String;)Lcom/example/need_to_know/needtoknow/Mode;"⟩ : MethodName)) (W := 1) (argsL := [(.int 0)]) (st := [(.int 101)]) c7_34 (rm_ca_101 l Z a0 hw h1 n0 cs hcs SC fm hr_fm SF _ s b P2) (P2.exa (i := 1) rfl) (t66 hw) (t67 hw) (fun _ q => notFace_of_selects (args := #[]) (mvT q (t69 hw))) (t69 hw) (t68 hw) (t6 hw) (t70 hw) (by decide) (lenOf pd11 rfl) rfl rfl (by decide) (by decide) (by decide) (by decide) rfl ?_
  rintro _ _ ⟨rfl, rfl⟩
  refine go_more (k' := 1) (n' := 4) (by decide) (by decide) ?_
  refine go_icmp_ne c7_37 (fun q => absurd q (by decide)) (fun _ => ?_)
  refine go_aload c7_40 rfl rfl ?_
  exact go_aret rfl rfl rfl c7_42 (by decide) (by decide) ⟨_, rfl, rfl, P2⟩
set_option maxRecDepth 65536 in
set_option maxHeartbeats 4000000 in
theorem rm_letter_114 (l : Launch) (Z : State) (a0 : Array Value) (hw : ∀ d ∈ tables_1, d.before a0 Z = true) (h0 : Heap) (n0 : Nat) (m : Addr) (F : Fld Z h0 m "com/example/need_to_know/needtoknow/Mode" "letter" "C" (.int 114)) :
    Con false l Z (⟨"com/example/need_to_know/needtoknow/Mode", "letter", "()C"⟩ : MethodName) prog_20_method_4_code 1 (some .char) ({ frames := 0, cells := 0, slots := 0, locals := 0 } : Room) #[(.ref m)] h0 n0 (Ret (.int 114) h0) := by
  refine con_of (ls := [.val (.ref m)]) (plainFor_of_name pn4) rfl ?_
  refine go_aload c16_0 rfl rfl ?_
  refine go_getF (y := (⟨"com/example/need_to_know/needtoknow/Mode", "letter", "()C"⟩ : MethodName)) (host := "") c16_1 (Or.inl (t64 hw)) Via.refl F ?_
  exact go_nret rfl (Or.inr (Or.inl rfl)) c16_4 (by decide) (by decide) (by decide) ⟨_, rfl, rfl, rfl⟩
set_option maxRecDepth 65536 in
set_option maxHeartbeats 4000000 in
theorem rm_letter_119 (l : Launch) (Z : State) (a0 : Array Value) (hw : ∀ d ∈ tables_1, d.before a0 Z = true) (h0 : Heap) (n0 : Nat) (m : Addr) (F : Fld Z h0 m "com/example/need_to_know/needtoknow/Mode" "letter" "C" (.int 119)) :
    Con false l Z (⟨"com/example/need_to_know/needtoknow/Mode", "letter", "()C"⟩ : MethodName) prog_20_method_4_code 1 (some .char) ({ frames := 0, cells := 0, slots := 0, locals := 0 } : Room) #[(.ref m)] h0 n0 (Ret (.int 119) h0) := by
  refine con_of (ls := [.val (.ref m)]) (plainFor_of_name pn4) rfl ?_
  refine go_aload c16_0 rfl rfl ?_
  refine go_getF (y := (⟨"com/example/need_to_know/needtoknow/Mode", "letter", "()C"⟩ : MethodName)) (host := "") c16_1 (Or.inl (t64 hw)) Via.refl F ?_
  exact go_nret rfl (Or.inr (Or.inl rfl)) c16_4 (by decide) (by decide) (by decide) ⟨_, rfl, rfl, rfl⟩
set_option maxRecDepth 65536 in
set_option maxHeartbeats 4000000 in
theorem rm_letter_97 (l : Launch) (Z : State) (a0 : Array Value) (hw : ∀ d ∈ tables_1, d.before a0 Z = true) (h0 : Heap) (n0 : Nat) (m : Addr) (F : Fld Z h0 m "com/example/need_to_know/needtoknow/Mode" "letter" "C" (.int 97)) :
    Con false l Z (⟨"com/example/need_to_know/needtoknow/Mode", "letter", "()C"⟩ : MethodName) prog_20_method_4_code 1 (some .char) ({ frames := 0, cells := 0, slots := 0, locals := 0 } : Room) #[(.ref m)] h0 n0 (Ret (.int 97) h0) := by
  refine con_of (ls := [.val (.ref m)]) (plainFor_of_name pn4) rfl ?_
  refine go_aload c16_0 rfl rfl ?_
  refine go_getF (y := (⟨"com/example/need_to_know/needtoknow/Mode", "letter", "()C"⟩ : MethodName)) (host := "") c16_1 (Or.inl (t64 hw)) Via.refl F ?_
  exact go_nret rfl (Or.inr (Or.inl rfl)) c16_4 (by decide) (by decide) (by decide) ⟨_, rfl, rfl, rfl⟩
set_option maxRecDepth 65536 in
set_option maxHeartbeats 4000000 in
theorem rm_letter_101 (l : Launch) (Z : State) (a0 : Array Value) (hw : ∀ d ∈ tables_1, d.before a0 Z = true) (h0 : Heap) (n0 : Nat) (m : Addr) (F : Fld Z h0 m "com/example/need_to_know/needtoknow/Mode" "letter" "C" (.int 101)) :
    Con false l Z (⟨"com/example/need_to_know/needtoknow/Mode", "letter", "()C"⟩ : MethodName) prog_20_method_4_code 1 (some .char) ({ frames := 0, cells := 0, slots := 0, locals := 0 } : Room) #[(.ref m)] h0 n0 (Ret (.int 101) h0) := by
  refine con_of (ls := [.val (.ref m)]) (plainFor_of_name pn4) rfl ?_
  refine go_aload c16_0 rfl rfl ?_
  refine go_getF (y := (⟨"com/example/need_to_know/needtoknow/Mode", "letter", "()C"⟩ : MethodName)) (host := "") c16_1 (Or.inl (t64 hw)) Via.refl F ?_
  exact go_nret rfl (Or.inr (Or.inl rfl)) c16_4 (by decide) (by decide) (by decide) ⟨_, rfl, rfl, rfl⟩
set_option maxRecDepth 65536 in
set_option maxHeartbeats 4000000 in
theorem rm_observes_0 (l : Launch) (Z : State) (a0 : Array Value) (hw : ∀ d ∈ tables_1, d.before a0 Z = true) (h0 : Heap) (n0 : Nat) (m : Addr) (F : Fld Z h0 m "com/example/need_to_know/needtoknow/Mode" "observes" "Z" (.int 0)) :
    Con false l Z (⟨"com/example/need_to_know/needtoknow/Mode", "observes", "()Z"⟩ : MethodName) prog_20_method_5_code 1 (some .boolean) ({ frames := 0, cells := 0, slots := 0, locals := 0 } : Room) #[(.ref m)] h0 n0 (Ret (.int 0) h0) := by
  refine con_of (ls := [.val (.ref m)]) (plainFor_of_name pn4) rfl ?_
  refine go_aload c17_0 rfl rfl ?_
  refine go_getF (y := (⟨"com/example/need_to_know/needtoknow/Mode", "observes", "()Z"⟩ : MethodName)) (host := "") c17_1 (Or.inl (t98 hw)) Via.refl F ?_
  exact go_bret rfl c17_4 (by decide) (by decide) (by decide) ⟨_, rfl, rfl, rfl⟩
set_option maxRecDepth 65536 in
set_option maxHeartbeats 4000000 in
theorem rm_observes_1 (l : Launch) (Z : State) (a0 : Array Value) (hw : ∀ d ∈ tables_1, d.before a0 Z = true) (h0 : Heap) (n0 : Nat) (m : Addr) (F : Fld Z h0 m "com/example/need_to_know/needtoknow/Mode" "observes" "Z" (.int 1)) :
    Con false l Z (⟨"com/example/need_to_know/needtoknow/Mode", "observes", "()Z"⟩ : MethodName) prog_20_method_5_code 1 (some .boolean) ({ frames := 0, cells := 0, slots := 0, locals := 0 } : Room) #[(.ref m)] h0 n0 (Ret (.int 1) h0) := by
  refine con_of (ls := [.val (.ref m)]) (plainFor_of_name pn4) rfl ?_
  refine go_aload c17_0 rfl rfl ?_
  refine go_getF (y := (⟨"com/example/need_to_know/needtoknow/Mode", "observes", "()Z"⟩ : MethodName)) (host := "") c17_1 (Or.inl (t98 hw)) Via.refl F ?_
  exact go_bret rfl c17_4 (by decide) (by decide) (by decide) ⟨_, rfl, rfl, rfl⟩
set_option maxRecDepth 65536 in
set_option maxHeartbeats 4000000 in
theorem rm_alters_0 (l : Launch) (Z : State) (a0 : Array Value) (hw : ∀ d ∈ tables_1, d.before a0 Z = true) (h0 : Heap) (n0 : Nat) (m : Addr) (F : Fld Z h0 m "com/example/need_to_know/needtoknow/Mode" "alters" "Z" (.int 0)) :
    Con false l Z (⟨"com/example/need_to_know/needtoknow/Mode", "alters", "()Z"⟩ : MethodName) prog_20_method_6_code 1 (some .boolean) ({ frames := 0, cells := 0, slots := 0, locals := 0 } : Room) #[(.ref m)] h0 n0 (Ret (.int 0) h0) := by
  refine con_of (ls := [.val (.ref m)]) (plainFor_of_name pn4) rfl ?_
  refine go_aload c18_0 rfl rfl ?_
  refine go_getF (y := (⟨"com/example/need_to_know/needtoknow/Mode", "alters", "()Z"⟩ : MethodName)) (host := "") c18_1 (Or.inl (t105 hw)) Via.refl F ?_
  exact go_bret rfl c18_4 (by decide) (by decide) (by decide) ⟨_, rfl, rfl, rfl⟩
set_option maxRecDepth 65536 in
set_option maxHeartbeats 4000000 in
theorem rm_alters_1 (l : Launch) (Z : State) (a0 : Array Value) (hw : ∀ d ∈ tables_1, d.before a0 Z = true) (h0 : Heap) (n0 : Nat) (m : Addr) (F : Fld Z h0 m "com/example/need_to_know/needtoknow/Mode" "alters" "Z" (.int 1)) :
    Con false l Z (⟨"com/example/need_to_know/needtoknow/Mode", "alters", "()Z"⟩ : MethodName) prog_20_method_6_code 1 (some .boolean) ({ frames := 0, cells := 0, slots := 0, locals := 0 } : Room) #[(.ref m)] h0 n0 (Ret (.int 1) h0) := by
  refine con_of (ls := [.val (.ref m)]) (plainFor_of_name pn4) rfl ?_
  refine go_aload c18_0 rfl rfl ?_
  refine go_getF (y := (⟨"com/example/need_to_know/needtoknow/Mode", "alters", "()Z"⟩ : MethodName)) (host := "") c18_1 (Or.inl (t105 hw)) Via.refl F ?_
  exact go_bret rfl c18_4 (by decide) (by decide) (by decide) ⟨_, rfl, rfl, rfl⟩
theorem own_n4 (x : Int32) : x &&& 3 = 0 ∨ x &&& 3 = 1 ∨ x &&& 3 = 2 ∨ x &&& 3 = 3 := by
  have h : (x &&& 3).toBitVec.toNat ≤ 3 := by rw [Int32.toBitVec_and, BitVec.toNat_and]; exact Nat.and_le_right
  have e : x &&& 3 = Int32.ofNat (x &&& 3).toBitVec.toNat := by
    apply Int32.toBitVec_inj.mp
    apply BitVec.eq_of_toNat_eq
    have : ∀ n, n ≤ 3 → (Int32.ofNat n).toBitVec.toNat = n := by decide
    rw [this _ h]
  generalize (x &&& 3).toBitVec.toNat = n at h e
  rw [e]
  have : ∀ n, n ≤ 3 → Int32.ofNat n = 0 ∨ Int32.ofNat n = 1 ∨ Int32.ofNat n = 2 ∨ Int32.ofNat n = 3 := by decide
  exact this n h
set_option maxRecDepth 65536 in
set_option maxHeartbeats 4000000 in
theorem rm0 (l : Launch) (Z : State) (a0 : Array Value) (hw : ∀ d ∈ tables_1, d.before a0 Z = true) (h0 : Heap) (n0 : Nat) (P0 : Hp Z n0 h0 []) (cs : Int32) (hcs : cs ≠ 0) (SC : Sta Z Z.heap "java/lang/String" "COMPACT_STRINGS" "Z" (.int cs)) (fm : Value) (hr_fm : fm.isRef = true) (SF : Sta Z Z.heap "jdk/internal/util/Preconditions" "SIOOBE_FORMATTER" "Ljava/util/function/BiFunction;" fm) (mr mw ma me va : Addr) (Smr : Sta Z Z.heap "com/example/need_to_know/needtoknow/Mode" "READ" "Lcom/example/need_to_know/needtoknow/Mode;" (.ref mr)) (Xmr : Exa Z Z.heap mr "com/example/need_to_know/needtoknow/Mode") (Lmr : Fld Z Z.heap mr "com/example/need_to_know/needtoknow/Mode" "letter" "C" (.int 114)) (Omr : Fld Z Z.heap mr "com/example/need_to_know/needtoknow/Mode" "observes" "Z" (.int 1)) (Amr : Fld Z Z.heap mr "com/example/need_to_know/needtoknow/Mode" "alters" "Z" (.int 0)) (Smw : Sta Z Z.heap "com/example/need_to_know/needtoknow/Mode" "WRITE" "Lcom/example/need_to_know/needtoknow/Mode;" (.ref mw)) (Xmw : Exa Z Z.heap mw "com/example/need_to_know/needtoknow/Mode") (Lmw : Fld Z Z.heap mw "com/example/need_to_know/needtoknow/Mode" "letter" "C" (.int 119)) (Omw : Fld Z Z.heap mw "com/example/need_to_know/needtoknow/Mode" "observes" "Z" (.int 1)) (Amw : Fld Z Z.heap mw "com/example/need_to_know/needtoknow/Mode" "alters" "Z" (.int 1)) (Sma : Sta Z Z.heap "com/example/need_to_know/needtoknow/Mode" "APPEND" "Lcom/example/need_to_know/needtoknow/Mode;" (.ref ma)) (Xma : Exa Z Z.heap ma "com/example/need_to_know/needtoknow/Mode") (Lma : Fld Z Z.heap ma "com/example/need_to_know/needtoknow/Mode" "letter" "C" (.int 97)) (Oma : Fld Z Z.heap ma "com/example/need_to_know/needtoknow/Mode" "observes" "Z" (.int 0)) (Ama : Fld Z Z.heap ma "com/example/need_to_know/needtoknow/Mode" "alters" "Z" (.int 1)) (Sme : Sta Z Z.heap "com/example/need_to_know/needtoknow/Mode" "EXECUTE" "Lcom/example/need_to_know/needtoknow/Mode;" (.ref me)) (Xme : Exa Z Z.heap me "com/example/need_to_know/needtoknow/Mode") (Lme : Fld Z Z.heap me "com/example/need_to_know/needtoknow/Mode" "letter" "C" (.int 101)) (Ome : Fld Z Z.heap me "com/example/need_to_know/needtoknow/Mode" "observes" "Z" (.int 0)) (Ame : Fld Z Z.heap me "com/example/need_to_know/needtoknow/Mode" "alters" "Z" (.int 0)) (SV : Sta Z Z.heap "com/example/need_to_know/needtoknow/Mode" "$VALUES" "[Lcom/example/need_to_know/needtoknow/Mode;" (.ref va)) (XV : Exa Z Z.heap va "[Lcom/example/need_to_know/needtoknow/Mode;") (AV : Ar Z Z.heap va (.object "com/example/need_to_know/needtoknow/Mode") [.ref mr, .ref mw, .ref ma, .ref me]) (i : Int32) :
    Con false l Z x code maxLocals ret room_1 #[(.int i)] h0 n0 (R1 fun w _ => w = .int 1) := by
  refine con_of (ls := [.val (.int i), .unset, .unset, .unset, .unset, .unset, .unset, .unset]) (plainFor_of_name pn5) rfl ?_
  refine go_iload c0_0 rfl ?_
  refine go_push c0_1 ?_
  refine go_iand c0_2 ?_
  rcases own_n4 i with hi | hi | hi | hi
  · refine go_isI 0 hi ?_
    refine go_istore c0_3 rfl rfl ?_
    dsimp only [setl]
    refine go_iload c0_4 rfl ?_
    refine go_if_ne c0_5 (fun q => absurd q (by decide)) (fun _ => ?_)
    refine go_push c0_8 ?_
    refine go_istore c0_10 rfl rfl ?_
    dsimp only [setl]
    refine go_getS (y := x) (host := "") c0_11 (Or.inl (t0 hw)) Via.refl (Smr.ext P0.1.2) ?_
    refine go_astore c0_14 rfl rfl rfl ?_
    dsimp only [setl]
    refine go_goto c0_15 ?_
    refine go_iload c0_55 rfl ?_
    refine go_push c0_56 ?_
    refine go_icmp_gt c0_57 (fun q => absurd q (by decide)) (fun _ => ?_)
    refine go_push c0_60 ?_
    refine go_goto c0_61 ?_
    refine go_istore c0_65 rfl rfl ?_
    dsimp only [setl]
    refine go_iload c0_67 rfl ?_
    refine go_push c0_68 ?_
    refine go_icmp_eq c0_69 (fun q => absurd q (by decide)) (fun _ => ?_)
    refine go_iload c0_72 rfl ?_
    refine go_push c0_73 ?_
    refine go_icmp_ne c0_74 (fun _ => ?_) (fun q => absurd q (by decide))
    refine go_push c0_81 ?_
    refine go_istore c0_82 rfl rfl ?_
    dsimp only [setl]
    refine go_push c0_84 ?_
    refine go_newarr (y := x) P0 "[C" [(.int 0)] 1 c0_85 (t3 hw) (by decide) (by decide) (by decide) (by decide) rfl rfl (by decide) (by decide) ?_
    intro h1 a3 P2
    refine go_more (k' := 1) (n' := 1) (by decide) (by decide) ?_
    refine go_astore c0_87 rfl rfl rfl ?_
    dsimp only [setl]
    refine go_aload c0_89 rfl rfl ?_
    refine go_push c0_91 ?_
    refine go_iload c0_92 rfl ?_
    refine go_castoreH P2 0 c0_93 rfl (by decide) (Nat.le_of_ble_eq_true rfl) ?_
    intro h4 P5
    dsimp only [lupd] at P5
    rw [show nar .char 114 = 114 from by decide] at P5
    refine go_new (y := x) P5 [(("java/lang/String", "coder", "B"), (.int 0)), (("java/lang/String", "value", "[B"), .null)] c0_94 (t4 hw) (t5 hw) (t6 hw) (⟨⟨Or.inr (t30 hw), .byte, by decide, rfl⟩, ⟨⟨Or.inr (t32 hw), (.array .byte), by decide, rfl⟩, trivial⟩⟩) (by decide) (by decide) (by decide) ?_
    intro h6 a8 P7
    refine go_more (k' := 2) (n' := 5) (by decide) (by decide) ?_
    refine go_dup c0_97 rfl ?_
    refine go_aload c0_98 rfl rfl ?_
    have P9 : Hp Z n0 h6 ([(a3, (.inr (.char, "[C", [(.int 114)]))), (a8, (.inl ("java/lang/String", [(("java/lang/String", "coder", "B"), (.int 0)), (("java/lang/String", "value", "[B"), .null)])))]) := ((P7.front 0).front 1)
    refine go_callN0 (y := x) (W := 1) (argsL := [(.ref a3)]) (st := [(.ref a8)]) c0_100 rfl rfl (rm_si1_1 l Z a0 hw h6 n0 cs hcs SC _ a8 a3 114 (by decide) P9) (t7 hw) (t8 hw) (t6 hw) (t9 hw) (by decide) (lenOf pd12 rfl) rfl rfl (by decide) (by decide) (by decide) (by decide) rfl ?_
    rintro h10 ⟨b12, P11⟩
    refine go_more (k' := 3) (n' := 6) (by decide) (by decide) ?_
    rw [show nar .byte (114 : Int32).toInt8.toInt32 = 114 from by decide] at P11
    have P13 : Hp Z n0 h10 ([(b12, (.inr (.byte, "[B", [(.int 114)]))), (a8, (.inl ("java/lang/String", [(("java/lang/String", "coder", "B"), (.int 0)), (("java/lang/String", "value", "[B"), (.ref b12))]))), (a3, (.inr (.char, "[C", [(.int 114)])))]) := ((P11.front 2).front 1)
    refine go_callS1 (y := x) (W := 0) (argsL := [(.ref a8)]) (st := []) c0_103 (rm_of_114 l Z a0 hw h10 n0 cs hcs SC fm hr_fm SF mr mw ma me va Smr Xmr Lmr Omr Amr Smw Xmw Lmw Omw Amw Sma Xma Lma Oma Ama Sme Xme Lme Ome Ame SV XV AV _ a8 b12 P13) (t33 hw) (t34 hw) (t1 hw) (t35 hw) (by decide) (lenOf pd13 rfl) rfl rfl (by decide) (by decide) (by decide) (by decide) rfl ?_
    rintro _ h14 ⟨rfl, P15⟩
    refine go_more (k' := 4) (n' := 10) (by decide) (by decide) ?_
    refine go_astore c0_106 rfl rfl rfl ?_
    dsimp only [setl]
    refine go_aload c0_108 rfl rfl ?_
    refine go_aload c0_110 rfl rfl ?_
    refine go_acmp_ne c0_111 rfl rfl (fun q => absurd rfl q) (fun _ => ?_)
    refine go_aload c0_114 rfl rfl ?_
    refine go_callV1 (y := x) (W := 0) (argsL := []) (st := []) c0_116 (rm_letter_114 l Z a0 hw h14 n0 mr (Lmr.ext P15.1.2)) (Xmr.ext P15.1.2) (t88 hw) (t89 hw) (fun _ q => notFace_of_selects (args := #[]) (mvT q (t91 hw))) (t91 hw) (t90 hw) (t1 hw) (t92 hw) (by decide) (lenOf pd14 rfl) rfl rfl (by decide) (by decide) (by decide) (by decide) rfl ?_
    rintro _ _ ⟨rfl, rfl⟩
    refine go_more (k' := 4) (n' := 10) (by decide) (by decide) ?_
    refine go_iload c0_119 rfl ?_
    refine go_icmp_ne c0_120 (fun q => absurd q (by decide)) (fun _ => ?_)
    refine go_aload c0_123 rfl rfl ?_
    refine go_callV1 (y := x) (W := 0) (argsL := []) (st := []) c0_125 (rm_observes_1 l Z a0 hw h14 n0 mr (Omr.ext P15.1.2)) (Xmr.ext P15.1.2) (t93 hw) (t94 hw) (fun _ q => notFace_of_selects (args := #[]) (mvT q (t96 hw))) (t96 hw) (t95 hw) (t1 hw) (t97 hw) (by decide) (lenOf pd6 rfl) rfl rfl (by decide) (by decide) (by decide) (by decide) rfl ?_
    rintro _ _ ⟨rfl, rfl⟩
    refine go_more (k' := 4) (n' := 10) (by decide) (by decide) ?_
    refine go_iload c0_128 rfl ?_
    refine go_icmp_ne c0_130 (fun q => absurd q (by decide)) (fun _ => ?_)
    refine go_aload c0_133 rfl rfl ?_
    refine go_callV1 (y := x) (W := 0) (argsL := []) (st := []) c0_135 (rm_alters_0 l Z a0 hw h14 n0 mr (Amr.ext P15.1.2)) (Xmr.ext P15.1.2) (t100 hw) (t101 hw) (fun _ q => notFace_of_selects (args := #[]) (mvT q (t103 hw))) (t103 hw) (t102 hw) (t1 hw) (t104 hw) (by decide) (lenOf pd6 rfl) rfl rfl (by decide) (by decide) (by decide) (by decide) rfl ?_
    rintro _ _ ⟨rfl, rfl⟩
    refine go_more (k' := 4) (n' := 10) (by decide) (by decide) ?_
    refine go_iload c0_138 rfl ?_
    refine go_icmp_ne c0_140 (fun q => absurd q (by decide)) (fun _ => ?_)
    refine go_push c0_143 ?_
    refine go_goto c0_144 ?_
    exact go_bret rfl c0_148 (by decide) (by decide) (by decide) ⟨_, rfl, rfl⟩
  · refine go_isI 1 hi ?_
    refine go_istore c0_3 rfl rfl ?_
    dsimp only [setl]
    refine go_iload c0_4 rfl ?_
    refine go_if_ne c0_5 (fun _ => ?_) (fun q => absurd q (by decide))
    refine go_iload c0_18 rfl ?_
    refine go_push c0_19 ?_
    refine go_icmp_ne c0_20 (fun q => absurd q (by decide)) (fun _ => ?_)
    refine go_push c0_23 ?_
    refine go_istore c0_25 rfl rfl ?_
    dsimp only [setl]
    refine go_getS (y := x) (host := "") c0_26 (Or.inl (t109 hw)) Via.refl (Smw.ext P0.1.2) ?_
    refine go_astore c0_29 rfl rfl rfl ?_
    dsimp only [setl]
    refine go_goto c0_30 ?_
    refine go_iload c0_55 rfl ?_
    refine go_push c0_56 ?_
    refine go_icmp_gt c0_57 (fun q => absurd q (by decide)) (fun _ => ?_)
    refine go_push c0_60 ?_
    refine go_goto c0_61 ?_
    refine go_istore c0_65 rfl rfl ?_
    dsimp only [setl]
    refine go_iload c0_67 rfl ?_
    refine go_push c0_68 ?_
    refine go_icmp_eq c0_69 (fun _ => ?_) (fun q => absurd q (by decide))
    refine go_push c0_77 ?_
    refine go_goto c0_78 ?_
    refine go_istore c0_82 rfl rfl ?_
    dsimp only [setl]
    refine go_push c0_84 ?_
    refine go_newarr (y := x) P0 "[C" [(.int 0)] 1 c0_85 (t3 hw) (by decide) (by decide) (by decide) (by decide) rfl rfl (by decide) (by decide) ?_
    intro h16 a18 P17
    refine go_more (k' := 1) (n' := 1) (by decide) (by decide) ?_
    refine go_astore c0_87 rfl rfl rfl ?_
    dsimp only [setl]
    refine go_aload c0_89 rfl rfl ?_
    refine go_push c0_91 ?_
    refine go_iload c0_92 rfl ?_
    refine go_castoreH P17 0 c0_93 rfl (by decide) (Nat.le_of_ble_eq_true rfl) ?_
    intro h19 P20
    dsimp only [lupd] at P20
    rw [show nar .char 119 = 119 from by decide] at P20
    refine go_new (y := x) P20 [(("java/lang/String", "coder", "B"), (.int 0)), (("java/lang/String", "value", "[B"), .null)] c0_94 (t4 hw) (t5 hw) (t6 hw) (⟨⟨Or.inr (t30 hw), .byte, by decide, rfl⟩, ⟨⟨Or.inr (t32 hw), (.array .byte), by decide, rfl⟩, trivial⟩⟩) (by decide) (by decide) (by decide) ?_
    intro h21 a23 P22
    refine go_more (k' := 2) (n' := 5) (by decide) (by decide) ?_
    refine go_dup c0_97 rfl ?_
    refine go_aload c0_98 rfl rfl ?_
    have P24 : Hp Z n0 h21 ([(a18, (.inr (.char, "[C", [(.int 119)]))), (a23, (.inl ("java/lang/String", [(("java/lang/String", "coder", "B"), (.int 0)), (("java/lang/String", "value", "[B"), .null)])))]) := ((P22.front 0).front 1)
    refine go_callN0 (y := x) (W := 1) (argsL := [(.ref a18)]) (st := [(.ref a23)]) c0_100 rfl rfl (rm_si1_1 l Z a0 hw h21 n0 cs hcs SC _ a23 a18 119 (by decide) P24) (t7 hw) (t8 hw) (t6 hw) (t9 hw) (by decide) (lenOf pd12 rfl) rfl rfl (by decide) (by decide) (by decide) (by decide) rfl ?_
    rintro h25 ⟨b27, P26⟩
    refine go_more (k' := 3) (n' := 6) (by decide) (by decide) ?_
    rw [show nar .byte (119 : Int32).toInt8.toInt32 = 119 from by decide] at P26
    have P28 : Hp Z n0 h25 ([(b27, (.inr (.byte, "[B", [(.int 119)]))), (a23, (.inl ("java/lang/String", [(("java/lang/String", "coder", "B"), (.int 0)), (("java/lang/String", "value", "[B"), (.ref b27))]))), (a18, (.inr (.char, "[C", [(.int 119)])))]) := ((P26.front 2).front 1)
    refine go_callS1 (y := x) (W := 0) (argsL := [(.ref a23)]) (st := []) c0_103 (rm_of_119 l Z a0 hw h25 n0 cs hcs SC fm hr_fm SF mr mw ma me va Smr Xmr Lmr Omr Amr Smw Xmw Lmw Omw Amw Sma Xma Lma Oma Ama Sme Xme Lme Ome Ame SV XV AV _ a23 b27 P28) (t33 hw) (t34 hw) (t1 hw) (t35 hw) (by decide) (lenOf pd13 rfl) rfl rfl (by decide) (by decide) (by decide) (by decide) rfl ?_
    rintro _ h29 ⟨rfl, P30⟩
    refine go_more (k' := 4) (n' := 10) (by decide) (by decide) ?_
    refine go_astore c0_106 rfl rfl rfl ?_
    dsimp only [setl]
    refine go_aload c0_108 rfl rfl ?_
    refine go_aload c0_110 rfl rfl ?_
    refine go_acmp_ne c0_111 rfl rfl (fun q => absurd rfl q) (fun _ => ?_)
    refine go_aload c0_114 rfl rfl ?_
    refine go_callV1 (y := x) (W := 0) (argsL := []) (st := []) c0_116 (rm_letter_119 l Z a0 hw h29 n0 mw (Lmw.ext P30.1.2)) (Xmw.ext P30.1.2) (t88 hw) (t89 hw) (fun _ q => notFace_of_selects (args := #[]) (mvT q (t91 hw))) (t91 hw) (t90 hw) (t1 hw) (t92 hw) (by decide) (lenOf pd14 rfl) rfl rfl (by decide) (by decide) (by decide) (by decide) rfl ?_
    rintro _ _ ⟨rfl, rfl⟩
    refine go_more (k' := 4) (n' := 10) (by decide) (by decide) ?_
    refine go_iload c0_119 rfl ?_
    refine go_icmp_ne c0_120 (fun q => absurd q (by decide)) (fun _ => ?_)
    refine go_aload c0_123 rfl rfl ?_
    refine go_callV1 (y := x) (W := 0) (argsL := []) (st := []) c0_125 (rm_observes_1 l Z a0 hw h29 n0 mw (Omw.ext P30.1.2)) (Xmw.ext P30.1.2) (t93 hw) (t94 hw) (fun _ q => notFace_of_selects (args := #[]) (mvT q (t96 hw))) (t96 hw) (t95 hw) (t1 hw) (t97 hw) (by decide) (lenOf pd6 rfl) rfl rfl (by decide) (by decide) (by decide) (by decide) rfl ?_
    rintro _ _ ⟨rfl, rfl⟩
    refine go_more (k' := 4) (n' := 10) (by decide) (by decide) ?_
    refine go_iload c0_128 rfl ?_
    refine go_icmp_ne c0_130 (fun q => absurd q (by decide)) (fun _ => ?_)
    refine go_aload c0_133 rfl rfl ?_
    refine go_callV1 (y := x) (W := 0) (argsL := []) (st := []) c0_135 (rm_alters_1 l Z a0 hw h29 n0 mw (Amw.ext P30.1.2)) (Xmw.ext P30.1.2) (t100 hw) (t101 hw) (fun _ q => notFace_of_selects (args := #[]) (mvT q (t103 hw))) (t103 hw) (t102 hw) (t1 hw) (t104 hw) (by decide) (lenOf pd6 rfl) rfl rfl (by decide) (by decide) (by decide) (by decide) rfl ?_
    rintro _ _ ⟨rfl, rfl⟩
    refine go_more (k' := 4) (n' := 10) (by decide) (by decide) ?_
    refine go_iload c0_138 rfl ?_
    refine go_icmp_ne c0_140 (fun q => absurd q (by decide)) (fun _ => ?_)
    refine go_push c0_143 ?_
    refine go_goto c0_144 ?_
    exact go_bret rfl c0_148 (by decide) (by decide) (by decide) ⟨_, rfl, rfl⟩
  · refine go_isI 2 hi ?_
    refine go_istore c0_3 rfl rfl ?_
    dsimp only [setl]
    refine go_iload c0_4 rfl ?_
    refine go_if_ne c0_5 (fun _ => ?_) (fun q => absurd q (by decide))
    refine go_iload c0_18 rfl ?_
    refine go_push c0_19 ?_
    refine go_icmp_ne c0_20 (fun _ => ?_) (fun q => absurd q (by decide))
    refine go_iload c0_33 rfl ?_
    refine go_push c0_34 ?_
    refine go_icmp_ne c0_35 (fun q => absurd q (by decide)) (fun _ => ?_)
    refine go_push c0_38 ?_
    refine go_istore c0_40 rfl rfl ?_
    dsimp only [setl]
    refine go_getS (y := x) (host := "") c0_41 (Or.inl (t108 hw)) Via.refl (Sma.ext P0.1.2) ?_
    refine go_astore c0_44 rfl rfl rfl ?_
    dsimp only [setl]
    refine go_goto c0_45 ?_
    refine go_iload c0_55 rfl ?_
    refine go_push c0_56 ?_
    refine go_icmp_gt c0_57 (fun _ => ?_) (fun q => absurd q (by decide))
    refine go_push c0_64 ?_
    refine go_istore c0_65 rfl rfl ?_
    dsimp only [setl]
    refine go_iload c0_67 rfl ?_
    refine go_push c0_68 ?_
    refine go_icmp_eq c0_69 (fun q => absurd q (by decide)) (fun _ => ?_)
    refine go_iload c0_72 rfl ?_
    refine go_push c0_73 ?_
    refine go_icmp_ne c0_74 (fun q => absurd q (by decide)) (fun _ => ?_)
    refine go_push c0_77 ?_
    refine go_goto c0_78 ?_
    refine go_istore c0_82 rfl rfl ?_
    dsimp only [setl]
    refine go_push c0_84 ?_
    refine go_newarr (y := x) P0 "[C" [(.int 0)] 1 c0_85 (t3 hw) (by decide) (by decide) (by decide) (by decide) rfl rfl (by decide) (by decide) ?_
    intro h31 a33 P32
    refine go_more (k' := 1) (n' := 1) (by decide) (by decide) ?_
    refine go_astore c0_87 rfl rfl rfl ?_
    dsimp only [setl]
    refine go_aload c0_89 rfl rfl ?_
    refine go_push c0_91 ?_
    refine go_iload c0_92 rfl ?_
    refine go_castoreH P32 0 c0_93 rfl (by decide) (Nat.le_of_ble_eq_true rfl) ?_
    intro h34 P35
    dsimp only [lupd] at P35
    rw [show nar .char 97 = 97 from by decide] at P35
    refine go_new (y := x) P35 [(("java/lang/String", "coder", "B"), (.int 0)), (("java/lang/String", "value", "[B"), .null)] c0_94 (t4 hw) (t5 hw) (t6 hw) (⟨⟨Or.inr (t30 hw), .byte, by decide, rfl⟩, ⟨⟨Or.inr (t32 hw), (.array .byte), by decide, rfl⟩, trivial⟩⟩) (by decide) (by decide) (by decide) ?_
    intro h36 a38 P37
    refine go_more (k' := 2) (n' := 5) (by decide) (by decide) ?_
    refine go_dup c0_97 rfl ?_
    refine go_aload c0_98 rfl rfl ?_
    have P39 : Hp Z n0 h36 ([(a33, (.inr (.char, "[C", [(.int 97)]))), (a38, (.inl ("java/lang/String", [(("java/lang/String", "coder", "B"), (.int 0)), (("java/lang/String", "value", "[B"), .null)])))]) := ((P37.front 0).front 1)
    refine go_callN0 (y := x) (W := 1) (argsL := [(.ref a33)]) (st := [(.ref a38)]) c0_100 rfl rfl (rm_si1_1 l Z a0 hw h36 n0 cs hcs SC _ a38 a33 97 (by decide) P39) (t7 hw) (t8 hw) (t6 hw) (t9 hw) (by decide) (lenOf pd12 rfl) rfl rfl (by decide) (by decide) (by decide) (by decide) rfl ?_
    rintro h40 ⟨b42, P41⟩
    refine go_more (k' := 3) (n' := 6) (by decide) (by decide) ?_
    rw [show nar .byte (97 : Int32).toInt8.toInt32 = 97 from by decide] at P41
    have P43 : Hp Z n0 h40 ([(b42, (.inr (.byte, "[B", [(.int 97)]))), (a38, (.inl ("java/lang/String", [(("java/lang/String", "coder", "B"), (.int 0)), (("java/lang/String", "value", "[B"), (.ref b42))]))), (a33, (.inr (.char, "[C", [(.int 97)])))]) := ((P41.front 2).front 1)
    refine go_callS1 (y := x) (W := 0) (argsL := [(.ref a38)]) (st := []) c0_103 (rm_of_97 l Z a0 hw h40 n0 cs hcs SC fm hr_fm SF mr mw ma me va Smr Xmr Lmr Omr Amr Smw Xmw Lmw Omw Amw Sma Xma Lma Oma Ama Sme Xme Lme Ome Ame SV XV AV _ a38 b42 P43) (t33 hw) (t34 hw) (t1 hw) (t35 hw) (by decide) (lenOf pd13 rfl) rfl rfl (by decide) (by decide) (by decide) (by decide) rfl ?_
    rintro _ h44 ⟨rfl, P45⟩
    refine go_more (k' := 4) (n' := 10) (by decide) (by decide) ?_
    refine go_astore c0_106 rfl rfl rfl ?_
    dsimp only [setl]
    refine go_aload c0_108 rfl rfl ?_
    refine go_aload c0_110 rfl rfl ?_
    refine go_acmp_ne c0_111 rfl rfl (fun q => absurd rfl q) (fun _ => ?_)
    refine go_aload c0_114 rfl rfl ?_
    refine go_callV1 (y := x) (W := 0) (argsL := []) (st := []) c0_116 (rm_letter_97 l Z a0 hw h44 n0 ma (Lma.ext P45.1.2)) (Xma.ext P45.1.2) (t88 hw) (t89 hw) (fun _ q => notFace_of_selects (args := #[]) (mvT q (t91 hw))) (t91 hw) (t90 hw) (t1 hw) (t92 hw) (by decide) (lenOf pd14 rfl) rfl rfl (by decide) (by decide) (by decide) (by decide) rfl ?_
    rintro _ _ ⟨rfl, rfl⟩
    refine go_more (k' := 4) (n' := 10) (by decide) (by decide) ?_
    refine go_iload c0_119 rfl ?_
    refine go_icmp_ne c0_120 (fun q => absurd q (by decide)) (fun _ => ?_)
    refine go_aload c0_123 rfl rfl ?_
    refine go_callV1 (y := x) (W := 0) (argsL := []) (st := []) c0_125 (rm_observes_0 l Z a0 hw h44 n0 ma (Oma.ext P45.1.2)) (Xma.ext P45.1.2) (t93 hw) (t94 hw) (fun _ q => notFace_of_selects (args := #[]) (mvT q (t96 hw))) (t96 hw) (t95 hw) (t1 hw) (t97 hw) (by decide) (lenOf pd6 rfl) rfl rfl (by decide) (by decide) (by decide) (by decide) rfl ?_
    rintro _ _ ⟨rfl, rfl⟩
    refine go_more (k' := 4) (n' := 10) (by decide) (by decide) ?_
    refine go_iload c0_128 rfl ?_
    refine go_icmp_ne c0_130 (fun q => absurd q (by decide)) (fun _ => ?_)
    refine go_aload c0_133 rfl rfl ?_
    refine go_callV1 (y := x) (W := 0) (argsL := []) (st := []) c0_135 (rm_alters_1 l Z a0 hw h44 n0 ma (Ama.ext P45.1.2)) (Xma.ext P45.1.2) (t100 hw) (t101 hw) (fun _ q => notFace_of_selects (args := #[]) (mvT q (t103 hw))) (t103 hw) (t102 hw) (t1 hw) (t104 hw) (by decide) (lenOf pd6 rfl) rfl rfl (by decide) (by decide) (by decide) (by decide) rfl ?_
    rintro _ _ ⟨rfl, rfl⟩
    refine go_more (k' := 4) (n' := 10) (by decide) (by decide) ?_
    refine go_iload c0_138 rfl ?_
    refine go_icmp_ne c0_140 (fun q => absurd q (by decide)) (fun _ => ?_)
    refine go_push c0_143 ?_
    refine go_goto c0_144 ?_
    exact go_bret rfl c0_148 (by decide) (by decide) (by decide) ⟨_, rfl, rfl⟩
  · refine go_isI 3 hi ?_
    refine go_istore c0_3 rfl rfl ?_
    dsimp only [setl]
    refine go_iload c0_4 rfl ?_
    refine go_if_ne c0_5 (fun _ => ?_) (fun q => absurd q (by decide))
    refine go_iload c0_18 rfl ?_
    refine go_push c0_19 ?_
    refine go_icmp_ne c0_20 (fun _ => ?_) (fun q => absurd q (by decide))
    refine go_iload c0_33 rfl ?_
    refine go_push c0_34 ?_
    refine go_icmp_ne c0_35 (fun _ => ?_) (fun q => absurd q (by decide))
    refine go_push c0_48 ?_
    refine go_istore c0_50 rfl rfl ?_
    dsimp only [setl]
    refine go_getS (y := x) (host := "") c0_51 (Or.inl (t107 hw)) Via.refl (Sme.ext P0.1.2) ?_
    refine go_astore c0_54 rfl rfl rfl ?_
    dsimp only [setl]
    refine go_iload c0_55 rfl ?_
    refine go_push c0_56 ?_
    refine go_icmp_gt c0_57 (fun _ => ?_) (fun q => absurd q (by decide))
    refine go_push c0_64 ?_
    refine go_istore c0_65 rfl rfl ?_
    dsimp only [setl]
    refine go_iload c0_67 rfl ?_
    refine go_push c0_68 ?_
    refine go_icmp_eq c0_69 (fun q => absurd q (by decide)) (fun _ => ?_)
    refine go_iload c0_72 rfl ?_
    refine go_push c0_73 ?_
    refine go_icmp_ne c0_74 (fun _ => ?_) (fun q => absurd q (by decide))
    refine go_push c0_81 ?_
    refine go_istore c0_82 rfl rfl ?_
    dsimp only [setl]
    refine go_push c0_84 ?_
    refine go_newarr (y := x) P0 "[C" [(.int 0)] 1 c0_85 (t3 hw) (by decide) (by decide) (by decide) (by decide) rfl rfl (by decide) (by decide) ?_
    intro h46 a48 P47
    refine go_more (k' := 1) (n' := 1) (by decide) (by decide) ?_
    refine go_astore c0_87 rfl rfl rfl ?_
    dsimp only [setl]
    refine go_aload c0_89 rfl rfl ?_
    refine go_push c0_91 ?_
    refine go_iload c0_92 rfl ?_
    refine go_castoreH P47 0 c0_93 rfl (by decide) (Nat.le_of_ble_eq_true rfl) ?_
    intro h49 P50
    dsimp only [lupd] at P50
    rw [show nar .char 101 = 101 from by decide] at P50
    refine go_new (y := x) P50 [(("java/lang/String", "coder", "B"), (.int 0)), (("java/lang/String", "value", "[B"), .null)] c0_94 (t4 hw) (t5 hw) (t6 hw) (⟨⟨Or.inr (t30 hw), .byte, by decide, rfl⟩, ⟨⟨Or.inr (t32 hw), (.array .byte), by decide, rfl⟩, trivial⟩⟩) (by decide) (by decide) (by decide) ?_
    intro h51 a53 P52
    refine go_more (k' := 2) (n' := 5) (by decide) (by decide) ?_
    refine go_dup c0_97 rfl ?_
    refine go_aload c0_98 rfl rfl ?_
    have P54 : Hp Z n0 h51 ([(a48, (.inr (.char, "[C", [(.int 101)]))), (a53, (.inl ("java/lang/String", [(("java/lang/String", "coder", "B"), (.int 0)), (("java/lang/String", "value", "[B"), .null)])))]) := ((P52.front 0).front 1)
    refine go_callN0 (y := x) (W := 1) (argsL := [(.ref a48)]) (st := [(.ref a53)]) c0_100 rfl rfl (rm_si1_1 l Z a0 hw h51 n0 cs hcs SC _ a53 a48 101 (by decide) P54) (t7 hw) (t8 hw) (t6 hw) (t9 hw) (by decide) (lenOf pd12 rfl) rfl rfl (by decide) (by decide) (by decide) (by decide) rfl ?_
    rintro h55 ⟨b57, P56⟩
    refine go_more (k' := 3) (n' := 6) (by decide) (by decide) ?_
    rw [show nar .byte (101 : Int32).toInt8.toInt32 = 101 from by decide] at P56
    have P58 : Hp Z n0 h55 ([(b57, (.inr (.byte, "[B", [(.int 101)]))), (a53, (.inl ("java/lang/String", [(("java/lang/String", "coder", "B"), (.int 0)), (("java/lang/String", "value", "[B"), (.ref b57))]))), (a48, (.inr (.char, "[C", [(.int 101)])))]) := ((P56.front 2).front 1)
    refine go_callS1 (y := x) (W := 0) (argsL := [(.ref a53)]) (st := []) c0_103 (rm_of_101 l Z a0 hw h55 n0 cs hcs SC fm hr_fm SF mr mw ma me va Smr Xmr Lmr Omr Amr Smw Xmw Lmw Omw Amw Sma Xma Lma Oma Ama Sme Xme Lme Ome Ame SV XV AV _ a53 b57 P58) (t33 hw) (t34 hw) (t1 hw) (t35 hw) (by decide) (lenOf pd13 rfl) rfl rfl (by decide) (by decide) (by decide) (by decide) rfl ?_
    rintro _ h59 ⟨rfl, P60⟩
    refine go_more (k' := 4) (n' := 10) (by decide) (by decide) ?_
    refine go_astore c0_106 rfl rfl rfl ?_
    dsimp only [setl]
    refine go_aload c0_108 rfl rfl ?_
    refine go_aload c0_110 rfl rfl ?_
    refine go_acmp_ne c0_111 rfl rfl (fun q => absurd rfl q) (fun _ => ?_)
    refine go_aload c0_114 rfl rfl ?_
    refine go_callV1 (y := x) (W := 0) (argsL := []) (st := []) c0_116 (rm_letter_101 l Z a0 hw h59 n0 me (Lme.ext P60.1.2)) (Xme.ext P60.1.2) (t88 hw) (t89 hw) (fun _ q => notFace_of_selects (args := #[]) (mvT q (t91 hw))) (t91 hw) (t90 hw) (t1 hw) (t92 hw) (by decide) (lenOf pd14 rfl) rfl rfl (by decide) (by decide) (by decide) (by decide) rfl ?_
    rintro _ _ ⟨rfl, rfl⟩
    refine go_more (k' := 4) (n' := 10) (by decide) (by decide) ?_
    refine go_iload c0_119 rfl ?_
    refine go_icmp_ne c0_120 (fun q => absurd q (by decide)) (fun _ => ?_)
    refine go_aload c0_123 rfl rfl ?_
    refine go_callV1 (y := x) (W := 0) (argsL := []) (st := []) c0_125 (rm_observes_0 l Z a0 hw h59 n0 me (Ome.ext P60.1.2)) (Xme.ext P60.1.2) (t93 hw) (t94 hw) (fun _ q => notFace_of_selects (args := #[]) (mvT q (t96 hw))) (t96 hw) (t95 hw) (t1 hw) (t97 hw) (by decide) (lenOf pd6 rfl) rfl rfl (by decide) (by decide) (by decide) (by decide) rfl ?_
    rintro _ _ ⟨rfl, rfl⟩
    refine go_more (k' := 4) (n' := 10) (by decide) (by decide) ?_
    refine go_iload c0_128 rfl ?_
    refine go_icmp_ne c0_130 (fun q => absurd q (by decide)) (fun _ => ?_)
    refine go_aload c0_133 rfl rfl ?_
    refine go_callV1 (y := x) (W := 0) (argsL := []) (st := []) c0_135 (rm_alters_0 l Z a0 hw h59 n0 me (Ame.ext P60.1.2)) (Xme.ext P60.1.2) (t100 hw) (t101 hw) (fun _ q => notFace_of_selects (args := #[]) (mvT q (t103 hw))) (t103 hw) (t102 hw) (t1 hw) (t104 hw) (by decide) (lenOf pd6 rfl) rfl rfl (by decide) (by decide) (by decide) (by decide) rfl ?_
    rintro _ _ ⟨rfl, rfl⟩
    refine go_more (k' := 4) (n' := 10) (by decide) (by decide) ?_
    refine go_iload c0_138 rfl ?_
    refine go_icmp_ne c0_140 (fun q => absurd q (by decide)) (fun _ => ?_)
    refine go_push c0_143 ?_
    refine go_goto c0_144 ?_
    exact go_bret rfl c0_148 (by decide) (by decide) (by decide) ⟨_, rfl, rfl⟩
set_option maxRecDepth 65536 in
set_option maxHeartbeats 4000000 in
theorem comes_1 {Post : Tables → Env → Array Value → State → Outcome → State → Prop} (hpost : ∀ tb e args s v u, (limb_1_1.after args s (.returned v) u = true ∧ limb_1_2.after args s (.returned v) u = true ∧ True) → FrameEnd s (.returned v) u (Jvm.fieldLocs frame_1_writes args s ++ Jvm.arrayLocs frame_1_arrays args s ++ Jvm.staticLocs frame_1_statics s) 16 128 → Post tb e args s (.returned v) u) :
    ArmFor flags0 classFile x code maxLocals ret World_1 tables_1 room_1 Calls_1 rest_1 Pre_1 Post := by
  intro l hfl _ _ p e ha hc hk s m args below hf hA hF happ hP
  obtain ⟨hcalls, hrest, hpre⟩ := hP
  obtain ⟨-, -, -, hnamed, -, -, -, hat⟩ := (Spec.applies_iff hf).mp happ
  obtain ⟨hg, hn⟩ := and_e (Cond.before_iff.mp (show (Jvm.Cond.and given_1 narrow_1).before args s = true from hpre))
  obtain ⟨hct, hg0⟩ := and_e hg
  have ga0 := hg0
  obtain ⟨w0, rfl⟩ : ∃ w0 : Value, args = #[w0] := by
    have hs : args.size = 1 := by simpa [Cond.value, given_1] using hct
    obtain ⟨L⟩ := args
    match L, hs with
    | [w0], _ => exact ⟨w0, rfl⟩
  have hw := fun d (hd : d ∈ tables_1) => atoms_spec (ws := Jvm.Cond.code x code maxLocals ret :: tables_1) hat d (List.mem_cons_of_mem _ hd)
  have hfit : Fit s := fun {y c} hc i hi => by
    obtain ⟨ha, rfl⟩ := Array.getElem?_eq_some_iff.mp hc
    have q := List.all_eq_true.mp ((Array.all_eq_true_iff_forall_mem.mp hF) _ (Array.getElem_mem ha)) i (List.mem_range.mpr hi)
    simpa [Array.getElem?_eq_getElem hi] using q
  obtain ⟨i0, ei0⟩ := is_v ga0
  obtain rfl : w0 = (.int i0) := Option.some.inj ei0
  have hr := Cond.before_iff.mp (show rest_1_c.before _ s = true from hrest)
  obtain ⟨r1, hr1⟩ := and_e hr
  obtain ⟨r2, hr2⟩ := and_e hr1
  obtain ⟨r3, hr3⟩ := and_e hr2
  obtain ⟨r4, hr4⟩ := and_e hr3
  obtain ⟨r5, hr5⟩ := and_e hr4
  obtain ⟨r6, hr6⟩ := and_e hr5
  obtain ⟨r7, hr7⟩ := and_e hr6
  obtain ⟨r8, hr8⟩ := and_e hr7
  obtain ⟨r9, hr9⟩ := and_e hr8
  obtain ⟨cs, ecs⟩ := is_v r2
  have hcs : cs ≠ 0 := fun q => by
    subst q
    simp [Cond.value, Term.eval] at r3 ecs
    simp [ecs] at r3
  have SC := Sta.start ecs (Or.inl (Cond.before_iff.mpr r1))
  obtain ⟨fm, efm, hfm⟩ := isR_v r9
  have SF := Sta.start efm (Or.inl (Cond.before_iff.mpr r8))
  have g0 := hn
  obtain ⟨n1, g1⟩ := and_e g0
  obtain ⟨n2, g2⟩ := and_e g1
  obtain ⟨n3, g3⟩ := and_e g2
  obtain ⟨n4, g4⟩ := and_e g3
  obtain ⟨n5, g5⟩ := and_e g4
  obtain ⟨n6, g6⟩ := and_e g5
  obtain ⟨n7, g7⟩ := and_e g6
  obtain ⟨n8, g8⟩ := and_e g7
  obtain ⟨n9, g9⟩ := and_e g8
  obtain ⟨n10, g10⟩ := and_e g9
  obtain ⟨n11, g11⟩ := and_e g10
  obtain ⟨n12, g12⟩ := and_e g11
  obtain ⟨n13, g13⟩ := and_e g12
  obtain ⟨n14, g14⟩ := and_e g13
  obtain ⟨n15, g15⟩ := and_e g14
  obtain ⟨n16, g16⟩ := and_e g15
  obtain ⟨n17, g17⟩ := and_e g16
  obtain ⟨n18, g18⟩ := and_e g17
  obtain ⟨n19, g19⟩ := and_e g18
  obtain ⟨n20, g20⟩ := and_e g19
  obtain ⟨n21, g21⟩ := and_e g20
  obtain ⟨n22, g22⟩ := and_e g21
  have n23 := g22
  obtain ⟨mr, emr⟩ := exa_v n1
  obtain ⟨mw, emw⟩ := exa_v n6
  obtain ⟨ma, ema⟩ := exa_v n8
  obtain ⟨me, eme⟩ := exa_v n10
  obtain ⟨va, eva⟩ := exa_v n3
  obtain ⟨cv, Av⟩ := Arr.start eva n2
  have hsv := own_len 4 (by decide) eva Av n4
  have AV : Ar s s.heap va (.object "com/example/need_to_know/needtoknow/Mode") [.ref mr, .ref mw, .ref ma, .ref me] := ⟨cv, Av, Array.ext_getElem? fun i => by
    match i with
    | 0 => exact own_elr 0 (by decide) n5 eva Av emr
    | 1 => exact own_elr 1 (by decide) n7 eva Av emw
    | 2 => exact own_elr 2 (by decide) n9 eva Av ema
    | 3 => exact own_elr 3 (by decide) n11 eva Av eme
    | i + 4 => rw [Array.getElem?_eq_none (by omega), List.getElem?_toArray, List.getElem?_eq_none (by simp)]⟩
  have K := rm0 l s _ hw s.heap s.heap.size (Hp.start s) cs hcs SC fm hfm SF mr mw ma me va (Sta.start emr (Or.inr ⟨(t1 hw), (t2 hw)⟩)) (Exa.start emr n1) (Fld.start ((fld_at emr).symm.trans (own_int n12))) (Fld.start ((fld_at emr).symm.trans (own_int n13))) (Fld.start ((fld_at emr).symm.trans (own_int n14))) (Sta.start emw (Or.inr ⟨(t1 hw), (t58 hw)⟩)) (Exa.start emw n6) (Fld.start ((fld_at emw).symm.trans (own_int n15))) (Fld.start ((fld_at emw).symm.trans (own_int n22))) (Fld.start ((fld_at emw).symm.trans (own_int n23))) (Sta.start ema (Or.inr ⟨(t1 hw), (t59 hw)⟩)) (Exa.start ema n8) (Fld.start ((fld_at ema).symm.trans (own_int n16))) (Fld.start ((fld_at ema).symm.trans (own_int n20))) (Fld.start ((fld_at ema).symm.trans (own_int n21))) (Sta.start eme (Or.inr ⟨(t1 hw), (t60 hw)⟩)) (Exa.start eme n10) (Fld.start ((fld_at eme).symm.trans (own_int n17))) (Fld.start ((fld_at eme).symm.trans (own_int n18))) (Fld.start ((fld_at eme).symm.trans (own_int n19))) (Sta.start eva (Or.inl (t61 hw))) (Exa.start eva n3) AV i0
  obtain ⟨n, o, h1, h2, h3, v, L, rfl, ⟨⟨⟨w, rfl, rfl⟩, -⟩, N⟩, hq⟩ := K tables_1 p e ha hc hk s m _ below hf ((Spec.applies_iff_loose hf).mp happ).1 ⟨rfl, State.Warmed39.refl s, rfl⟩ trivial
  refine ⟨n, _, h1, h2, h3, hpost _ _ _ _ _ _ ⟨Cond.after_iff.mpr rfl, Cond.after_iff.mpr (eq_i res_at (Term.int_eval (1)) rfl), trivial⟩ ⟨hq.1, hq.2.1, (hq.2.2.sift fun y hy => Or.inr (N y hy)).mono (by decide) (by decide)⟩⟩
theorem main_1_1 : Claimed_1_1 := comes_1 fun _ _ _ _ _ _ h hF => ⟨h.1, hF⟩
theorem main_1_2 : Claimed_1_2 := comes_1 fun _ _ _ _ _ _ h hF => ⟨h.2.1, hF⟩
end Jvm.Pilot.@@N@@
namespace Jvm.Pilot.@@N@@
open Jvm Jvm.ClassFile Sem Op Lib Jvm.Free Jvm.Stand Jvm.Pilot.@@N@@.Jvm.D
/-! MADE BY PROGRAM (witnessworld.py) out of the Statement's table words and the real class files: 22 classes; the members and pool entries that the words name. The judged class is class 1, her method 1. -/
namespace start1
open Jvm.ClassFile
def u (s : String) : CpInfo := .utf8 (stringToUtf16 s)
/-- a pool by its gaps: so many unusable entries, then the entry; so many at the end -/
def gap : Nat → List CpInfo → List CpInfo
  | 0, r => r
  | n + 1, r => .unusable :: gap n r
def poolList (es : List (Nat × CpInfo)) (last : Nat) : List CpInfo := es.foldr (fun e r => gap e.1 (e.2 :: r)) (gap last [])
def pool (es : List (Nat × CpInfo)) (last : Nat) : Array CpInfo := ⟨poolList es last⟩
def fileOf (pool : Array CpInfo) (this : Nat) (attrs : Array Attribute := #[]) (ms : Array MethodInfo := #[]) (fl : Nat := 33) (sup : Nat := 0) (ifs : Array Nat := #[]) (fds : Array FieldInfo := #[]) : ClassFile where
  minorVersion := 0
  majorVersion := 65
  constantPool := pool
  accessFlags := fl
  thisClass := this
  superClass := sup
  interfaces := ifs
  fields := fds
  methods := ms
  attributes := attrs
def plain (name : String) (sup : Option ClassId) : Class where
  name := name
  kind := .ordinary
  loader := none
  accessFlags := 33
  super := sup
  interfaces := #[]
  cf := none
  fields := #[]
  methods := #[]
  instanceTypes := #[]
  staticTypes := #[]
  resolved := #[]
  callSites := []
  init := .initialized
  statics := none
  mirror := none

def pool0 : Array CpInfo := pool [(5, u "<init>"), (0, u "()V"), (1, .class_ 10), (1, u "java/lang/Object"), (85, u "clone"), (0, u "()Ljava/lang/Object;")] 26

def k0c0 : Code := { maxStack := 0, maxLocals := 1, code := object_method_1_code, exceptionTable := #[], attributes := #[] }
def k0m0 : Method := { name := "<init>", desc := "()V", sig := { parameters := [], returnType := none }, accessFlags := 1, code := some k0c0 }
def k0m1 : Method := { name := "clone", desc := "()Ljava/lang/Object;", sig := { parameters := [], returnType := some (.object "java/lang/Object") }, accessFlags := 260, code := none }
/-- java/lang/Object -/
def k0 : Class := { plain "java/lang/Object" none with
  accessFlags := 33
  interfaces := #[]
  cf := some (fileOf pool0 8 #[] #[{ accessFlags := 1, nameIndex := 5, descriptorIndex := 6, attributes := #[] }, { accessFlags := 260, nameIndex := 96, descriptorIndex := 97, attributes := #[] }] 33 0 #[] #[])
  fields := #[]
  methods := #[k0m0, k0m1]
  instanceTypes := #[]
  staticTypes := #[]
  resolved := Array.replicate 124 none
  statics := none }

def pool1 : Array CpInfo := pool [(2, .class_ 4), (1, u "java/lang/Object"), (0, u "<init>"), (0, u "()V"), (0, .fieldref 8 9), (0, .class_ 10), (0, .nameAndType 11 12), (0, u "com/example/need_to_know/needtoknow/Mode"), (0, u "READ"), (0, u "Lcom/example/need_to_know/needtoknow/Mode;"), (0, .fieldref 8 14), (0, .nameAndType 15 12), (0, u "WRITE"), (0, .fieldref 8 17), (0, .nameAndType 18 12), (0, u "APPEND"), (0, .fieldref 8 20), (0, .nameAndType 21 12), (0, u "EXECUTE"), (0, .class_ 23), (0, u "java/lang/String"), (0, .methodref 22 25), (0, .nameAndType 5 26), (0, u "([C)V"), (0, .methodref 8 28), (0, .nameAndType 29 30), (0, u "of"), (0, u "(Ljava/lang/String;)Lcom/example/need_to_know/needtoknow/Mode;"), (0, .methodref 8 32), (0, .nameAndType 33 34), (0, u "letter"), (0, u "()C"), (0, .methodref 8 36), (0, .nameAndType 37 38), (0, u "observes"), (0, u "()Z"), (0, .methodref 8 40), (0, .nameAndType 41 38), (0, u "alters"), (0, .class_ 43), (0, u "com/example/need_to_know/needtoknow/ModeOfPinLaw"), (2, u "law"), (0, u "(I)Z")] 5

def k1m0 : Method := { name := "<init>", desc := "()V", sig := { parameters := [], returnType := none }, accessFlags := 1, code := none }
def k1c1 : Code := { maxStack := 3, maxLocals := 8, code := code, exceptionTable := #[], attributes := #[] }
def k1m1 : Method := { name := "law", desc := "(I)Z", sig := { parameters := [.int], returnType := some .boolean }, accessFlags := 9, code := some k1c1 }
/-- com/example/need_to_know/needtoknow/ModeOfPinLaw -/
def k1 : Class := { plain "com/example/need_to_know/needtoknow/ModeOfPinLaw" (some 0) with
  accessFlags := 49
  interfaces := #[]
  cf := some (fileOf pool1 42 #[] #[{ accessFlags := 1, nameIndex := 5, descriptorIndex := 6, attributes := #[] }, { accessFlags := 9, nameIndex := 46, descriptorIndex := 47, attributes := #[] }] 49 2 #[] #[])
  fields := #[]
  methods := #[k1m0, k1m1]
  instanceTypes := #[]
  staticTypes := #[]
  resolved := Array.replicate 53 none
  statics := none }

def pool2 : Array CpInfo := pool [(1, .class_ 2), (0, u "java/lang/constant/Constable"), (0, .class_ 4), (0, u "java/lang/Object")] 6

/-- java/lang/constant/Constable -/
def k2 : Class := { plain "java/lang/constant/Constable" (some 0) with
  accessFlags := 1537
  interfaces := #[]
  cf := some (fileOf pool2 1 #[] #[] 1537 3 #[] #[])
  fields := #[]
  methods := #[]
  instanceTypes := #[]
  staticTypes := #[]
  resolved := Array.replicate 11 none
  statics := none }

def pool3 : Array CpInfo := pool [(1, .class_ 2), (0, u "java/lang/Comparable"), (0, .class_ 4), (0, u "java/lang/Object")] 7

/-- java/lang/Comparable -/
def k3 : Class := { plain "java/lang/Comparable" (some 0) with
  accessFlags := 1537
  interfaces := #[]
  cf := some (fileOf pool3 1 #[] #[] 1537 3 #[] #[])
  fields := #[]
  methods := #[]
  instanceTypes := #[]
  staticTypes := #[]
  resolved := Array.replicate 12 none
  statics := none }

def pool4 : Array CpInfo := pool [(1, .class_ 2), (0, u "java/io/Serializable"), (0, .class_ 4), (0, u "java/lang/Object")] 2

/-- java/io/Serializable -/
def k4 : Class := { plain "java/io/Serializable" (some 0) with
  accessFlags := 1537
  interfaces := #[]
  cf := some (fileOf pool4 1 #[] #[] 1537 3 #[] #[])
  fields := #[]
  methods := #[]
  instanceTypes := #[]
  staticTypes := #[]
  resolved := Array.replicate 7 none
  statics := none }

def pool5 : Array CpInfo := pool [(2, .class_ 4), (1, u "java/lang/Enum"), (0, u "name"), (0, u "Ljava/lang/String;"), (2, u "ordinal"), (0, u "I"), (1, .class_ 14), (1, u "java/lang/Object"), (4, u "hash"), (86, .class_ 108), (1, u "java/lang/Enum$EnumDesc"), (2, .class_ 112), (0, u "java/lang/constant/Constable"), (0, .class_ 114), (0, u "java/lang/Comparable"), (0, .class_ 116), (0, u "java/io/Serializable")] 87

/-- java/lang/Enum -/
def k5 : Class := { plain "java/lang/Enum" (some 0) with
  accessFlags := 1057
  interfaces := #[2, 3, 4]
  cf := some (fileOf pool5 2 #[.nestMembers #[106]] #[] 1057 12 #[111, 113, 115] #[{ accessFlags := 18, nameIndex := 5, descriptorIndex := 6, attributes := #[] }, { accessFlags := 18, nameIndex := 9, descriptorIndex := 10, attributes := #[] }, { accessFlags := 2, nameIndex := 19, descriptorIndex := 10, attributes := #[] }])
  fields := #[{ name := "name", type := (.object "java/lang/String"), accessFlags := 18, slot := 0, constantValue := 0 }, { name := "ordinal", type := .int, accessFlags := 18, slot := 1, constantValue := 0 }, { name := "hash", type := .int, accessFlags := 2, slot := 2, constantValue := 0 }]
  methods := #[]
  instanceTypes := #[(.object "java/lang/String"), .int, .int]
  staticTypes := #[]
  resolved := Array.replicate 204 none
  statics := none }

def pool6 : Array CpInfo := pool [(1, .class_ 2), (0, u "com/example/need_to_know/needtoknow/Mode"), (2, u "READ"), (0, u "Lcom/example/need_to_know/needtoknow/Mode;"), (2, u "WRITE"), (2, u "APPEND"), (2, u "EXECUTE"), (0, .fieldref 1 17), (0, .nameAndType 18 19), (0, u "$VALUES"), (0, u "[Lcom/example/need_to_know/needtoknow/Mode;"), (0, .methodref 21 22), (0, .class_ 19), (0, .nameAndType 23 24), (0, u "clone"), (0, u "()Ljava/lang/Object;"), (1, .class_ 28), (1, u "java/lang/Enum"), (6, .fieldref 1 36), (0, .nameAndType 37 38), (0, u "letter"), (0, u "C"), (0, .fieldref 1 40), (0, .nameAndType 41 42), (0, u "observes"), (0, u "Z"), (0, .fieldref 1 44), (0, .nameAndType 45 42), (0, u "alters"), (0, .methodref 47 48), (0, .class_ 49), (0, .nameAndType 50 51), (0, u "java/lang/String"), (0, u "length"), (0, u "()I"), (0, .methodref 1 53), (0, .nameAndType 54 55), (0, u "values"), (0, u "()[Lcom/example/need_to_know/needtoknow/Mode;"), (0, .methodref 47 57), (0, .nameAndType 58 59), (0, u "charAt"), (0, u "(I)C"), (12, u "()Z"), (30, u "of"), (0, u "(Ljava/lang/String;)Lcom/example/need_to_know/needtoknow/Mode;"), (21, u "()C")] 38

def k6c0 : Code := { maxStack := 1, maxLocals := 0, code := prog_20_method_1_code, exceptionTable := #[], attributes := #[] }
def k6m0 : Method := { name := "values", desc := "()[Lcom/example/need_to_know/needtoknow/Mode;", sig := { parameters := [], returnType := some (.array (.object "com/example/need_to_know/needtoknow/Mode")) }, accessFlags := 9, code := some k6c0 }
def k6c1 : Code := { maxStack := 1, maxLocals := 1, code := prog_20_method_4_code, exceptionTable := #[], attributes := #[] }
def k6m1 : Method := { name := "letter", desc := "()C", sig := { parameters := [], returnType := some .char }, accessFlags := 1, code := some k6c1 }
def k6c2 : Code := { maxStack := 1, maxLocals := 1, code := prog_20_method_5_code, exceptionTable := #[], attributes := #[] }
def k6m2 : Method := { name := "observes", desc := "()Z", sig := { parameters := [], returnType := some .boolean }, accessFlags := 1, code := some k6c2 }
def k6c3 : Code := { maxStack := 1, maxLocals := 1, code := prog_20_method_6_code, exceptionTable := #[], attributes := #[] }
def k6m3 : Method := { name := "alters", desc := "()Z", sig := { parameters := [], returnType := some .boolean }, accessFlags := 1, code := some k6c3 }
def k6c4 : Code := { maxStack := 3, maxLocals := 5, code := prog_20_method_7_code, exceptionTable := #[], attributes := #[] }
def k6m4 : Method := { name := "of", desc := "(Ljava/lang/String;)Lcom/example/need_to_know/needtoknow/Mode;", sig := { parameters := [(.object "java/lang/String")], returnType := some (.object "com/example/need_to_know/needtoknow/Mode") }, accessFlags := 9, code := some k6c4 }
/-- com/example/need_to_know/needtoknow/Mode -/
def k6 : Class := { plain "com/example/need_to_know/needtoknow/Mode" (some 5) with
  accessFlags := 16433
  interfaces := #[]
  cf := some (fileOf pool6 1 #[] #[{ accessFlags := 9, nameIndex := 54, descriptorIndex := 55, attributes := #[] }, { accessFlags := 1, nameIndex := 37, descriptorIndex := 126, attributes := #[] }, { accessFlags := 1, nameIndex := 41, descriptorIndex := 72, attributes := #[] }, { accessFlags := 1, nameIndex := 45, descriptorIndex := 72, attributes := #[] }, { accessFlags := 9, nameIndex := 103, descriptorIndex := 104, attributes := #[] }] 16433 26 #[] #[{ accessFlags := 16409, nameIndex := 5, descriptorIndex := 6, attributes := #[] }, { accessFlags := 16409, nameIndex := 9, descriptorIndex := 6, attributes := #[] }, { accessFlags := 16409, nameIndex := 12, descriptorIndex := 6, attributes := #[] }, { accessFlags := 16409, nameIndex := 15, descriptorIndex := 6, attributes := #[] }, { accessFlags := 18, nameIndex := 37, descriptorIndex := 38, attributes := #[] }, { accessFlags := 18, nameIndex := 41, descriptorIndex := 42, attributes := #[] }, { accessFlags := 18, nameIndex := 45, descriptorIndex := 42, attributes := #[] }, { accessFlags := 4122, nameIndex := 18, descriptorIndex := 19, attributes := #[] }])
  fields := #[{ name := "READ", type := (.object "com/example/need_to_know/needtoknow/Mode"), accessFlags := 16409, slot := 0, constantValue := 0 }, { name := "WRITE", type := (.object "com/example/need_to_know/needtoknow/Mode"), accessFlags := 16409, slot := 1, constantValue := 0 }, { name := "APPEND", type := (.object "com/example/need_to_know/needtoknow/Mode"), accessFlags := 16409, slot := 2, constantValue := 0 }, { name := "EXECUTE", type := (.object "com/example/need_to_know/needtoknow/Mode"), accessFlags := 16409, slot := 3, constantValue := 0 }, { name := "letter", type := .char, accessFlags := 18, slot := 3, constantValue := 0 }, { name := "observes", type := .boolean, accessFlags := 18, slot := 4, constantValue := 0 }, { name := "alters", type := .boolean, accessFlags := 18, slot := 5, constantValue := 0 }, { name := "$VALUES", type := (.array (.object "com/example/need_to_know/needtoknow/Mode")), accessFlags := 4122, slot := 4, constantValue := 0 }]
  methods := #[k6m0, k6m1, k6m2, k6m3, k6m4]
  instanceTypes := #[(.object "java/lang/String"), .int, .int, .char, .boolean, .boolean]
  staticTypes := #[(.object "com/example/need_to_know/needtoknow/Mode"), (.object "com/example/need_to_know/needtoknow/Mode"), (.object "com/example/need_to_know/needtoknow/Mode"), (.object "com/example/need_to_know/needtoknow/Mode"), (.array (.object "com/example/need_to_know/needtoknow/Mode"))]
  resolved := Array.replicate 165 none
  statics := some 0 }

def pool7 : Array CpInfo := pool [(2, .class_ 4), (1, u "java/lang/CharSequence"), (42, .class_ 48), (0, u "java/lang/CharSequence$1CodePointIterator"), (10, .class_ 60), (0, u "java/lang/CharSequence$1CharIterator"), (5, .class_ 67), (0, u "java/lang/Object")] 63

/-- java/lang/CharSequence -/
def k7 : Class := { plain "java/lang/CharSequence" (some 0) with
  accessFlags := 1537
  interfaces := #[]
  cf := some (fileOf pool7 2 #[.nestMembers #[47, 59]] #[] 1537 66 #[] #[])
  fields := #[]
  methods := #[]
  instanceTypes := #[]
  staticTypes := #[]
  resolved := Array.replicate 131 none
  statics := none }

def pool8 : Array CpInfo := pool [(1, .class_ 2), (0, u "java/lang/constant/ConstantDesc"), (0, .class_ 4), (0, u "java/lang/Object")] 32

/-- java/lang/constant/ConstantDesc -/
def k8 : Class := { plain "java/lang/constant/ConstantDesc" (some 0) with
  accessFlags := 1537
  interfaces := #[]
  cf := some (fileOf pool8 1 #[] #[] 1537 3 #[] #[])
  fields := #[]
  methods := #[]
  instanceTypes := #[]
  staticTypes := #[]
  resolved := Array.replicate 37 none
  statics := none }

def pool9 : Array CpInfo := pool [(1, .methodref 2 3), (0, .class_ 4), (0, .nameAndType 5 6), (0, u "java/lang/Object"), (0, u "<init>"), (0, u "()V"), (2, .fieldref 10 11), (0, .class_ 12), (0, .nameAndType 13 14), (0, u "java/lang/String"), (0, u "value"), (0, u "[B"), (0, .fieldref 10 16), (0, .nameAndType 17 18), (0, u "coder"), (0, u "B"), (2, u "hash"), (0, u "I"), (2, u "hashIsZero"), (0, u "Z"), (0, .methodref 10 28), (0, .nameAndType 5 29), (0, u "([CIILjava/lang/Void;)V"), (8, .fieldref 10 39), (0, .nameAndType 40 26), (0, u "COMPACT_STRINGS"), (1, .class_ 44), (1, u "java/lang/StringUTF16"), (0, u "compress"), (1, .methodref 42 48), (0, .nameAndType 49 50), (0, u "coderFromArrayLen"), (0, u "([BI)B"), (56, .class_ 109), (1, u "java/lang/StringLatin1"), (32, u "()Z"), (34, .methodref 42 178), (0, .nameAndType 45 179), (0, u "([CII)[B"), (154, u "()I"), (0, .methodref 10 336), (0, .nameAndType 17 337), (0, u "()B"), (25, u "([BI)C"), (27, u "(II)V"), (35, u "(I)C"), (64, .methodref 10 493), (0, .nameAndType 494 142), (0, u "isLatin1"), (0, .methodref 107 496), (0, .nameAndType 497 363), (0, u "charAt"), (3, u "checkIndex"), (5, u "length"), (67, .class_ 576), (0, u "java/lang/CharSequence"), (22, u "CASE_INSENSITIVE_ORDER"), (0, u "Ljava/util/Comparator;"), (409, u "([C)V"), (42, .fieldref 1054 1055), (0, .class_ 1056), (0, .nameAndType 1057 1058), (0, u "jdk/internal/util/Preconditions"), (0, u "SIOOBE_FORMATTER"), (0, u "Ljava/util/function/BiFunction;"), (0, .methodref 1054 1060), (0, .nameAndType 501 1061), (0, u "(IILjava/util/function/BiFunction;)I"), (39, u "serialPersistentFields"), (0, u "[Ljava/io/ObjectStreamField;"), (0, .class_ 1104), (0, u "java/lang/String$CaseInsensitiveComparator"), (1, .class_ 1107), (0, u "java/io/Serializable"), (0, .class_ 1109), (0, u "java/lang/Comparable"), (0, .class_ 1111), (0, u "java/lang/constant/Constable"), (0, .class_ 1113), (0, u "java/lang/constant/ConstantDesc"), (2, u "serialVersionUID"), (0, u "J"), (3, u "REPL"), (0, u "C"), (2, u "LATIN1"), (1, u "UTF16")] 323

def k9m0 : Method := { name := "<init>", desc := "()V", sig := { parameters := [], returnType := none }, accessFlags := 1, code := none }
def k9c1 : Code := { maxStack := 5, maxLocals := 2, code := jdk_42_method_3_code, exceptionTable := #[], attributes := #[] }
def k9m1 : Method := { name := "<init>", desc := "([C)V", sig := { parameters := [(.array .char)], returnType := none }, accessFlags := 1, code := some k9c1 }
def k9c2 : Code := { maxStack := 2, maxLocals := 1, code := jdk_42_method_54_code, exceptionTable := #[], attributes := #[] }
def k9m2 : Method := { name := "length", desc := "()I", sig := { parameters := [], returnType := some .int }, accessFlags := 1, code := some k9c2 }
def k9c3 : Code := { maxStack := 2, maxLocals := 2, code := jdk_42_method_56_code, exceptionTable := #[], attributes := #[] }
def k9m3 : Method := { name := "charAt", desc := "(I)C", sig := { parameters := [.int], returnType := some .char }, accessFlags := 1, code := some k9c3 }
def k9c4 : Code := { maxStack := 4, maxLocals := 6, code := jdk_42_method_149_code, exceptionTable := #[], attributes := #[] }
def k9m4 : Method := { name := "<init>", desc := "([CIILjava/lang/Void;)V", sig := { parameters := [(.array .char), .int, .int, (.object "java/lang/Void")], returnType := none }, accessFlags := 2, code := some k9c4 }
def k9c5 : Code := { maxStack := 1, maxLocals := 1, code := jdk_42_method_152_code, exceptionTable := #[], attributes := #[] }
def k9m5 : Method := { name := "coder", desc := "()B", sig := { parameters := [], returnType := some .byte }, accessFlags := 0, code := some k9c5 }
def k9c6 : Code := { maxStack := 1, maxLocals := 1, code := jdk_42_method_154_code, exceptionTable := #[], attributes := #[] }
def k9m6 : Method := { name := "isLatin1", desc := "()Z", sig := { parameters := [], returnType := some .boolean }, accessFlags := 0, code := some k9c6 }
def k9c7 : Code := { maxStack := 3, maxLocals := 2, code := jdk_42_method_155_code, exceptionTable := #[], attributes := #[] }
def k9m7 : Method := { name := "checkIndex", desc := "(II)V", sig := { parameters := [.int, .int], returnType := none }, accessFlags := 8, code := some k9c7 }
/-- java/lang/String -/
def k9 : Class := { plain "java/lang/String" (some 0) with
  accessFlags := 49
  interfaces := #[4, 3, 7, 2, 8]
  cf := some (fileOf pool9 10 #[.nestMembers #[1103]] #[{ accessFlags := 1, nameIndex := 5, descriptorIndex := 6, attributes := #[] }, { accessFlags := 1, nameIndex := 5, descriptorIndex := 1010, attributes := #[] }, { accessFlags := 1, nameIndex := 507, descriptorIndex := 334, attributes := #[] }, { accessFlags := 1, nameIndex := 497, descriptorIndex := 427, attributes := #[] }, { accessFlags := 2, nameIndex := 5, descriptorIndex := 29, attributes := #[] }, { accessFlags := 0, nameIndex := 17, descriptorIndex := 337, attributes := #[] }, { accessFlags := 0, nameIndex := 494, descriptorIndex := 142, attributes := #[] }, { accessFlags := 8, nameIndex := 501, descriptorIndex := 391, attributes := #[] }] 49 2 #[1106, 1108, 575, 1110, 1112] #[{ accessFlags := 18, nameIndex := 13, descriptorIndex := 14, attributes := #[] }, { accessFlags := 18, nameIndex := 17, descriptorIndex := 18, attributes := #[] }, { accessFlags := 2, nameIndex := 21, descriptorIndex := 22, attributes := #[] }, { accessFlags := 2, nameIndex := 25, descriptorIndex := 26, attributes := #[] }, { accessFlags := 26, nameIndex := 1116, descriptorIndex := 1117, attributes := #[] }, { accessFlags := 24, nameIndex := 40, descriptorIndex := 26, attributes := #[] }, { accessFlags := 26, nameIndex := 1101, descriptorIndex := 1102, attributes := #[] }, { accessFlags := 26, nameIndex := 1121, descriptorIndex := 1122, attributes := #[] }, { accessFlags := 25, nameIndex := 599, descriptorIndex := 600, attributes := #[] }, { accessFlags := 24, nameIndex := 1125, descriptorIndex := 18, attributes := #[] }, { accessFlags := 24, nameIndex := 1127, descriptorIndex := 18, attributes := #[] }])
  fields := #[{ name := "value", type := (.array .byte), accessFlags := 18, slot := 0, constantValue := 0 }, { name := "coder", type := .byte, accessFlags := 18, slot := 1, constantValue := 0 }, { name := "hash", type := .int, accessFlags := 2, slot := 2, constantValue := 0 }, { name := "hashIsZero", type := .boolean, accessFlags := 2, slot := 3, constantValue := 0 }, { name := "serialVersionUID", type := .long, accessFlags := 26, slot := 0, constantValue := 0 }, { name := "COMPACT_STRINGS", type := .boolean, accessFlags := 24, slot := 1, constantValue := 0 }, { name := "serialPersistentFields", type := (.array (.object "java/io/ObjectStreamField")), accessFlags := 26, slot := 2, constantValue := 0 }, { name := "REPL", type := .char, accessFlags := 26, slot := 3, constantValue := 0 }, { name := "CASE_INSENSITIVE_ORDER", type := (.object "java/util/Comparator"), accessFlags := 25, slot := 4, constantValue := 0 }, { name := "LATIN1", type := .byte, accessFlags := 24, slot := 5, constantValue := 0 }, { name := "UTF16", type := .byte, accessFlags := 24, slot := 6, constantValue := 0 }]
  methods := #[k9m0, k9m1, k9m2, k9m3, k9m4, k9m5, k9m6, k9m7]
  instanceTypes := #[(.array .byte), .byte, .int, .boolean]
  staticTypes := #[.long, .boolean, (.array (.object "java/io/ObjectStreamField")), .char, (.object "java/util/Comparator"), .byte, .byte]
  resolved := Array.replicate 1451 none
  statics := some 1 }

def pool10 : Array CpInfo := pool [(6, .class_ 8), (1, u "java/lang/Object"), (0, u "<init>"), (0, u "()V"), (1, .class_ 14), (1, u "java/lang/StringUTF16"), (31, u "$assertionsDisabled"), (0, u "Z"), (13, u "HI_BYTE_SHIFT"), (0, u "I"), (2, u "LO_BYTE_SHIFT"), (49, .methodref 12 116), (0, .nameAndType 117 118), (0, u "compress"), (0, u "([CI[BII)I"), (3, u "([CII)[B"), (138, u "coderFromArrayLen"), (0, u "([BI)B"), (106, .class_ 371), (1, u "java/lang/StringUTF16$LinesSpliterator"), (58, u "MAX_LENGTH"), (196, .class_ 628), (0, u "java/lang/StringUTF16$CodePointsSpliterator"), (0, .class_ 630), (0, u "java/lang/StringUTF16$CharsSpliterator")] 4

def k10m0 : Method := { name := "<init>", desc := "()V", sig := { parameters := [], returnType := none }, accessFlags := 0, code := none }
def k10c1 : Code := { maxStack := 2, maxLocals := 2, code := jdk_52_method_15_code, exceptionTable := #[], attributes := #[] }
def k10m1 : Method := { name := "coderFromArrayLen", desc := "([BI)B", sig := { parameters := [(.array .byte), .int], returnType := some .byte }, accessFlags := 8, code := some k10c1 }
def k10c2 : Code := { maxStack := 5, maxLocals := 6, code := jdk_52_method_16_code, exceptionTable := #[], attributes := #[] }
def k10m2 : Method := { name := "compress", desc := "([CII)[B", sig := { parameters := [(.array .char), .int, .int], returnType := some (.array .byte) }, accessFlags := 9, code := some k10c2 }
def k10c3 : Code := { maxStack := 3, maxLocals := 7, code := jdk_52_method_21_code, exceptionTable := #[], attributes := #[] }
def k10m3 : Method := { name := "compress", desc := "([CI[BII)I", sig := { parameters := [(.array .char), .int, (.array .byte), .int, .int], returnType := some .int }, accessFlags := 9, code := some k10c3 }
/-- java/lang/StringUTF16 -/
def k10 : Class := { plain "java/lang/StringUTF16" (some 0) with
  accessFlags := 48
  interfaces := #[]
  cf := some (fileOf pool10 12 #[.nestMembers #[627, 629, 369]] #[{ accessFlags := 0, nameIndex := 9, descriptorIndex := 10, attributes := #[] }, { accessFlags := 8, nameIndex := 261, descriptorIndex := 262, attributes := #[] }, { accessFlags := 9, nameIndex := 117, descriptorIndex := 122, attributes := #[] }, { accessFlags := 9, nameIndex := 117, descriptorIndex := 118, attributes := #[] }] 48 6 #[] #[{ accessFlags := 26, nameIndex := 61, descriptorIndex := 62, attributes := #[] }, { accessFlags := 26, nameIndex := 65, descriptorIndex := 62, attributes := #[] }, { accessFlags := 24, nameIndex := 430, descriptorIndex := 62, attributes := #[] }, { accessFlags := 4120, nameIndex := 46, descriptorIndex := 47, attributes := #[] }])
  fields := #[{ name := "HI_BYTE_SHIFT", type := .int, accessFlags := 26, slot := 0, constantValue := 0 }, { name := "LO_BYTE_SHIFT", type := .int, accessFlags := 26, slot := 1, constantValue := 0 }, { name := "MAX_LENGTH", type := .int, accessFlags := 24, slot := 2, constantValue := 0 }, { name := "$assertionsDisabled", type := .boolean, accessFlags := 4120, slot := 3, constantValue := 0 }]
  methods := #[k10m0, k10m1, k10m2, k10m3]
  instanceTypes := #[]
  staticTypes := #[.int, .int, .int, .boolean]
  resolved := Array.replicate 635 none
  statics := none }

def pool11 : Array CpInfo := pool [(1, .class_ 2), (0, u "java/lang/Cloneable"), (0, .class_ 4), (0, u "java/lang/Object")] 2

/-- java/lang/Cloneable -/
def k11 : Class := { plain "java/lang/Cloneable" (some 0) with
  accessFlags := 1537
  interfaces := #[]
  cf := some (fileOf pool11 1 #[] #[] 1537 3 #[] #[])
  fields := #[]
  methods := #[]
  instanceTypes := #[]
  staticTypes := #[]
  resolved := Array.replicate 7 none
  statics := none }

def pool12 : Array CpInfo := pool [(1, .class_ 2), (0, u "java/lang/String"), (1, .class_ 6), (1, u "java/lang/Object"), (0, u "<init>"), (0, u "()V"), (0, .methodref 1 10), (0, .nameAndType 11 12), (0, u "checkIndex"), (0, u "(II)V"), (1, .class_ 16), (1, u "java/lang/StringLatin1"), (36, u "([BI)C"), (67, u "$assertionsDisabled"), (0, u "Z"), (98, .class_ 223), (1, u "java/lang/StringLatin1$LinesSpliterator"), (28, u "charAt"), (137, .class_ 391), (0, u "java/lang/StringLatin1$CharsSpliterator")] 3

def k12m0 : Method := { name := "<init>", desc := "()V", sig := { parameters := [], returnType := none }, accessFlags := 0, code := none }
def k12c1 : Code := { maxStack := 2, maxLocals := 2, code := jdk_43_method_2_code, exceptionTable := #[], attributes := #[] }
def k12m1 : Method := { name := "charAt", desc := "([BI)C", sig := { parameters := [(.array .byte), .int], returnType := some .char }, accessFlags := 9, code := some k12c1 }
/-- java/lang/StringLatin1 -/
def k12 : Class := { plain "java/lang/StringLatin1" (some 0) with
  accessFlags := 48
  interfaces := #[]
  cf := some (fileOf pool12 14 #[.nestMembers #[390, 221]] #[{ accessFlags := 0, nameIndex := 7, descriptorIndex := 8, attributes := #[] }, { accessFlags := 9, nameIndex := 252, descriptorIndex := 53, attributes := #[] }] 48 4 #[] #[{ accessFlags := 4120, nameIndex := 121, descriptorIndex := 122, attributes := #[] }])
  fields := #[{ name := "$assertionsDisabled", type := .boolean, accessFlags := 4120, slot := 0, constantValue := 0 }]
  methods := #[k12m0, k12m1]
  instanceTypes := #[]
  staticTypes := #[.boolean]
  resolved := Array.replicate 395 none
  statics := none }

def pool13 : Array CpInfo := pool [(2, .class_ 4), (1, u "java/lang/Object"), (0, u "<init>"), (0, u "()V"), (17, .class_ 26), (1, u "jdk/internal/util/Preconditions"), (6, u "checkIndex"), (21, .class_ 56), (0, u "jdk/internal/util/Preconditions$4"), (57, .class_ 115), (0, u "jdk/internal/util/Preconditions$1"), (7, u "SIOOBE_FORMATTER"), (0, u "Ljava/util/function/BiFunction;"), (0, .class_ 126), (0, u "jdk/internal/util/Preconditions$2"), (3, u "AIOOBE_FORMATTER"), (0, .class_ 132), (0, u "jdk/internal/util/Preconditions$3"), (3, u "IOOBE_FORMATTER"), (41, u "(IILjava/util/function/BiFunction;)I")] 15

def k13m0 : Method := { name := "<init>", desc := "()V", sig := { parameters := [], returnType := none }, accessFlags := 1, code := none }
def k13c1 : Code := { maxStack := 3, maxLocals := 3, code := jdk_41_method_11_code, exceptionTable := #[], attributes := #[] }
def k13m1 : Method := { name := "checkIndex", desc := "(IILjava/util/function/BiFunction;)I", sig := { parameters := [.int, .int, (.object "java/util/function/BiFunction")], returnType := some .int }, accessFlags := 9, code := some k13c1 }
/-- jdk/internal/util/Preconditions -/
def k13 : Class := { plain "jdk/internal/util/Preconditions" (some 0) with
  accessFlags := 33
  interfaces := #[]
  cf := some (fileOf pool13 24 #[.nestMembers #[55, 131, 125, 114]] #[{ accessFlags := 1, nameIndex := 5, descriptorIndex := 6, attributes := #[] }, { accessFlags := 9, nameIndex := 33, descriptorIndex := 178, attributes := #[] }] 33 2 #[] #[{ accessFlags := 25, nameIndex := 123, descriptorIndex := 124, attributes := #[] }, { accessFlags := 25, nameIndex := 130, descriptorIndex := 124, attributes := #[] }, { accessFlags := 25, nameIndex := 136, descriptorIndex := 124, attributes := #[] }])
  fields := #[{ name := "SIOOBE_FORMATTER", type := (.object "java/util/function/BiFunction"), accessFlags := 25, slot := 0, constantValue := 0 }, { name := "AIOOBE_FORMATTER", type := (.object "java/util/function/BiFunction"), accessFlags := 25, slot := 1, constantValue := 0 }, { name := "IOOBE_FORMATTER", type := (.object "java/util/function/BiFunction"), accessFlags := 25, slot := 2, constantValue := 0 }]
  methods := #[k13m0, k13m1]
  instanceTypes := #[]
  staticTypes := #[(.object "java/util/function/BiFunction"), (.object "java/util/function/BiFunction"), (.object "java/util/function/BiFunction")]
  resolved := Array.replicate 194 none
  statics := some 2 }

def pool14 : Array CpInfo := pool [(9, u "<init>"), (6, .class_ 18), (1, u "java/lang/Object"), (0, u "()V"), (1, .class_ 23), (1, u "jdk/internal/util/ArraysSupport"), (0, u "LOG2_ARRAY_LONG_INDEX_SCALE"), (0, u "I"), (2, u "U"), (0, u "Ljdk/internal/misc/Unsafe;"), (8, u "BIG_ENDIAN"), (0, u "Z"), (8, u "LOG2_BYTE_BIT_SIZE"), (4, u "LOG2_ARRAY_INT_INDEX_SCALE"), (54, u "JLA"), (0, u "Ljdk/internal/access/JavaLangAccess;"), (11, u "LOG2_ARRAY_BOOLEAN_INDEX_SCALE"), (9, u "LOG2_ARRAY_BYTE_INDEX_SCALE"), (5, u "LOG2_ARRAY_CHAR_INDEX_SCALE"), (5, u "LOG2_ARRAY_SHORT_INDEX_SCALE"), (18, u "LOG2_ARRAY_FLOAT_INDEX_SCALE"), (24, u "LOG2_ARRAY_DOUBLE_INDEX_SCALE"), (89, u "T_BOOLEAN"), (2, u "T_CHAR"), (1, u "T_FLOAT"), (1, u "T_DOUBLE"), (1, u "T_BYTE"), (1, u "T_SHORT"), (1, u "T_INT"), (1, u "T_LONG"), (1, u "SOFT_MAX_ARRAY_LENGTH")] 83

def k14m0 : Method := { name := "<init>", desc := "()V", sig := { parameters := [], returnType := none }, accessFlags := 2, code := none }
/-- jdk/internal/util/ArraysSupport -/
def k14 : Class := { plain "jdk/internal/util/ArraysSupport" (some 0) with
  accessFlags := 33
  interfaces := #[]
  cf := some (fileOf pool14 21 #[] #[{ accessFlags := 2, nameIndex := 9, descriptorIndex := 19, attributes := #[] }] 33 16 #[] #[{ accessFlags := 24, nameIndex := 28, descriptorIndex := 29, attributes := #[] }, { accessFlags := 26, nameIndex := 38, descriptorIndex := 39, attributes := #[] }, { accessFlags := 25, nameIndex := 121, descriptorIndex := 25, attributes := #[] }, { accessFlags := 25, nameIndex := 131, descriptorIndex := 25, attributes := #[] }, { accessFlags := 25, nameIndex := 137, descriptorIndex := 25, attributes := #[] }, { accessFlags := 25, nameIndex := 143, descriptorIndex := 25, attributes := #[] }, { accessFlags := 25, nameIndex := 53, descriptorIndex := 25, attributes := #[] }, { accessFlags := 25, nameIndex := 24, descriptorIndex := 25, attributes := #[] }, { accessFlags := 25, nameIndex := 162, descriptorIndex := 25, attributes := #[] }, { accessFlags := 25, nameIndex := 187, descriptorIndex := 25, attributes := #[] }, { accessFlags := 26, nameIndex := 48, descriptorIndex := 25, attributes := #[] }, { accessFlags := 25, nameIndex := 277, descriptorIndex := 25, attributes := #[] }, { accessFlags := 25, nameIndex := 280, descriptorIndex := 25, attributes := #[] }, { accessFlags := 25, nameIndex := 282, descriptorIndex := 25, attributes := #[] }, { accessFlags := 25, nameIndex := 284, descriptorIndex := 25, attributes := #[] }, { accessFlags := 25, nameIndex := 286, descriptorIndex := 25, attributes := #[] }, { accessFlags := 25, nameIndex := 288, descriptorIndex := 25, attributes := #[] }, { accessFlags := 25, nameIndex := 290, descriptorIndex := 25, attributes := #[] }, { accessFlags := 25, nameIndex := 292, descriptorIndex := 25, attributes := #[] }, { accessFlags := 26, nameIndex := 108, descriptorIndex := 109, attributes := #[] }, { accessFlags := 25, nameIndex := 294, descriptorIndex := 25, attributes := #[] }])
  fields := #[{ name := "U", type := (.object "jdk/internal/misc/Unsafe"), accessFlags := 24, slot := 0, constantValue := 0 }, { name := "BIG_ENDIAN", type := .boolean, accessFlags := 26, slot := 1, constantValue := 0 }, { name := "LOG2_ARRAY_BOOLEAN_INDEX_SCALE", type := .int, accessFlags := 25, slot := 2, constantValue := 0 }, { name := "LOG2_ARRAY_BYTE_INDEX_SCALE", type := .int, accessFlags := 25, slot := 3, constantValue := 0 }, { name := "LOG2_ARRAY_CHAR_INDEX_SCALE", type := .int, accessFlags := 25, slot := 4, constantValue := 0 }, { name := "LOG2_ARRAY_SHORT_INDEX_SCALE", type := .int, accessFlags := 25, slot := 5, constantValue := 0 }, { name := "LOG2_ARRAY_INT_INDEX_SCALE", type := .int, accessFlags := 25, slot := 6, constantValue := 0 }, { name := "LOG2_ARRAY_LONG_INDEX_SCALE", type := .int, accessFlags := 25, slot := 7, constantValue := 0 }, { name := "LOG2_ARRAY_FLOAT_INDEX_SCALE", type := .int, accessFlags := 25, slot := 8, constantValue := 0 }, { name := "LOG2_ARRAY_DOUBLE_INDEX_SCALE", type := .int, accessFlags := 25, slot := 9, constantValue := 0 }, { name := "LOG2_BYTE_BIT_SIZE", type := .int, accessFlags := 26, slot := 10, constantValue := 0 }, { name := "T_BOOLEAN", type := .int, accessFlags := 25, slot := 11, constantValue := 0 }, { name := "T_CHAR", type := .int, accessFlags := 25, slot := 12, constantValue := 0 }, { name := "T_FLOAT", type := .int, accessFlags := 25, slot := 13, constantValue := 0 }, { name := "T_DOUBLE", type := .int, accessFlags := 25, slot := 14, constantValue := 0 }, { name := "T_BYTE", type := .int, accessFlags := 25, slot := 15, constantValue := 0 }, { name := "T_SHORT", type := .int, accessFlags := 25, slot := 16, constantValue := 0 }, { name := "T_INT", type := .int, accessFlags := 25, slot := 17, constantValue := 0 }, { name := "T_LONG", type := .int, accessFlags := 25, slot := 18, constantValue := 0 }, { name := "JLA", type := (.object "jdk/internal/access/JavaLangAccess"), accessFlags := 26, slot := 19, constantValue := 0 }, { name := "SOFT_MAX_ARRAY_LENGTH", type := .int, accessFlags := 25, slot := 20, constantValue := 0 }]
  methods := #[k14m0]
  instanceTypes := #[]
  staticTypes := #[(.object "jdk/internal/misc/Unsafe"), .boolean, .int, .int, .int, .int, .int, .int, .int, .int, .int, .int, .int, .int, .int, .int, .int, .int, .int, (.object "jdk/internal/access/JavaLangAccess"), .int]
  resolved := Array.replicate 378 none
  statics := none }

/-- the primitive byte -/
def k15 : Class := { plain "byte" none with kind := .primitive 'B', accessFlags := 0x411 }
/-- [B -/
def k16 : Class := { plain "[B" (some 0) with kind := .array 15 .byte, interfaces := #[11, 4], accessFlags := 1041 }

/-- the primitive char -/
def k17 : Class := { plain "char" none with kind := .primitive 'C', accessFlags := 0x411 }
/-- [C -/
def k18 : Class := { plain "[C" (some 0) with kind := .array 17 .char, interfaces := #[11, 4], accessFlags := 1041 }

/-- the primitive int -/
def k19 : Class := { plain "int" none with kind := .primitive 'I', accessFlags := 0x411 }
/-- [I -/
def k20 : Class := { plain "[I" (some 0) with kind := .array 19 .int, interfaces := #[11, 4], accessFlags := 1041 }

/-- [Lcom/example/need_to_know/needtoknow/Mode; -/
def k21 : Class := { plain "[Lcom/example/need_to_know/needtoknow/Mode;" (some 0) with kind := .array 6 (.object "com/example/need_to_know/needtoknow/Mode"), interfaces := #[11, 4], accessFlags := 1041 }

def heap : Heap := #[{ cls := 6, slots := #[.ref 4, .ref 5, .ref 6, .ref 7, .ref 3], vm := .statics 6 },
  { cls := 9, slots := #[.long 0, .int 1, .null, .int 0, .null, .int 0, .int 0], vm := .statics 9 },
  { cls := 13, slots := #[.null, .null, .null], vm := .statics 13 },
  { cls := 21, slots := #[.ref 4, .ref 5, .ref 6, .ref 7], vm := .none },
  { cls := 6, slots := #[.null, .int 0, .int 0, .int 114, .int 1, .int 0], vm := .none },
  { cls := 6, slots := #[.null, .int 1, .int 0, .int 119, .int 1, .int 1], vm := .none },
  { cls := 6, slots := #[.null, .int 2, .int 0, .int 97, .int 0, .int 1], vm := .none },
  { cls := 6, slots := #[.null, .int 3, .int 0, .int 101, .int 0, .int 0], vm := .none }]
def classes : Array Class := #[k0, k1, k2, k3, k4, k5, k6, k7, k8, k9, k10, k11, k12, k13, k14, k15, k16, k17, k18, k19, k20, k21]
def interned : List (Array UInt16 × Addr) := []
def slotsUsed : Nat := 43
def theMethod : MethodId := ⟨1, 1⟩
def args0 : Array Value := #[.int 5]
def aboutOver (below : List Frame) : State where
  vm := { classes := classes, interned := interned.toArray }
  heap := heap
  slotsUsed := slotsUsed
  threads := #[{ frames := .invoking theMethod args0 :: below }]
def below0 : List Frame := [.native { method := ⟨0, 0⟩, args := #[] }]
def about1 : State := aboutOver below0
def p0 : Program := .bare "" "" ""
def e0 : Env := launch0.env 0 0 0
theorem w_frames : about1.frames = Frame.invoking theMethod args0 :: below0 := rfl
set_option maxRecDepth 65536 in
theorem w_args : argsFit about1.vm theMethod args0 = true := by decide +kernel
set_option maxRecDepth 65536 in
theorem w_heap : heapFits about1 = true := by decide +kernel
set_option maxRecDepth 65536 in
theorem w_runnable : about1.curStatus? = some .runnable := by decide +kernel
set_option maxRecDepth 65536 in
theorem w_alone : about1.alone = true := by decide +kernel
set_option maxRecDepth 65536 in
theorem w_named : about1.methodNamed? x = some theMethod := by decide +kernel
set_option maxRecDepth 65536 in
theorem w_hears : about1.hears theMethod below0 = true := by decide +kernel
set_option maxRecDepth 65536 in
theorem w_ripe : about1.ripe theMethod args0 below0 = true := by decide +kernel
theorem w_running : about1.status = .running := rfl
set_option maxRecDepth 65536 in
theorem w_room : about1.hasRoom e0.platform room_1 = true :=
  launch0.hasRoom_least _ room_1 (by decide +kernel) (by decide +kernel) (by decide +kernel) (by decide +kernel) (by decide +kernel) (by decide +kernel)
theorem allAtoms_all (ts : List Jvm.Cond) (a : Array Jvm.Value) (st : Jvm.State) : (allAtoms ts).before a st = ts.all (fun c => c.before a st) := by
  induction ts with
  | nil => rfl
  | cons c t ih =>
    show (Jvm.Cond.and c (allAtoms t)).before a st = _
    rw [Jvm.Cond.before_and, ih, List.all_cons]
def words1 : List Jvm.Cond := Jvm.Cond.code x code maxLocals ret :: tables_1
/-- a 'code' word, met by the world's own term for the bytes: nothing is compared byte by byte -/
theorem code_word {y : MethodName} {bytes : ByteArray} {mx : Nat} {rt : Option FieldType} {a : Array Value} {s : State} {m : MethodId} {meth : Method} {c : Code} (h1 : s.methodNamed? y = some m) (h2 : s.vm.method? m = some meth) (h3 : meth.code = some c) (h4 : c.code = bytes)
    (h5 : (c.maxLocals == mx && c.exceptionTable.isEmpty && decide (c.maxStack ≤ mostOperands) && decide (meth.sig.returnType = rt) && !meth.locks && decide (parseMethodDescriptor y.desc = some meth.sig)) = true) : (Jvm.Cond.code y bytes mx rt).before a s = true := by
  simp only [Bool.and_eq_true, beq_iff_eq, Bool.not_eq_true', decide_eq_true_eq] at h5
  obtain ⟨⟨⟨⟨⟨g1, g2⟩, g3⟩, g4⟩, g5⟩, g6⟩ := h5
  simp [Cond.before, Cond.holds, Cond.value, h1, h2, h3, h4, g1, g2, g3, g4, g5, g6]
def isCode : Jvm.Cond → Bool
  | .code _ _ _ _ => true
  | _ => false
theorem all_split {L : List Jvm.Cond} {P : Jvm.Cond → Bool} (h1 : L.all (fun c => isCode c || P c) = true) (h2 : ∀ c ∈ L.filter isCode, P c = true) : L.all P = true := by
  refine List.all_eq_true.mpr fun c hc => ?_
  have h := List.all_eq_true.mp h1 c hc
  rcases Bool.eq_false_or_eq_true (isCode c) with hi | hi
  · exact h2 c (List.mem_filter.mpr ⟨hc, hi⟩)
  · simpa [hi] using h
set_option maxRecDepth 65536 in
theorem w_c0 : (Jvm.Cond.code x code maxLocals ret).before args0 about1 = true := code_word (m := ⟨1, 1⟩) (meth := k1m1) (c := k1c1) (by decide +kernel) rfl rfl rfl (by decide +kernel)
set_option maxRecDepth 65536 in
theorem w_c1 : (Jvm.Cond.code ({ cls := "java/lang/String", name := "<init>", desc := "([C)V" } : Jvm.MethodName) jdk_42_method_3_code (2 : Nat) (Option.none : Option Jvm.ClassFile.FieldType)).before args0 about1 = true := code_word (m := ⟨9, 1⟩) (meth := k9m1) (c := k9c1) (by decide +kernel) rfl rfl rfl (by decide +kernel)
set_option maxRecDepth 65536 in
theorem w_c2 : (Jvm.Cond.code ({ cls := "java/lang/String", name := "<init>", desc := "([CIILjava/lang/Void;)V" } : Jvm.MethodName) jdk_42_method_149_code (6 : Nat) (Option.none : Option Jvm.ClassFile.FieldType)).before args0 about1 = true := code_word (m := ⟨9, 4⟩) (meth := k9m4) (c := k9c4) (by decide +kernel) rfl rfl rfl (by decide +kernel)
set_option maxRecDepth 65536 in
theorem w_c3 : (Jvm.Cond.code ({ cls := "java/lang/Object", name := "<init>", desc := "()V" } : Jvm.MethodName) object_method_1_code (1 : Nat) (Option.none : Option Jvm.ClassFile.FieldType)).before args0 about1 = true := code_word (m := ⟨0, 0⟩) (meth := k0m0) (c := k0c0) (by decide +kernel) rfl rfl rfl (by decide +kernel)
set_option maxRecDepth 65536 in
theorem w_c4 : (Jvm.Cond.code ({ cls := "java/lang/StringUTF16", name := "compress", desc := "([CII)[B" } : Jvm.MethodName) jdk_52_method_16_code (6 : Nat) (Option.some (Jvm.ClassFile.FieldType.array Jvm.ClassFile.FieldType.byte))).before args0 about1 = true := code_word (m := ⟨10, 2⟩) (meth := k10m2) (c := k10c2) (by decide +kernel) rfl rfl rfl (by decide +kernel)
set_option maxRecDepth 65536 in
theorem w_c5 : (Jvm.Cond.code ({ cls := "java/lang/StringUTF16", name := "compress", desc := "([CI[BII)I" } : Jvm.MethodName) jdk_52_method_21_code (7 : Nat) (Option.some Jvm.ClassFile.FieldType.int)).before args0 about1 = true := code_word (m := ⟨10, 3⟩) (meth := k10m3) (c := k10c3) (by decide +kernel) rfl rfl rfl (by decide +kernel)
set_option maxRecDepth 65536 in
theorem w_c6 : (Jvm.Cond.code ({ cls := "java/lang/StringUTF16", name := "coderFromArrayLen", desc := "([BI)B" } : Jvm.MethodName) jdk_52_method_15_code (2 : Nat) (Option.some Jvm.ClassFile.FieldType.byte)).before args0 about1 = true := code_word (m := ⟨10, 1⟩) (meth := k10m1) (c := k10c1) (by decide +kernel) rfl rfl rfl (by decide +kernel)
set_option maxRecDepth 65536 in
theorem w_c7 : (Jvm.Cond.code ({ cls := "com/example/need_to_know/needtoknow/Mode", name := "of", desc := "(Ljava/lang/String;)Lcom/example/need_to_know/needtoknow/Mode;" } : Jvm.MethodName) prog_20_method_7_code (5 : Nat) (Option.some (Jvm.ClassFile.FieldType.object "com/example/need_to_know/needtoknow/Mode"))).before args0 about1 = true := code_word (m := ⟨6, 4⟩) (meth := k6m4) (c := k6c4) (by decide +kernel) rfl rfl rfl (by decide +kernel)
set_option maxRecDepth 65536 in
theorem w_c8 : (Jvm.Cond.code ({ cls := "java/lang/String", name := "length", desc := "()I" } : Jvm.MethodName) jdk_42_method_54_code (1 : Nat) (Option.some Jvm.ClassFile.FieldType.int)).before args0 about1 = true := code_word (m := ⟨9, 2⟩) (meth := k9m2) (c := k9c2) (by decide +kernel) rfl rfl rfl (by decide +kernel)
set_option maxRecDepth 65536 in
theorem w_c9 : (Jvm.Cond.code ({ cls := "java/lang/String", name := "coder", desc := "()B" } : Jvm.MethodName) jdk_42_method_152_code (1 : Nat) (Option.some Jvm.ClassFile.FieldType.byte)).before args0 about1 = true := code_word (m := ⟨9, 5⟩) (meth := k9m5) (c := k9c5) (by decide +kernel) rfl rfl rfl (by decide +kernel)
set_option maxRecDepth 65536 in
theorem w_c10 : (Jvm.Cond.code ({ cls := "com/example/need_to_know/needtoknow/Mode", name := "values", desc := "()[Lcom/example/need_to_know/needtoknow/Mode;" } : Jvm.MethodName) prog_20_method_1_code (0 : Nat) (Option.some (Jvm.ClassFile.FieldType.array (Jvm.ClassFile.FieldType.object "com/example/need_to_know/needtoknow/Mode")))).before args0 about1 = true := code_word (m := ⟨6, 0⟩) (meth := k6m0) (c := k6c0) (by decide +kernel) rfl rfl rfl (by decide +kernel)
set_option maxRecDepth 65536 in
theorem w_c11 : (Jvm.Cond.code ({ cls := "java/lang/String", name := "charAt", desc := "(I)C" } : Jvm.MethodName) jdk_42_method_56_code (2 : Nat) (Option.some Jvm.ClassFile.FieldType.char)).before args0 about1 = true := code_word (m := ⟨9, 3⟩) (meth := k9m3) (c := k9c3) (by decide +kernel) rfl rfl rfl (by decide +kernel)
set_option maxRecDepth 65536 in
theorem w_c12 : (Jvm.Cond.code ({ cls := "java/lang/String", name := "isLatin1", desc := "()Z" } : Jvm.MethodName) jdk_42_method_154_code (1 : Nat) (Option.some Jvm.ClassFile.FieldType.boolean)).before args0 about1 = true := code_word (m := ⟨9, 6⟩) (meth := k9m6) (c := k9c6) (by decide +kernel) rfl rfl rfl (by decide +kernel)
set_option maxRecDepth 65536 in
theorem w_c13 : (Jvm.Cond.code ({ cls := "java/lang/StringLatin1", name := "charAt", desc := "([BI)C" } : Jvm.MethodName) jdk_43_method_2_code (2 : Nat) (Option.some Jvm.ClassFile.FieldType.char)).before args0 about1 = true := code_word (m := ⟨12, 1⟩) (meth := k12m1) (c := k12c1) (by decide +kernel) rfl rfl rfl (by decide +kernel)
set_option maxRecDepth 65536 in
theorem w_c14 : (Jvm.Cond.code ({ cls := "java/lang/String", name := "checkIndex", desc := "(II)V" } : Jvm.MethodName) jdk_42_method_155_code (2 : Nat) (Option.none : Option Jvm.ClassFile.FieldType)).before args0 about1 = true := code_word (m := ⟨9, 7⟩) (meth := k9m7) (c := k9c7) (by decide +kernel) rfl rfl rfl (by decide +kernel)
set_option maxRecDepth 65536 in
theorem w_c15 : (Jvm.Cond.code ({ cls := "jdk/internal/util/Preconditions", name := "checkIndex", desc := "(IILjava/util/function/BiFunction;)I" } : Jvm.MethodName) jdk_41_method_11_code (3 : Nat) (Option.some Jvm.ClassFile.FieldType.int)).before args0 about1 = true := code_word (m := ⟨13, 1⟩) (meth := k13m1) (c := k13c1) (by decide +kernel) rfl rfl rfl (by decide +kernel)
set_option maxRecDepth 65536 in
theorem w_c16 : (Jvm.Cond.code ({ cls := "com/example/need_to_know/needtoknow/Mode", name := "letter", desc := "()C" } : Jvm.MethodName) prog_20_method_4_code (1 : Nat) (Option.some Jvm.ClassFile.FieldType.char)).before args0 about1 = true := code_word (m := ⟨6, 1⟩) (meth := k6m1) (c := k6c1) (by decide +kernel) rfl rfl rfl (by decide +kernel)
set_option maxRecDepth 65536 in
theorem w_c17 : (Jvm.Cond.code ({ cls := "com/example/need_to_know/needtoknow/Mode", name := "observes", desc := "()Z" } : Jvm.MethodName) prog_20_method_5_code (1 : Nat) (Option.some Jvm.ClassFile.FieldType.boolean)).before args0 about1 = true := code_word (m := ⟨6, 2⟩) (meth := k6m2) (c := k6c2) (by decide +kernel) rfl rfl rfl (by decide +kernel)
set_option maxRecDepth 65536 in
theorem w_c18 : (Jvm.Cond.code ({ cls := "com/example/need_to_know/needtoknow/Mode", name := "alters", desc := "()Z" } : Jvm.MethodName) prog_20_method_6_code (1 : Nat) (Option.some Jvm.ClassFile.FieldType.boolean)).before args0 about1 = true := code_word (m := ⟨6, 3⟩) (meth := k6m3) (c := k6c3) (by decide +kernel) rfl rfl rfl (by decide +kernel)
def codes1 : List Jvm.Cond := [Jvm.Cond.code x code maxLocals ret, Jvm.Cond.code ({ cls := "java/lang/String", name := "<init>", desc := "([C)V" } : Jvm.MethodName) jdk_42_method_3_code (2 : Nat) (Option.none : Option Jvm.ClassFile.FieldType), Jvm.Cond.code ({ cls := "java/lang/String", name := "<init>", desc := "([CIILjava/lang/Void;)V" } : Jvm.MethodName) jdk_42_method_149_code (6 : Nat) (Option.none : Option Jvm.ClassFile.FieldType), Jvm.Cond.code ({ cls := "java/lang/Object", name := "<init>", desc := "()V" } : Jvm.MethodName) object_method_1_code (1 : Nat) (Option.none : Option Jvm.ClassFile.FieldType), Jvm.Cond.code ({ cls := "java/lang/StringUTF16", name := "compress", desc := "([CII)[B" } : Jvm.MethodName) jdk_52_method_16_code (6 : Nat) (Option.some (Jvm.ClassFile.FieldType.array Jvm.ClassFile.FieldType.byte)), Jvm.Cond.code ({ cls := "java/lang/StringUTF16", name := "compress", desc := "([CI[BII)I" } : Jvm.MethodName) jdk_52_method_21_code (7 : Nat) (Option.some Jvm.ClassFile.FieldType.int), Jvm.Cond.code ({ cls := "java/lang/StringUTF16", name := "coderFromArrayLen", desc := "([BI)B" } : Jvm.MethodName) jdk_52_method_15_code (2 : Nat) (Option.some Jvm.ClassFile.FieldType.byte), Jvm.Cond.code ({ cls := "com/example/need_to_know/needtoknow/Mode", name := "of", desc := "(Ljava/lang/String;)Lcom/example/need_to_know/needtoknow/Mode;" } : Jvm.MethodName) prog_20_method_7_code (5 : Nat) (Option.some (Jvm.ClassFile.FieldType.object "com/example/need_to_know/needtoknow/Mode")), Jvm.Cond.code ({ cls := "java/lang/String", name := "length", desc := "()I" } : Jvm.MethodName) jdk_42_method_54_code (1 : Nat) (Option.some Jvm.ClassFile.FieldType.int), Jvm.Cond.code ({ cls := "java/lang/String", name := "coder", desc := "()B" } : Jvm.MethodName) jdk_42_method_152_code (1 : Nat) (Option.some Jvm.ClassFile.FieldType.byte), Jvm.Cond.code ({ cls := "com/example/need_to_know/needtoknow/Mode", name := "values", desc := "()[Lcom/example/need_to_know/needtoknow/Mode;" } : Jvm.MethodName) prog_20_method_1_code (0 : Nat) (Option.some (Jvm.ClassFile.FieldType.array (Jvm.ClassFile.FieldType.object "com/example/need_to_know/needtoknow/Mode"))), Jvm.Cond.code ({ cls := "java/lang/String", name := "charAt", desc := "(I)C" } : Jvm.MethodName) jdk_42_method_56_code (2 : Nat) (Option.some Jvm.ClassFile.FieldType.char), Jvm.Cond.code ({ cls := "java/lang/String", name := "isLatin1", desc := "()Z" } : Jvm.MethodName) jdk_42_method_154_code (1 : Nat) (Option.some Jvm.ClassFile.FieldType.boolean), Jvm.Cond.code ({ cls := "java/lang/StringLatin1", name := "charAt", desc := "([BI)C" } : Jvm.MethodName) jdk_43_method_2_code (2 : Nat) (Option.some Jvm.ClassFile.FieldType.char), Jvm.Cond.code ({ cls := "java/lang/String", name := "checkIndex", desc := "(II)V" } : Jvm.MethodName) jdk_42_method_155_code (2 : Nat) (Option.none : Option Jvm.ClassFile.FieldType), Jvm.Cond.code ({ cls := "jdk/internal/util/Preconditions", name := "checkIndex", desc := "(IILjava/util/function/BiFunction;)I" } : Jvm.MethodName) jdk_41_method_11_code (3 : Nat) (Option.some Jvm.ClassFile.FieldType.int), Jvm.Cond.code ({ cls := "com/example/need_to_know/needtoknow/Mode", name := "letter", desc := "()C" } : Jvm.MethodName) prog_20_method_4_code (1 : Nat) (Option.some Jvm.ClassFile.FieldType.char), Jvm.Cond.code ({ cls := "com/example/need_to_know/needtoknow/Mode", name := "observes", desc := "()Z" } : Jvm.MethodName) prog_20_method_5_code (1 : Nat) (Option.some Jvm.ClassFile.FieldType.boolean), Jvm.Cond.code ({ cls := "com/example/need_to_know/needtoknow/Mode", name := "alters", desc := "()Z" } : Jvm.MethodName) prog_20_method_6_code (1 : Nat) (Option.some Jvm.ClassFile.FieldType.boolean)]
set_option maxRecDepth 65536 in
theorem codes_eq : words1.filter isCode = codes1 := rfl
theorem w_codes : ∀ c ∈ words1.filter isCode, c.before args0 about1 = true := by
  rw [codes_eq]
  intro c hc
  simp only [codes1, List.mem_cons, List.not_mem_nil, or_false] at hc
  rcases hc with rfl | rfl | rfl | rfl | rfl | rfl | rfl | rfl | rfl | rfl | rfl | rfl | rfl | rfl | rfl | rfl | rfl | rfl | rfl
  · exact w_c0
  · exact w_c1
  · exact w_c2
  · exact w_c3
  · exact w_c4
  · exact w_c5
  · exact w_c6
  · exact w_c7
  · exact w_c8
  · exact w_c9
  · exact w_c10
  · exact w_c11
  · exact w_c12
  · exact w_c13
  · exact w_c14
  · exact w_c15
  · exact w_c16
  · exact w_c17
  · exact w_c18
set_option maxRecDepth 65536 in
theorem w_t1 : (words1.take 24).all (fun c => isCode c || c.before args0 about1) = true := by decide +kernel
set_option maxRecDepth 65536 in
theorem w_t2 : ((words1.drop 24).take 24).all (fun c => isCode c || c.before args0 about1) = true := by decide +kernel
set_option maxRecDepth 65536 in
theorem w_t3 : (((words1.drop 24).drop 24).take 24).all (fun c => isCode c || c.before args0 about1) = true := by decide +kernel
set_option maxRecDepth 65536 in
theorem w_t4 : ((((words1.drop 24).drop 24).drop 24).take 24).all (fun c => isCode c || c.before args0 about1) = true := by decide +kernel
set_option maxRecDepth 65536 in
theorem w_t5 : ((((words1.drop 24).drop 24).drop 24).drop 24).all (fun c => isCode c || c.before args0 about1) = true := by decide +kernel
theorem w_tables : (allAtoms (Jvm.Cond.code x code maxLocals ret :: tables_1)).before args0 about1 = true := by
  rw [allAtoms_all]
  show words1.all (fun c => c.before args0 about1) = true
  refine all_split ?_ w_codes
  rw [← List.take_append_drop 24 words1, List.all_append, w_t1, ← List.take_append_drop 24 (words1.drop 24), List.all_append, w_t2, ← List.take_append_drop 24 ((words1.drop 24).drop 24), List.all_append, w_t3, ← List.take_append_drop 24 (((words1.drop 24).drop 24).drop 24), List.all_append, w_t4, w_t5]
  rfl
set_option maxRecDepth 65536 in
theorem w_rest : rest_1_c.before args0 about1 = true := by decide +kernel
set_option maxRecDepth 65536 in
theorem w_case : (Jvm.Cond.and given_1 narrow_1).before args0 about1 = true := by decide +kernel
theorem w_applies : (headSpec (Jvm.Cond.code x code maxLocals ret :: tables_1) room_1).applies x e0.platform about1 = true :=
  (Spec.applies_iff w_frames).mpr ⟨w_running, w_runnable, w_alone, w_named, w_hears, w_ripe, w_room, w_tables⟩
theorem atStart : AtStart classFile x code maxLocals ret World_1 tables_1 room_1 Calls_1 rest_1 Pre_1 launch0 p0 e0 about1 theMethod args0 below0 :=
  ⟨lists_1, trivial, launch0.admits_env _ _ _, launch0.least_env, fairChoices_fair.cas, fairChoices_fair.clock, w_frames, w_args, w_heap, w_applies, trivial, w_rest, w_case⟩
end start1
theorem witness_1 : WitnessClaimed_1 := ⟨start1.p0, start1.e0, start1.about1, start1.theMethod, start1.args0, start1.below0, start1.atStart⟩
end Jvm.Pilot.@@N@@
