import JvmDerived
import JvmDerived.Pilot.@@N@@Statement
import JvmDerived.Pilot.@@N@@Code
set_option linter.unusedVariables false
set_option linter.unusedSimpArgs false
@@BLOCK:NumsL.lean.txt@@
@@BLOCK:Masks.lean.txt@@
namespace Jvm.Own
open Sem ClassFile Op Lib Jvm.Stand Jvm.Free Jvm.LawKit Jvm.RoadKit
/-! ## A program logic over an abstract heap: references count from the start's heap size. -/
def cv (k : Nat) : Value → Value
  | .ref i => .ref (k + i)
  | v => v
def cs (k : Nat) : Slot → Slot
  | .val v => .val (cv k v)
  | .unset => .unset
  | .second => .second
theorem cv_cat (k : Nat) (v : Value) : (cv k v).category = v.category := by cases v <;> rfl
theorem cv_isRef (k : Nat) (v : Value) : (cv k v).isRef = v.isRef := by cases v <;> rfl
theorem cv_fits (k : Nat) (t : FieldType) (v : Value) : fits t (cv k v) = fits t v := by cases v <;> cases t <;> rfl
theorem cv_narrow (k : Nat) (t : FieldType) (v : Value) : narrow t (cv k v) = cv k (narrow t v) := by cases v <;> cases t <;> rfl
theorem cv_default (k : Nat) (t : FieldType) : cv k (defaultValue t) = defaultValue t := by cases t <;> rfl
theorem cat_map (k : Nat) (S : List Value) : ((S.map (cv k)).map fun v => v.category) = S.map fun v => v.category := by
  rw [List.map_map]; exact List.map_congr_left fun v _ => cv_cat k v
/-- an object: the number of its class, its fields' values; or an array: its kind, its values -/
abbrev ACell := (Nat × List Value) ⊕ (FieldType × List Value)
abbrev AHeap := List ACell
/-- the classes: name, slots, fields (declaring class, name, descriptor, type) -/
abbrev KTab := List (String × Nat × List (String × String × String × FieldType))
/-- a method: name, bytes, max_locals, return type -/
abbrev Mth := MethodName × ByteArray × Nat × Option FieldType
def CellOk (Z : State) (K : KTab) (h : Heap) (a : Addr) : ACell → Prop
  | .inl (c, vs) => K[c]? = none ∨ ∃ (C : String) (n : Nat) (fs : List (String × String × String × FieldType)), K[c]? = some (C, n, fs) ∧ vs.length = fs.length ∧ Exa Z h a C ∧ ∀ (j : Nat) (f : String × String × String × FieldType) (v : Value), fs[j]? = some f → vs[j]? = some v → Fld Z h a f.1 f.2.1 f.2.2.1 (cv Z.heap.size v)
  | .inr (ty, vs) => ∃ cell : Cell, Arr Z h a cell ty ∧ cell.slots = (vs.map (cv Z.heap.size)).toArray ∧ ∀ v ∈ vs, fits ty v = true
def Rel (Z : State) (K : KTab) (h : Heap) (H : AHeap) : Prop :=
  h.size = Z.heap.size + H.length ∧ ∀ (i : Nat) (c : ACell), H[i]? = some c → CellOk Z K h (Z.heap.size + i) c
def FOk (tb : List Cond) (C : String) (f : String × String × String × FieldType) : Prop :=
  (Cond.lays C f.1 f.2.1 f.2.2.1 ∈ tb ∨ Cond.laysFinal C f.1 f.2.1 f.2.2.1 ∈ tb) ∧ parseFieldDescriptor f.2.2.1 = some f.2.2.2
def KOk (tb : List Cond) (K : KTab) : Prop :=
  ∀ q ∈ K, Cond.instantiable q.1 q.2.1 ∈ tb ∧ (∀ f ∈ q.2.2, FOk tb q.1 f) ∧ (q.2.2.map fun f => f.2.1).Nodup
theorem KOk.nil {tb : List Cond} : KOk tb [] := fun _ h => nomatch h
theorem KOk.cons {tb : List Cond} {K : KTab} {q : String × Nat × List (String × String × String × FieldType)} (h1 : Cond.instantiable q.1 q.2.1 ∈ tb) (h2 : ∀ f ∈ q.2.2, FOk tb q.1 f) (h3 : (q.2.2.map fun f => f.2.1).Nodup) (h : KOk tb K) : KOk tb (q :: K) := fun x hx => by
  rcases List.mem_cons.mp hx with rfl | hx
  · exact ⟨h1, h2, h3⟩
  · exact h x hx
theorem fok0 {tb : List Cond} {C : String} : ∀ f ∈ ([] : List (String × String × String × FieldType)), FOk tb C f := fun _ h => nomatch h
theorem fokS {tb : List Cond} {C : String} {g : String × String × String × FieldType} {L : List (String × String × String × FieldType)} (h1 : FOk tb C g) (h2 : ∀ f ∈ L, FOk tb C f) : ∀ f ∈ g :: L, FOk tb C f := fun f hf => by
  rcases List.mem_cons.mp hf with rfl | hf
  · exact h1
  · exact h2 f hf
/-- where a walk stands -/
def Here (tb : List Cond) (K : KTab) (μ : Mth) (rm : Room) (H : AHeap) (Z : State) (a0 : Array Value) (p : Program) (l : Launch) (e : Env) (R : Room) (s : State) (m : MethodId) (args : Array Value) (below : List Frame) (meth : Method) (c : Code)
    (T : State) (locs : List Loc) (cells slots : Nat) : Prop :=
  Stand p l e R s m args below meth c T locs cells slots ∧ p.tables.exec = Jvm.exec ∧ Z.Warmed39 s.vm ∧ (∀ d ∈ tb, d.before a0 Z = true) ∧ c.code = μ.2.1 ∧ c.maxLocals = μ.2.2.1 ∧ meth.sig.returnType = μ.2.2.2 ∧ meth.name = μ.1.name ∧ meth.locks = false ∧
    s.vm.findClass μ.1.cls = some m.cls ∧ Rel Z K T.heap H ∧ Fr Z.heap.size locs ∧ rm.frames ≤ R.frames ∧ cells + rm.cells ≤ R.cells ∧ slots + rm.slots ≤ R.slots ∧ rm.locals ≤ R.locals
/-- how it ends -/
def Ends (K : KTab) (Q : Option Value → AHeap → Prop) (Z : State) (p : Program) (e : Env) (R : Room) (s : State) (below : List Frame) (T0 : State) : Prop :=
  ∃ (v : Option Value) (H' : AHeap) (T : State) (locs : List Loc) (fs : List Frame), Q v H' ∧ Steps p.tables e below T0 (T.setFrames fs) ∧ (T.setFrames fs).status = .running ∧ Ended (T.setFrames fs) below (.returned (v.map (cv Z.heap.size))) ∧
    s.WarmedH (T.setFrames fs).vm ∧ s.sameButNew ({ T.setFrames fs with vm := s.vm } : State) locs R.cells R.slots ∧ Fr Z.heap.size locs ∧ Rel Z K T.heap H'
/-- from the frame (pc, L, S) over the heap H the body returns, and Q -/
def W (tb : List Cond) (K : KTab) (μ : Mth) (rm : Room) (pc : Nat) (L : List Slot) (S : List Value) (H : AHeap) (Q : Option Value → AHeap → Prop) : Prop :=
  L.length = μ.2.2.1 → ∀ (Z : State) (a0 : Array Value) (p : Program) (l : Launch) (e : Env) (R : Room) (s : State) (m : MethodId) (args : Array Value) (below : List Frame) (meth : Method) (c : Code) (T : State) (locs : List Loc) (cells slots : Nat),
    Here tb K μ rm H Z a0 p l e R s m args below meth c T locs cells slots → Ends K Q Z p e R s below (T.setTop (mkF m pc (L.map (cs Z.heap.size)).toArray (S.map (cv Z.heap.size))))
/-- a call of μ comes back, and Q -/
def M (tb : List Cond) (K : KTab) (μ : Mth) (rm : Room) (as : List Value) (H : AHeap) (Q : Option Value → AHeap → Prop) : Prop :=
  ∀ (Z : State) (a0 : Array Value), (∀ d ∈ tb, d.before a0 Z = true) → ∀ (l : Launch) (h : Heap) (ws : List Cond), Rel Z K h H →
    MetFree l μ.1 (head1 (Cond.code μ.1 μ.2.1 μ.2.2.1 μ.2.2.2 :: ws) rm) (fun a U => a = (as.map (cv Z.heap.size)).toArray ∧ Z.Warmed39 U.vm ∧ U.heap = h) (fun _ _ _ _ _ => True)
      (fun _ U o U' => ∃ v L, o = .returned v ∧ (∃ v' H', v = v'.map (cv Z.heap.size) ∧ Rel Z K U'.heap H' ∧ Q v' H' ∧ Fr Z.heap.size L) ∧ FrameEnd U o U' L rm.cells rm.slots)
section Logic
variable {tb : List Cond} {K : KTab} {μ : Mth} {rm : Room} {pc : Nat} {L : List Slot} {S : List Value} {H : AHeap} {Q Q' : Option Value → AHeap → Prop}
theorem Ends.mono {Z : State} {p : Program} {e : Env} {R : Room} {s : State} {below : List Frame} {T0 : State} (h : Ends K Q Z p e R s below T0) (hq : ∀ v H, Q v H → Q' v H) : Ends K Q' Z p e R s below T0 := by
  obtain ⟨v, H', T, locs, fs, h1, r⟩ := h; exact ⟨v, H', T, locs, fs, hq _ _ h1, r⟩
theorem W.mono (h : W tb K μ rm pc L S H Q) (hq : ∀ v H, Q v H → Q' v H) : W tb K μ rm pc L S H Q' := fun hl Z a0 p l e R s m args below meth c T locs cells slots X => (h hl Z a0 p l e R s m args below meth c T locs cells slots X).mono hq
theorem M.mono {as : List Value} (h : M tb K μ rm as H Q) (hq : ∀ v H, Q v H → Q' v H) : M tb K μ rm as H Q' := fun Z a0 hw l h0 ws hr p e ha hc hk s m args below hf happ hP hK => by
  obtain ⟨n, o, h1, h2, h3, v, L, h4, ⟨v', H', h5, h6, h7, h8⟩, h9⟩ := h Z a0 hw l h0 ws hr p e ha hc hk s m args below hf happ hP hK
  exact ⟨n, o, h1, h2, h3, v, L, h4, ⟨v', H', h5, h6, hq _ _ h7, h8⟩, h9⟩
theorem Ends.steps {Z : State} {p : Program} {e : Env} {R : Room} {s : State} {below : List Frame} {T0 T1 : State} (st : ∀ target, Steps p.tables e below T1 target → Steps p.tables e below T0 target) (h : Ends K Q Z p e R s below T1) : Ends K Q Z p e R s below T0 := by
  obtain ⟨v, H', T, locs, fs, h1, h2, r⟩ := h; exact ⟨v, H', T, locs, fs, h1, st _ h2, r⟩
/-- a step that moves the frame alone -/
theorem W.pure {pc' : Nat} {L' : List Slot} {S' : List Value} (hl : L'.length = L.length)
    (st : ∀ (k : Nat) (p : Program) (e : Env) (m : MethodId) (below : List Frame) (c : Code) (T : State), At T m c below → p.tables.exec = Jvm.exec → c.code = μ.2.1 → ∀ target, Steps p.tables e below (T.setTop (mkF m pc' (L'.map (cs k)).toArray (S'.map (cv k)))) target → Steps p.tables e below (T.setTop (mkF m pc (L.map (cs k)).toArray (S.map (cv k)))) target)
    (h : W tb K μ rm pc' L' S' H Q) : W tb K μ rm pc L S H Q := fun hL Z a0 p l e R s m args below meth c T locs cells slots X =>
  (h (hl.trans hL) Z a0 p l e R s m args below meth c T locs cells slots X).steps (st _ p e m below c T X.1.here X.2.1 X.2.2.2.2.1)
theorem get_conc {k : Nat} {i : Nat} {v : Value} (h : L[i]? = some (.val v)) : (L.map (cs k)).toArray[i]? = some (.val (cv k v)) := by
  simp [h, cs]
theorem W.iload_n {i : Fin 4} {x : Int32} (hd : decode μ.2.1 pc = .ok (.iload_n i, 1)) (hl : L[i.val]? = some (.val (.int x))) (h : W tb K μ rm (pc + 1) L (.int x :: S) H Q) : W tb K μ rm pc L S H Q :=
  W.pure rfl (fun k p e m below c T hA hx hb' t ht => XS.iloadN hA hx rfl (hb hb' hd) (get_conc hl) ht) h
theorem W.iload {i : Nat} {x : Int32} (hd : decode μ.2.1 pc = .ok (.iload i, 2)) (hl : L[i]? = some (.val (.int x))) (h : W tb K μ rm (pc + 2) L (.int x :: S) H Q) : W tb K μ rm pc L S H Q :=
  W.pure rfl (fun k p e m below c T hA hx hb' t ht => XS.iload hA hx rfl (hb hb' hd) (get_conc hl) ht) h
theorem W.lload_n {i : Fin 4} {x : Int64} (hd : decode μ.2.1 pc = .ok (.lload_n i, 1)) (hl : L[i.val]? = some (.val (.long x))) (h : W tb K μ rm (pc + 1) L (.long x :: S) H Q) : W tb K μ rm pc L S H Q :=
  W.pure rfl (fun k p e m below c T hA hx hb' t ht => XS.lloadN hA hx rfl (hb hb' hd) (get_conc hl) ht) h
theorem W.lload {i : Nat} {x : Int64} (hd : decode μ.2.1 pc = .ok (.lload i, 2)) (hl : L[i]? = some (.val (.long x))) (h : W tb K μ rm (pc + 2) L (.long x :: S) H Q) : W tb K μ rm pc L S H Q :=
  W.pure rfl (fun k p e m below c T hA hx hb' t ht => XS.lload hA hx rfl (hb hb' hd) (get_conc hl) ht) h
theorem W.aload_n {i : Fin 4} {v : Value} (hd : decode μ.2.1 pc = .ok (.aload_n i, 1)) (hl : L[i.val]? = some (.val v)) (hv : v.isRef = true) (h : W tb K μ rm (pc + 1) L (v :: S) H Q) : W tb K μ rm pc L S H Q :=
  W.pure rfl (fun k p e m below c T hA hx hb' t ht => XS.aloadN hA hx rfl (hb hb' hd) (get_conc hl) (by rw [cv_isRef]; exact hv) ht) h
theorem W.aload {i : Nat} {v : Value} (hd : decode μ.2.1 pc = .ok (.aload i, 2)) (hl : L[i]? = some (.val v)) (hv : v.isRef = true) (h : W tb K μ rm (pc + 2) L (v :: S) H Q) : W tb K μ rm pc L S H Q :=
  W.pure rfl (fun k p e m below c T hA hx hb' t ht => XS.aload hA hx rfl (hb hb' hd) (get_conc hl) (by rw [cv_isRef]; exact hv) ht) h
theorem W.iadd {x y : Int32} (hd : decode μ.2.1 pc = .ok (.iadd, 1)) (h : W tb K μ rm (pc + 1) L (.int (x + y) :: S) H Q) : W tb K μ rm pc L (.int y :: .int x :: S) H Q :=
  W.pure rfl (fun k p e m below c T hA hx hb' t ht => XS.iadd hA hx rfl (hb hb' hd) rfl ht) h
theorem W.isub {x y : Int32} (hd : decode μ.2.1 pc = .ok (.isub, 1)) (h : W tb K μ rm (pc + 1) L (.int (x - y) :: S) H Q) : W tb K μ rm pc L (.int y :: .int x :: S) H Q :=
  W.pure rfl (fun k p e m below c T hA hx hb' t ht => XS.isub hA hx rfl (hb hb' hd) rfl ht) h
theorem W.imul {x y : Int32} (hd : decode μ.2.1 pc = .ok (.imul, 1)) (h : W tb K μ rm (pc + 1) L (.int (x * y) :: S) H Q) : W tb K μ rm pc L (.int y :: .int x :: S) H Q :=
  W.pure rfl (fun k p e m below c T hA hx hb' t ht => XS.imul hA hx rfl (hb hb' hd) rfl ht) h
theorem W.idiv {x y : Int32} (hd : decode μ.2.1 pc = .ok (.idiv, 1)) (hy : y ≠ 0) (h : W tb K μ rm (pc + 1) L (.int (x / y) :: S) H Q) : W tb K μ rm pc L (.int y :: .int x :: S) H Q :=
  W.pure rfl (fun k p e m below c T hA hx hb' t ht => XS.idiv hA hx rfl (hb hb' hd) rfl hy ht) h
theorem W.irem {x y : Int32} (hd : decode μ.2.1 pc = .ok (.irem, 1)) (hy : y ≠ 0) (h : W tb K μ rm (pc + 1) L (.int (x % y) :: S) H Q) : W tb K μ rm pc L (.int y :: .int x :: S) H Q :=
  W.pure rfl (fun k p e m below c T hA hx hb' t ht => XS.irem hA hx rfl (hb hb' hd) rfl hy (by rw [irem_eq_mod x y]; exact ht)) h
theorem W.ineg {x : Int32} (hd : decode μ.2.1 pc = .ok (.ineg, 1)) (h : W tb K μ rm (pc + 1) L (.int (-x) :: S) H Q) : W tb K μ rm pc L (.int x :: S) H Q :=
  W.pure rfl (fun k p e m below c T hA hx hb' t ht => XS.ineg hA hx rfl (hb hb' hd) rfl ht) h
theorem W.iand {x y : Int32} (hd : decode μ.2.1 pc = .ok (.iand, 1)) (h : W tb K μ rm (pc + 1) L (.int (x &&& y) :: S) H Q) : W tb K μ rm pc L (.int y :: .int x :: S) H Q :=
  W.pure rfl (fun k p e m below c T hA hx hb' t ht => XS.iand hA hx rfl (hb hb' hd) rfl ht) h
theorem W.ior {x y : Int32} (hd : decode μ.2.1 pc = .ok (.ior, 1)) (h : W tb K μ rm (pc + 1) L (.int (x ||| y) :: S) H Q) : W tb K μ rm pc L (.int y :: .int x :: S) H Q :=
  W.pure rfl (fun k p e m below c T hA hx hb' t ht => XT.ior hA hx rfl (hb hb' hd) rfl ht) h
theorem W.ixor {x y : Int32} (hd : decode μ.2.1 pc = .ok (.ixor, 1)) (h : W tb K μ rm (pc + 1) L (.int (x ^^^ y) :: S) H Q) : W tb K μ rm pc L (.int y :: .int x :: S) H Q :=
  W.pure rfl (fun k p e m below c T hA hx hb' t ht => XT.ixor hA hx rfl (hb hb' hd) rfl ht) h
theorem W.ishl {x y : Int32} (hd : decode μ.2.1 pc = .ok (.ishl, 1)) (h : W tb K μ rm (pc + 1) L (.int (x <<< (y &&& 31)) :: S) H Q) : W tb K μ rm pc L (.int y :: .int x :: S) H Q :=
  W.pure rfl (fun k p e m below c T hA hx hb' t ht => XT.ishl hA hx rfl (hb hb' hd) rfl ht) h
theorem W.ishr {x y : Int32} (hd : decode μ.2.1 pc = .ok (.ishr, 1)) (h : W tb K μ rm (pc + 1) L (.int (x >>> (y &&& 31)) :: S) H Q) : W tb K μ rm pc L (.int y :: .int x :: S) H Q :=
  W.pure rfl (fun k p e m below c T hA hx hb' t ht => XT.ishr hA hx rfl (hb hb' hd) rfl ht) h
theorem W.iushr {x y : Int32} (hd : decode μ.2.1 pc = .ok (.iushr, 1)) (h : W tb K μ rm (pc + 1) L (.int (XT.ushr x y) :: S) H Q) : W tb K μ rm pc L (.int y :: .int x :: S) H Q :=
  W.pure rfl (fun k p e m below c T hA hx hb' t ht => XT.iushr hA hx rfl (hb hb' hd) rfl ht) h
theorem W.ladd {x y : Int64} (hd : decode μ.2.1 pc = .ok (.ladd, 1)) (h : W tb K μ rm (pc + 1) L (.long (x + y) :: S) H Q) : W tb K μ rm pc L (.long y :: .long x :: S) H Q :=
  W.pure rfl (fun k p e m below c T hA hx hb' t ht => XT.ladd hA hx rfl (hb hb' hd) rfl ht) h
theorem W.lsub {x y : Int64} (hd : decode μ.2.1 pc = .ok (.lsub, 1)) (h : W tb K μ rm (pc + 1) L (.long (x - y) :: S) H Q) : W tb K μ rm pc L (.long y :: .long x :: S) H Q :=
  W.pure rfl (fun k p e m below c T hA hx hb' t ht => XT.lsub hA hx rfl (hb hb' hd) rfl ht) h
theorem W.lmul {x y : Int64} (hd : decode μ.2.1 pc = .ok (.lmul, 1)) (h : W tb K μ rm (pc + 1) L (.long (x * y) :: S) H Q) : W tb K μ rm pc L (.long y :: .long x :: S) H Q :=
  W.pure rfl (fun k p e m below c T hA hx hb' t ht => XT.lmul hA hx rfl (hb hb' hd) rfl ht) h
theorem W.ldiv {x y : Int64} (hd : decode μ.2.1 pc = .ok (.ldiv, 1)) (hy : y ≠ 0) (h : W tb K μ rm (pc + 1) L (.long (x / y) :: S) H Q) : W tb K μ rm pc L (.long y :: .long x :: S) H Q :=
  W.pure rfl (fun k p e m below c T hA hx hb' t ht => XT.ldiv hA hx rfl (hb hb' hd) rfl hy ht) h
theorem W.land {x y : Int64} (hd : decode μ.2.1 pc = .ok (.land, 1)) (h : W tb K μ rm (pc + 1) L (.long (x &&& y) :: S) H Q) : W tb K μ rm pc L (.long y :: .long x :: S) H Q :=
  W.pure rfl (fun k p e m below c T hA hx hb' t ht => XT.land hA hx rfl (hb hb' hd) rfl ht) h
theorem W.lor {x y : Int64} (hd : decode μ.2.1 pc = .ok (.lor, 1)) (h : W tb K μ rm (pc + 1) L (.long (x ||| y) :: S) H Q) : W tb K μ rm pc L (.long y :: .long x :: S) H Q :=
  W.pure rfl (fun k p e m below c T hA hx hb' t ht => XT.lor hA hx rfl (hb hb' hd) rfl ht) h
theorem W.lxor {x y : Int64} (hd : decode μ.2.1 pc = .ok (.lxor, 1)) (h : W tb K μ rm (pc + 1) L (.long (x ^^^ y) :: S) H Q) : W tb K μ rm pc L (.long y :: .long x :: S) H Q :=
  W.pure rfl (fun k p e m below c T hA hx hb' t ht => XT.lxor hA hx rfl (hb hb' hd) rfl ht) h
theorem W.lshl {x : Int64} {y : Int32} (hd : decode μ.2.1 pc = .ok (.lshl, 1)) (h : W tb K μ rm (pc + 1) L (.long (x <<< (y.toInt64 &&& 63)) :: S) H Q) : W tb K μ rm pc L (.int y :: .long x :: S) H Q :=
  W.pure rfl (fun k p e m below c T hA hx hb' t ht => XT.lshl hA hx rfl (hb hb' hd) rfl ht) h
theorem W.lushr {x : Int64} {y : Int32} (hd : decode μ.2.1 pc = .ok (.lushr, 1)) (h : W tb K μ rm (pc + 1) L (.long (XT.ushrL x y) :: S) H Q) : W tb K μ rm pc L (.int y :: .long x :: S) H Q :=
  W.pure rfl (fun k p e m below c T hA hx hb' t ht => XT.lushr hA hx rfl (hb hb' hd) rfl ht) h
theorem W.lcmp {x y : Int64} (hd : decode μ.2.1 pc = .ok (.lcmp, 1)) (h : W tb K μ rm (pc + 1) L (.int (XT.cmpL x y) :: S) H Q) : W tb K μ rm pc L (.long y :: .long x :: S) H Q :=
  W.pure rfl (fun k p e m below c T hA hx hb' t ht => XT.lcmp hA hx rfl (hb hb' hd) rfl ht) h
theorem W.i2l {x : Int32} (hd : decode μ.2.1 pc = .ok (.i2l, 1)) (h : W tb K μ rm (pc + 1) L (.long x.toInt64 :: S) H Q) : W tb K μ rm pc L (.int x :: S) H Q :=
  W.pure rfl (fun k p e m below c T hA hx hb' t ht => XT.i2l hA hx rfl (hb hb' hd) rfl ht) h
theorem W.l2i {x : Int64} (hd : decode μ.2.1 pc = .ok (.l2i, 1)) (h : W tb K μ rm (pc + 1) L (.int x.toInt32 :: S) H Q) : W tb K μ rm pc L (.long x :: S) H Q :=
  W.pure rfl (fun k p e m below c T hA hx hb' t ht => XT.l2i hA hx rfl (hb hb' hd) rfl ht) h
theorem W.i2b {x : Int32} (hd : decode μ.2.1 pc = .ok (.i2b, 1)) (h : W tb K μ rm (pc + 1) L (.int x.toInt8.toInt32 :: S) H Q) : W tb K μ rm pc L (.int x :: S) H Q :=
  W.pure rfl (fun k p e m below c T hA hx hb' t ht => XT.i2b hA hx rfl (hb hb' hd) rfl ht) h
theorem W.i2c {x : Int32} (hd : decode μ.2.1 pc = .ok (.i2c, 1)) (h : W tb K μ rm (pc + 1) L (.int x.toUInt32.toUInt16.toUInt32.toInt32 :: S) H Q) : W tb K μ rm pc L (.int x :: S) H Q :=
  W.pure rfl (fun k p e m below c T hA hx hb' t ht => XT.i2c hA hx rfl (hb hb' hd) rfl ht) h
theorem W.iconst {i : Int} (hd : decode μ.2.1 pc = .ok (.iconst i, 1)) (h : W tb K μ rm (pc + 1) L (.int (Int32.ofInt i) :: S) H Q) : W tb K μ rm pc L (S) H Q :=
  W.pure rfl (fun k p e m below c T hA hx hb' t ht => XS.iconst hA hx rfl (hb hb' hd) ht) h
theorem W.bipush {i : Int} (hd : decode μ.2.1 pc = .ok (.bipush i, 2)) (h : W tb K μ rm (pc + 2) L (.int (Int8.ofInt i).toInt32 :: S) H Q) : W tb K μ rm pc L (S) H Q :=
  W.pure rfl (fun k p e m below c T hA hx hb' t ht => XS.bipush hA hx rfl (hb hb' hd) ht) h
theorem W.sipush {i : Int} (hd : decode μ.2.1 pc = .ok (.sipush i, 3)) (h : W tb K μ rm (pc + 3) L (.int (Int16.ofInt i).toInt32 :: S) H Q) : W tb K μ rm pc L (S) H Q :=
  W.pure rfl (fun k p e m below c T hA hx hb' t ht => XS.sipush hA hx rfl (hb hb' hd) ht) h
theorem W.lconst {i : Fin 2} (hd : decode μ.2.1 pc = .ok (.lconst i, 1)) (h : W tb K μ rm (pc + 1) L (.long (Int64.ofNat i) :: S) H Q) : W tb K μ rm pc L (S) H Q :=
  W.pure rfl (fun k p e m below c T hA hx hb' t ht => XT.lconst hA hx rfl (hb hb' hd) ht) h
theorem W.aconst_null  (hd : decode μ.2.1 pc = .ok (.aconst_null, 1)) (h : W tb K μ rm (pc + 1) L (.null :: S) H Q) : W tb K μ rm pc L (S) H Q :=
  W.pure rfl (fun k p e m below c T hA hx hb' t ht => XS.aconstNull hA hx rfl (hb hb' hd) ht) h
theorem W.dup {v : Value} (hd : decode μ.2.1 pc = .ok (.dup, 1)) (hc : v.category = 1) (h : W tb K μ rm (pc + 1) L (v :: v :: S) H Q) : W tb K μ rm pc L (v :: S) H Q :=
  W.pure rfl (fun k p e m below c T hA hx hb' t ht => XS.dup hA hx rfl (hb hb' hd) rfl (by rw [cv_cat]; exact hc) ht) h
theorem W.pop {v : Value} (hd : decode μ.2.1 pc = .ok (.pop, 1)) (hc : v.category = 1) (h : W tb K μ rm (pc + 1) L (S) H Q) : W tb K μ rm pc L (v :: S) H Q :=
  W.pure rfl (fun k p e m below c T hA hx hb' t ht => XT.pop hA hx rfl (hb hb' hd) rfl (by rw [cv_cat]; exact hc) ht) h
theorem W.dup_x1 {v w : Value} (hd : decode μ.2.1 pc = .ok (.dup_x1, 1)) (hc : v.category = 1) (hc' : w.category = 1) (h : W tb K μ rm (pc + 1) L (v :: w :: v :: S) H Q) : W tb K μ rm pc L (v :: w :: S) H Q :=
  W.pure rfl (fun k p e m below c T hA hx hb' t ht => XT.dupX1 hA hx rfl (hb hb' hd) rfl (by rw [cv_cat]; exact hc) (by rw [cv_cat]; exact hc') ht) h
theorem W.iconst' {i : Int} {x : Int32} (hd : decode μ.2.1 pc = .ok (.iconst i, 1)) (hx : Int32.ofInt i = x) (h : W tb K μ rm (pc + 1) L (.int x :: S) H Q) : W tb K μ rm pc L S H Q := W.iconst hd (by rw [hx]; exact h)
theorem W.bipush' {i : Int} {x : Int32} (hd : decode μ.2.1 pc = .ok (.bipush i, 2)) (hx : (Int8.ofInt i).toInt32 = x) (h : W tb K μ rm (pc + 2) L (.int x :: S) H Q) : W tb K μ rm pc L S H Q := W.bipush hd (by rw [hx]; exact h)
theorem W.sipush' {i : Int} {x : Int32} (hd : decode μ.2.1 pc = .ok (.sipush i, 3)) (hx : (Int16.ofInt i).toInt32 = x) (h : W tb K μ rm (pc + 3) L (.int x :: S) H Q) : W tb K μ rm pc L S H Q := W.sipush hd (by rw [hx]; exact h)
theorem W.lconst' {i : Fin 2} {x : Int64} (hd : decode μ.2.1 pc = .ok (.lconst i, 1)) (hx : Int64.ofNat i = x) (h : W tb K μ rm (pc + 1) L (.long x :: S) H Q) : W tb K μ rm pc L S H Q := W.lconst hd (by rw [hx]; exact h)
/-- a local of one word -/
def one : Slot → Bool
  | .unset => true
  | .val v => v.category == 1
  | .second => false
theorem cs_one {k : Nat} {o : Slot} (h : one o = true) : cs k o = .unset ∨ ∃ w, cs k o = .val w ∧ w.category = 1 := by
  cases o with
  | unset => exact Or.inl rfl
  | second => cases h
  | val v => exact Or.inr ⟨cv k v, rfl, by rw [cv_cat]; simpa [one] using h⟩
theorem set_conc {k i : Nat} {x : Slot} : (L.map (cs k)).toArray.setIfInBounds i (cs k x) = ((L.set i x).map (cs k)).toArray := by
  simp [List.map_set]
theorem sto1 {k i : Nat} {o : Slot} {v : Value} (hl : L[i]? = some o) (ho : one o = true) (hv : v.category = 1) : storeLocals (L.map (cs k)).toArray i (cv k v) = some ((L.set i (.val v)).map (cs k)).toArray := by
  rw [XS.store1 (o := cs k o) (by simp [hl]) (cs_one ho) (by rw [cv_cat]; exact hv)]
  exact congrArg some (set_conc (x := .val v))
/-- over the first half of a long -/
theorem sto1w {k i : Nat} {w v : Value} (hl : L[i]? = some (.val w)) (ho : w.category = 2) (hi : i + 1 < L.length) (hv : v.category = 1) : storeLocals (L.map (cs k)).toArray i (cv k v) = some (((L.set (i + 1) .unset).set i (.val v)).map (cs k)).toArray := by
  have h0 : i < L.length := by omega
  have e : L[i] = .val w := by rw [List.getElem?_eq_getElem h0] at hl; exact Option.some.inj hl
  simp [storeLocals, storeSelf, setAt, h0, e, cs, cv_cat, ho, hi, hv, List.map_set]
/-- over the second half of a long -/
theorem sto1s {k i : Nat} {v : Value} (hl : L[i]? = some .second) (hi : 0 < i) (hv : v.category = 1) : storeLocals (L.map (cs k)).toArray i (cv k v) = some (((L.set (i - 1) .unset).set i (.val v)).map (cs k)).toArray := by
  have h0 : i < L.length := (List.getElem?_eq_some_iff.mp hl).1
  have e : L[i] = .second := by rw [List.getElem?_eq_getElem h0] at hl; exact Option.some.inj hl
  have h1 : i - 1 < L.length := by omega
  simp [storeLocals, storeSelf, setAt, h0, h1, e, cs, cv_cat, hv, List.map_set]
/-- what a long may be stored over -/
def two : Slot → Slot → Bool
  | .second, _ => false
  | _, .val w => w.category == 1
  | _, _ => true
theorem sto2 {k i : Nat} {o o' : Slot} {x : Int64} (hl : L[i]? = some o) (hl' : L[i + 1]? = some o') (ho : two o o' = true) : storeLocals (L.map (cs k)).toArray i (.long x) = some (((L.set i (.val (.long x))).set (i + 1) .second).map (cs k)).toArray := by
  have h0 : i < L.length := (List.getElem?_eq_some_iff.mp hl).1
  have h1 : i + 1 < L.length := (List.getElem?_eq_some_iff.mp hl').1
  have e : L[i] = o := by rw [List.getElem?_eq_getElem h0] at hl; exact Option.some.inj hl
  have e' : L[i + 1] = o' := by rw [List.getElem?_eq_getElem h1] at hl'; exact Option.some.inj hl'
  have ne : ¬ (i = i + 1) := by omega
  have c2 : (Value.long x).category = 2 := rfl
  have cl : cv k (.long x) = .long x := rfl
  have sw : ∀ (l : List Slot) (u v w : Slot), ((l.set (i + 1) u).set i v).set (i + 1) w = (l.set i v).set (i + 1) w := fun l u v w => by
    rw [List.set_comm _ _ (by omega : i + 1 ≠ i), List.set_set]
  cases o with
  | second => cases ho
  | unset =>
    cases o' with
    | unset => simp [storeLocals, storeSelf, setAt, h0, h1, e, e', cs, c2, cl, List.map_set]
    | second => simp [storeLocals, storeSelf, setAt, h0, h1, e, e', cs, c2, cl, List.map_set]
    | val w' =>
      have hc : w'.category = 1 := by simpa [two] using ho
      simp [storeLocals, storeSelf, setAt, h0, h1, e, e', cs, cv_cat, hc, c2, cl, List.map_set]
  | val w =>
    by_cases hw : w.category = 2
    · simp [storeLocals, storeSelf, setAt, h0, h1, e, cs, cv_cat, hw, c2, cl, List.map_set, sw]
    · cases o' with
      | unset => simp [storeLocals, storeSelf, setAt, h0, h1, e, e', cs, cv_cat, hw, c2, cl, List.map_set]
      | second => simp [storeLocals, storeSelf, setAt, h0, h1, e, e', cs, cv_cat, hw, c2, cl, List.map_set]
      | val w' =>
        have hc : w'.category = 1 := by simpa [two] using ho
        simp [storeLocals, storeSelf, setAt, h0, h1, e, e', cs, cv_cat, hw, hc, c2, cl, List.map_set]
theorem W.istore_n {i : Fin 4} {o : Slot} {x : Int32} (hd : decode μ.2.1 pc = .ok (.istore_n i, 1)) (hl : L[i.val]? = some o) (ho : one o = true) (h : W tb K μ rm (pc + 1) (L.set i.val (.val (.int x))) S H Q) : W tb K μ rm pc L (.int x :: S) H Q :=
  W.pure (by simp) (fun k p e m below c T hA hx hb' t ht => XS.istoreN hA hx rfl (hb hb' hd) rfl (sto1 (v := .int x) hl ho rfl) ht) h
theorem W.istore_nW {i : Fin 4} {w : Value} {x : Int32} (hd : decode μ.2.1 pc = .ok (.istore_n i, 1)) (hl : L[i.val]? = some (.val w)) (ho : w.category = 2) (hi : i.val + 1 < L.length) (h : W tb K μ rm (pc + 1) ((L.set (i.val + 1) .unset).set i.val (.val (.int x))) S H Q) : W tb K μ rm pc L (.int x :: S) H Q :=
  W.pure (by simp) (fun k p e m below c T hA hx hb' t ht => XS.istoreN hA hx rfl (hb hb' hd) rfl (sto1w (v := .int x) hl ho hi rfl) ht) h
theorem W.istore_nS {i : Fin 4} {x : Int32} (hd : decode μ.2.1 pc = .ok (.istore_n i, 1)) (hl : L[i.val]? = some .second) (hi : 0 < i.val) (h : W tb K μ rm (pc + 1) ((L.set (i.val - 1) .unset).set i.val (.val (.int x))) S H Q) : W tb K μ rm pc L (.int x :: S) H Q :=
  W.pure (by simp) (fun k p e m below c T hA hx hb' t ht => XS.istoreN hA hx rfl (hb hb' hd) rfl (sto1s (v := .int x) hl hi rfl) ht) h
theorem W.istore {i : Nat} {o : Slot} {x : Int32} (hd : decode μ.2.1 pc = .ok (.istore i, 2)) (hl : L[i]? = some o) (ho : one o = true) (h : W tb K μ rm (pc + 2) (L.set i (.val (.int x))) S H Q) : W tb K μ rm pc L (.int x :: S) H Q :=
  W.pure (by simp) (fun k p e m below c T hA hx hb' t ht => XS.istore hA hx rfl (hb hb' hd) rfl (sto1 (v := .int x) hl ho rfl) ht) h
theorem W.istoreW {i : Nat} {w : Value} {x : Int32} (hd : decode μ.2.1 pc = .ok (.istore i, 2)) (hl : L[i]? = some (.val w)) (ho : w.category = 2) (hi : i + 1 < L.length) (h : W tb K μ rm (pc + 2) ((L.set (i + 1) .unset).set i (.val (.int x))) S H Q) : W tb K μ rm pc L (.int x :: S) H Q :=
  W.pure (by simp) (fun k p e m below c T hA hx hb' t ht => XS.istore hA hx rfl (hb hb' hd) rfl (sto1w (v := .int x) hl ho hi rfl) ht) h
theorem W.istoreS {i : Nat} {x : Int32} (hd : decode μ.2.1 pc = .ok (.istore i, 2)) (hl : L[i]? = some .second) (hi : 0 < i) (h : W tb K μ rm (pc + 2) ((L.set (i - 1) .unset).set i (.val (.int x))) S H Q) : W tb K μ rm pc L (.int x :: S) H Q :=
  W.pure (by simp) (fun k p e m below c T hA hx hb' t ht => XS.istore hA hx rfl (hb hb' hd) rfl (sto1s (v := .int x) hl hi rfl) ht) h
theorem W.astore_n {i : Fin 4} {o : Slot} {v : Value} (hd : decode μ.2.1 pc = .ok (.astore_n i, 1)) (hl : L[i.val]? = some o) (ho : one o = true) (hv : v.isRef = true) (h : W tb K μ rm (pc + 1) (L.set i.val (.val v)) S H Q) : W tb K μ rm pc L (v :: S) H Q :=
  W.pure (by simp) (fun k p e m below c T hA hx hb' t ht => XS.astoreN hA hx rfl (hb hb' hd) rfl (by rw [cv_isRef]; exact hv) (sto1 (v := v) hl ho (by cases v <;> first | rfl | cases hv)) ht) h
theorem W.astore {i : Nat} {o : Slot} {v : Value} (hd : decode μ.2.1 pc = .ok (.astore i, 2)) (hl : L[i]? = some o) (ho : one o = true) (hv : v.isRef = true) (h : W tb K μ rm (pc + 2) (L.set i (.val v)) S H Q) : W tb K μ rm pc L (v :: S) H Q :=
  W.pure (by simp) (fun k p e m below c T hA hx hb' t ht => XS.astore hA hx rfl (hb hb' hd) rfl (by rw [cv_isRef]; exact hv) (sto1 (v := v) hl ho (by cases v <;> first | rfl | cases hv)) ht) h
theorem W.lstore_n {i : Fin 4} {o o' : Slot} {x : Int64} (hd : decode μ.2.1 pc = .ok (.lstore_n i, 1)) (hl : L[i.val]? = some o) (hl' : L[i.val + 1]? = some o') (ho : two o o' = true) (h : W tb K μ rm (pc + 1) ((L.set i.val (.val (.long x))).set (i.val + 1) .second) S H Q) : W tb K μ rm pc L (.long x :: S) H Q :=
  W.pure (by simp) (fun k p e m below c T hA hx hb' t ht => XT.lstoreN hA hx rfl (hb hb' hd) rfl (sto2 hl hl' ho) ht) h
theorem W.lstore {i : Nat} {o o' : Slot} {x : Int64} (hd : decode μ.2.1 pc = .ok (.lstore i, 2)) (hl : L[i]? = some o) (hl' : L[i + 1]? = some o') (ho : two o o' = true) (h : W tb K μ rm (pc + 2) ((L.set i (.val (.long x))).set (i + 1) .second) S H Q) : W tb K μ rm pc L (.long x :: S) H Q :=
  W.pure (by simp) (fun k p e m below c T hA hx hb' t ht => XT.lstore hA hx rfl (hb hb' hd) rfl (sto2 hl hl' ho) ht) h
theorem W.iinc {i : Nat} {n : Int} {x y : Int32} (hd : decode μ.2.1 pc = .ok (.iinc i n, 3)) (hy : Int32.ofInt n = y) (hl : L[i]? = some (.val (.int x))) (h : W tb K μ rm (pc + 3) (L.set i (.val (.int (x + y)))) S H Q) : W tb K μ rm pc L S H Q := by
  subst hy
  exact W.pure (by simp) (fun k p e m below c T hA hx hb' t ht => XS.iinc hA hx rfl (hb hb' hd) (get_conc hl) (sto1 (v := .int (x + Int32.ofInt n)) hl rfl rfl) ht) h
theorem W.goto {o : Int} {pc' : Nat} (hd : decode μ.2.1 pc = .ok (.goto o, 3)) (ho : 0 ≤ (pc : Int) + o) (hp : ((pc : Int) + o).toNat = pc') (h : W tb K μ rm pc' L S H Q) : W tb K μ rm pc L S H Q :=
  W.pure rfl (fun k p e m below c T hA hx hb' t ht => XS.goto hA hx rfl rfl (hb hb' hd) ho hp ht) h
/-- what a comparison asks -/
def cnd : ClassFile.Cond → Int32 → Int32 → Prop
  | .eq, x, y => x = y
  | .ne, x, y => ¬ x = y
  | .lt, x, y => x < y
  | .ge, x, y => ¬ x < y
  | .gt, x, y => y < x
  | .le, x, y => ¬ y < x
def cndN : ClassFile.Cond → Int32 → Int32 → Prop
  | .eq, x, y => ¬ x = y
  | .ne, x, y => x = y
  | .lt, x, y => ¬ x < y
  | .ge, x, y => x < y
  | .gt, x, y => ¬ y < x
  | .le, x, y => y < x
theorem cndN_of (cd : ClassFile.Cond) (x y : Int32) (h : ¬ cnd cd x y) : cndN cd x y := by
  cases cd <;> first | exact h | exact Classical.not_not.mp h
theorem cnd_iff (cd : ClassFile.Cond) (x y : Int32) : if_icmp.holds cd x y = true ↔ cnd cd x y := by
  cases cd <;> simp [if_icmp.holds, cnd, Int32.not_lt]
theorem cnd_not (cd : ClassFile.Cond) (x y : Int32) : if_icmp.holds cd x y = false ↔ ¬ cnd cd x y := by
  rw [← cnd_iff]; cases if_icmp.holds cd x y <;> simp
theorem W.icmp {cd : ClassFile.Cond} {x y : Int32} {o : Int} {pc' : Nat} (hd : decode μ.2.1 pc = .ok (.if_icmp cd o, 3)) (ho : 0 ≤ (pc : Int) + o) (hp : ((pc : Int) + o).toNat = pc') (h1 : cnd cd x y → W tb K μ rm pc' L S H Q) (h2 : cndN cd x y → W tb K μ rm (pc + 3) L S H Q) : W tb K μ rm pc L (.int y :: .int x :: S) H Q := by
  cases hc : if_icmp.holds cd x y
  · exact W.pure rfl (fun k p e m below c T hA hx hb' t ht => XS.icmpNo hA hx rfl (hb hb' hd) rfl hc ht) (h2 (cndN_of cd x y ((cnd_not cd x y).mp hc)))
  · exact W.pure rfl (fun k p e m below c T hA hx hb' t ht => XS.icmpYes hA hx rfl rfl (hb hb' hd) rfl hc ho hp ht) (h1 ((cnd_iff cd x y).mp hc))
theorem W.ifc {cd : ClassFile.Cond} {x : Int32} {o : Int} {pc' : Nat} (hd : decode μ.2.1 pc = .ok (.ifCond cd o, 3)) (ho : 0 ≤ (pc : Int) + o) (hp : ((pc : Int) + o).toNat = pc') (h1 : cnd cd x 0 → W tb K μ rm pc' L S H Q) (h2 : cndN cd x 0 → W tb K μ rm (pc + 3) L S H Q) : W tb K μ rm pc L (.int x :: S) H Q := by
  cases hc : ifCond.holds cd x
  · exact W.pure rfl (fun k p e m below c T hA hx hb' t ht => XS.ifNo hA hx rfl (hb hb' hd) rfl hc ht) (h2 (cndN_of cd x 0 ((cnd_not cd x 0).mp (by rw [← if0]; exact hc))))
  · exact W.pure rfl (fun k p e m below c T hA hx hb' t ht => XS.ifYes hA hx rfl rfl (hb hb' hd) rfl hc ho hp ht) (h1 ((cnd_iff cd x 0).mp (by rw [← if0]; exact hc)))
def cndL : ClassFile.Cond → Int64 → Int64 → Prop
  | .eq, x, y => x = y
  | .ne, x, y => ¬ x = y
  | .lt, x, y => x < y
  | .ge, x, y => ¬ x < y
  | .gt, x, y => y < x
  | .le, x, y => ¬ y < x
def cndLN : ClassFile.Cond → Int64 → Int64 → Prop
  | .eq, x, y => ¬ x = y
  | .ne, x, y => x = y
  | .lt, x, y => ¬ x < y
  | .ge, x, y => x < y
  | .gt, x, y => ¬ y < x
  | .le, x, y => y < x
theorem cndLN_iff (cd : ClassFile.Cond) (x y : Int64) : cndLN cd x y ↔ ¬ cndL cd x y := by
  cases cd <;> first | exact Iff.rfl | exact Classical.not_not.symm
theorem cndN_iff (cd : ClassFile.Cond) (x y : Int32) : cndN cd x y ↔ ¬ cnd cd x y := by
  cases cd <;> first | exact Iff.rfl | exact Classical.not_not.symm
theorem cmpL_iff (cd : ClassFile.Cond) (x y : Int64) : cnd cd (XT.cmpL x y) 0 ↔ cndL cd x y := by
  have e : XT.cmpL x y = lcmpW x y := by simp [XT.cmpL, lcmpW]
  rw [e]
  cases cd
  · exact lw_eq x y
  · exact not_congr (lw_eq x y)
  · exact lw_lt x y
  · exact not_congr (lw_lt x y)
  · exact lw_gt x y
  · exact not_congr (lw_gt x y)
/-- lcmp and the branch behind it -/
theorem W.lcif {cd : ClassFile.Cond} {x y : Int64} {o : Int} {pc1 pc' : Nat} (hd1 : decode μ.2.1 pc = .ok (.lcmp, 1)) (hp1 : pc + 1 = pc1) (hd : decode μ.2.1 pc1 = .ok (.ifCond cd o, 3)) (ho : 0 ≤ (pc1 : Int) + o) (hp : ((pc1 : Int) + o).toNat = pc') (h1 : cndL cd x y → W tb K μ rm pc' L S H Q) (h2 : cndLN cd x y → W tb K μ rm (pc1 + 3) L S H Q) : W tb K μ rm pc L (.long y :: .long x :: S) H Q := by
  subst hp1
  exact W.lcmp hd1 (W.ifc hd ho hp (fun h => h1 ((cmpL_iff cd x y).mp h)) (fun h => h2 ((cndLN_iff cd x y).mpr fun q => (cndN_iff cd _ 0).mp h ((cmpL_iff cd x y).mpr q))))
theorem W.ifnullR {i : Nat} {o : Int} (hd : decode μ.2.1 pc = .ok (.ifnull o, 3)) (h : W tb K μ rm (pc + 3) L S H Q) : W tb K μ rm pc L (.ref i :: S) H Q :=
  W.pure rfl (fun k p e m below c T hA hx hb' t ht => XS.ifnullNo hA hx rfl (hb hb' hd) rfl ht) h
theorem W.ifnonnullR {i : Nat} {o : Int} {pc' : Nat} (hd : decode μ.2.1 pc = .ok (.ifnonnull o, 3)) (ho : 0 ≤ (pc : Int) + o) (hp : ((pc : Int) + o).toNat = pc') (h : W tb K μ rm pc' L S H Q) : W tb K μ rm pc L (.ref i :: S) H Q :=
  W.pure rfl (fun k p e m below c T hA hx hb' t ht => XT.ifnonnullYes hA hx rfl rfl (hb hb' hd) rfl ho hp ht) h
theorem W.lsw {d : Int} {ps : Array (Int × Int)} {len : Nat} {x : Int32} {o : Int} {pc' : Nat} (hd : decode μ.2.1 pc = .ok (.lookupswitch d ps, len)) (hs : (ps.toList.zip (ps.toList.drop 1)).all (fun (a, next) => a.1 < next.1) = true) (ho : lookupswitch.offset ps.toList d x.toInt = o) (h0 : 0 ≤ (pc : Int) + o) (hp : ((pc : Int) + o).toNat = pc')
    (h : W tb K μ rm pc' L S H Q) : W tb K μ rm pc L (.int x :: S) H Q := by
  subst hp
  refine W.pure rfl (fun k p e m below c T hA hx hb' t ht => ?_) h
  have hd' := hb hb' hd
  show Steps p.tables e below (T.setTop (mkF m pc (L.map (cs k)).toArray (.int x :: S.map (cv k)))) _
  jvm_step hA [hA.top, hx, hd', lookupswitch.wp_chain, ho, h0]
  refine ⟨?_, ht⟩
  simpa using hs
end Logic
end Jvm.Own
namespace Jvm.Own
open Sem ClassFile Op Lib Jvm.Stand Jvm.Free Jvm.LawKit Jvm.RoadKit
section Heap
variable {Z : State} {K : KTab} {h h' : Heap} {H : AHeap} {a b : Addr} {tb : List Cond} {a0 : Array Value}
theorem CellOk.ext {c : ACell} (E : Ext h h') (F : CellOk Z K h a c) : CellOk Z K h' a c := by
  cases c with
  | inl q =>
    rcases F with q0 | ⟨C, n, fs, h1, h2, h3, h4⟩
    · exact Or.inl q0
    · exact Or.inr ⟨C, n, fs, h1, h2, h3.ext E, fun j f v hf hv => (h4 j f v hf hv).ext E⟩
  | inr q =>
    obtain ⟨cell, h1, h2⟩ := F
    exact ⟨cell, h1.ext E, h2⟩
/-- a cell whose class is in the table -/
theorem CellOk.obj {c n : Nat} {vs : List Value} {C : String} {fs : List (String × String × String × FieldType)} (hK : K[c]? = some (C, n, fs)) (F : CellOk Z K h a (.inl (c, vs))) : vs.length = fs.length ∧ Exa Z h a C ∧ ∀ (j : Nat) (f : String × String × String × FieldType) (v : Value), fs[j]? = some f → vs[j]? = some v → Fld Z h a f.1 f.2.1 f.2.2.1 (cv Z.heap.size v) := by
  rcases F with q | ⟨C', n', fs', h1, h2, h3, h4⟩
  · rw [hK] at q; cases q
  · cases hK.symm.trans h1; exact ⟨h2, h3, h4⟩
theorem CellOk.other {c : ACell} {sl : Nat} {v : Value} (W : Wr h h' b sl v) (F : CellOk Z K h a c) (ne : a ≠ b) : CellOk Z K h' a c := by
  cases c with
  | inl q =>
    rcases F with q0 | ⟨C, n, fs, h1, h2, h3, h4⟩
    · exact Or.inl q0
    · exact Or.inr ⟨C, n, fs, h1, h2, h3.wr W, fun j f v hf hv => (h4 j f v hf hv).other W (Or.inl ne)⟩
  | inr q =>
    obtain ⟨cell, h1, h2⟩ := F
    exact ⟨cell, h1.other W ne, h2⟩
theorem Rel.start (Z : State) (K : KTab) : Rel Z K Z.heap [] := ⟨rfl, fun i c q => by simp at q⟩
theorem Rel.push {c : ACell} {cell : Cell} (R : Rel Z K h H) (F : CellOk Z K (h.push cell) (Z.heap.size + H.length) c) : Rel Z K (h.push cell) (H ++ [c]) := by
  have E : Ext h (h.push cell) := ⟨by simp, fun x c q => by rw [Array.getElem?_push_lt (Array.getElem?_eq_some_iff.mp q).1]; exact (Array.getElem?_eq_getElem _).symm.trans q⟩
  refine ⟨by simp [R.1]; omega, fun i c' q => ?_⟩
  rcases Nat.lt_trichotomy i H.length with hi | hi | hi
  · rw [List.getElem?_append_left hi] at q
    exact (R.2 i c' q).ext E
  · subst hi
    rw [List.getElem?_append_right (Nat.le_refl _)] at q
    simp at q
    subst q
    exact F
  · rw [List.getElem?_append_right (Nat.le_of_lt hi)] at q
    rw [List.getElem?_eq_none (show 1 ≤ i - H.length from Nat.sub_pos_of_lt hi)] at q
    cases q
theorem Rel.set {c : ACell} {i sl : Nat} {v : Value} (R : Rel Z K h H) (W : Wr h h' (Z.heap.size + i) sl v) (F : CellOk Z K h' (Z.heap.size + i) c) : Rel Z K h' (H.set i c) := by
  refine ⟨by rw [W.size, List.length_set]; exact R.1, fun j c' q => ?_⟩
  by_cases e : j = i
  · subst e
    obtain ⟨hl, -⟩ := List.getElem?_eq_some_iff.mp q
    rw [List.getElem?_set_self (by simpa using hl)] at q
    cases q
    exact F
  · rw [List.getElem?_set_ne (Ne.symm e)] at q
    exact (R.2 j c' q).other W (fun q' => e (Nat.add_left_cancel q'))
theorem mem_of_get {q : String × Nat × List (String × String × String × FieldType)} {c : Nat} (hK : K[c]? = some q) : q ∈ K := List.mem_of_getElem? hK
theorem FOk.laid {C : String} {f : String × String × String × FieldType} (F : FOk tb C f) (hw : ∀ d ∈ tb, d.before a0 Z = true) : Laid Z a0 C f.1 f.2.1 f.2.2.1 := F.1.imp (hw _) (hw _)
theorem CellOk.put {c i j : Nat} {vs : List Value} {C : String} {n : Nat} {fs : List (String × String × String × FieldType)} {f : String × String × String × FieldType} {v : Value} (hKO : KOk tb K) (hw : ∀ d ∈ tb, d.before a0 Z = true) (hK : K[c]? = some (C, n, fs)) (hf : fs[j]? = some f)
    (W : Wr h h' a (RoadKit.slotOf Z f.1 f.2.1 f.2.2.1) (cv Z.heap.size v)) (F : CellOk Z K h a (.inl (c, vs))) : CellOk Z K h' a (.inl (c, vs.set j v)) := by
  obtain ⟨h2, h3, h4⟩ := CellOk.obj hK F
  obtain ⟨k1, k2, k3⟩ := hKO _ (mem_of_get hK)
  refine Or.inr ⟨C, n, fs, hK, by simpa using h2, h3.wr W, fun j' f' v' hf' hv' => ?_⟩
  by_cases e : j' = j
  · subst e
    cases hf.symm.trans hf'
    have hl : j' < vs.length := by rw [h2]; exact (List.getElem?_eq_some_iff.mp hf).1
    rw [List.getElem?_set_self hl] at hv'
    cases hv'
    obtain ⟨w, hw'⟩ : ∃ w, vs[j']? = some w := ⟨vs[j'], List.getElem?_eq_getElem hl⟩
    exact (h4 j' f w hf hw').same W
  · rw [List.getElem?_set_ne (Ne.symm e)] at hv'
    have m1 : f ∈ fs := List.mem_of_getElem? hf
    have m2 : f' ∈ fs := List.mem_of_getElem? hf'
    have hn : f'.2.1 ≠ f.2.1 := fun q => by
      have g1 : (fs.map fun f => f.2.1)[j']? = some f'.2.1 := by simp [hf']
      have g2 : (fs.map fun f => f.2.1)[j]? = some f.2.1 := by simp [hf]
      rw [q] at g1
      obtain ⟨l1, e1⟩ := List.getElem?_eq_some_iff.mp g1
      obtain ⟨l2, e2⟩ := List.getElem?_eq_some_iff.mp g2
      rcases Nat.lt_or_gt_of_ne e with lt | lt
      · exact (List.pairwise_iff_getElem.mp k3) j' j l1 l2 lt (e1.trans e2.symm)
      · exact (List.pairwise_iff_getElem.mp k3) j j' l2 l1 lt (e2.trans e1.symm)
    exact (h4 j' f' v' hf' hv').other W (Or.inr (slot_ne ((k2 f' m2).laid hw) ((k2 f m1).laid hw) hn (k2 f' m2).2 (k2 f m1).2))
theorem CellOk.sto {ty : FieldType} {vs : List Value} {j : Nat} {v : Value} (W : Wr h h' a j (cv Z.heap.size v)) (F : CellOk Z K h a (.inr (ty, vs))) (hv : fits ty v = true) : CellOk Z K h' a (.inr (ty, vs.set j v)) := by
  obtain ⟨cell, h1, h2, h3⟩ := F
  refine ⟨_, h1.same W, ?_, fun w hw => ?_⟩
  · simp [Cell.setSlot, h2, List.map_set]
  · rcases List.mem_or_eq_of_mem_set hw with q | q
    · exact h3 w q
    · exact q ▸ hv
end Heap
section Logic
variable {tb : List Cond} {K : KTab} {μ : Mth} {rm : Room} {pc : Nat} {L : List Slot} {S : List Value} {H : AHeap} {Q Q' : Option Value → AHeap → Prop}
theorem via_of {Z : State} {a0 : Array Value} (hw : ∀ d ∈ tb, d.before a0 Z = true) {R0 O n d : String} (via : R0 = O ∨ Cond.sameField R0 O n d ∈ tb) : Via Z R0 O n d := by
  rcases via with rfl | q
  · exact Via.refl
  · exact Via.of (hw _ q)
theorem W.getF {idx i j c n : Nat} {C R0 host : String} {fs : List (String × String × String × FieldType)} {vs : List Value} {f : String × String × String × FieldType} {v : Value} (hd : decode μ.2.1 pc = .ok (.getfield idx, 3))
    (w : Cond.fieldLink μ.1.cls idx R0 f.2.1 f.2.2.1 ∈ tb ∨ Cond.fieldLinkNest μ.1.cls idx R0 f.2.1 f.2.2.1 host ∈ tb) (via : R0 = f.1 ∨ Cond.sameField R0 f.1 f.2.1 f.2.2.1 ∈ tb) (hK : K[c]? = some (C, n, fs)) (hf : fs[j]? = some f) (hH : H[i]? = some (.inl (c, vs))) (hv : vs[j]? = some v)
    (h : W tb K μ rm (pc + 3) L (v :: S) H Q) : W tb K μ rm pc L (.ref i :: S) H Q := by
  intro hL Z a0 p l e R s m args below meth c' T locs cells slots X
  obtain ⟨X0, hx, hZ, hw, hby, hml, hrt, hnm, hlk, hown, hR, hr⟩ := X
  obtain ⟨k2, k3, k4⟩ := CellOk.obj hK (hR.2 _ _ hH)
  have F := k4 j f v hf hv
  obtain ⟨T1, X1, e1, st⟩ := RoadKit.getF X0 hx hZ hown (w.imp (hw _) (hw _)) (via_of hw via) rfl F (g := mkF m pc (L.map (cs Z.heap.size)).toArray ((Value.ref i :: S).map (cv Z.heap.size))) rfl rfl (hb hby hd)
  exact (h hL Z a0 p l e R s m args below meth c' T1 locs cells slots ⟨X1, hx, hZ, hw, hby, hml, hrt, hnm, hlk, hown, e1 ▸ hR, hr⟩).steps st
theorem W.putF {idx i j c n : Nat} {C R0 host : String} {fs : List (String × String × String × FieldType)} {vs : List Value} {f : String × String × String × FieldType} {v : Value} (hKO : KOk tb K) (hd : decode μ.2.1 pc = .ok (.putfield idx, 3))
    (w : Cond.fieldLink μ.1.cls idx R0 f.2.1 f.2.2.1 ∈ tb ∨ Cond.fieldLinkNest μ.1.cls idx R0 f.2.1 f.2.2.1 host ∈ tb) (via : R0 = f.1 ∨ Cond.sameField R0 f.1 f.2.1 f.2.2.1 ∈ tb) (hK : K[c]? = some (C, n, fs)) (hf : fs[j]? = some f)
    (la : Cond.lays C f.1 f.2.1 f.2.2.1 ∈ tb ∨ (Cond.laysFinal C f.1 f.2.1 f.2.2.1 ∈ tb ∧ μ.1.cls = f.1 ∧ μ.1.name = "<init>")) (hn : narrow f.2.2.2 v = v) (hfi : fits f.2.2.2 v = true) (hH : H[i]? = some (.inl (c, vs)))
    (h : W tb K μ rm (pc + 3) L S (H.set i (.inl (c, vs.set j v))) Q) : W tb K μ rm pc L (v :: .ref i :: S) H Q := by
  intro hL Z a0 p l e R s m args below meth c' T locs cells slots X
  obtain ⟨X0, hx, hZ, hw, hby, hml, hrt, hnm, hlk, hown, hR, hFr, hr⟩ := X
  obtain ⟨k2, k3, k4⟩ := CellOk.obj hK (hR.2 _ _ hH)
  have hl : j < vs.length := by rw [k2]; exact (List.getElem?_eq_some_iff.mp hf).1
  have F := k4 j f vs[j] hf (List.getElem?_eq_getElem hl)
  obtain ⟨o1, o2, o3⟩ := hKO _ (mem_of_get hK)
  obtain ⟨T1, h1, X1, e1, W1, st⟩ := RoadKit.putF X0 hx hZ hown (w.imp (hw _) (hw _)) (via_of hw via) rfl F k3 (la.imp (hw _) fun q => ⟨hw _ q.1, q.2.1, hnm.trans q.2.2⟩) (hw _ o1) (o2 f (List.mem_of_getElem? hf)).2 (v := cv Z.heap.size v) (by rw [cv_narrow, hn]) (by rw [cv_fits]; exact hfi) (g := mkF m pc (L.map (cs Z.heap.size)).toArray ((v :: Value.ref i :: S).map (cv Z.heap.size))) rfl rfl (hb hby hd)
  exact (h hL Z a0 p l e R s m args below meth c' T1 _ cells slots ⟨X1, hx, hZ, hw, hby, hml, hrt, hnm, hlk, hown, e1 ▸ hR.set W1 (CellOk.put (i := i) hKO hw hK hf W1 (hR.2 _ _ hH)), Fr.snoc X1 hFr (Nat.le_add_right _ _), hr⟩).steps st
/-- a field of a boolean, byte, char or short -/
theorem W.putFN {idx i j c n : Nat} {C R0 : String} {fs : List (String × String × String × FieldType)} {vs : List Value} {f : String × String × String × FieldType} {v v' : Value} (hKO : KOk tb K) (hd : decode μ.2.1 pc = .ok (.putfield idx, 3))
    (w : Cond.fieldLink μ.1.cls idx R0 f.2.1 f.2.2.1 ∈ tb) (via : R0 = f.1 ∨ Cond.sameField R0 f.1 f.2.1 f.2.2.1 ∈ tb) (hK : K[c]? = some (C, n, fs)) (hf : fs[j]? = some f)
    (la : Cond.lays C f.1 f.2.1 f.2.2.1 ∈ tb ∨ (Cond.laysFinal C f.1 f.2.1 f.2.2.1 ∈ tb ∧ μ.1.cls = f.1 ∧ μ.1.name = "<init>")) (hn : narrow f.2.2.2 v = v') (hfi : fits f.2.2.2 v' = true) (hH : H[i]? = some (.inl (c, vs)))
    (h : W tb K μ rm (pc + 3) L S (H.set i (.inl (c, vs.set j v'))) Q) : W tb K μ rm pc L (v :: .ref i :: S) H Q := by
  intro hL Z a0 p l e R s m args below meth c' T locs cells slots X
  obtain ⟨X0, hx, hZ, hw, hby, hml, hrt, hnm, hlk, hown, hR, hFr, hr⟩ := X
  obtain ⟨k2, k3, k4⟩ := CellOk.obj hK (hR.2 _ _ hH)
  have hl : j < vs.length := by rw [k2]; exact (List.getElem?_eq_some_iff.mp hf).1
  have F := k4 j f vs[j] hf (List.getElem?_eq_getElem hl)
  obtain ⟨o1, o2, o3⟩ := hKO _ (mem_of_get hK)
  obtain ⟨T1, h1, X1, e1, W1, st⟩ := RoadKit.putFN X0 hx hZ hown (hw _ w) (via_of hw via) rfl F k3 (la.imp (hw _) fun q => ⟨hw _ q.1, q.2.1, hnm.trans q.2.2⟩) (hw _ o1) (o2 f (List.mem_of_getElem? hf)).2 (v := cv Z.heap.size v) (v' := cv Z.heap.size v') (by rw [cv_narrow, hn]) (by rw [cv_fits]; exact hfi) (g := mkF m pc (L.map (cs Z.heap.size)).toArray ((v :: Value.ref i :: S).map (cv Z.heap.size))) rfl rfl (hb hby hd)
  exact (h hL Z a0 p l e R s m args below meth c' T1 _ cells slots ⟨X1, hx, hZ, hw, hby, hml, hrt, hnm, hlk, hown, e1 ▸ hR.set W1 (CellOk.put (i := i) hKO hw hK hf W1 (hR.2 _ _ hH)), Fr.snoc X1 hFr (Nat.le_add_right _ _), hr⟩).steps st
/-- the index j is the natural N -/
abbrev ix (j : Int32) (N : Nat) : Prop := ¬ j < 0 ∧ j.toNatClampNeg = N
theorem ix_ofNat {N : Nat} (h : N < 2 ^ 31) : ix (Int32.ofNat N) N := by
  have e : (Int32.ofNat N).toInt = N := Int32.toInt_ofNat_of_lt h
  refine ⟨?_, ?_⟩
  · rw [Int32.lt_iff_toInt_lt, e]; simp
  · rw [Int32.toNatClampNeg, e]; rfl
theorem inb {cell : Cell} {j : Int32} {N : Nat} {vs : List Value} {k : Nat} (k2 : cell.slots = (vs.map (cv k)).toArray) (hj : ¬ j < 0) (hN : j.toNatClampNeg = N) (hl : N < vs.length) : ¬ (j < 0 ∨ cell.slots.size ≤ j.toNatClampNeg) := by
  rw [k2, hN]; simp; exact ⟨by simpa using hj, hl⟩
/-- room for an object of n slots -/
def nok (rm : Room) (n : Nat) : Bool := Nat.ble 1 rm.cells && (Nat.ble n rm.slots && Nat.ble n 67108864)
theorem nok_spec {rm : Room} {n : Nat} (h : nok rm n = true) : 1 ≤ rm.cells ∧ n ≤ rm.slots ∧ n * 8 ≤ 536870912 := by
  simp only [nok, Bool.and_eq_true, Nat.ble_eq] at h
  omega
theorem W.new {idx c n i : Nat} {C : String} {fs : List (String × String × String × FieldType)} (hKO : KOk tb K) (hd : decode μ.2.1 pc = .ok (.new idx, 3)) (w : Cond.classLink μ.1.cls idx C ∈ tb) (wz : Cond.initialized C ∈ tb) (hK : K[c]? = some (C, n, fs)) (hi : H.length = i) (hr : nok rm n = true)
    (h : W tb K μ ⟨rm.frames, rm.cells - 1, rm.slots - n, rm.locals⟩ (pc + 3) L (.ref i :: S) (H ++ [.inl (c, fs.map fun f => defaultValue f.2.2.2)]) Q) : W tb K μ rm pc L S H Q := by
  intro hL Z a0 p l e R s m args below meth c' T locs cells slots X
  obtain ⟨X0, hx, hZ, hw, hby, hml, hrt, hnm, hlk, hown, hR, hFr, hr1, hr2, hr3, hr4⟩ := X
  obtain ⟨hc, hs, hb'⟩ := nok_spec hr
  obtain ⟨o1, o2, o3⟩ := hKO _ (mem_of_get hK)
  obtain ⟨vm', cC, kC, h1, h2, h3, h4, X', st⟩ := X0.newCold hx hown (mv hZ (hw _ w)) (mv hZ (hw _ (show Cond.instantiable C n ∈ tb from o1))) (mv hZ (hw _ wz)) (g := mkF m pc (L.map (cs Z.heap.size)).toArray (S.map (cv Z.heap.size))) rfl (hb hby hd) (by omega) (by omega)
  rw [hZ.alike.findClass] at h1
  obtain ⟨kZ, z1, -⟩ := Vm.findClass_spec h1
  obtain ⟨k', z2, z3⟩ := hZ.alike.2.2 _ _ z1
  cases h2.symm.trans z2
  have ei : kC.instanceTypes = kZ.instanceTypes := by rw [z3]
  have hN : (T.heap.push { cls := cC, slots := kC.instanceTypes.map defaultValue, vm := .none })[T.heap.size]? = some { cls := cC, slots := kC.instanceTypes.map defaultValue, vm := .none } := by simp
  have ea : Z.heap.size + i = T.heap.size := by rw [hR.1, hi]
  have CO : CellOk Z K (T.heap.push { cls := cC, slots := kC.instanceTypes.map defaultValue, vm := .none }) (Z.heap.size + H.length) (.inl (c, fs.map fun f => defaultValue f.2.2.2)) := by
    refine Or.inr ⟨C, n, fs, hK, by simp, ⟨_, kZ, by rw [← hR.1]; exact hN, h1, z1, rfl, fun _ => by simp [ei]⟩, fun j f v hf hv => ?_⟩
    have hv' : v = defaultValue f.2.2.2 := by simpa [hf] using hv.symm
    subst hv'
    obtain ⟨f1, f2⟩ := o2 f (List.mem_of_getElem? hf)
    obtain ⟨c1, k1, cf, kf, i1, ff, b1, b2, b3, b4, b5, b6, -⟩ := (FOk.laid ⟨f1, f2⟩ hw).spec
    cases h1.symm.trans b1
    cases z1.symm.trans b2
    rw [cv_default]
    exact ⟨_, cf, kf, i1, ff, by rw [← hR.1]; exact hN, b3, b4, by simp, rfl, b5, by simp [ei, b6, (State.fieldFound?_type b3 f2).2]⟩
  have := h hL Z a0 p l e R s m args below meth c' _ locs (cells + 1) (slots + n) ⟨X', hx, hZ, hw, hby, hml, hrt, hnm, hlk, hown, hR.push CO, hFr, hr1, by show cells + 1 + (rm.cells - 1) ≤ _; omega, by show slots + n + (rm.slots - n) ≤ _; omega, hr4⟩
  refine this.steps fun t ht => st t ?_
  rw [← ea]; exact ht
theorem W.newarray {aty : ArrayType} {ty : FieldType} {N i : Nat} {n : Int32} {d : Value} (hd : decode μ.2.1 pc = .ok (.newarray aty, 2)) (hty : newarray.typeOf aty = ty) (w : Cond.arrayClass ty ∈ tb) (hdv : defaultValue ty = d) (hn : ix n N) (hi : H.length = i) (hr : nok rm N = true)
    (h : W tb K μ ⟨rm.frames, rm.cells - 1, rm.slots - N, rm.locals⟩ (pc + 2) L (.ref i :: S) (H ++ [.inr (ty, List.replicate N d)]) Q) : W tb K μ rm pc L (.int n :: S) H Q := by
  intro hL Z a0 p l e R s m args below meth c' T locs cells slots X
  obtain ⟨X0, hx, hZ, hw, hby, hml, hrt, hnm, hlk, hown, hR, hFr, hr1, hr2, hr3, hr4⟩ := X
  obtain ⟨hn, hN⟩ := hn
  subst hty hdv hN
  obtain ⟨hc, hs, hb'⟩ := nok_spec hr
  have hcb : componentBytes (newarray.typeOf aty) ≤ 8 := by cases aty <;> decide
  obtain ⟨cA, kA, comp, h1, h2, h3, X', st⟩ := X0.newarrayPrim hx (mvA hZ (hw _ w)) (g := mkF m pc (L.map (cs Z.heap.size)).toArray ((Value.int n :: S).map (cv Z.heap.size))) rfl (hb hby hd) (n := n) rfl hn (Nat.le_trans (Nat.mul_le_mul (Nat.le_refl _) hcb) hb') (by omega) (by omega)
  rw [hZ.alike.findClass] at h1
  obtain ⟨kZ, z1, -⟩ := Vm.findClass_spec h1
  obtain ⟨k', z2, z3⟩ := hZ.alike.2.2 _ _ z1
  cases h2.symm.trans z2
  have hN : (T.heap.push { cls := cA, slots := Array.replicate n.toNatClampNeg (defaultValue (newarray.typeOf aty)), vm := .none })[T.heap.size]? = some { cls := cA, slots := Array.replicate n.toNatClampNeg (defaultValue (newarray.typeOf aty)), vm := .none } := by simp
  have ea : Z.heap.size + i = T.heap.size := by rw [hR.1, hi]
  have CO : CellOk Z K (T.heap.push { cls := cA, slots := Array.replicate n.toNatClampNeg (defaultValue (newarray.typeOf aty)), vm := .none }) (Z.heap.size + H.length) (.inr (newarray.typeOf aty, List.replicate n.toNatClampNeg (defaultValue (newarray.typeOf aty)))) := by
    refine ⟨_, ⟨by rw [← hR.1]; exact hN, ⟨by simp, kZ, z1, comp, by rw [← h3, z3]⟩, by simp⟩, by simp [cv_default], fun v hv => ?_⟩
    rw [(List.mem_replicate.mp hv).2]
    cases aty <;> rfl
  have := h hL Z a0 p l e R s m args below meth c' _ locs (cells + 1) (slots + n.toNatClampNeg) ⟨X', hx, hZ, hw, hby, hml, hrt, hnm, hlk, hown, hR.push CO, hFr, hr1, by show cells + 1 + (rm.cells - 1) ≤ _; omega, by show slots + n.toNatClampNeg + (rm.slots - n.toNatClampNeg) ≤ _; omega, hr4⟩
  refine this.steps fun t ht => st t ?_
  rw [← ea]; exact ht
theorem W.arraylength {i : Nat} {ty : FieldType} {vs : List Value} (hd : decode μ.2.1 pc = .ok (.arraylength, 1)) (hH : H[i]? = some (.inr (ty, vs))) (h : W tb K μ rm (pc + 1) L (.int (Int32.ofNat vs.length) :: S) H Q) : W tb K μ rm pc L (.ref i :: S) H Q := by
  intro hL Z a0 p l e R s m args below meth c' T locs cells slots X
  have X' := X
  obtain ⟨X0, hx, hZ, hw, hby, hml, hrt, hnm, hlk, hown, hR, hr⟩ := X
  obtain ⟨cell, A, k2, k3⟩ := hR.2 _ _ hH
  refine (h hL Z a0 p l e R s m args below meth c' T locs cells slots X').steps fun t ht => ?_
  refine X0.arraylength hx A.1 (State.isArrayOf_alike hZ.alike A.2.1) (g := mkF m pc (L.map (cs Z.heap.size)).toArray ((Value.ref i :: S).map (cv Z.heap.size))) rfl rfl (hb hby hd) t ?_
  have e : cell.slots.size.toInt32 = Int32.ofNat vs.length := by rw [k2]; simp
  rw [e]; exact ht
theorem W.xaload {ins : Instr} {ty : FieldType} (hk : (ins = .iaload ∧ ty = .int) ∨ (ins = .laload ∧ ty = .long) ∨ (ins = .baload ∧ (ty = .byte ∨ ty = .boolean))) {i N : Nat} {j : Int32} {vs : List Value} {v : Value} (hd : decode μ.2.1 pc = .ok (ins, 1)) (hH : H[i]? = some (.inr (ty, vs))) (hj : ix j N) (hv : vs[N]? = some v)
    (h : W tb K μ rm (pc + 1) L (v :: S) H Q) : W tb K μ rm pc L (.int j :: .ref i :: S) H Q := by
  intro hL Z a0 p l e R s m args below meth c' T locs cells slots X
  have X' := X
  obtain ⟨X0, hx, hZ, hw, hby, hml, hrt, hnm, hlk, hown, hR, hr⟩ := X
  obtain ⟨cell, A, k2, k3⟩ := hR.2 _ _ hH
  have hN := hj.2
  have hin := inb k2 hj.1 hN (List.getElem?_eq_some_iff.mp hv).1
  have hv' : cell.slots[j.toNatClampNeg]? = some (cv Z.heap.size v) := by rw [k2, hN]; simp [hv]
  refine (h hL Z a0 p l e R s m args below meth c' T locs cells slots X').steps fun t ht => ?_
  rcases hk with ⟨rfl, rfl⟩ | ⟨rfl, rfl⟩ | ⟨rfl, rfl | rfl⟩
  · exact X0.iaload hx A.1 (State.isArrayOf_alike hZ.alike A.2.1) A.2.2 hin hv' (g := mkF m pc (L.map (cs Z.heap.size)).toArray ((Value.int j :: Value.ref i :: S).map (cv Z.heap.size))) rfl rfl (hb hby hd) t ht
  · exact X0.laload hx A.1 (State.isArrayOf_alike hZ.alike A.2.1) A.2.2 hin hv' (g := mkF m pc (L.map (cs Z.heap.size)).toArray ((Value.int j :: Value.ref i :: S).map (cv Z.heap.size))) rfl rfl (hb hby hd) t ht
  · exact X0.baloadBytes hx A.1 (State.isArrayOf_alike hZ.alike A.2.1) A.2.2 hin hv' (g := mkF m pc (L.map (cs Z.heap.size)).toArray ((Value.int j :: Value.ref i :: S).map (cv Z.heap.size))) rfl rfl (hb hby hd) t ht
  · exact X0.baloadBooleans hx A.1 (State.isArrayOf_alike hZ.alike A.2.1) A.2.2 hin hv' (g := mkF m pc (L.map (cs Z.heap.size)).toArray ((Value.int j :: Value.ref i :: S).map (cv Z.heap.size))) rfl rfl (hb hby hd) t ht
theorem W.iastore {i N : Nat} {j x : Int32} {vs : List Value} (hd : decode μ.2.1 pc = .ok (.iastore, 1)) (hH : H[i]? = some (.inr (.int, vs))) (hj : ix j N) (hl : Nat.blt N vs.length = true)
    (h : W tb K μ rm (pc + 1) L S (H.set i (.inr (.int, vs.set N (.int x)))) Q) : W tb K μ rm pc L (.int x :: .int j :: .ref i :: S) H Q := by
  intro hL Z a0 p l e R s m args below meth c' T locs cells slots X
  obtain ⟨X0, hx, hZ, hw, hby, hml, hrt, hnm, hlk, hown, hR, hFr, hr⟩ := X
  have CO := hR.2 _ _ hH
  obtain ⟨cell, A, k2, k3⟩ := CO
  obtain ⟨T1, h1, X1, e1, W1, st⟩ := stI X0 hx hZ rfl A (inb k2 hj.1 hj.2 (Nat.blt_eq.mp hl)) (g := mkF m pc (L.map (cs Z.heap.size)).toArray ((Value.int x :: Value.int j :: Value.ref i :: S).map (cv Z.heap.size))) rfl rfl (hb hby hd)
  rw [hj.2] at W1
  exact (h hL Z a0 p l e R s m args below meth c' T1 _ cells slots ⟨X1, hx, hZ, hw, hby, hml, hrt, hnm, hlk, hown, e1 ▸ hR.set W1 (CellOk.sto (v := .int x) W1 (hR.2 _ _ hH) rfl), Fr.snoc X1 hFr (Nat.le_add_right _ _), hr⟩).steps st
theorem W.lastore {i N : Nat} {j : Int32} {x : Int64} {vs : List Value} (hd : decode μ.2.1 pc = .ok (.lastore, 1)) (hH : H[i]? = some (.inr (.long, vs))) (hj : ix j N) (hl : Nat.blt N vs.length = true)
    (h : W tb K μ rm (pc + 1) L S (H.set i (.inr (.long, vs.set N (.long x)))) Q) : W tb K μ rm pc L (.long x :: .int j :: .ref i :: S) H Q := by
  intro hL Z a0 p l e R s m args below meth c' T locs cells slots X
  obtain ⟨X0, hx, hZ, hw, hby, hml, hrt, hnm, hlk, hown, hR, hFr, hr⟩ := X
  have CO := hR.2 _ _ hH
  obtain ⟨cell, A, k2, k3⟩ := CO
  obtain ⟨T1, h1, X1, e1, W1, st⟩ := stJ X0 hx hZ rfl A (inb k2 hj.1 hj.2 (Nat.blt_eq.mp hl)) (g := mkF m pc (L.map (cs Z.heap.size)).toArray ((Value.long x :: Value.int j :: Value.ref i :: S).map (cv Z.heap.size))) rfl rfl (hb hby hd)
  rw [hj.2] at W1
  exact (h hL Z a0 p l e R s m args below meth c' T1 _ cells slots ⟨X1, hx, hZ, hw, hby, hml, hrt, hnm, hlk, hown, e1 ▸ hR.set W1 (CellOk.sto (v := .long x) W1 (hR.2 _ _ hH) rfl), Fr.snoc X1 hFr (Nat.le_add_right _ _), hr⟩).steps st
theorem W.bastore {i N : Nat} {j x : Int32} {vs : List Value} (hd : decode μ.2.1 pc = .ok (.bastore, 1)) (hH : H[i]? = some (.inr (.byte, vs))) (hj : ix j N) (hl : Nat.blt N vs.length = true)
    (h : W tb K μ rm (pc + 1) L S (H.set i (.inr (.byte, vs.set N (.int x.toInt8.toInt32)))) Q) : W tb K μ rm pc L (.int x :: .int j :: .ref i :: S) H Q := by
  intro hL Z a0 p l e R s m args below meth c' T locs cells slots X
  obtain ⟨X0, hx, hZ, hw, hby, hml, hrt, hnm, hlk, hown, hR, hFr, hr⟩ := X
  have CO := hR.2 _ _ hH
  obtain ⟨cell, A, k2, k3⟩ := CO
  obtain ⟨T1, h1, X1, e1, W1, st⟩ := stB X0 hx hZ rfl A (inb k2 hj.1 hj.2 (Nat.blt_eq.mp hl)) (g := mkF m pc (L.map (cs Z.heap.size)).toArray ((Value.int x :: Value.int j :: Value.ref i :: S).map (cv Z.heap.size))) rfl rfl (hb hby hd)
  rw [hj.2] at W1
  exact (h hL Z a0 p l e R s m args below meth c' T1 _ cells slots ⟨X1, hx, hZ, hw, hby, hml, hrt, hnm, hlk, hown, e1 ▸ hR.set W1 (CellOk.sto (v := .int x.toInt8.toInt32) W1 (hR.2 _ _ hH) (fits_nar_byte x)), Fr.snoc X1 hFr (Nat.le_add_right _ _), hr⟩).steps st
theorem W.bastoreZ {i N : Nat} {j x : Int32} {vs : List Value} (hd : decode μ.2.1 pc = .ok (.bastore, 1)) (hH : H[i]? = some (.inr (.boolean, vs))) (hj : ix j N) (hl : Nat.blt N vs.length = true)
    (h : W tb K μ rm (pc + 1) L S (H.set i (.inr (.boolean, vs.set N (.int (x &&& 1))))) Q) : W tb K μ rm pc L (.int x :: .int j :: .ref i :: S) H Q := by
  intro hL Z a0 p l e R s m args below meth c' T locs cells slots X
  obtain ⟨X0, hx, hZ, hw, hby, hml, hrt, hnm, hlk, hown, hR, hFr, hr⟩ := X
  have CO := hR.2 _ _ hH
  obtain ⟨cell, A, k2, k3⟩ := CO
  obtain ⟨T1, h1, X1, e1, W1, st⟩ := stZ X0 hx hZ rfl A (inb k2 hj.1 hj.2 (Nat.blt_eq.mp hl)) (g := mkF m pc (L.map (cs Z.heap.size)).toArray ((Value.int x :: Value.int j :: Value.ref i :: S).map (cv Z.heap.size))) rfl rfl (hb hby hd)
  rw [hj.2] at W1
  exact (h hL Z a0 p l e R s m args below meth c' T1 _ cells slots ⟨X1, hx, hZ, hw, hby, hml, hrt, hnm, hlk, hown, e1 ▸ hR.set W1 (CellOk.sto (v := .int (x &&& 1)) W1 (hR.2 _ _ hH) (fits_nar_bool x)), Fr.snoc X1 hFr (Nat.le_add_right _ _), hr⟩).steps st
theorem W.ldcInt {idx : Nat} {x : Int32} (hd : decode μ.2.1 pc = .ok (.ldc idx, 2)) (w : Cond.constant μ.1.cls idx x ∈ tb) (h : W tb K μ rm (pc + 2) L (.int x :: S) H Q) : W tb K μ rm pc L S H Q := by
  intro hL Z a0 p l e R s m args below meth c' T locs cells slots X
  have X' := X
  obtain ⟨X0, hx, hZ, hw, hby, hml, hrt, hnm, hlk, hown, hR, hr⟩ := X
  exact (h hL Z a0 p l e R s m args below meth c' T locs cells slots X').steps (X0.ldcInt hx hown (mvT hZ (hw _ w)) (g := mkF m pc (L.map (cs Z.heap.size)).toArray (S.map (cv Z.heap.size))) rfl (hb hby hd))
theorem W.ldcLong {idx : Nat} {x : Int64} (hd : decode μ.2.1 pc = .ok (.ldc2_w idx, 3)) (w : Cond.constantLong μ.1.cls idx x ∈ tb) (h : W tb K μ rm (pc + 3) L (.long x :: S) H Q) : W tb K μ rm pc L S H Q := by
  intro hL Z a0 p l e R s m args below meth c' T locs cells slots X
  have X' := X
  obtain ⟨X0, hx, hZ, hw, hby, hml, hrt, hnm, hlk, hown, hR, hr⟩ := X
  exact (h hL Z a0 p l e R s m args below meth c' T locs cells slots X').steps (X0.ldc2Long hx hown (mvT hZ (hw _ w)) (g := mkF m pc (L.map (cs Z.heap.size)).toArray (S.map (cv Z.heap.size))) rfl (hb hby hd))
end Logic
end Jvm.Own
namespace Jvm.Own
open Sem ClassFile Op Lib Jvm.Stand Jvm.Free Jvm.LawKit Jvm.RoadKit
section Logic
variable {tb : List Cond} {K : KTab} {μ μ' : Mth} {rm rm' : Room} {pc : Nat} {L : List Slot} {S : List Value} {H : AHeap} {Q Q' : Option Value → AHeap → Prop}
theorem W.ret_ (hd : decode μ.2.1 pc = .ok (.return_, 1)) (hr0 : μ.2.2.2 = none) (hQ : Q none H) : W tb K μ rm pc L [] H Q := by
  intro hL Z a0 p l e R s m args below meth c' T locs cells slots X
  obtain ⟨X0, hx, hZ, hw, hby, hml, hrt, hnm, hlk, hown, hR, hFr, hr1, hr2, hr3, hr4⟩ := X
  obtain ⟨fs, hr, hrun, hended, hW, hsame⟩ := X0.leave (v := none) (fun _ => rfl) hlk
  exact ⟨none, H, T, locs, fs, hQ, X0.returnOut hx (hrt.trans hr0) (hb hby hd) hr, hrun, hended, hW, hsame.mono (by omega) (by omega), hFr, hR⟩
theorem W.ireturn {x : Int32} (hd : decode μ.2.1 pc = .ok (.ireturn, 1)) (hr0 : μ.2.2.2 = some .int) (hQ : Q (some (.int x)) H) : W tb K μ rm pc L (.int x :: S) H Q := by
  intro hL Z a0 p l e R s m args below meth c' T locs cells slots X
  obtain ⟨X0, hx, hZ, hw, hby, hml, hrt, hnm, hlk, hown, hR, hFr, hr1, hr2, hr3, hr4⟩ := X
  obtain ⟨fs, hr, hrun, hended, hW, hsame⟩ := X0.leave (v := some (.int x)) (fun h => by rw [hrt, hr0] at h; cases h) hlk
  exact ⟨some (.int x), H, T, locs, fs, hQ, retOut X0 hx (hrt.trans hr0) rfl (Or.inl ⟨rfl, Or.inl rfl, _, rfl⟩) (hb hby hd) hr, hrun, hended, hW, hsame.mono (by omega) (by omega), hFr, hR⟩
theorem W.ireturnN {t : FieldType} {x : Int32} (hd : decode μ.2.1 pc = .ok (.ireturn, 1)) (hr0 : μ.2.2.2 = some t) (ht : t = .boolean ∨ t = .byte ∨ t = .char ∨ t = .short) (hQ : Q (some (.int (nar t x))) H) : W tb K μ rm pc L (.int x :: S) H Q := by
  intro hL Z a0 p l e R s m args below meth c' T locs cells slots X
  obtain ⟨X0, hx, hZ, hw, hby, hml, hrt, hnm, hlk, hown, hR, hFr, hr1, hr2, hr3, hr4⟩ := X
  obtain ⟨fs, hr, hrun, hended, hW, hsame⟩ := X0.leave (v := some (.int (nar t x))) (fun h => by rw [hrt, hr0] at h; cases h) hlk
  exact ⟨some (.int (nar t x)), H, T, locs, fs, hQ, retN X0 hx (hrt.trans hr0) ht (hb hby hd) hr, hrun, hended, hW, hsame.mono (by omega) (by omega), hFr, hR⟩
theorem W.ireturnZ {x : Int32} (hd : decode μ.2.1 pc = .ok (.ireturn, 1)) (hr0 : μ.2.2.2 = some .boolean) (hQ : Q (some (.int (x &&& 1))) H) : W tb K μ rm pc L (.int x :: S) H Q := W.ireturnN hd hr0 (Or.inl rfl) hQ
theorem W.lreturn {x : Int64} (hd : decode μ.2.1 pc = .ok (.lreturn, 1)) (hr0 : μ.2.2.2 = some .long) (hQ : Q (some (.long x)) H) : W tb K μ rm pc L (.long x :: S) H Q := by
  intro hL Z a0 p l e R s m args below meth c' T locs cells slots X
  obtain ⟨X0, hx, hZ, hw, hby, hml, hrt, hnm, hlk, hown, hR, hFr, hr1, hr2, hr3, hr4⟩ := X
  obtain ⟨fs, hr, hrun, hended, hW, hsame⟩ := X0.leave (v := some (.long x)) (fun h => by rw [hrt, hr0] at h; cases h) hlk
  exact ⟨some (.long x), H, T, locs, fs, hQ, retOut X0 hx (hrt.trans hr0) rfl (Or.inr (Or.inl ⟨rfl, rfl, _, rfl⟩)) (hb hby hd) hr, hrun, hended, hW, hsame.mono (by omega) (by omega), hFr, hR⟩
theorem W.areturn {t : FieldType} {v : Value} (hd : decode μ.2.1 pc = .ok (.areturn, 1)) (hr0 : μ.2.2.2 = some t) (ht : t.isReference = true) (hv : v.isRef = true) (hQ : Q (some v) H) : W tb K μ rm pc L (v :: S) H Q := by
  intro hL Z a0 p l e R s m args below meth c' T locs cells slots X
  obtain ⟨X0, hx, hZ, hw, hby, hml, hrt, hnm, hlk, hown, hR, hFr, hr1, hr2, hr3, hr4⟩ := X
  obtain ⟨fs, hr, hrun, hended, hW, hsame⟩ := X0.leave (v := some (cv Z.heap.size v)) (fun h => by rw [hrt, hr0] at h; cases h) hlk
  exact ⟨some v, H, T, locs, fs, hQ, retOut X0 hx (hrt.trans hr0) (by cases v <;> first | (cases t <;> rfl) | cases hv) (Or.inr (Or.inr (Or.inr (Or.inr ⟨rfl, ht, by rw [cv_isRef]; exact hv⟩)))) (hb hby hd) hr, hrun, hended, hW, hsame.mono (by omega) (by omega), hFr, hR⟩
/-- what a call leaves of the room -/
abbrev less (rm rm' : Room) : Room := ⟨rm.frames, rm.cells - rm'.cells, rm.slots - rm'.slots, rm.locals⟩
abbrev wt (S : List Value) : Nat := (S.map fun v => v.category).sum
abbrev plainCls (μ' : Mth) : Prop := μ'.1.cls ≠ "java/lang/invoke/MethodHandle" ∧ μ'.1.cls ≠ "java/lang/invoke/VarHandle"
/-- room for a call: S stays on the stack, n locals -/
def rok (rm rm' : Room) (n : Nat) (S : List Value) : Bool := Nat.ble (rm'.frames + 1) rm.frames && (Nat.ble (wt S + (n + 11) + rm'.locals) rm.locals && (Nat.ble rm'.cells rm.cells && Nat.ble rm'.slots rm.slots))
theorem rok_spec {rm rm' : Room} {n : Nat} {S : List Value} (h : rok rm rm' n S = true) : rm'.frames + 1 ≤ rm.frames ∧ wt S + (n + 11) + rm'.locals ≤ rm.locals ∧ rm'.cells ≤ rm.cells ∧ rm'.slots ≤ rm.slots := by
  simp only [rok, Bool.and_eq_true, Nat.ble_eq] at h
  exact h
/-- room for Object's constructor -/
def iok (rm : Room) (S : List Value) : Bool := Nat.ble 1 rm.frames && Nat.ble (wt S + 12) rm.locals
/-- a callee that answers one value and leaves one heap -/
abbrev Is (v0 : Option Value) (H0 : AHeap) : Option Value → AHeap → Prop := fun v H => v = v0 ∧ H = H0
theorem hs {H : AHeap} {i : Nat} {c c' : ACell} (h : H[i]? = some c) : (H.set i c')[i]? = some c' := List.getElem?_set_self (List.getElem?_eq_some_iff.mp h).1
theorem hn {H : AHeap} {i j : Nat} {c c' : ACell} (h : H[j]? = some c) (ne : i ≠ j) : (H.set i c')[j]? = some c := by rw [List.getElem?_set_ne ne]; exact h
theorem ha {H H' : AHeap} {j : Nat} {c : ACell} (h : H[j]? = some c) : (H ++ H')[j]? = some c := by rw [List.getElem?_append_left (List.getElem?_eq_some_iff.mp h).1]; exact h
theorem back_st (k : Nat) (v : Option Value) (S : List Value) : (v.map (cv k)).toList ++ S.map (cv k) = (v.toList ++ S).map (cv k) := by cases v <;> rfl
theorem W.callS {idx : Nat} {as : List Value} {S0 : List Value} {ps : List FieldType} {r : Option FieldType} (hd : decode μ.2.1 pc = .ok (.invokestatic idx, 3)) (w1 : Cond.methodLink μ.1.cls idx μ'.1 ∈ tb) (w2 : Cond.static μ'.1 ∈ tb) (w3 : Cond.initialized μ'.1.cls ∈ tb) (w4 : Cond.code μ'.1 μ'.2.1 μ'.2.2.1 μ'.2.2.2 ∈ tb) (hy : plainCls μ')
    (hp : parseMethodDescriptor μ'.1.desc = some ⟨ps, r⟩) (hlen : as.length = ps.length) (hS : S0 = as.reverse ++ S) (hM : M tb K μ' rm' as H Q') (hr : rok rm rm' μ'.2.2.1 S = true)
    (h : ∀ v H', Q' v H' → W tb K μ (less rm rm') (pc + 3) L (v.toList ++ S) H' Q) : W tb K μ rm pc L S0 H Q := by
  intro hL Z a0 p l e R s m args below meth c' T locs cells slots X
  obtain ⟨X0, hx, hZ, hw, hby, hml, hrt, hnm, hlk, hown, hR, hFr, hr1, hr2, hr3, hr4⟩ := X
  obtain ⟨hf, hl, hc, hs⟩ := rok_spec hr
  obtain ⟨_, vm1, ⟨T1, L1, k1, n1⟩, hW1, X1, ⟨Lc, ⟨v', H', rfl, hR', hq', hFr'⟩, l1, y1, z1⟩, st⟩ := Jvm.LawKit.callS X0 hx (y := μ'.1) hown (mvT hZ (hw _ w1)) (mvT hZ (hw _ w2)) (mvT hZ (hw _ w3)) (mvT hZ (hw _ w4)) hy (backOf (R := R) (rm := rm') (h := T.heap) (Q := fun v h L => ∃ v' H', v = Option.map (cv Z.heap.size) v' ∧ Rel Z K h H' ∧ Q' v' H' ∧ Fr Z.heap.size L) (W := wt S) (hM Z a0 hw l T.heap [] hR) hZ (hw _ w4) (hw _ w3) (by omega) (by omega))
    (g := mkF m pc (L.map (cs Z.heap.size)).toArray (S0.map (cv Z.heap.size))) rfl (by simp [hL, hml]) (argsL := as.map (cv Z.heap.size)) (rest := S.map (cv Z.heap.size)) (lenOf hp (by simpa using hlen)) (by rw [hS]; simp) (by show 2 * 0 + _ ≤ _; rw [cat_map]; exact Nat.le_of_eq (by simp)) (hb hby hd) (fun _ _ => ⟨rfl, rfl, by show cells + _ ≤ _; omega, by show slots + _ ≤ _; omega⟩)
  dsimp only [Pt.U, Pt.locs, Pt.cells, Pt.slots] at X1 l1 y1 z1 st hR'
  subst l1 y1 z1
  rw [back_st] at st
  exact (h v' H' hq' hL Z a0 p l e R s m args below meth c' T1 _ _ _ ⟨X1, hx, hZ, hw, hby, hml, hrt, hnm, hlk, hown, hR', Fr.app hFr hFr', hr1, by show cells + _ + (rm.cells - _) ≤ _; omega, by show slots + _ + (rm.slots - _) ≤ _; omega, hr4⟩).steps st
theorem W.callI {idx i : Nat} {as : List Value} {S0 : List Value} {ps : List FieldType} {r : Option FieldType} (hd : decode μ.2.1 pc = .ok (.invokespecial idx, 3)) (hn : μ'.1.name = "<init>") (hr0 : μ'.2.2.2 = none) (w1 : Cond.methodLink μ.1.cls idx μ'.1 ∈ tb) (w2 : Cond.instanceMethod μ'.1 ∈ tb) (w3 : Cond.initialized μ'.1.cls ∈ tb) (w4 : Cond.code μ'.1 μ'.2.1 μ'.2.2.1 μ'.2.2.2 ∈ tb) (hy : plainCls μ')
    (hp : parseMethodDescriptor μ'.1.desc = some ⟨ps, r⟩) (hlen : as.length = ps.length) (hS : S0 = as.reverse ++ .ref i :: S) (hM : M tb K μ' rm' (.ref i :: as) H Q') (hr : rok rm rm' μ'.2.2.1 S = true)
    (h : ∀ v H', Q' v H' → W tb K μ (less rm rm') (pc + 3) L (v.toList ++ S) H' Q) : W tb K μ rm pc L S0 H Q := by
  intro hL Z a0 p l e R s m args below meth c' T locs cells slots X
  obtain ⟨X0, hx, hZ, hw, hby, hml, hrt, hnm, hlk, hown, hR, hFr, hr1, hr2, hr3, hr4⟩ := X
  obtain ⟨hf, hl, hc, hs⟩ := rok_spec hr
  have w4' : (Cond.code μ'.1 μ'.2.1 μ'.2.2.1 none).before a0 Z = true := by have q := hw _ w4; rw [hr0] at q; exact q
  obtain ⟨_, vm1, ⟨T1, L1, k1, n1⟩, hW1, X1, ⟨Lc, ⟨v', H', rfl, hR', hq', hFr'⟩, l1, y1, z1⟩, st⟩ := X0.specialBack hx (y := μ'.1) hn hown (mvT hZ (hw _ w1)) (mvT hZ (hw _ w2)) (mvT hZ w4') hy (backOf (R := R) (rm := rm') (h := T.heap) (Q := fun v h L => ∃ v' H', v = Option.map (cv Z.heap.size) v' ∧ Rel Z K h H' ∧ Q' v' H' ∧ Fr Z.heap.size L) (W := wt S) (hM Z a0 hw l T.heap [] hR) hZ (hw _ w4) (hw _ w3) (by omega) (by omega))
    (g := mkF m pc (L.map (cs Z.heap.size)).toArray (S0.map (cv Z.heap.size))) rfl (by simp [hL, hml]) (Steps.refl _) (a := Z.heap.size + i) (argsL := as.map (cv Z.heap.size)) (rest := S.map (cv Z.heap.size)) (lenOf hp (by simpa using hlen)) (by rw [hS]; simp [cv]) (by show 2 * 0 + _ ≤ _; rw [cat_map]; exact Nat.le_of_eq (by simp)) (hb hby hd) (fun _ _ => ⟨rfl, rfl, by show cells + _ ≤ _; omega, by show slots + _ ≤ _; omega⟩)
  dsimp only [Pt.U, Pt.locs, Pt.cells, Pt.slots] at X1 l1 y1 z1 st hR'
  subst l1 y1 z1
  rw [back_st] at st
  exact (h v' H' hq' hL Z a0 p l e R s m args below meth c' T1 _ _ _ ⟨X1, hx, hZ, hw, hby, hml, hrt, hnm, hlk, hown, hR', Fr.app hFr hFr', hr1, by show cells + _ + (rm.cells - _) ≤ _; omega, by show slots + _ + (rm.slots - _) ≤ _; omega, hr4⟩).steps (fun t ht => st.trans ht)
/-- the opcode that returns nothing -/
def opReturn : UInt8 := 177
/-- java/lang/Object's constructor -/
theorem W.initO {idx i : Nat} (hd : decode μ.2.1 pc = .ok (.invokespecial idx, 3)) (w1 : Cond.methodLink μ.1.cls idx Lib.objectInit ∈ tb) (w2 : Cond.instanceMethod Lib.objectInit ∈ tb) (w3 : Cond.code Lib.objectInit ⟨#[opReturn]⟩ 1 none ∈ tb) (hr : iok rm S = true)
    (h : W tb K μ rm (pc + 3) L S H Q) : W tb K μ rm pc L (.ref i :: S) H Q := by
  intro hL Z a0 p l e R s m args below meth c' T locs cells slots X
  obtain ⟨X0, hx, hZ, hw, hby, hml, hrt, hnm, hlk, hown, hR, hFr, hr1, hr2, hr3, hr4⟩ := X
  simp only [iok, Bool.and_eq_true, Nat.ble_eq] at hr
  obtain ⟨hf, hl⟩ := hr
  obtain ⟨T1, X1, e1, st⟩ := RoadKit.initO X0 hx hZ hown (hw _ w1) (hw _ w2) (hw _ w3) rfl (g := mkF m pc (L.map (cs Z.heap.size)).toArray ((Value.ref i :: S).map (cv Z.heap.size))) rfl (by simp [hL, hml]) rfl (hb hby hd) (by omega) (W := wt S) (by show 2 * 0 + _ ≤ _; rw [cat_map]; exact Nat.le_of_eq (by simp)) (by omega)
  exact (h hL Z a0 p l e R s m args below meth c' T1 locs cells slots ⟨X1, hx, hZ, hw, hby, hml, hrt, hnm, hlk, hown, e1 ▸ hR, hFr, hr1, hr2, hr3, hr4⟩).steps st
theorem W.callV {idx i c n : Nat} {C : String} {fs : List (String × String × String × FieldType)} {vs : List Value} {y : MethodName} {as : List Value} {S0 : List Value} {ps : List FieldType} {r : Option FieldType} (hd : decode μ.2.1 pc = .ok (.invokevirtual idx, 3)) (w1 : Cond.methodLink μ.1.cls idx y ∈ tb) (w2 : Cond.declares y ∈ tb) (w3 : Cond.selects C y μ'.1 ∈ tb) (hnf : y = μ'.1 ∨ ∃ q ∈ K, q.1 = y.cls) (hKO : KOk tb K)
    (w4 : Cond.instanceMethod μ'.1 ∈ tb) (w5 : Cond.initialized μ'.1.cls ∈ tb) (w6 : Cond.code μ'.1 μ'.2.1 μ'.2.2.1 μ'.2.2.2 ∈ tb) (hy : y.cls ≠ "java/lang/invoke/MethodHandle" ∧ y.cls ≠ "java/lang/invoke/VarHandle") (hK : K[c]? = some (C, n, fs)) (hp : parseMethodDescriptor y.desc = some ⟨ps, r⟩) (hlen : as.length = ps.length) (hS : S0 = as.reverse ++ .ref i :: S)
    (hH : H[i]? = some (.inl (c, vs))) (hM : M tb K μ' rm' (.ref i :: as) H Q') (hr : rok rm rm' μ'.2.2.1 S = true)
    (h : ∀ v H', Q' v H' → W tb K μ (less rm rm') (pc + 3) L (v.toList ++ S) H' Q) : W tb K μ rm pc L S0 H Q := by
  intro hL Z a0 p l e R s m args below meth c' T locs cells slots X
  obtain ⟨X0, hx, hZ, hw, hby, hml, hrt, hnm, hlk, hown, hR, hFr, hr1, hr2, hr3, hr4⟩ := X
  obtain ⟨hf, hl, hc, hs⟩ := rok_spec hr
  obtain ⟨q2, q3, q4⟩ := CellOk.obj hK (hR.2 _ _ hH)
  obtain ⟨cB, kB, b1, b2, b3⟩ := isOf (T := T) hZ rfl q3
  have nf : NotFace s y := by
    rcases hnf with rfl | ⟨q, hq, hqc⟩
    · exact notFace_of_selects (args := #[]) (mvT hZ (hw _ w3))
    · intro r0 h0
      have g1 := findClass_of_methodNamed h0
      obtain ⟨c1, k1, i1, i2, i3, i4, -⟩ := Cond.instantiable_spec (args := #[]) (s := s) (mv hZ (hw _ (hKO q hq).1))
      rw [hqc] at i1
      cases g1.symm.trans i1
      exact ⟨k1, i2, by simp only [Bool.or_eq_false_iff] at i4; exact i4.1⟩
  obtain ⟨_, vm1, ⟨T1, L1, k1, n1⟩, hW1, X1, ⟨Lc, ⟨v', H', rfl, hR', hq', hFr'⟩, l1, y1, z1⟩, st⟩ := X0.virtualBack hx (y := y) (z := μ'.1) hown (mvT hZ (hw _ w1)) (mvT hZ (hw _ w2)) nf (mvT hZ (hw _ w3)) (mvT hZ (hw _ w4)) hy (backOf (R := R) (rm := rm') (h := T.heap) (Q := fun v h L => ∃ v' H', v = Option.map (cv Z.heap.size) v' ∧ Rel Z K h H' ∧ Q' v' H' ∧ Fr Z.heap.size L) (W := wt S) (hM Z a0 hw l T.heap [] hR) hZ (hw _ w6) (hw _ w5) (by omega) (by omega)) b1 b3
    (g := mkF m pc (L.map (cs Z.heap.size)).toArray (S0.map (cv Z.heap.size))) rfl (by simp [hL, hml]) (Steps.refl _) (argsL := as.map (cv Z.heap.size)) (rest := S.map (cv Z.heap.size)) (lenOf hp (by simpa using hlen)) (by rw [hS]; simp [cv]) (by show 2 * 0 + _ ≤ _; rw [cat_map]; exact Nat.le_of_eq (by simp)) (hb hby hd) (fun _ _ => ⟨rfl, rfl, by show cells + _ ≤ _; omega, by show slots + _ ≤ _; omega⟩)
  dsimp only [Pt.U, Pt.locs, Pt.cells, Pt.slots] at X1 l1 y1 z1 st hR'
  subst l1 y1 z1
  rw [back_st] at st
  exact (h v' H' hq' hL Z a0 p l e R s m args below meth c' T1 _ _ _ ⟨X1, hx, hZ, hw, hby, hml, hrt, hnm, hlk, hown, hR', Fr.app hFr hFr', hr1, by show cells + _ + (rm.cells - _) ≤ _; omega, by show slots + _ + (rm.slots - _) ≤ _; omega, hr4⟩).steps (fun t ht => st.trans ht)
/-- a private method, by invokevirtual -/
theorem W.callP {idx i c n : Nat} {C : String} {fs : List (String × String × String × FieldType)} {vs : List Value} {as : List Value} {S0 : List Value} {ps : List FieldType} {r : Option FieldType} (hd : decode μ.2.1 pc = .ok (.invokevirtual idx, 3)) (w1 : Cond.methodLink μ.1.cls idx μ'.1 ∈ tb) (w2 : Cond.privateMethod μ'.1 ∈ tb) (hKO : KOk tb K)
    (w4 : Cond.instanceMethod μ'.1 ∈ tb) (w5 : Cond.initialized μ'.1.cls ∈ tb) (w6 : Cond.code μ'.1 μ'.2.1 μ'.2.2.1 μ'.2.2.2 ∈ tb) (hy : plainCls μ') (hK : K[c]? = some (C, n, fs)) (hC : C = μ'.1.cls) (hp : parseMethodDescriptor μ'.1.desc = some ⟨ps, r⟩) (hlen : as.length = ps.length) (hS : S0 = as.reverse ++ .ref i :: S)
    (hH : H[i]? = some (.inl (c, vs))) (hM : M tb K μ' rm' (.ref i :: as) H Q') (hr : rok rm rm' μ'.2.2.1 S = true)
    (h : ∀ v H', Q' v H' → W tb K μ (less rm rm') (pc + 3) L (v.toList ++ S) H' Q) : W tb K μ rm pc L S0 H Q := by
  intro hL Z a0 p l e R s m args below meth c' T locs cells slots X
  obtain ⟨X0, hx, hZ, hw, hby, hml, hrt, hnm, hlk, hown, hR, hFr, hr1, hr2, hr3, hr4⟩ := X
  obtain ⟨hf, hl, hc, hs⟩ := rok_spec hr
  obtain ⟨q2, q3, q4⟩ := CellOk.obj hK (hR.2 _ _ hH)
  obtain ⟨cell, c1, c2⟩ := q3.cell
  obtain ⟨mk, methM, m1, m2, m3, m4⟩ := Cond.instanceMethod_spec (args := args) (mv hZ (hw _ w4))
  obtain ⟨methM', cM, hmethM', -, -, -, -, -, -, hsigM⟩ := Cond.code_spec m1 (mv (args := args) hZ (hw _ w6))
  cases m2.symm.trans hmethM'
  obtain ⟨cc, kk, i1, i2, i3, i4, -⟩ := Cond.instantiable_spec (args := args) (s := s) (mv hZ (hw _ (hKO _ (mem_of_get hK)).1))
  have g1 := findClass_of_methodNamed m1
  rw [← hC] at g1
  cases g1.symm.trans i1
  have hni : kk.isInterface = false := by simp only [Bool.or_eq_false_iff] at i4; exact i4.1
  have hpriv : s.PrivateAt μ'.1 := Cond.privateMethod_at (mvP hZ (hw _ w2) (args := #[]))
  have hsel : selectMethod e.platform s.vm cell.cls mk = .method mk := selectMethod_private m2 (hpriv mk methM m1 m2)
  obtain ⟨vm1, X1', st1⟩ := X0.invokevirtual hx hown (mvT hZ (hw _ w1)) m1 m2 m3 i2 hni hy (a := Z.heap.size + i) (cell := cell) c1 c2 hsel m2 m4 i2 hni (g := mkF m pc (L.map (cs Z.heap.size)).toArray (S0.map (cv Z.heap.size))) rfl (argsL := as.map (cv Z.heap.size)) (rest := S.map (cv Z.heap.size)) (lenOf hp (by simpa using hlen) _ hsigM) (by rw [hS]; simp [cv]) (hb hby hd)
  obtain ⟨_, ⟨T1, L1, k1, n1⟩, X1, ⟨Lc, ⟨v', H', rfl, hR', hq', hFr'⟩, l1, y1, z1⟩, st⟩ := (backOf (R := R) (rm := rm') (h := T.heap) (Q := fun v h L => ∃ v' H', v = Option.map (cv Z.heap.size) v' ∧ Rel Z K h H' ∧ Q' v' H' ∧ Fr Z.heap.size L) (W := wt S) (hM Z a0 hw l T.heap [] hR) hZ (hw _ w6) (hw _ w5) (by omega) (by omega)) m meth c' ⟨T.setVm vm1, locs, cells, slots⟩ (mkF m pc (L.map (cs Z.heap.size)).toArray (S.map (cv Z.heap.size))) (.invokevirtual idx) mk (.ref (Z.heap.size + i) :: as.map (cv Z.heap.size)).toArray X1' rfl (by simp [hL, hml]) (hb hby hd) (by show 2 * 0 + _ ≤ _; rw [cat_map]; exact Nat.le_of_eq (by simp)) (X1'.named m1) ⟨rfl, rfl, by show cells + _ ≤ _; omega, by show slots + _ ≤ _; omega⟩
  dsimp only [Pt.U, Pt.locs, Pt.cells, Pt.slots] at X1 l1 y1 z1 st hR'
  subst l1 y1 z1
  rw [back_st] at st
  exact (h v' H' hq' hL Z a0 p l e R s m args below meth c' T1 _ _ _ ⟨X1, hx, hZ, hw, hby, hml, hrt, hnm, hlk, hown, hR', Fr.app hFr hFr', hr1, by show cells + _ + (rm.cells - _) ≤ _; omega, by show slots + _ + (rm.slots - _) ≤ _; omega, hr4⟩).steps (fun t ht => (st1 _ fun acts => by rw [doInvoke_state]; exact Steps.refl _).trans (st.trans ht))
/-- the locals at the entry -/
def ent : List Value → List Slot
  | [] => []
  | v :: r => if v.category = 2 then .val v :: .second :: ent r else .val v :: ent r
theorem ent_map (k : Nat) (as : List Value) : ent (as.map (cv k)) = (ent as).map (cs k) := by
  induction as with
  | nil => rfl
  | cons v r ih => by_cases h : v.category = 2 <;> simp [ent, h, cv_cat, ih, cs]
theorem fold_ent (as : List Value) : ∀ acc : Array Slot, as.foldl (fun acc v => if v.category = 2 then (acc.push (.val v)).push .second else acc.push (.val v)) acc = acc ++ (ent as).toArray := by
  induction as with
  | nil => intro acc; simp [ent]
  | cons v r ih => intro acc; by_cases h : v.category = 2 <;> simp [ent, h, ih]
theorem locals_of (k n : Nat) (as : List Value) : argsToLocals (as.map (cv k)).toArray n = ((ent as ++ List.replicate (n - (ent as).length) Slot.unset).map (cs k)).toArray := by
  have h : (as.map (cv k)).toArray.foldl (fun (acc : Array Slot) v => if v.category = 2 then (acc.push (.val v)).push .second else acc.push (.val v)) #[] = ((ent as).map (cs k)).toArray := by
    rw [List.foldl_toArray, fold_ent, ent_map]; simp
  simp only [argsToLocals]
  rw [h]
  simp [cs]
theorem M.of {as : List Value} (hn : plainFor μ.1 = true) (hl : ent as ++ List.replicate (μ.2.2.1 - (ent as).length) .unset = L) (hl' : L.length = μ.2.2.1) (h : W tb K μ rm 0 L [] H Q) : M tb K μ rm as H Q := by
  intro Z a0 hw l h0 ws hR
  refine MetFree.of_bodySF hn hisR ?_
  intro p e s m args below meth c s₁ Bd hml0 hP hK
  obtain ⟨rfl, hZ, hh⟩ := hP
  have e0 : s₁.heap = h0 := by rw [← hh, Bd.state]; rfl
  obtain ⟨v, H', T, locs, fs, hq, st, hrun, hended, hW, hsame, hFr, hR'⟩ := h hl' Z a0 p l e rm s m _ below meth c s₁ [] 0 0 ⟨Stand.of_body Bd, Bd.exec, hZ, hw, Bd.bytes, hml0, Bd.returns, (name_of_methodNamed Bd.named Bd.method).1, Bd.notSynchronized, findClass_of_methodNamed Bd.named, e0 ▸ hR, Fr.nil _, Nat.le_refl _, Nat.le_of_eq (Nat.zero_add _), Nat.le_of_eq (Nat.zero_add _), Nat.le_refl _⟩
  have q : entryFrame m (as.map (cv Z.heap.size)).toArray μ.2.2.1 = mkF m 0 (L.map (cs Z.heap.size)).toArray [] := by
    rw [← hl, entryFrame, locals_of]
  exact ⟨_, _, castTop q st, hrun, hended, _, locs, rfl, ⟨v, H', rfl, hR', hq, hFr⟩, ⟨_, rfl⟩, hW, hsame⟩
end Logic
end Jvm.Own
namespace Jvm.Own
open Sem ClassFile Op Lib Jvm.Stand Jvm.Free Jvm.LawKit Jvm.RoadKit
/-! ## The wide logic: bodies that may intern a String constant. -/
section Wide
variable {tb : List Cond} {K : KTab} {μ μ' : Mth} {rm rm' : Room} {pc : Nat} {L : List Slot} {S : List Value} {H : AHeap} {Q Q' : Option Value → AHeap → Prop}
def EndsS (K : KTab) (Q : Option Value → AHeap → Prop) (Z : State) (p : Program) (e : Env) (R : Room) (s : State) (below : List Frame) (T0 : State) : Prop :=
  ∃ (v : Option Value) (H' : AHeap) (T : State) (locs : List Loc) (fs : List Frame), Q v H' ∧ Steps p.tables e below T0 (T.setFrames fs) ∧ (T.setFrames fs).status = .running ∧ Ended (T.setFrames fs) below (.returned (v.map (cv Z.heap.size))) ∧
    ReturnedEndW s (.returned (v.map (cv Z.heap.size))) (T.setFrames fs) locs R.cells R.slots ∧ Fr Z.heap.size locs ∧ Rel Z K T.heap H'
theorem EndsS.steps {Z : State} {p : Program} {e : Env} {R : Room} {s : State} {below : List Frame} {T0 T1 : State} (st : ∀ target, Steps p.tables e below T1 target → Steps p.tables e below T0 target) (h : EndsS K Q Z p e R s below T1) : EndsS K Q Z p e R s below T0 := by
  obtain ⟨v, H', T, locs, fs, h1, h2, r⟩ := h; exact ⟨v, H', T, locs, fs, h1, st _ h2, r⟩
def WS (tb : List Cond) (K : KTab) (μ : Mth) (rm : Room) (pc : Nat) (L : List Slot) (S : List Value) (H : AHeap) (Q : Option Value → AHeap → Prop) : Prop :=
  L.length = μ.2.2.1 → ∀ (Z : State) (a0 : Array Value) (p : Program) (l : Launch) (e : Env) (R : Room) (s : State) (vm0 : Vm) (k0 : Nat) (m : MethodId) (args : Array Value) (below : List Frame) (meth : Method) (c : Code) (T : State) (locs : List Loc) (cells slots : Nat),
    s.Since vm0 k0 → k0 ≤ Z.heap.size + H.length → Here tb K μ rm H Z a0 p l e R (s.setVm vm0) m args below meth c T locs cells slots → EndsS K Q Z p e R s below (T.setTop (mkF m pc (L.map (cs Z.heap.size)).toArray (S.map (cv Z.heap.size))))
/-- a call of μ comes back, and Q; it may have interned -/
def MS (tb : List Cond) (K : KTab) (μ : Mth) (rm : Room) (as : List Value) (H : AHeap) (Q : Option Value → AHeap → Prop) : Prop :=
  ∀ (Z : State) (a0 : Array Value), (∀ d ∈ tb, d.before a0 Z = true) → ∀ (l : Launch) (h : Heap) (ws : List Cond), Rel Z K h H →
    MetFree l μ.1 (head1 (Cond.code μ.1 μ.2.1 μ.2.2.1 μ.2.2.2 :: ws) rm) (fun a U => a = (as.map (cv Z.heap.size)).toArray ∧ Z.Warmed39 U.vm ∧ U.heap = h) (fun _ _ _ _ _ => True)
      (fun _ U o U' => ∃ v L, o = .returned v ∧ (∃ v' H', v = v'.map (cv Z.heap.size) ∧ Rel Z K U'.heap H' ∧ Q v' H' ∧ Fr Z.heap.size L) ∧ ReturnedEndW U o U' L rm.cells rm.slots)
/-- the rest interns nothing -/
theorem WS.of_W (h : W tb K μ rm pc L S H (fun v H' => Q v H' ∧ H.length ≤ H'.length)) : WS tb K μ rm pc L S H Q := by
  intro hL Z a0 p l e R s vm0 k0 m args below meth c T locs cells slots hS hk X
  obtain ⟨v, H', T', locs', fs, ⟨hq, hlen⟩, st, hrun, hend, hW, hsame, hFr, hR⟩ := h hL Z a0 p l e R (s.setVm vm0) m args below meth c T locs cells slots X
  obtain ⟨q1, q2, q3⟩ := hS.ended (U := T'.setFrames fs) hW (by show k0 ≤ T'.heap.size; rw [hR.1]; omega) hsame
  exact ⟨v, H', T', locs', fs, hq, st, hrun, hend, ⟨⟨_, rfl⟩, q1, q2, q3⟩, hFr, hR⟩
theorem WS.pure {pc' : Nat} {L' : List Slot} {S' : List Value} (hl : L'.length = L.length)
    (st : ∀ (k : Nat) (p : Program) (e : Env) (m : MethodId) (below : List Frame) (c : Code) (T : State), At T m c below → p.tables.exec = Jvm.exec → c.code = μ.2.1 → ∀ target, Steps p.tables e below (T.setTop (mkF m pc' (L'.map (cs k)).toArray (S'.map (cv k)))) target → Steps p.tables e below (T.setTop (mkF m pc (L.map (cs k)).toArray (S.map (cv k)))) target)
    (h : WS tb K μ rm pc' L' S' H Q) : WS tb K μ rm pc L S H Q := fun hL Z a0 p l e R s vm0 k0 m args below meth c T locs cells slots hS hk X =>
  (h (hl.trans hL) Z a0 p l e R s vm0 k0 m args below meth c T locs cells slots hS hk X).steps (st _ p e m below c T X.1.here X.2.1 X.2.2.2.2.1)
theorem WS.iload_n {i : Fin 4} {x : Int32} (hd : decode μ.2.1 pc = .ok (.iload_n i, 1)) (hl : L[i.val]? = some (.val (.int x))) (h : WS tb K μ rm (pc + 1) L (.int x :: S) H Q) : WS tb K μ rm pc L S H Q :=
  WS.pure rfl (fun k p e m below c T hA hx hb' t ht => XS.iloadN hA hx rfl (hb hb' hd) (get_conc hl) ht) h
theorem WS.iload {i : Nat} {x : Int32} (hd : decode μ.2.1 pc = .ok (.iload i, 2)) (hl : L[i]? = some (.val (.int x))) (h : WS tb K μ rm (pc + 2) L (.int x :: S) H Q) : WS tb K μ rm pc L S H Q :=
  WS.pure rfl (fun k p e m below c T hA hx hb' t ht => XS.iload hA hx rfl (hb hb' hd) (get_conc hl) ht) h
theorem WS.aload_n {i : Fin 4} {v : Value} (hd : decode μ.2.1 pc = .ok (.aload_n i, 1)) (hl : L[i.val]? = some (.val v)) (hv : v.isRef = true) (h : WS tb K μ rm (pc + 1) L (v :: S) H Q) : WS tb K μ rm pc L S H Q :=
  WS.pure rfl (fun k p e m below c T hA hx hb' t ht => XS.aloadN hA hx rfl (hb hb' hd) (get_conc hl) (by rw [cv_isRef]; exact hv) ht) h
theorem WS.iand {x y : Int32} (hd : decode μ.2.1 pc = .ok (.iand, 1)) (h : WS tb K μ rm (pc + 1) L (.int (x &&& y) :: S) H Q) : WS tb K μ rm pc L (.int y :: .int x :: S) H Q :=
  WS.pure rfl (fun k p e m below c T hA hx hb' t ht => XS.iand hA hx rfl (hb hb' hd) rfl ht) h
theorem WS.dup {v : Value} (hd : decode μ.2.1 pc = .ok (.dup, 1)) (hc : v.category = 1) (h : WS tb K μ rm (pc + 1) L (v :: v :: S) H Q) : WS tb K μ rm pc L (v :: S) H Q :=
  WS.pure rfl (fun k p e m below c T hA hx hb' t ht => XS.dup hA hx rfl (hb hb' hd) rfl (by rw [cv_cat]; exact hc) ht) h
theorem WS.istore_n {i : Fin 4} {o : Slot} {x : Int32} (hd : decode μ.2.1 pc = .ok (.istore_n i, 1)) (hl : L[i.val]? = some o) (ho : one o = true) (h : WS tb K μ rm (pc + 1) (L.set i.val (.val (.int x))) S H Q) : WS tb K μ rm pc L (.int x :: S) H Q :=
  WS.pure (by simp) (fun k p e m below c T hA hx hb' t ht => XS.istoreN hA hx rfl (hb hb' hd) rfl (sto1 (v := .int x) hl ho rfl) ht) h
theorem WS.istore {i : Nat} {o : Slot} {x : Int32} (hd : decode μ.2.1 pc = .ok (.istore i, 2)) (hl : L[i]? = some o) (ho : one o = true) (h : WS tb K μ rm (pc + 2) (L.set i (.val (.int x))) S H Q) : WS tb K μ rm pc L (.int x :: S) H Q :=
  WS.pure (by simp) (fun k p e m below c T hA hx hb' t ht => XS.istore hA hx rfl (hb hb' hd) rfl (sto1 (v := .int x) hl ho rfl) ht) h
theorem WS.ldcInt {idx : Nat} {x : Int32} (hd : decode μ.2.1 pc = .ok (.ldc idx, 2)) (w : Cond.constant μ.1.cls idx x ∈ tb) (h : WS tb K μ rm (pc + 2) L (.int x :: S) H Q) : WS tb K μ rm pc L S H Q := by
  intro hL Z a0 p l e R s vm0 k0 m args below meth c' T locs cells slots hS hk X
  have X' := X
  obtain ⟨X0, hx, hZ, hw, hby, hml, hrt, hnm, hlk, hown, hR, hr⟩ := X
  exact (h hL Z a0 p l e R s vm0 k0 m args below meth c' T locs cells slots hS hk X').steps (X0.ldcInt hx hown (mvT hZ (hw _ w)) (g := mkF m pc (L.map (cs Z.heap.size)).toArray (S.map (cv Z.heap.size))) rfl (hb hby hd))
/-- a constructor that interns nothing -/
theorem WS.callI {idx i : Nat} {as : List Value} {S0 : List Value} {ps : List FieldType} {r : Option FieldType} (hd : decode μ.2.1 pc = .ok (.invokespecial idx, 3)) (hn : μ'.1.name = "<init>") (hr0 : μ'.2.2.2 = none) (w1 : Cond.methodLink μ.1.cls idx μ'.1 ∈ tb) (w2 : Cond.instanceMethod μ'.1 ∈ tb) (w3 : Cond.initialized μ'.1.cls ∈ tb) (w4 : Cond.code μ'.1 μ'.2.1 μ'.2.2.1 μ'.2.2.2 ∈ tb) (hy : plainCls μ')
    (hp : parseMethodDescriptor μ'.1.desc = some ⟨ps, r⟩) (hlen : as.length = ps.length) (hS : S0 = as.reverse ++ .ref i :: S) (hM : M tb K μ' rm' (.ref i :: as) H (Is none H)) (hr : rok rm rm' μ'.2.2.1 S = true)
    (h : WS tb K μ (less rm rm') (pc + 3) L S H Q) : WS tb K μ rm pc L S0 H Q := by
  intro hL Z a0 p l e R s vm0 k0 m args below meth c' T locs cells slots hSi hk X
  obtain ⟨X0, hx, hZ, hw, hby, hml, hrt, hnm, hlk, hown, hR, hFr, hr1, hr2, hr3, hr4⟩ := X
  obtain ⟨hf, hl, hc, hs⟩ := rok_spec hr
  have w4' : (Cond.code μ'.1 μ'.2.1 μ'.2.2.1 none).before a0 Z = true := by have q := hw _ w4; rw [hr0] at q; exact q
  obtain ⟨_, vm1, ⟨T1, L1, k1, n1⟩, hW1, X1, ⟨Lc, ⟨v', H', rfl, hR', ⟨rfl, rfl⟩, hFr'⟩, l1, y1, z1⟩, st⟩ := X0.specialBack hx (y := μ'.1) hn hown (mvT hZ (hw _ w1)) (mvT hZ (hw _ w2)) (mvT hZ w4') hy (backOf (R := R) (rm := rm') (h := T.heap) (Q := fun v h L => ∃ v' H', v = Option.map (cv Z.heap.size) v' ∧ Rel Z K h H' ∧ Is none H v' H' ∧ Fr Z.heap.size L) (W := wt S) (hM Z a0 hw l T.heap [] hR) hZ (hw _ w4) (hw _ w3) (by omega) (by omega))
    (g := mkF m pc (L.map (cs Z.heap.size)).toArray (S0.map (cv Z.heap.size))) rfl (by simp [hL, hml]) (Steps.refl _) (a := Z.heap.size + i) (argsL := as.map (cv Z.heap.size)) (rest := S.map (cv Z.heap.size)) (lenOf hp (by simpa using hlen)) (by rw [hS]; simp [cv]) (by show 2 * 0 + _ ≤ _; rw [cat_map]; exact Nat.le_of_eq (by simp)) (hb hby hd) (fun _ _ => ⟨rfl, rfl, by show cells + _ ≤ _; omega, by show slots + _ ≤ _; omega⟩)
  dsimp only [Pt.U, Pt.locs, Pt.cells, Pt.slots] at X1 l1 y1 z1 st hR'
  subst l1 y1 z1
  exact (h hL Z a0 p l e R s vm0 k0 m args below meth c' T1 _ _ _ hSi hk ⟨X1, hx, hZ, hw, hby, hml, hrt, hnm, hlk, hown, hR', Fr.app hFr hFr', hr1, by show cells + _ + (rm.cells - _) ≤ _; omega, by show slots + _ + (rm.slots - _) ≤ _; omega, hr4⟩).steps (fun t ht => st.trans ht)
/-- a constructor that may intern -/
theorem WS.callIS {idx i : Nat} {as : List Value} {S0 : List Value} {ps : List FieldType} {r : Option FieldType} (hd : decode μ.2.1 pc = .ok (.invokespecial idx, 3)) (hn : μ'.1.name = "<init>") (hr0 : μ'.2.2.2 = none) (w1 : Cond.methodLink μ.1.cls idx μ'.1 ∈ tb) (w2 : Cond.instanceMethod μ'.1 ∈ tb) (w3 : Cond.initialized μ'.1.cls ∈ tb) (w4 : Cond.code μ'.1 μ'.2.1 μ'.2.2.1 μ'.2.2.2 ∈ tb) (hy : plainCls μ')
    (hp : parseMethodDescriptor μ'.1.desc = some ⟨ps, r⟩) (hlen : as.length = ps.length) (hS : S0 = as.reverse ++ .ref i :: S) (hM : MS tb K μ' rm' (.ref i :: as) H Q') (hr : rok rm rm' μ'.2.2.1 S = true)
    (h : ∀ v H', Q' v H' → WS tb K μ (less rm rm') (pc + 3) L (v.toList ++ S) H' Q) : WS tb K μ rm pc L S0 H Q := by
  intro hL Z a0 p l e R s vm0 k0 m args below meth c' T locs cells slots hSi hk X
  obtain ⟨X0, hx, hZ, hw, hby, hml, hrt, hnm, hlk, hown, hR, hFr, hr1, hr2, hr3, hr4⟩ := X
  obtain ⟨hf, hl, hc, hs⟩ := rok_spec hr
  have w4' : (Cond.code μ'.1 μ'.2.1 μ'.2.2.1 none).before a0 Z = true := by have q := hw _ w4; rw [hr0] at q; exact q
  obtain ⟨_, vm1, ⟨T1, L1, k1, n1⟩, hW1, X1, hSi1, hgr, ⟨Lc, ⟨v', H', rfl, hR', hq', hFr'⟩, l1, y1, z1⟩, st⟩ := X0.specialBackS hx (y := μ'.1) hn hown (mvT hZ (hw _ w1)) (mvT hZ (hw _ w2)) (mvT hZ w4') hy (backOfS (R := R) (rm := rm') (h := T.heap) (Q := fun v h L => ∃ v' H', v = Option.map (cv Z.heap.size) v' ∧ Rel Z K h H' ∧ Q' v' H' ∧ Fr Z.heap.size L) (W := wt S) (hM Z a0 hw l T.heap [] hR) hZ (hw _ w4) (hw _ w3) (by omega) (by omega))
    (g := mkF m pc (L.map (cs Z.heap.size)).toArray (S0.map (cv Z.heap.size))) rfl (by simp [hL, hml]) (Steps.refl _) (a := Z.heap.size + i) (argsL := as.map (cv Z.heap.size)) (rest := S.map (cv Z.heap.size)) (lenOf hp (by simpa using hlen)) (by rw [hS]; simp [cv]) (by show 2 * 0 + _ ≤ _; rw [cat_map]; exact Nat.le_of_eq (by simp)) (hb hby hd) (fun _ _ => ⟨rfl, rfl, by show cells + _ ≤ _; omega, by show slots + _ ≤ _; omega⟩)
  dsimp only [Pt.U, Pt.locs, Pt.cells, Pt.slots] at X1 l1 y1 z1 st hR' hSi1 hgr
  subst l1 y1 z1
  rw [back_st] at st
  have hk' : k0 ≤ T.heap.size := by rw [hR.1]; exact hk
  have hS2 := hSi.trans hSi1 (Nat.le_trans hk' hgr)
  have hZ' : Z.Warmed39 (s.setVm T1.vm).vm := State.Warmed39.trans (t := s.setVm vm0) hZ hSi1.1
  have hown' : (s.setVm T1.vm).vm.findClass μ.1.cls = some m.cls := by rw [show (s.setVm T1.vm).vm = T1.vm from rfl, hSi1.1.alike.findClass]; exact hown
  exact (h v' H' hq' hL Z a0 p l e R s T1.vm T1.heap.size m args below meth c' T1 _ _ _ hS2 (Nat.le_of_eq hR'.1) ⟨X1, hx, hZ', hw, hby, hml, hrt, hnm, hlk, hown', hR', Fr.app hFr hFr', hr1, by show cells + _ + (rm.cells - _) ≤ _; omega, by show slots + _ + (rm.slots - _) ≤ _; omega, hr4⟩).steps (fun t ht => st.trans ht)
theorem WS.new {idx c n i : Nat} {C : String} {fs : List (String × String × String × FieldType)} (hKO : KOk tb K) (hd : decode μ.2.1 pc = .ok (.new idx, 3)) (w : Cond.classLink μ.1.cls idx C ∈ tb) (wz : Cond.initialized C ∈ tb) (hK : K[c]? = some (C, n, fs)) (hi : H.length = i) (hr : nok rm n = true)
    (h : WS tb K μ ⟨rm.frames, rm.cells - 1, rm.slots - n, rm.locals⟩ (pc + 3) L (.ref i :: S) (H ++ [.inl (c, fs.map fun f => defaultValue f.2.2.2)]) Q) : WS tb K μ rm pc L S H Q := by
  intro hL Z a0 p l e R s vm0 k0 m args below meth c' T locs cells slots hSi hk X
  obtain ⟨X0, hx, hZ, hw, hby, hml, hrt, hnm, hlk, hown, hR, hFr, hr1, hr2, hr3, hr4⟩ := X
  obtain ⟨hc, hs, hb'⟩ := nok_spec hr
  obtain ⟨o1, o2, o3⟩ := hKO _ (mem_of_get hK)
  obtain ⟨vm', cC, kC, h1, h2, h3, h4, X', st⟩ := X0.newCold hx hown (mv hZ (hw _ w)) (mv hZ (hw _ (show Cond.instantiable C n ∈ tb from o1))) (mv hZ (hw _ wz)) (g := mkF m pc (L.map (cs Z.heap.size)).toArray (S.map (cv Z.heap.size))) rfl (hb hby hd) (by omega) (by omega)
  rw [hZ.alike.findClass] at h1
  obtain ⟨kZ, z1, -⟩ := Vm.findClass_spec h1
  obtain ⟨k', z2, z3⟩ := hZ.alike.2.2 _ _ z1
  cases h2.symm.trans z2
  have ei : kC.instanceTypes = kZ.instanceTypes := by rw [z3]
  have hN : (T.heap.push { cls := cC, slots := kC.instanceTypes.map defaultValue, vm := .none })[T.heap.size]? = some { cls := cC, slots := kC.instanceTypes.map defaultValue, vm := .none } := by simp
  have ea : Z.heap.size + i = T.heap.size := by rw [hR.1, hi]
  have CO : CellOk Z K (T.heap.push { cls := cC, slots := kC.instanceTypes.map defaultValue, vm := .none }) (Z.heap.size + H.length) (.inl (c, fs.map fun f => defaultValue f.2.2.2)) := by
    refine Or.inr ⟨C, n, fs, hK, by simp, ⟨_, kZ, by rw [← hR.1]; exact hN, h1, z1, rfl, fun _ => by simp [ei]⟩, fun j f v hf hv => ?_⟩
    have hv' : v = defaultValue f.2.2.2 := by simpa [hf] using hv.symm
    subst hv'
    obtain ⟨f1, f2⟩ := o2 f (List.mem_of_getElem? hf)
    obtain ⟨c1, k1, cf, kf, i1, ff, b1, b2, b3, b4, b5, b6, -⟩ := (FOk.laid ⟨f1, f2⟩ hw).spec
    cases h1.symm.trans b1
    cases z1.symm.trans b2
    rw [cv_default]
    exact ⟨_, cf, kf, i1, ff, by rw [← hR.1]; exact hN, b3, b4, by simp, rfl, b5, by simp [ei, b6, (State.fieldFound?_type b3 f2).2]⟩
  have := h hL Z a0 p l e R s vm0 k0 m args below meth c' _ locs (cells + 1) (slots + n) hSi (by rw [List.length_append]; omega) ⟨X', hx, hZ, hw, hby, hml, hrt, hnm, hlk, hown, hR.push CO, hFr, hr1, by show cells + 1 + (rm.cells - 1) ≤ _; omega, by show slots + n + (rm.slots - n) ≤ _; omega, hr4⟩
  refine this.steps fun t ht => st t ?_
  rw [← ea]; exact ht
theorem MS.of {as : List Value} (hn : plainFor μ.1 = true) (hl : ent as ++ List.replicate (μ.2.2.1 - (ent as).length) .unset = L) (hl' : L.length = μ.2.2.1) (h : WS tb K μ rm 0 L [] H Q) : MS tb K μ rm as H Q := by
  intro Z a0 hw l h0 ws hR
  refine MetFree.of_bodySF hn hisR ?_
  intro p e s m args below meth c s₁ Bd hml0 hP hK
  obtain ⟨rfl, hZ, hh⟩ := hP
  have e0 : s₁.heap = h0 := by rw [← hh, Bd.state]; rfl
  obtain ⟨v, H', T, locs, fs, hq, st, hrun, hended, hW, hFr, hR'⟩ := h hl' Z a0 p l e rm s s.vm 0 m _ below meth c s₁ [] 0 0 ((State.WarmedH.refl s).since 0) (Nat.zero_le _) ⟨Stand.of_body Bd, Bd.exec, hZ, hw, Bd.bytes, hml0, Bd.returns, (name_of_methodNamed Bd.named Bd.method).1, Bd.notSynchronized, findClass_of_methodNamed Bd.named, e0 ▸ hR, Fr.nil _, Nat.le_refl _, Nat.le_of_eq (Nat.zero_add _), Nat.le_of_eq (Nat.zero_add _), Nat.le_refl _⟩
  have q : entryFrame m (as.map (cv Z.heap.size)).toArray μ.2.2.1 = mkF m 0 (L.map (cs Z.heap.size)).toArray [] := by
    rw [← hl, entryFrame, locals_of]
  exact ⟨_, _, castTop q st, hrun, hended, _, locs, rfl, ⟨v, H', rfl, hR', hq, hFr⟩, hW⟩
/-- cells of which nothing is said -/
abbrev junk (K : KTab) (g : Nat) : AHeap := List.replicate g (.inl (K.length, []))
theorem Rel.junk {Z : State} {h h' : Heap} (R : Rel Z K h H) (E : Ext h h') : Rel Z K h' (H ++ junk K (h'.size - h.size)) := by
  have e1 := E.1
  refine ⟨by rw [List.length_append, List.length_replicate]; have := R.1; omega, fun i c q => ?_⟩
  rcases Nat.lt_or_ge i H.length with hi | hi
  · rw [List.getElem?_append_left hi] at q
    exact (R.2 i c q).ext E
  · rw [List.getElem?_append_right hi] at q
    have := (List.mem_replicate.mp (List.mem_of_getElem? q)).2
    subst this
    exact Or.inl (List.getElem?_eq_none (Nat.le_refl _))
/-- a static method of a reference and an int that answers nothing and touches nothing, whatever the reference is -/
def MR (tb : List Cond) (μ : Mth) (rm : Room) (x : Int32) : Prop :=
  ∀ (Z : State) (a0 : Array Value), (∀ d ∈ tb, d.before a0 Z = true) → ∀ (l : Launch) (h : Heap) (ws : List Cond) (a : Addr),
    MetFree l μ.1 (head1 (Cond.code μ.1 μ.2.1 μ.2.2.1 μ.2.2.2 :: ws) rm) (fun q U => q = [Value.ref a, .int x].toArray ∧ Z.Warmed39 U.vm ∧ U.heap = h) (fun _ _ _ _ _ => True)
      (fun _ U o U' => ∃ v L, o = .returned v ∧ (v = none ∧ U'.heap = h ∧ L = []) ∧ FrameEnd U o U' L rm.cells rm.slots)
/-- ldc of a String constant, an int, and the call that takes both -/
theorem WS.ldcCall {idx idx' n : Nat} {i : Fin 4} {text : String} {x : Int32} {ps : List FieldType} {r : Option FieldType} (hd : decode μ.2.1 pc = .ok (.ldc idx, 2)) (hd1 : decode μ.2.1 (pc + 2) = .ok (.iload_n i, 1)) (hd2 : decode μ.2.1 (pc + 2 + 1) = .ok (.invokestatic idx', 3))
    (ws : Cond.stringLink μ.1.cls idx text ∈ tb) (wS : ∀ a ∈ Bundle.stringAtoms, a ∈ tb) (hx : L[i.val]? = some (.val (.int x))) (hn : 4 * text.toList.length ≤ n) (hbig : n ≤ 536870912) (hcr : 2 ≤ rm.cells) (hsr : n + 4 ≤ rm.slots)
    (w1 : Cond.methodLink μ.1.cls idx' μ'.1 ∈ tb) (w2 : Cond.static μ'.1 ∈ tb) (w3 : Cond.initialized μ'.1.cls ∈ tb) (w4 : Cond.code μ'.1 μ'.2.1 μ'.2.2.1 μ'.2.2.2 ∈ tb) (hy : plainCls μ')
    (hp : parseMethodDescriptor μ'.1.desc = some ⟨ps, r⟩) (hlen : 2 = ps.length) (hM : MR tb μ' rm' x) (hr : rok ⟨rm.frames, rm.cells - 2, rm.slots - (n + 4), rm.locals⟩ rm' μ'.2.2.1 S = true)
    (h : ∀ g, WS tb K μ (less ⟨rm.frames, rm.cells - 2, rm.slots - (n + 4), rm.locals⟩ rm') (pc + 2 + 1 + 3) L S (H ++ junk K g) Q) : WS tb K μ rm pc L S H Q := by
  intro hL Z a0 p l e R s vm0 k0 m args below meth c' T locs cells slots hSi hk X
  obtain ⟨X0, hx0, hZ, hw, hby, hml, hrt, hnm, hlk, hown, hR, hFr, hr1, hr2, hr3, hr4⟩ := X
  obtain ⟨hf, hl, hc, hs⟩ := rok_spec hr
  dsimp only at hf hl hc hs
  obtain ⟨a, T', h', k1, X1, rfl, E, hS1, hk1, hZ1, hown1, st1⟩ := RoadKit.ldcS X0 hx0 hZ hown (hw _ ws) (fun a ha => hw _ (wS a ha)) rfl hSi (by rw [hR.1]; exact hk) (g := mkF m pc (L.map (cs Z.heap.size)).toArray (S.map (cv Z.heap.size))) rfl (hb hby hd) hn hbig (by omega) (by omega)
  have st2 : ∀ t, Steps p.tables e below (T'.setTop (mkF m (pc + 2 + 1) (L.map (cs Z.heap.size)).toArray (.int x :: .ref a :: S.map (cv Z.heap.size)))) t → Steps p.tables e below (T'.setTop (mkF m (pc + 2) (L.map (cs Z.heap.size)).toArray (.ref a :: S.map (cv Z.heap.size)))) t := fun t ht => XS.iloadN X1.here hx0 rfl (hb hby hd1) (get_conc hx) ht
  obtain ⟨_, vm1, ⟨T1, L1, c1, n1⟩, hW1, X2, ⟨Lc, ⟨rfl, hh, rfl⟩, l1, y1, z1⟩, st3⟩ := Jvm.LawKit.callS X1 hx0 (y := μ'.1) hown1 (mvT hZ1 (hw _ w1)) (mvT hZ1 (hw _ w2)) (mvT hZ1 (hw _ w3)) (mvT hZ1 (hw _ w4)) hy (backOf (R := R) (rm := rm') (h := T'.heap) (Q := fun v h L => v = none ∧ h = T'.heap ∧ L = []) (W := wt S) (hM Z a0 hw l T'.heap [] a) hZ1 (hw _ w4) (hw _ w3) (by omega) (by omega))
    (g := mkF m (pc + 2 + 1) (L.map (cs Z.heap.size)).toArray (.int x :: .ref a :: S.map (cv Z.heap.size))) rfl (by simp [hL, hml]) (argsL := [.ref a, .int x]) (rest := S.map (cv Z.heap.size)) (lenOf hp (by simpa using hlen)) (by simp [mkF]) (by show 2 * 0 + _ ≤ _; rw [cat_map]; exact Nat.le_of_eq (by simp)) (hb hby hd2) (fun _ _ => ⟨rfl, rfl, by show cells + 2 + _ ≤ _; omega, by show slots + (n + 4) + _ ≤ _; omega⟩)
  dsimp only [Pt.U, Pt.locs, Pt.cells, Pt.slots] at X2 l1 y1 z1 st3 hh
  subst l1 y1 z1
  have hR' := hR.junk E
  have hR1 : Rel Z K T1.heap (H ++ junk K (T'.heap.size - T.heap.size)) := by rw [hh]; exact hR'
  refine (h (T'.heap.size - T.heap.size) hL Z a0 p l e R s T'.vm k1 m args below meth c' T1 _ _ _ hS1 (by rw [← hR'.1]; exact hk1) ⟨X2, hx0, hZ1, hw, hby, hml, hrt, hnm, hlk, hown1, hR1, by simpa using hFr, hr1, by show cells + 2 + _ + (rm.cells - 2 - _) ≤ _; omega, by show slots + (n + 4) + _ + (rm.slots - (n + 4) - _) ≤ _; omega, hr4⟩).steps fun t ht => st1 t (st2 t (st3 t ht))
/-- two references -/
theorem W.acmpne {i j : Nat} {o : Int} {pc' : Nat} (hd : decode μ.2.1 pc = .ok (.if_acmp .ne o, 3)) (ho : 0 ≤ (pc : Int) + o) (hp : ((pc : Int) + o).toNat = pc') (hij : i ≠ j) (h : W tb K μ rm pc' L S H Q) : W tb K μ rm pc L (.ref j :: .ref i :: S) H Q := by
  subst hp
  refine W.pure rfl (fun k p e m below c T hA hx hb' t ht => ?_) h
  have hd' := hb hb' hd
  have ne : ¬ (k + i = k + j) := by omega
  show Steps p.tables e below (T.setTop (mkF m pc (L.map (cs k)).toArray (.ref (k + j) :: .ref (k + i) :: S.map (cv k)))) _
  jvm_step hA [hA.top, hx, hd', if_acmp.holds, Value.asRef?, ne, ho]
  rw [if_neg hij]; exact ht
end Wide
end Jvm.Own
namespace Jvm.Pilot.@@N@@
open Jvm Jvm.ClassFile Sem Op Lib Jvm.Free Jvm.Stand Jvm.LawKit Jvm.RoadKit Jvm.Own Bundle Jvm.Pilot.@@N@@.Jvm.D
/-! PRINTED BY gen.py: the classes, the methods, one lemma a site -/
def KT : KTab := [("com/example/manoa/manoa/model/PrimaryDeviceType", 3, [("com/example/manoa/manoa/model/PrimaryDeviceType", "category", "I", .int), ("com/example/manoa/manoa/model/PrimaryDeviceType", "oui", "I", .int), ("com/example/manoa/manoa/model/PrimaryDeviceType", "subcategory", "I", .int)])]
theorem kt : KOk tables_1 KT := (KOk.cons (List.mem_of_getElem? (i := 2) rfl) (fokS ⟨Or.inr (List.mem_of_getElem? (i := 29) rfl), by decide⟩ (fokS ⟨Or.inr (List.mem_of_getElem? (i := 31) rfl), by decide⟩ (fokS ⟨Or.inr (List.mem_of_getElem? (i := 33) rfl), by decide⟩ fok0))) (by decide) KOk.nil)
abbrev μ0 : Mth := (x, code, 11, ret)
abbrev W0 := W tables_1 KT μ0
abbrev M0 := M tables_1 KT μ0
theorem pf0 : plainFor μ0.1 = true := by first | (refine plainFor_of_name ?_; simp [plainName, overriddenIn, x]; done) | decide +kernel
theorem pd0 : parseMethodDescriptor "(III)Z" = some ⟨[.int, .int, .int], some .boolean⟩ := by decide +kernel
abbrev μ1 : Mth := (⟨"com/example/manoa/manoa/model/PrimaryDeviceType", "<init>", "(III)V"⟩, prog_92_method_1_code, 4, none)
abbrev W1 := W tables_1 KT μ1
abbrev M1 := M tables_1 KT μ1
theorem pf1 : plainFor μ1.1 = true := by first | (refine plainFor_of_name ?_; simp [plainName, overriddenIn, x]; done) | decide +kernel
theorem pd1 : parseMethodDescriptor "(III)V" = some ⟨[.int, .int, .int], none⟩ := by decide +kernel
abbrev μ2 : Mth := (⟨"java/lang/Record", "<init>", "()V"⟩, jdk_30_method_1_code, 1, none)
abbrev W2 := W tables_1 KT μ2
abbrev M2 := M tables_1 KT μ2
theorem pf2 : plainFor μ2.1 = true := by first | (refine plainFor_of_name ?_; simp [plainName, overriddenIn, x]; done) | decide +kernel
theorem pd2 : parseMethodDescriptor "()V" = some ⟨[], none⟩ := by decide +kernel
abbrev μ3 : Mth := (⟨"com/example/manoa/manoa/model/PrimaryDeviceType", "checkU16", "(Ljava/lang/String;I)V"⟩, prog_92_method_6_code, 2, none)
abbrev W3 := W tables_1 KT μ3
abbrev M3 := M tables_1 KT μ3
theorem pf3 : plainFor μ3.1 = true := by first | (refine plainFor_of_name ?_; simp [plainName, overriddenIn, x]; done) | decide +kernel
theorem pd3 : parseMethodDescriptor "(Ljava/lang/String;I)V" = some ⟨[(.object "java/lang/String"), .int], none⟩ := by decide +kernel
abbrev μ4 : Mth := (⟨"com/example/manoa/manoa/model/PrimaryDeviceType", "toBytes", "()[B"⟩, prog_92_method_4_code, 1, some (.array .byte))
abbrev W4 := W tables_1 KT μ4
abbrev M4 := M tables_1 KT μ4
theorem pf4 : plainFor μ4.1 = true := by first | (refine plainFor_of_name ?_; simp [plainName, overriddenIn, x]; done) | decide +kernel
theorem pd4 : parseMethodDescriptor "()[B" = some ⟨[], some (.array .byte)⟩ := by decide +kernel
abbrev μ5 : Mth := (⟨"com/example/manoa/manoa/model/PrimaryDeviceTypeToBytesPinLaw", "u", "(B)I"⟩, method_2_code, 1, some .int)
abbrev W5 := W tables_1 KT μ5
abbrev M5 := M tables_1 KT μ5
theorem pf5 : plainFor μ5.1 = true := by first | (refine plainFor_of_name ?_; simp [plainName, overriddenIn, x]; done) | decide +kernel
theorem pd5 : parseMethodDescriptor "(B)I" = some ⟨[.byte], some .int⟩ := by decide +kernel
theorem e0 {rm : Room} {H : AHeap} {Q : Option Value → AHeap → Prop} {a0 : Int32} {a1 : Int32} {a2 : Int32} (h : W0 rm 0 [.val (.int a0), .val (.int a1), .val (.int a2), .unset, .unset, .unset, .unset, .unset, .unset, .unset, .unset] [] H Q) : M0 rm [.int a0, .int a1, .int a2] H Q := M.of pf0 rfl rfl h
theorem e0L {rm : Room} {H : AHeap} {Q : Option Value → AHeap → Prop} {L : List Slot} {as : List Value} (h : W0 rm 0 L [] H Q) (hl : ent as ++ List.replicate (11 - (ent as).length) .unset = L := by rfl) (hn : L.length = 11 := by rfl) : M0 rm as H Q := M.of pf0 hl hn h
theorem s0_0 {rm : Room} {S : List Value} {H : AHeap} {Q : Option Value → AHeap → Prop} {l1 l2 l3 l4 l5 l6 l7 l8 l9 l10 : Slot} {x : Int32} (h : W0 rm 1 [.val (.int x), l1, l2, l3, l4, l5, l6, l7, l8, l9, l10] (.int x :: S) (H) Q) : W0 rm 0 [.val (.int x), l1, l2, l3, l4, l5, l6, l7, l8, l9, l10] (S) H Q := W.iload_n at_0 rfl h
theorem s0_1 {rm : Room} {S : List Value} {H : AHeap} {Q : Option Value → AHeap → Prop} {l0 l1 l2 l3 l4 l5 l6 l7 l8 l9 l10 : Slot}  (h : W0 rm 3 [l0, l1, l2, l3, l4, l5, l6, l7, l8, l9, l10] (.int 65535 :: S) (H) Q) : W0 rm 1 [l0, l1, l2, l3, l4, l5, l6, l7, l8, l9, l10] (S) H Q := W.ldcInt at_1 (List.mem_of_getElem? (i := 0) rfl) h
theorem s0_3 {rm : Room} {S : List Value} {H : AHeap} {Q : Option Value → AHeap → Prop} {l0 l1 l2 l3 l4 l5 l6 l7 l8 l9 l10 : Slot} {x y : Int32} (h : W0 rm 4 [l0, l1, l2, l3, l4, l5, l6, l7, l8, l9, l10] (.int (x &&& y) :: S) (H) Q) : W0 rm 3 [l0, l1, l2, l3, l4, l5, l6, l7, l8, l9, l10] (.int y :: .int x :: S) H Q := W.iand at_3 h
theorem s0_4 {rm : Room} {S : List Value} {H : AHeap} {Q : Option Value → AHeap → Prop} {l0 l1 l2 l3 l4 l5 l6 l7 l8 l9 l10 : Slot} {x : Int32} (ho : one l3 = true) (h : W0 rm 5 [l0, l1, l2, .val (.int x), l4, l5, l6, l7, l8, l9, l10] (S) (H) Q) : W0 rm 4 [l0, l1, l2, l3, l4, l5, l6, l7, l8, l9, l10] (.int x :: S) H Q := W.istore_n at_4 rfl ho h
theorem s0_4w {rm : Room} {S : List Value} {H : AHeap} {Q : Option Value → AHeap → Prop} {l0 l1 l2 l4 l5 l6 l7 l8 l9 l10 : Slot} {w : Value} {x : Int32} (ho : w.category = 2) (h : W0 rm 5 [l0, l1, l2, .val (.int x), .unset, l5, l6, l7, l8, l9, l10] (S) (H) Q) : W0 rm 4 [l0, l1, l2, .val w, l4, l5, l6, l7, l8, l9, l10] (.int x :: S) H Q := W.istore_nW at_4 rfl ho (Nat.le_of_ble_eq_true rfl) h
theorem s0_4s {rm : Room} {S : List Value} {H : AHeap} {Q : Option Value → AHeap → Prop} {l0 l1 l2 l4 l5 l6 l7 l8 l9 l10 : Slot} {x : Int32} (h : W0 rm 5 [l0, l1, .unset, .val (.int x), l4, l5, l6, l7, l8, l9, l10] (S) (H) Q) : W0 rm 4 [l0, l1, l2, .second, l4, l5, l6, l7, l8, l9, l10] (.int x :: S) H Q := W.istore_nS at_4 rfl (by decide) h
theorem s0_5 {rm : Room} {S : List Value} {H : AHeap} {Q : Option Value → AHeap → Prop} {l0 l1 l3 l4 l5 l6 l7 l8 l9 l10 : Slot} {x : Int32} (h : W0 rm 6 [l0, l1, .val (.int x), l3, l4, l5, l6, l7, l8, l9, l10] (.int x :: S) (H) Q) : W0 rm 5 [l0, l1, .val (.int x), l3, l4, l5, l6, l7, l8, l9, l10] (S) H Q := W.iload_n at_5 rfl h
theorem s0_6 {rm : Room} {S : List Value} {H : AHeap} {Q : Option Value → AHeap → Prop} {l0 l1 l2 l3 l4 l5 l6 l7 l8 l9 l10 : Slot}  (h : W0 rm 8 [l0, l1, l2, l3, l4, l5, l6, l7, l8, l9, l10] (.int 65535 :: S) (H) Q) : W0 rm 6 [l0, l1, l2, l3, l4, l5, l6, l7, l8, l9, l10] (S) H Q := W.ldcInt at_6 (List.mem_of_getElem? (i := 0) rfl) h
theorem s0_8 {rm : Room} {S : List Value} {H : AHeap} {Q : Option Value → AHeap → Prop} {l0 l1 l2 l3 l4 l5 l6 l7 l8 l9 l10 : Slot} {x y : Int32} (h : W0 rm 9 [l0, l1, l2, l3, l4, l5, l6, l7, l8, l9, l10] (.int (x &&& y) :: S) (H) Q) : W0 rm 8 [l0, l1, l2, l3, l4, l5, l6, l7, l8, l9, l10] (.int y :: .int x :: S) H Q := W.iand at_8 h
theorem s0_9 {rm : Room} {S : List Value} {H : AHeap} {Q : Option Value → AHeap → Prop} {l0 l1 l2 l3 l4 l5 l6 l7 l8 l9 l10 : Slot} {x : Int32} (ho : one l4 = true) (h : W0 rm 11 [l0, l1, l2, l3, .val (.int x), l5, l6, l7, l8, l9, l10] (S) (H) Q) : W0 rm 9 [l0, l1, l2, l3, l4, l5, l6, l7, l8, l9, l10] (.int x :: S) H Q := W.istore at_9 rfl ho h
theorem s0_9w {rm : Room} {S : List Value} {H : AHeap} {Q : Option Value → AHeap → Prop} {l0 l1 l2 l3 l5 l6 l7 l8 l9 l10 : Slot} {w : Value} {x : Int32} (ho : w.category = 2) (h : W0 rm 11 [l0, l1, l2, l3, .val (.int x), .unset, l6, l7, l8, l9, l10] (S) (H) Q) : W0 rm 9 [l0, l1, l2, l3, .val w, l5, l6, l7, l8, l9, l10] (.int x :: S) H Q := W.istoreW at_9 rfl ho (Nat.le_of_ble_eq_true rfl) h
theorem s0_9s {rm : Room} {S : List Value} {H : AHeap} {Q : Option Value → AHeap → Prop} {l0 l1 l2 l3 l5 l6 l7 l8 l9 l10 : Slot} {x : Int32} (h : W0 rm 11 [l0, l1, l2, .unset, .val (.int x), l5, l6, l7, l8, l9, l10] (S) (H) Q) : W0 rm 9 [l0, l1, l2, l3, .second, l5, l6, l7, l8, l9, l10] (.int x :: S) H Q := W.istoreS at_9 rfl (by decide) h
theorem s0_11 {rm : Room} {S : List Value} {H : AHeap} {Q : Option Value → AHeap → Prop} {l0 l1 l2 l3 l4 l5 l6 l7 l8 l9 l10 : Slot} (i : Nat) (hi : H.length = i) (hr : nok rm 3 = true) (h : W0 ⟨rm.frames, rm.cells - 1, rm.slots - 3, rm.locals⟩ 14 [l0, l1, l2, l3, l4, l5, l6, l7, l8, l9, l10] (.ref i :: S) (H ++ [.inl (0, [.int 0, .int 0, .int 0])]) Q) : W0 rm 11 [l0, l1, l2, l3, l4, l5, l6, l7, l8, l9, l10] (S) H Q := W.new (c := 0) kt at_11 (List.mem_of_getElem? (i := 1) rfl) (List.mem_of_getElem? (i := 3) rfl) rfl hi hr h
theorem s0_14 {rm : Room} {S : List Value} {H : AHeap} {Q : Option Value → AHeap → Prop} {l0 l1 l2 l3 l4 l5 l6 l7 l8 l9 l10 : Slot} {v : Value} (hc : v.category = 1) (h : W0 rm 15 [l0, l1, l2, l3, l4, l5, l6, l7, l8, l9, l10] (v :: v :: S) (H) Q) : W0 rm 14 [l0, l1, l2, l3, l4, l5, l6, l7, l8, l9, l10] (v :: S) H Q := W.dup at_14 hc h
theorem s0_15 {rm : Room} {S : List Value} {H : AHeap} {Q : Option Value → AHeap → Prop} {l0 l1 l2 l4 l5 l6 l7 l8 l9 l10 : Slot} {x : Int32} (h : W0 rm 16 [l0, l1, l2, .val (.int x), l4, l5, l6, l7, l8, l9, l10] (.int x :: S) (H) Q) : W0 rm 15 [l0, l1, l2, .val (.int x), l4, l5, l6, l7, l8, l9, l10] (S) H Q := W.iload_n at_15 rfl h
theorem s0_16 {rm : Room} {S : List Value} {H : AHeap} {Q : Option Value → AHeap → Prop} {l0 l2 l3 l4 l5 l6 l7 l8 l9 l10 : Slot} {x : Int32} (h : W0 rm 17 [l0, .val (.int x), l2, l3, l4, l5, l6, l7, l8, l9, l10] (.int x :: S) (H) Q) : W0 rm 16 [l0, .val (.int x), l2, l3, l4, l5, l6, l7, l8, l9, l10] (S) H Q := W.iload_n at_16 rfl h
theorem s0_17 {rm : Room} {S : List Value} {H : AHeap} {Q : Option Value → AHeap → Prop} {l0 l1 l2 l3 l5 l6 l7 l8 l9 l10 : Slot} {x : Int32} (h : W0 rm 19 [l0, l1, l2, l3, .val (.int x), l5, l6, l7, l8, l9, l10] (.int x :: S) (H) Q) : W0 rm 17 [l0, l1, l2, l3, .val (.int x), l5, l6, l7, l8, l9, l10] (S) H Q := W.iload at_17 rfl h
theorem s0_19 {rm : Room} {S : List Value} {H : AHeap} {Q : Option Value → AHeap → Prop} {l0 l1 l2 l3 l4 l5 l6 l7 l8 l9 l10 : Slot} {rm' : Room} {H' : AHeap} {i : Nat} {a0 : Int32} {a1 : Int32} {a2 : Int32}  (hM : M1 rm' [.ref i, .int a0, .int a1, .int a2] H (Is none H')) (hr : rok rm rm' 4 S = true) (h : W0 (less rm rm') 22 [l0, l1, l2, l3, l4, l5, l6, l7, l8, l9, l10] (S) H' Q) : W0 rm 19 [l0, l1, l2, l3, l4, l5, l6, l7, l8, l9, l10] (.int a2 :: .int a1 :: .int a0 :: .ref i :: S) H Q := W.callI (S := S) (as := [.int a0, .int a1, .int a2]) (rm' := rm') at_19 rfl rfl (List.mem_of_getElem? (i := 4) rfl) (List.mem_of_getElem? (i := 5) rfl) (List.mem_of_getElem? (i := 3) rfl) (List.mem_of_getElem? (i := 6) rfl) (by decide) pd1 rfl rfl hM hr (fun _ _ q => by obtain ⟨rfl, rfl⟩ := q; exact h)
theorem s0_19q {rm : Room} {S : List Value} {H : AHeap} {Q : Option Value → AHeap → Prop} {l0 l1 l2 l3 l4 l5 l6 l7 l8 l9 l10 : Slot} {rm' : Room} {Q' : Option Value → AHeap → Prop} {i : Nat} {a0 a1 a2 : Value} (hM : M1 rm' [.ref i, a0, a1, a2] H Q') (hr : rok rm rm' 4 S = true) (h : ∀ v H', Q' v H' → W0 (less rm rm') 22 [l0, l1, l2, l3, l4, l5, l6, l7, l8, l9, l10] (v.toList ++ S) H' Q) : W0 rm 19 [l0, l1, l2, l3, l4, l5, l6, l7, l8, l9, l10] (a2 :: a1 :: a0 :: .ref i :: S) H Q := W.callI (S := S) (as := [a0, a1, a2]) (rm' := rm') at_19 rfl rfl (List.mem_of_getElem? (i := 4) rfl) (List.mem_of_getElem? (i := 5) rfl) (List.mem_of_getElem? (i := 3) rfl) (List.mem_of_getElem? (i := 6) rfl) (by decide) pd1 rfl rfl hM hr h
theorem s0_22 {rm : Room} {S : List Value} {H : AHeap} {Q : Option Value → AHeap → Prop} {l0 l1 l2 l3 l4 l5 l6 l7 l8 l9 l10 : Slot} {i : Nat} (ho : one l5 = true) (h : W0 rm 24 [l0, l1, l2, l3, l4, .val (.ref i), l6, l7, l8, l9, l10] (S) (H) Q) : W0 rm 22 [l0, l1, l2, l3, l4, l5, l6, l7, l8, l9, l10] (.ref i :: S) H Q := W.astore at_22 rfl ho rfl h
theorem s0_24 {rm : Room} {S : List Value} {H : AHeap} {Q : Option Value → AHeap → Prop} {l0 l1 l2 l3 l4 l6 l7 l8 l9 l10 : Slot} {i : Nat} (h : W0 rm 26 [l0, l1, l2, l3, l4, .val (.ref i), l6, l7, l8, l9, l10] (.ref i :: S) (H) Q) : W0 rm 24 [l0, l1, l2, l3, l4, .val (.ref i), l6, l7, l8, l9, l10] (S) H Q := W.aload at_24 rfl rfl h
theorem s0_24n {rm : Room} {S : List Value} {H : AHeap} {Q : Option Value → AHeap → Prop} {l0 l1 l2 l3 l4 l6 l7 l8 l9 l10 : Slot}  (h : W0 rm 26 [l0, l1, l2, l3, l4, .val .null, l6, l7, l8, l9, l10] (.null :: S) (H) Q) : W0 rm 24 [l0, l1, l2, l3, l4, .val .null, l6, l7, l8, l9, l10] (S) H Q := W.aload at_24 rfl rfl h
theorem s0_26 {rm : Room} {S : List Value} {H : AHeap} {Q : Option Value → AHeap → Prop} {l0 l1 l2 l3 l4 l5 l6 l7 l8 l9 l10 : Slot} {rm' : Room} {H' : AHeap} {i : Nat} {vs : List Value}  {r : Nat} (hH : H[i]? = some (.inl (0, vs))) (hM : M4 rm' [.ref i] H (Is (some (.ref r)) H')) (hr : rok rm rm' 1 S = true) (h : W0 (less rm rm') 29 [l0, l1, l2, l3, l4, l5, l6, l7, l8, l9, l10] (.ref r :: S) H' Q) : W0 rm 26 [l0, l1, l2, l3, l4, l5, l6, l7, l8, l9, l10] (.ref i :: S) H Q := W.callV (c := 0) (S := S) (as := []) (rm' := rm') at_26 (List.mem_of_getElem? (i := 34) rfl) (List.mem_of_getElem? (i := 35) rfl) (List.mem_of_getElem? (i := 37) rfl) (Or.inl rfl) kt (List.mem_of_getElem? (i := 36) rfl) (List.mem_of_getElem? (i := 3) rfl) (List.mem_of_getElem? (i := 38) rfl) (by decide) rfl pd4 rfl rfl hH hM hr (fun _ _ q => by obtain ⟨rfl, rfl⟩ := q; exact h)
theorem s0_26q {rm : Room} {S : List Value} {H : AHeap} {Q : Option Value → AHeap → Prop} {l0 l1 l2 l3 l4 l5 l6 l7 l8 l9 l10 : Slot} {rm' : Room} {Q' : Option Value → AHeap → Prop} {i : Nat} {vs : List Value}  (hH : H[i]? = some (.inl (0, vs))) (hM : M4 rm' [.ref i] H Q') (hr : rok rm rm' 1 S = true) (h : ∀ v H', Q' v H' → W0 (less rm rm') 29 [l0, l1, l2, l3, l4, l5, l6, l7, l8, l9, l10] (v.toList ++ S) H' Q) : W0 rm 26 [l0, l1, l2, l3, l4, l5, l6, l7, l8, l9, l10] (.ref i :: S) H Q := W.callV (c := 0) (S := S) (as := []) (rm' := rm') at_26 (List.mem_of_getElem? (i := 34) rfl) (List.mem_of_getElem? (i := 35) rfl) (List.mem_of_getElem? (i := 37) rfl) (Or.inl rfl) kt (List.mem_of_getElem? (i := 36) rfl) (List.mem_of_getElem? (i := 3) rfl) (List.mem_of_getElem? (i := 38) rfl) (by decide) rfl pd4 rfl rfl hH hM hr h
theorem s0_29 {rm : Room} {S : List Value} {H : AHeap} {Q : Option Value → AHeap → Prop} {l0 l1 l2 l3 l4 l5 l6 l7 l8 l9 l10 : Slot} {i : Nat} (ho : one l6 = true) (h : W0 rm 31 [l0, l1, l2, l3, l4, l5, .val (.ref i), l7, l8, l9, l10] (S) (H) Q) : W0 rm 29 [l0, l1, l2, l3, l4, l5, l6, l7, l8, l9, l10] (.ref i :: S) H Q := W.astore at_29 rfl ho rfl h
theorem s0_31 {rm : Room} {S : List Value} {H : AHeap} {Q : Option Value → AHeap → Prop} {l0 l1 l2 l3 l4 l6 l7 l8 l9 l10 : Slot} {i : Nat} (h : W0 rm 33 [l0, l1, l2, l3, l4, .val (.ref i), l6, l7, l8, l9, l10] (.ref i :: S) (H) Q) : W0 rm 31 [l0, l1, l2, l3, l4, .val (.ref i), l6, l7, l8, l9, l10] (S) H Q := W.aload at_31 rfl rfl h
theorem s0_31n {rm : Room} {S : List Value} {H : AHeap} {Q : Option Value → AHeap → Prop} {l0 l1 l2 l3 l4 l6 l7 l8 l9 l10 : Slot}  (h : W0 rm 33 [l0, l1, l2, l3, l4, .val .null, l6, l7, l8, l9, l10] (.null :: S) (H) Q) : W0 rm 31 [l0, l1, l2, l3, l4, .val .null, l6, l7, l8, l9, l10] (S) H Q := W.aload at_31 rfl rfl h
theorem s0_33 {rm : Room} {S : List Value} {H : AHeap} {Q : Option Value → AHeap → Prop} {l0 l1 l2 l3 l4 l5 l6 l7 l8 l9 l10 : Slot} {rm' : Room} {H' : AHeap} {i : Nat} {vs : List Value}  {r : Nat} (hH : H[i]? = some (.inl (0, vs))) (hM : M4 rm' [.ref i] H (Is (some (.ref r)) H')) (hr : rok rm rm' 1 S = true) (h : W0 (less rm rm') 36 [l0, l1, l2, l3, l4, l5, l6, l7, l8, l9, l10] (.ref r :: S) H' Q) : W0 rm 33 [l0, l1, l2, l3, l4, l5, l6, l7, l8, l9, l10] (.ref i :: S) H Q := W.callV (c := 0) (S := S) (as := []) (rm' := rm') at_33 (List.mem_of_getElem? (i := 34) rfl) (List.mem_of_getElem? (i := 35) rfl) (List.mem_of_getElem? (i := 37) rfl) (Or.inl rfl) kt (List.mem_of_getElem? (i := 36) rfl) (List.mem_of_getElem? (i := 3) rfl) (List.mem_of_getElem? (i := 38) rfl) (by decide) rfl pd4 rfl rfl hH hM hr (fun _ _ q => by obtain ⟨rfl, rfl⟩ := q; exact h)
theorem s0_33q {rm : Room} {S : List Value} {H : AHeap} {Q : Option Value → AHeap → Prop} {l0 l1 l2 l3 l4 l5 l6 l7 l8 l9 l10 : Slot} {rm' : Room} {Q' : Option Value → AHeap → Prop} {i : Nat} {vs : List Value}  (hH : H[i]? = some (.inl (0, vs))) (hM : M4 rm' [.ref i] H Q') (hr : rok rm rm' 1 S = true) (h : ∀ v H', Q' v H' → W0 (less rm rm') 36 [l0, l1, l2, l3, l4, l5, l6, l7, l8, l9, l10] (v.toList ++ S) H' Q) : W0 rm 33 [l0, l1, l2, l3, l4, l5, l6, l7, l8, l9, l10] (.ref i :: S) H Q := W.callV (c := 0) (S := S) (as := []) (rm' := rm') at_33 (List.mem_of_getElem? (i := 34) rfl) (List.mem_of_getElem? (i := 35) rfl) (List.mem_of_getElem? (i := 37) rfl) (Or.inl rfl) kt (List.mem_of_getElem? (i := 36) rfl) (List.mem_of_getElem? (i := 3) rfl) (List.mem_of_getElem? (i := 38) rfl) (by decide) rfl pd4 rfl rfl hH hM hr h
theorem s0_36 {rm : Room} {S : List Value} {H : AHeap} {Q : Option Value → AHeap → Prop} {l0 l1 l2 l3 l4 l5 l6 l7 l8 l9 l10 : Slot} {i : Nat} (ho : one l7 = true) (h : W0 rm 38 [l0, l1, l2, l3, l4, l5, l6, .val (.ref i), l8, l9, l10] (S) (H) Q) : W0 rm 36 [l0, l1, l2, l3, l4, l5, l6, l7, l8, l9, l10] (.ref i :: S) H Q := W.astore at_36 rfl ho rfl h
theorem s0_38 {rm : Room} {S : List Value} {H : AHeap} {Q : Option Value → AHeap → Prop} {l0 l1 l2 l3 l4 l5 l7 l8 l9 l10 : Slot} {i : Nat} (h : W0 rm 40 [l0, l1, l2, l3, l4, l5, .val (.ref i), l7, l8, l9, l10] (.ref i :: S) (H) Q) : W0 rm 38 [l0, l1, l2, l3, l4, l5, .val (.ref i), l7, l8, l9, l10] (S) H Q := W.aload at_38 rfl rfl h
theorem s0_38n {rm : Room} {S : List Value} {H : AHeap} {Q : Option Value → AHeap → Prop} {l0 l1 l2 l3 l4 l5 l7 l8 l9 l10 : Slot}  (h : W0 rm 40 [l0, l1, l2, l3, l4, l5, .val .null, l7, l8, l9, l10] (.null :: S) (H) Q) : W0 rm 38 [l0, l1, l2, l3, l4, l5, .val .null, l7, l8, l9, l10] (S) H Q := W.aload at_38 rfl rfl h
theorem s0_40 {rm : Room} {S : List Value} {H : AHeap} {Q : Option Value → AHeap → Prop} {l0 l1 l2 l3 l4 l5 l6 l7 l8 l9 l10 : Slot} {i : Nat} (h : W0 rm 43 [l0, l1, l2, l3, l4, l5, l6, l7, l8, l9, l10] (S) (H) Q) : W0 rm 40 [l0, l1, l2, l3, l4, l5, l6, l7, l8, l9, l10] (.ref i :: S) H Q := W.ifnullR at_40 h
theorem s0_43 {rm : Room} {S : List Value} {H : AHeap} {Q : Option Value → AHeap → Prop} {l0 l1 l2 l3 l4 l5 l6 l8 l9 l10 : Slot} {i : Nat} (h : W0 rm 45 [l0, l1, l2, l3, l4, l5, l6, .val (.ref i), l8, l9, l10] (.ref i :: S) (H) Q) : W0 rm 43 [l0, l1, l2, l3, l4, l5, l6, .val (.ref i), l8, l9, l10] (S) H Q := W.aload at_43 rfl rfl h
theorem s0_43n {rm : Room} {S : List Value} {H : AHeap} {Q : Option Value → AHeap → Prop} {l0 l1 l2 l3 l4 l5 l6 l8 l9 l10 : Slot}  (h : W0 rm 45 [l0, l1, l2, l3, l4, l5, l6, .val .null, l8, l9, l10] (.null :: S) (H) Q) : W0 rm 43 [l0, l1, l2, l3, l4, l5, l6, .val .null, l8, l9, l10] (S) H Q := W.aload at_43 rfl rfl h
theorem s0_45 {rm : Room} {S : List Value} {H : AHeap} {Q : Option Value → AHeap → Prop} {l0 l1 l2 l3 l4 l5 l6 l7 l8 l9 l10 : Slot} {i : Nat} (h : W0 rm 50 [l0, l1, l2, l3, l4, l5, l6, l7, l8, l9, l10] (S) (H) Q) : W0 rm 45 [l0, l1, l2, l3, l4, l5, l6, l7, l8, l9, l10] (.ref i :: S) H Q := W.ifnonnullR at_45 (by decide) (by decide) h
theorem s0_48 {rm : Room} {S : List Value} {H : AHeap} {Q : Option Value → AHeap → Prop} {l0 l1 l2 l3 l4 l5 l6 l7 l8 l9 l10 : Slot}  (h : W0 rm 49 [l0, l1, l2, l3, l4, l5, l6, l7, l8, l9, l10] (.int 0 :: S) (H) Q) : W0 rm 48 [l0, l1, l2, l3, l4, l5, l6, l7, l8, l9, l10] (S) H Q := W.iconst' at_48 (by decide) h
theorem s0_49 {rm : Room} {S : List Value} {H : AHeap} {Q : Option Value → AHeap → Prop} {l0 l1 l2 l3 l4 l5 l6 l7 l8 l9 l10 : Slot} {x : Int32} (hQ : Q (some (.int (x &&& 1))) H) : W0 rm 49 [l0, l1, l2, l3, l4, l5, l6, l7, l8, l9, l10] (.int x :: S) H Q := W.ireturnZ at_49 rfl hQ
theorem s0_50 {rm : Room} {S : List Value} {H : AHeap} {Q : Option Value → AHeap → Prop} {l0 l1 l2 l3 l4 l5 l7 l8 l9 l10 : Slot} {i : Nat} (h : W0 rm 52 [l0, l1, l2, l3, l4, l5, .val (.ref i), l7, l8, l9, l10] (.ref i :: S) (H) Q) : W0 rm 50 [l0, l1, l2, l3, l4, l5, .val (.ref i), l7, l8, l9, l10] (S) H Q := W.aload at_50 rfl rfl h
theorem s0_50n {rm : Room} {S : List Value} {H : AHeap} {Q : Option Value → AHeap → Prop} {l0 l1 l2 l3 l4 l5 l7 l8 l9 l10 : Slot}  (h : W0 rm 52 [l0, l1, l2, l3, l4, l5, .val .null, l7, l8, l9, l10] (.null :: S) (H) Q) : W0 rm 50 [l0, l1, l2, l3, l4, l5, .val .null, l7, l8, l9, l10] (S) H Q := W.aload at_50 rfl rfl h
theorem s0_52 {rm : Room} {S : List Value} {H : AHeap} {Q : Option Value → AHeap → Prop} {l0 l1 l2 l3 l4 l5 l6 l7 l8 l9 l10 : Slot} {i : Nat} {ty : FieldType} {vs : List Value} (hH : H[i]? = some (.inr (ty, vs))) (h : W0 rm 53 [l0, l1, l2, l3, l4, l5, l6, l7, l8, l9, l10] (.int (Int32.ofNat vs.length) :: S) (H) Q) : W0 rm 52 [l0, l1, l2, l3, l4, l5, l6, l7, l8, l9, l10] (.ref i :: S) H Q := W.arraylength at_52 hH h
theorem s0_52k {rm : Room} {S : List Value} {H : AHeap} {Q : Option Value → AHeap → Prop} {l0 l1 l2 l3 l4 l5 l6 l7 l8 l9 l10 : Slot} {i : Nat} {ty : FieldType} {vs : List Value} (n : Int32) (hH : H[i]? = some (.inr (ty, vs))) (hn : Int32.ofNat vs.length = n) (h : W0 rm 53 [l0, l1, l2, l3, l4, l5, l6, l7, l8, l9, l10] (.int n :: S) (H) Q) : W0 rm 52 [l0, l1, l2, l3, l4, l5, l6, l7, l8, l9, l10] (.ref i :: S) H Q := W.arraylength at_52 hH (by rw [hn]; exact h)
theorem s0_53 {rm : Room} {S : List Value} {H : AHeap} {Q : Option Value → AHeap → Prop} {l0 l1 l2 l3 l4 l5 l6 l7 l8 l9 l10 : Slot}  (h : W0 rm 55 [l0, l1, l2, l3, l4, l5, l6, l7, l8, l9, l10] (.int 8 :: S) (H) Q) : W0 rm 53 [l0, l1, l2, l3, l4, l5, l6, l7, l8, l9, l10] (S) H Q := W.bipush' at_53 (by decide) h
theorem s0_55 {rm : Room} {S : List Value} {H : AHeap} {Q : Option Value → AHeap → Prop} {l0 l1 l2 l3 l4 l5 l6 l7 l8 l9 l10 : Slot} {x y : Int32} (h1 : ¬ x = y → W0 rm 66 [l0, l1, l2, l3, l4, l5, l6, l7, l8, l9, l10] S H Q) (h2 : x = y → W0 rm 58 [l0, l1, l2, l3, l4, l5, l6, l7, l8, l9, l10] S H Q) : W0 rm 55 [l0, l1, l2, l3, l4, l5, l6, l7, l8, l9, l10] (.int y :: .int x :: S) H Q := W.icmp at_55 (by decide) (by decide) h1 h2
theorem s0_58 {rm : Room} {S : List Value} {H : AHeap} {Q : Option Value → AHeap → Prop} {l0 l1 l2 l3 l4 l5 l6 l8 l9 l10 : Slot} {i : Nat} (h : W0 rm 60 [l0, l1, l2, l3, l4, l5, l6, .val (.ref i), l8, l9, l10] (.ref i :: S) (H) Q) : W0 rm 58 [l0, l1, l2, l3, l4, l5, l6, .val (.ref i), l8, l9, l10] (S) H Q := W.aload at_58 rfl rfl h
theorem s0_58n {rm : Room} {S : List Value} {H : AHeap} {Q : Option Value → AHeap → Prop} {l0 l1 l2 l3 l4 l5 l6 l8 l9 l10 : Slot}  (h : W0 rm 60 [l0, l1, l2, l3, l4, l5, l6, .val .null, l8, l9, l10] (.null :: S) (H) Q) : W0 rm 58 [l0, l1, l2, l3, l4, l5, l6, .val .null, l8, l9, l10] (S) H Q := W.aload at_58 rfl rfl h
theorem s0_60 {rm : Room} {S : List Value} {H : AHeap} {Q : Option Value → AHeap → Prop} {l0 l1 l2 l3 l4 l5 l6 l7 l8 l9 l10 : Slot} {i : Nat} {ty : FieldType} {vs : List Value} (hH : H[i]? = some (.inr (ty, vs))) (h : W0 rm 61 [l0, l1, l2, l3, l4, l5, l6, l7, l8, l9, l10] (.int (Int32.ofNat vs.length) :: S) (H) Q) : W0 rm 60 [l0, l1, l2, l3, l4, l5, l6, l7, l8, l9, l10] (.ref i :: S) H Q := W.arraylength at_60 hH h
theorem s0_60k {rm : Room} {S : List Value} {H : AHeap} {Q : Option Value → AHeap → Prop} {l0 l1 l2 l3 l4 l5 l6 l7 l8 l9 l10 : Slot} {i : Nat} {ty : FieldType} {vs : List Value} (n : Int32) (hH : H[i]? = some (.inr (ty, vs))) (hn : Int32.ofNat vs.length = n) (h : W0 rm 61 [l0, l1, l2, l3, l4, l5, l6, l7, l8, l9, l10] (.int n :: S) (H) Q) : W0 rm 60 [l0, l1, l2, l3, l4, l5, l6, l7, l8, l9, l10] (.ref i :: S) H Q := W.arraylength at_60 hH (by rw [hn]; exact h)
theorem s0_61 {rm : Room} {S : List Value} {H : AHeap} {Q : Option Value → AHeap → Prop} {l0 l1 l2 l3 l4 l5 l6 l7 l8 l9 l10 : Slot}  (h : W0 rm 63 [l0, l1, l2, l3, l4, l5, l6, l7, l8, l9, l10] (.int 8 :: S) (H) Q) : W0 rm 61 [l0, l1, l2, l3, l4, l5, l6, l7, l8, l9, l10] (S) H Q := W.bipush' at_61 (by decide) h
theorem s0_63 {rm : Room} {S : List Value} {H : AHeap} {Q : Option Value → AHeap → Prop} {l0 l1 l2 l3 l4 l5 l6 l7 l8 l9 l10 : Slot} {x y : Int32} (h1 : x = y → W0 rm 68 [l0, l1, l2, l3, l4, l5, l6, l7, l8, l9, l10] S H Q) (h2 : ¬ x = y → W0 rm 66 [l0, l1, l2, l3, l4, l5, l6, l7, l8, l9, l10] S H Q) : W0 rm 63 [l0, l1, l2, l3, l4, l5, l6, l7, l8, l9, l10] (.int y :: .int x :: S) H Q := W.icmp at_63 (by decide) (by decide) h1 h2
theorem s0_66 {rm : Room} {S : List Value} {H : AHeap} {Q : Option Value → AHeap → Prop} {l0 l1 l2 l3 l4 l5 l6 l7 l8 l9 l10 : Slot}  (h : W0 rm 67 [l0, l1, l2, l3, l4, l5, l6, l7, l8, l9, l10] (.int 0 :: S) (H) Q) : W0 rm 66 [l0, l1, l2, l3, l4, l5, l6, l7, l8, l9, l10] (S) H Q := W.iconst' at_66 (by decide) h
theorem s0_67 {rm : Room} {S : List Value} {H : AHeap} {Q : Option Value → AHeap → Prop} {l0 l1 l2 l3 l4 l5 l6 l7 l8 l9 l10 : Slot} {x : Int32} (hQ : Q (some (.int (x &&& 1))) H) : W0 rm 67 [l0, l1, l2, l3, l4, l5, l6, l7, l8, l9, l10] (.int x :: S) H Q := W.ireturnZ at_67 rfl hQ
theorem s0_68 {rm : Room} {S : List Value} {H : AHeap} {Q : Option Value → AHeap → Prop} {l0 l1 l2 l3 l4 l5 l7 l8 l9 l10 : Slot} {i : Nat} (h : W0 rm 70 [l0, l1, l2, l3, l4, l5, .val (.ref i), l7, l8, l9, l10] (.ref i :: S) (H) Q) : W0 rm 68 [l0, l1, l2, l3, l4, l5, .val (.ref i), l7, l8, l9, l10] (S) H Q := W.aload at_68 rfl rfl h
theorem s0_68n {rm : Room} {S : List Value} {H : AHeap} {Q : Option Value → AHeap → Prop} {l0 l1 l2 l3 l4 l5 l7 l8 l9 l10 : Slot}  (h : W0 rm 70 [l0, l1, l2, l3, l4, l5, .val .null, l7, l8, l9, l10] (.null :: S) (H) Q) : W0 rm 68 [l0, l1, l2, l3, l4, l5, .val .null, l7, l8, l9, l10] (S) H Q := W.aload at_68 rfl rfl h
theorem s0_70 {rm : Room} {S : List Value} {H : AHeap} {Q : Option Value → AHeap → Prop} {l0 l1 l2 l3 l4 l5 l6 l8 l9 l10 : Slot} {i : Nat} (h : W0 rm 72 [l0, l1, l2, l3, l4, l5, l6, .val (.ref i), l8, l9, l10] (.ref i :: S) (H) Q) : W0 rm 70 [l0, l1, l2, l3, l4, l5, l6, .val (.ref i), l8, l9, l10] (S) H Q := W.aload at_70 rfl rfl h
theorem s0_70n {rm : Room} {S : List Value} {H : AHeap} {Q : Option Value → AHeap → Prop} {l0 l1 l2 l3 l4 l5 l6 l8 l9 l10 : Slot}  (h : W0 rm 72 [l0, l1, l2, l3, l4, l5, l6, .val .null, l8, l9, l10] (.null :: S) (H) Q) : W0 rm 70 [l0, l1, l2, l3, l4, l5, l6, .val .null, l8, l9, l10] (S) H Q := W.aload at_70 rfl rfl h
-- TODO if_acmp at s0_72: .if_acmp .ne 5
theorem s0_75 {rm : Room} {S : List Value} {H : AHeap} {Q : Option Value → AHeap → Prop} {l0 l1 l2 l3 l4 l5 l6 l7 l8 l9 l10 : Slot}  (h : W0 rm 76 [l0, l1, l2, l3, l4, l5, l6, l7, l8, l9, l10] (.int 0 :: S) (H) Q) : W0 rm 75 [l0, l1, l2, l3, l4, l5, l6, l7, l8, l9, l10] (S) H Q := W.iconst' at_75 (by decide) h
theorem s0_76 {rm : Room} {S : List Value} {H : AHeap} {Q : Option Value → AHeap → Prop} {l0 l1 l2 l3 l4 l5 l6 l7 l8 l9 l10 : Slot} {x : Int32} (hQ : Q (some (.int (x &&& 1))) H) : W0 rm 76 [l0, l1, l2, l3, l4, l5, l6, l7, l8, l9, l10] (.int x :: S) H Q := W.ireturnZ at_76 rfl hQ
theorem s0_77 {rm : Room} {S : List Value} {H : AHeap} {Q : Option Value → AHeap → Prop} {l0 l1 l2 l3 l4 l5 l7 l8 l9 l10 : Slot} {i : Nat} (h : W0 rm 79 [l0, l1, l2, l3, l4, l5, .val (.ref i), l7, l8, l9, l10] (.ref i :: S) (H) Q) : W0 rm 77 [l0, l1, l2, l3, l4, l5, .val (.ref i), l7, l8, l9, l10] (S) H Q := W.aload at_77 rfl rfl h
theorem s0_77n {rm : Room} {S : List Value} {H : AHeap} {Q : Option Value → AHeap → Prop} {l0 l1 l2 l3 l4 l5 l7 l8 l9 l10 : Slot}  (h : W0 rm 79 [l0, l1, l2, l3, l4, l5, .val .null, l7, l8, l9, l10] (.null :: S) (H) Q) : W0 rm 77 [l0, l1, l2, l3, l4, l5, .val .null, l7, l8, l9, l10] (S) H Q := W.aload at_77 rfl rfl h
theorem s0_79 {rm : Room} {S : List Value} {H : AHeap} {Q : Option Value → AHeap → Prop} {l0 l1 l2 l3 l4 l5 l6 l7 l8 l9 l10 : Slot}  (h : W0 rm 80 [l0, l1, l2, l3, l4, l5, l6, l7, l8, l9, l10] (.int 0 :: S) (H) Q) : W0 rm 79 [l0, l1, l2, l3, l4, l5, l6, l7, l8, l9, l10] (S) H Q := W.iconst' at_79 (by decide) h
theorem s0_80 {rm : Room} {S : List Value} {H : AHeap} {Q : Option Value → AHeap → Prop} {l0 l1 l2 l3 l4 l5 l6 l7 l8 l9 l10 : Slot} {i : Nat} {j : Int32} {vs : List Value} {v : Value} (N : Nat) (hH : H[i]? = some (.inr (.byte, vs))) (hj : ix j N) (hv : vs[N]? = some v) (h : W0 rm 81 [l0, l1, l2, l3, l4, l5, l6, l7, l8, l9, l10] (v :: S) (H) Q) : W0 rm 80 [l0, l1, l2, l3, l4, l5, l6, l7, l8, l9, l10] (.int j :: .ref i :: S) H Q := W.xaload (Or.inr (Or.inr ⟨rfl, Or.inl rfl⟩)) at_80 hH hj hv h
theorem s0_80z {rm : Room} {S : List Value} {H : AHeap} {Q : Option Value → AHeap → Prop} {l0 l1 l2 l3 l4 l5 l6 l7 l8 l9 l10 : Slot} {i : Nat} {j : Int32} {vs : List Value} {v : Value} (N : Nat) (hH : H[i]? = some (.inr (.boolean, vs))) (hj : ix j N) (hv : vs[N]? = some v) (h : W0 rm 81 [l0, l1, l2, l3, l4, l5, l6, l7, l8, l9, l10] (v :: S) (H) Q) : W0 rm 80 [l0, l1, l2, l3, l4, l5, l6, l7, l8, l9, l10] (.int j :: .ref i :: S) H Q := W.xaload (Or.inr (Or.inr ⟨rfl, Or.inr rfl⟩)) at_80 hH hj hv h
theorem s0_81 {rm : Room} {S : List Value} {H : AHeap} {Q : Option Value → AHeap → Prop} {l0 l1 l2 l3 l4 l5 l6 l7 l8 l9 l10 : Slot} {rm' : Room} {H' : AHeap} {a0 : Int32} {r : Int32} (hM : M5 rm' [.int a0] H (Is (some (.int r)) H')) (hr : rok rm rm' 1 S = true) (h : W0 (less rm rm') 84 [l0, l1, l2, l3, l4, l5, l6, l7, l8, l9, l10] (.int r :: S) H' Q) : W0 rm 81 [l0, l1, l2, l3, l4, l5, l6, l7, l8, l9, l10] (.int a0 :: S) H Q := W.callS (S := S) (as := [.int a0]) (rm' := rm') at_81 (List.mem_of_getElem? (i := 39) rfl) (List.mem_of_getElem? (i := 40) rfl) (List.mem_of_getElem? (i := 41) rfl) (List.mem_of_getElem? (i := 42) rfl) (by decide) pd5 rfl rfl hM hr (fun _ _ q => by obtain ⟨rfl, rfl⟩ := q; exact h)
theorem s0_81q {rm : Room} {S : List Value} {H : AHeap} {Q : Option Value → AHeap → Prop} {l0 l1 l2 l3 l4 l5 l6 l7 l8 l9 l10 : Slot} {rm' : Room} {Q' : Option Value → AHeap → Prop} {a0 : Value} (hM : M5 rm' [a0] H Q') (hr : rok rm rm' 1 S = true) (h : ∀ v H', Q' v H' → W0 (less rm rm') 84 [l0, l1, l2, l3, l4, l5, l6, l7, l8, l9, l10] (v.toList ++ S) H' Q) : W0 rm 81 [l0, l1, l2, l3, l4, l5, l6, l7, l8, l9, l10] (a0 :: S) H Q := W.callS (S := S) (as := [a0]) (rm' := rm') at_81 (List.mem_of_getElem? (i := 39) rfl) (List.mem_of_getElem? (i := 40) rfl) (List.mem_of_getElem? (i := 41) rfl) (List.mem_of_getElem? (i := 42) rfl) (by decide) pd5 rfl rfl hM hr h
theorem s0_84 {rm : Room} {S : List Value} {H : AHeap} {Q : Option Value → AHeap → Prop} {l0 l1 l2 l3 l4 l5 l6 l7 l8 l9 l10 : Slot}  (h : W0 rm 86 [l0, l1, l2, l3, l4, l5, l6, l7, l8, l9, l10] (.int 8 :: S) (H) Q) : W0 rm 84 [l0, l1, l2, l3, l4, l5, l6, l7, l8, l9, l10] (S) H Q := W.bipush' at_84 (by decide) h
theorem s0_86 {rm : Room} {S : List Value} {H : AHeap} {Q : Option Value → AHeap → Prop} {l0 l1 l2 l3 l4 l5 l6 l7 l8 l9 l10 : Slot} {x y : Int32} (h : W0 rm 87 [l0, l1, l2, l3, l4, l5, l6, l7, l8, l9, l10] (.int (x <<< (y &&& 31)) :: S) (H) Q) : W0 rm 86 [l0, l1, l2, l3, l4, l5, l6, l7, l8, l9, l10] (.int y :: .int x :: S) H Q := W.ishl at_86 h
theorem s0_87 {rm : Room} {S : List Value} {H : AHeap} {Q : Option Value → AHeap → Prop} {l0 l1 l2 l3 l4 l5 l7 l8 l9 l10 : Slot} {i : Nat} (h : W0 rm 89 [l0, l1, l2, l3, l4, l5, .val (.ref i), l7, l8, l9, l10] (.ref i :: S) (H) Q) : W0 rm 87 [l0, l1, l2, l3, l4, l5, .val (.ref i), l7, l8, l9, l10] (S) H Q := W.aload at_87 rfl rfl h
theorem s0_87n {rm : Room} {S : List Value} {H : AHeap} {Q : Option Value → AHeap → Prop} {l0 l1 l2 l3 l4 l5 l7 l8 l9 l10 : Slot}  (h : W0 rm 89 [l0, l1, l2, l3, l4, l5, .val .null, l7, l8, l9, l10] (.null :: S) (H) Q) : W0 rm 87 [l0, l1, l2, l3, l4, l5, .val .null, l7, l8, l9, l10] (S) H Q := W.aload at_87 rfl rfl h
theorem s0_89 {rm : Room} {S : List Value} {H : AHeap} {Q : Option Value → AHeap → Prop} {l0 l1 l2 l3 l4 l5 l6 l7 l8 l9 l10 : Slot}  (h : W0 rm 90 [l0, l1, l2, l3, l4, l5, l6, l7, l8, l9, l10] (.int 1 :: S) (H) Q) : W0 rm 89 [l0, l1, l2, l3, l4, l5, l6, l7, l8, l9, l10] (S) H Q := W.iconst' at_89 (by decide) h
theorem s0_90 {rm : Room} {S : List Value} {H : AHeap} {Q : Option Value → AHeap → Prop} {l0 l1 l2 l3 l4 l5 l6 l7 l8 l9 l10 : Slot} {i : Nat} {j : Int32} {vs : List Value} {v : Value} (N : Nat) (hH : H[i]? = some (.inr (.byte, vs))) (hj : ix j N) (hv : vs[N]? = some v) (h : W0 rm 91 [l0, l1, l2, l3, l4, l5, l6, l7, l8, l9, l10] (v :: S) (H) Q) : W0 rm 90 [l0, l1, l2, l3, l4, l5, l6, l7, l8, l9, l10] (.int j :: .ref i :: S) H Q := W.xaload (Or.inr (Or.inr ⟨rfl, Or.inl rfl⟩)) at_90 hH hj hv h
theorem s0_90z {rm : Room} {S : List Value} {H : AHeap} {Q : Option Value → AHeap → Prop} {l0 l1 l2 l3 l4 l5 l6 l7 l8 l9 l10 : Slot} {i : Nat} {j : Int32} {vs : List Value} {v : Value} (N : Nat) (hH : H[i]? = some (.inr (.boolean, vs))) (hj : ix j N) (hv : vs[N]? = some v) (h : W0 rm 91 [l0, l1, l2, l3, l4, l5, l6, l7, l8, l9, l10] (v :: S) (H) Q) : W0 rm 90 [l0, l1, l2, l3, l4, l5, l6, l7, l8, l9, l10] (.int j :: .ref i :: S) H Q := W.xaload (Or.inr (Or.inr ⟨rfl, Or.inr rfl⟩)) at_90 hH hj hv h
theorem s0_91 {rm : Room} {S : List Value} {H : AHeap} {Q : Option Value → AHeap → Prop} {l0 l1 l2 l3 l4 l5 l6 l7 l8 l9 l10 : Slot} {rm' : Room} {H' : AHeap} {a0 : Int32} {r : Int32} (hM : M5 rm' [.int a0] H (Is (some (.int r)) H')) (hr : rok rm rm' 1 S = true) (h : W0 (less rm rm') 94 [l0, l1, l2, l3, l4, l5, l6, l7, l8, l9, l10] (.int r :: S) H' Q) : W0 rm 91 [l0, l1, l2, l3, l4, l5, l6, l7, l8, l9, l10] (.int a0 :: S) H Q := W.callS (S := S) (as := [.int a0]) (rm' := rm') at_91 (List.mem_of_getElem? (i := 39) rfl) (List.mem_of_getElem? (i := 40) rfl) (List.mem_of_getElem? (i := 41) rfl) (List.mem_of_getElem? (i := 42) rfl) (by decide) pd5 rfl rfl hM hr (fun _ _ q => by obtain ⟨rfl, rfl⟩ := q; exact h)
theorem s0_91q {rm : Room} {S : List Value} {H : AHeap} {Q : Option Value → AHeap → Prop} {l0 l1 l2 l3 l4 l5 l6 l7 l8 l9 l10 : Slot} {rm' : Room} {Q' : Option Value → AHeap → Prop} {a0 : Value} (hM : M5 rm' [a0] H Q') (hr : rok rm rm' 1 S = true) (h : ∀ v H', Q' v H' → W0 (less rm rm') 94 [l0, l1, l2, l3, l4, l5, l6, l7, l8, l9, l10] (v.toList ++ S) H' Q) : W0 rm 91 [l0, l1, l2, l3, l4, l5, l6, l7, l8, l9, l10] (a0 :: S) H Q := W.callS (S := S) (as := [a0]) (rm' := rm') at_91 (List.mem_of_getElem? (i := 39) rfl) (List.mem_of_getElem? (i := 40) rfl) (List.mem_of_getElem? (i := 41) rfl) (List.mem_of_getElem? (i := 42) rfl) (by decide) pd5 rfl rfl hM hr h
theorem s0_94 {rm : Room} {S : List Value} {H : AHeap} {Q : Option Value → AHeap → Prop} {l0 l1 l2 l3 l4 l5 l6 l7 l8 l9 l10 : Slot} {x y : Int32} (h : W0 rm 95 [l0, l1, l2, l3, l4, l5, l6, l7, l8, l9, l10] (.int (x ||| y) :: S) (H) Q) : W0 rm 94 [l0, l1, l2, l3, l4, l5, l6, l7, l8, l9, l10] (.int y :: .int x :: S) H Q := W.ior at_94 h
theorem s0_95 {rm : Room} {S : List Value} {H : AHeap} {Q : Option Value → AHeap → Prop} {l0 l1 l2 l3 l4 l5 l6 l7 l8 l9 l10 : Slot} {x : Int32} (ho : one l8 = true) (h : W0 rm 97 [l0, l1, l2, l3, l4, l5, l6, l7, .val (.int x), l9, l10] (S) (H) Q) : W0 rm 95 [l0, l1, l2, l3, l4, l5, l6, l7, l8, l9, l10] (.int x :: S) H Q := W.istore at_95 rfl ho h
theorem s0_95w {rm : Room} {S : List Value} {H : AHeap} {Q : Option Value → AHeap → Prop} {l0 l1 l2 l3 l4 l5 l6 l7 l9 l10 : Slot} {w : Value} {x : Int32} (ho : w.category = 2) (h : W0 rm 97 [l0, l1, l2, l3, l4, l5, l6, l7, .val (.int x), .unset, l10] (S) (H) Q) : W0 rm 95 [l0, l1, l2, l3, l4, l5, l6, l7, .val w, l9, l10] (.int x :: S) H Q := W.istoreW at_95 rfl ho (Nat.le_of_ble_eq_true rfl) h
theorem s0_95s {rm : Room} {S : List Value} {H : AHeap} {Q : Option Value → AHeap → Prop} {l0 l1 l2 l3 l4 l5 l6 l7 l9 l10 : Slot} {x : Int32} (h : W0 rm 97 [l0, l1, l2, l3, l4, l5, l6, .unset, .val (.int x), l9, l10] (S) (H) Q) : W0 rm 95 [l0, l1, l2, l3, l4, l5, l6, l7, .second, l9, l10] (.int x :: S) H Q := W.istoreS at_95 rfl (by decide) h
theorem s0_97 {rm : Room} {S : List Value} {H : AHeap} {Q : Option Value → AHeap → Prop} {l0 l1 l2 l3 l4 l5 l7 l8 l9 l10 : Slot} {i : Nat} (h : W0 rm 99 [l0, l1, l2, l3, l4, l5, .val (.ref i), l7, l8, l9, l10] (.ref i :: S) (H) Q) : W0 rm 97 [l0, l1, l2, l3, l4, l5, .val (.ref i), l7, l8, l9, l10] (S) H Q := W.aload at_97 rfl rfl h
theorem s0_97n {rm : Room} {S : List Value} {H : AHeap} {Q : Option Value → AHeap → Prop} {l0 l1 l2 l3 l4 l5 l7 l8 l9 l10 : Slot}  (h : W0 rm 99 [l0, l1, l2, l3, l4, l5, .val .null, l7, l8, l9, l10] (.null :: S) (H) Q) : W0 rm 97 [l0, l1, l2, l3, l4, l5, .val .null, l7, l8, l9, l10] (S) H Q := W.aload at_97 rfl rfl h
theorem s0_99 {rm : Room} {S : List Value} {H : AHeap} {Q : Option Value → AHeap → Prop} {l0 l1 l2 l3 l4 l5 l6 l7 l8 l9 l10 : Slot}  (h : W0 rm 100 [l0, l1, l2, l3, l4, l5, l6, l7, l8, l9, l10] (.int 2 :: S) (H) Q) : W0 rm 99 [l0, l1, l2, l3, l4, l5, l6, l7, l8, l9, l10] (S) H Q := W.iconst' at_99 (by decide) h
theorem s0_100 {rm : Room} {S : List Value} {H : AHeap} {Q : Option Value → AHeap → Prop} {l0 l1 l2 l3 l4 l5 l6 l7 l8 l9 l10 : Slot} {i : Nat} {j : Int32} {vs : List Value} {v : Value} (N : Nat) (hH : H[i]? = some (.inr (.byte, vs))) (hj : ix j N) (hv : vs[N]? = some v) (h : W0 rm 101 [l0, l1, l2, l3, l4, l5, l6, l7, l8, l9, l10] (v :: S) (H) Q) : W0 rm 100 [l0, l1, l2, l3, l4, l5, l6, l7, l8, l9, l10] (.int j :: .ref i :: S) H Q := W.xaload (Or.inr (Or.inr ⟨rfl, Or.inl rfl⟩)) at_100 hH hj hv h
theorem s0_100z {rm : Room} {S : List Value} {H : AHeap} {Q : Option Value → AHeap → Prop} {l0 l1 l2 l3 l4 l5 l6 l7 l8 l9 l10 : Slot} {i : Nat} {j : Int32} {vs : List Value} {v : Value} (N : Nat) (hH : H[i]? = some (.inr (.boolean, vs))) (hj : ix j N) (hv : vs[N]? = some v) (h : W0 rm 101 [l0, l1, l2, l3, l4, l5, l6, l7, l8, l9, l10] (v :: S) (H) Q) : W0 rm 100 [l0, l1, l2, l3, l4, l5, l6, l7, l8, l9, l10] (.int j :: .ref i :: S) H Q := W.xaload (Or.inr (Or.inr ⟨rfl, Or.inr rfl⟩)) at_100 hH hj hv h
theorem s0_101 {rm : Room} {S : List Value} {H : AHeap} {Q : Option Value → AHeap → Prop} {l0 l1 l2 l3 l4 l5 l6 l7 l8 l9 l10 : Slot} {rm' : Room} {H' : AHeap} {a0 : Int32} {r : Int32} (hM : M5 rm' [.int a0] H (Is (some (.int r)) H')) (hr : rok rm rm' 1 S = true) (h : W0 (less rm rm') 104 [l0, l1, l2, l3, l4, l5, l6, l7, l8, l9, l10] (.int r :: S) H' Q) : W0 rm 101 [l0, l1, l2, l3, l4, l5, l6, l7, l8, l9, l10] (.int a0 :: S) H Q := W.callS (S := S) (as := [.int a0]) (rm' := rm') at_101 (List.mem_of_getElem? (i := 39) rfl) (List.mem_of_getElem? (i := 40) rfl) (List.mem_of_getElem? (i := 41) rfl) (List.mem_of_getElem? (i := 42) rfl) (by decide) pd5 rfl rfl hM hr (fun _ _ q => by obtain ⟨rfl, rfl⟩ := q; exact h)
theorem s0_101q {rm : Room} {S : List Value} {H : AHeap} {Q : Option Value → AHeap → Prop} {l0 l1 l2 l3 l4 l5 l6 l7 l8 l9 l10 : Slot} {rm' : Room} {Q' : Option Value → AHeap → Prop} {a0 : Value} (hM : M5 rm' [a0] H Q') (hr : rok rm rm' 1 S = true) (h : ∀ v H', Q' v H' → W0 (less rm rm') 104 [l0, l1, l2, l3, l4, l5, l6, l7, l8, l9, l10] (v.toList ++ S) H' Q) : W0 rm 101 [l0, l1, l2, l3, l4, l5, l6, l7, l8, l9, l10] (a0 :: S) H Q := W.callS (S := S) (as := [a0]) (rm' := rm') at_101 (List.mem_of_getElem? (i := 39) rfl) (List.mem_of_getElem? (i := 40) rfl) (List.mem_of_getElem? (i := 41) rfl) (List.mem_of_getElem? (i := 42) rfl) (by decide) pd5 rfl rfl hM hr h
theorem s0_104 {rm : Room} {S : List Value} {H : AHeap} {Q : Option Value → AHeap → Prop} {l0 l1 l2 l3 l4 l5 l6 l7 l8 l9 l10 : Slot}  (h : W0 rm 106 [l0, l1, l2, l3, l4, l5, l6, l7, l8, l9, l10] (.int 24 :: S) (H) Q) : W0 rm 104 [l0, l1, l2, l3, l4, l5, l6, l7, l8, l9, l10] (S) H Q := W.bipush' at_104 (by decide) h
theorem s0_106 {rm : Room} {S : List Value} {H : AHeap} {Q : Option Value → AHeap → Prop} {l0 l1 l2 l3 l4 l5 l6 l7 l8 l9 l10 : Slot} {x y : Int32} (h : W0 rm 107 [l0, l1, l2, l3, l4, l5, l6, l7, l8, l9, l10] (.int (x <<< (y &&& 31)) :: S) (H) Q) : W0 rm 106 [l0, l1, l2, l3, l4, l5, l6, l7, l8, l9, l10] (.int y :: .int x :: S) H Q := W.ishl at_106 h
theorem s0_107 {rm : Room} {S : List Value} {H : AHeap} {Q : Option Value → AHeap → Prop} {l0 l1 l2 l3 l4 l5 l7 l8 l9 l10 : Slot} {i : Nat} (h : W0 rm 109 [l0, l1, l2, l3, l4, l5, .val (.ref i), l7, l8, l9, l10] (.ref i :: S) (H) Q) : W0 rm 107 [l0, l1, l2, l3, l4, l5, .val (.ref i), l7, l8, l9, l10] (S) H Q := W.aload at_107 rfl rfl h
theorem s0_107n {rm : Room} {S : List Value} {H : AHeap} {Q : Option Value → AHeap → Prop} {l0 l1 l2 l3 l4 l5 l7 l8 l9 l10 : Slot}  (h : W0 rm 109 [l0, l1, l2, l3, l4, l5, .val .null, l7, l8, l9, l10] (.null :: S) (H) Q) : W0 rm 107 [l0, l1, l2, l3, l4, l5, .val .null, l7, l8, l9, l10] (S) H Q := W.aload at_107 rfl rfl h
theorem s0_109 {rm : Room} {S : List Value} {H : AHeap} {Q : Option Value → AHeap → Prop} {l0 l1 l2 l3 l4 l5 l6 l7 l8 l9 l10 : Slot}  (h : W0 rm 110 [l0, l1, l2, l3, l4, l5, l6, l7, l8, l9, l10] (.int 3 :: S) (H) Q) : W0 rm 109 [l0, l1, l2, l3, l4, l5, l6, l7, l8, l9, l10] (S) H Q := W.iconst' at_109 (by decide) h
theorem s0_110 {rm : Room} {S : List Value} {H : AHeap} {Q : Option Value → AHeap → Prop} {l0 l1 l2 l3 l4 l5 l6 l7 l8 l9 l10 : Slot} {i : Nat} {j : Int32} {vs : List Value} {v : Value} (N : Nat) (hH : H[i]? = some (.inr (.byte, vs))) (hj : ix j N) (hv : vs[N]? = some v) (h : W0 rm 111 [l0, l1, l2, l3, l4, l5, l6, l7, l8, l9, l10] (v :: S) (H) Q) : W0 rm 110 [l0, l1, l2, l3, l4, l5, l6, l7, l8, l9, l10] (.int j :: .ref i :: S) H Q := W.xaload (Or.inr (Or.inr ⟨rfl, Or.inl rfl⟩)) at_110 hH hj hv h
theorem s0_110z {rm : Room} {S : List Value} {H : AHeap} {Q : Option Value → AHeap → Prop} {l0 l1 l2 l3 l4 l5 l6 l7 l8 l9 l10 : Slot} {i : Nat} {j : Int32} {vs : List Value} {v : Value} (N : Nat) (hH : H[i]? = some (.inr (.boolean, vs))) (hj : ix j N) (hv : vs[N]? = some v) (h : W0 rm 111 [l0, l1, l2, l3, l4, l5, l6, l7, l8, l9, l10] (v :: S) (H) Q) : W0 rm 110 [l0, l1, l2, l3, l4, l5, l6, l7, l8, l9, l10] (.int j :: .ref i :: S) H Q := W.xaload (Or.inr (Or.inr ⟨rfl, Or.inr rfl⟩)) at_110 hH hj hv h
theorem s0_111 {rm : Room} {S : List Value} {H : AHeap} {Q : Option Value → AHeap → Prop} {l0 l1 l2 l3 l4 l5 l6 l7 l8 l9 l10 : Slot} {rm' : Room} {H' : AHeap} {a0 : Int32} {r : Int32} (hM : M5 rm' [.int a0] H (Is (some (.int r)) H')) (hr : rok rm rm' 1 S = true) (h : W0 (less rm rm') 114 [l0, l1, l2, l3, l4, l5, l6, l7, l8, l9, l10] (.int r :: S) H' Q) : W0 rm 111 [l0, l1, l2, l3, l4, l5, l6, l7, l8, l9, l10] (.int a0 :: S) H Q := W.callS (S := S) (as := [.int a0]) (rm' := rm') at_111 (List.mem_of_getElem? (i := 39) rfl) (List.mem_of_getElem? (i := 40) rfl) (List.mem_of_getElem? (i := 41) rfl) (List.mem_of_getElem? (i := 42) rfl) (by decide) pd5 rfl rfl hM hr (fun _ _ q => by obtain ⟨rfl, rfl⟩ := q; exact h)
theorem s0_111q {rm : Room} {S : List Value} {H : AHeap} {Q : Option Value → AHeap → Prop} {l0 l1 l2 l3 l4 l5 l6 l7 l8 l9 l10 : Slot} {rm' : Room} {Q' : Option Value → AHeap → Prop} {a0 : Value} (hM : M5 rm' [a0] H Q') (hr : rok rm rm' 1 S = true) (h : ∀ v H', Q' v H' → W0 (less rm rm') 114 [l0, l1, l2, l3, l4, l5, l6, l7, l8, l9, l10] (v.toList ++ S) H' Q) : W0 rm 111 [l0, l1, l2, l3, l4, l5, l6, l7, l8, l9, l10] (a0 :: S) H Q := W.callS (S := S) (as := [a0]) (rm' := rm') at_111 (List.mem_of_getElem? (i := 39) rfl) (List.mem_of_getElem? (i := 40) rfl) (List.mem_of_getElem? (i := 41) rfl) (List.mem_of_getElem? (i := 42) rfl) (by decide) pd5 rfl rfl hM hr h
theorem s0_114 {rm : Room} {S : List Value} {H : AHeap} {Q : Option Value → AHeap → Prop} {l0 l1 l2 l3 l4 l5 l6 l7 l8 l9 l10 : Slot}  (h : W0 rm 116 [l0, l1, l2, l3, l4, l5, l6, l7, l8, l9, l10] (.int 16 :: S) (H) Q) : W0 rm 114 [l0, l1, l2, l3, l4, l5, l6, l7, l8, l9, l10] (S) H Q := W.bipush' at_114 (by decide) h
theorem s0_116 {rm : Room} {S : List Value} {H : AHeap} {Q : Option Value → AHeap → Prop} {l0 l1 l2 l3 l4 l5 l6 l7 l8 l9 l10 : Slot} {x y : Int32} (h : W0 rm 117 [l0, l1, l2, l3, l4, l5, l6, l7, l8, l9, l10] (.int (x <<< (y &&& 31)) :: S) (H) Q) : W0 rm 116 [l0, l1, l2, l3, l4, l5, l6, l7, l8, l9, l10] (.int y :: .int x :: S) H Q := W.ishl at_116 h
theorem s0_117 {rm : Room} {S : List Value} {H : AHeap} {Q : Option Value → AHeap → Prop} {l0 l1 l2 l3 l4 l5 l6 l7 l8 l9 l10 : Slot} {x y : Int32} (h : W0 rm 118 [l0, l1, l2, l3, l4, l5, l6, l7, l8, l9, l10] (.int (x ||| y) :: S) (H) Q) : W0 rm 117 [l0, l1, l2, l3, l4, l5, l6, l7, l8, l9, l10] (.int y :: .int x :: S) H Q := W.ior at_117 h
theorem s0_118 {rm : Room} {S : List Value} {H : AHeap} {Q : Option Value → AHeap → Prop} {l0 l1 l2 l3 l4 l5 l7 l8 l9 l10 : Slot} {i : Nat} (h : W0 rm 120 [l0, l1, l2, l3, l4, l5, .val (.ref i), l7, l8, l9, l10] (.ref i :: S) (H) Q) : W0 rm 118 [l0, l1, l2, l3, l4, l5, .val (.ref i), l7, l8, l9, l10] (S) H Q := W.aload at_118 rfl rfl h
theorem s0_118n {rm : Room} {S : List Value} {H : AHeap} {Q : Option Value → AHeap → Prop} {l0 l1 l2 l3 l4 l5 l7 l8 l9 l10 : Slot}  (h : W0 rm 120 [l0, l1, l2, l3, l4, l5, .val .null, l7, l8, l9, l10] (.null :: S) (H) Q) : W0 rm 118 [l0, l1, l2, l3, l4, l5, .val .null, l7, l8, l9, l10] (S) H Q := W.aload at_118 rfl rfl h
theorem s0_120 {rm : Room} {S : List Value} {H : AHeap} {Q : Option Value → AHeap → Prop} {l0 l1 l2 l3 l4 l5 l6 l7 l8 l9 l10 : Slot}  (h : W0 rm 121 [l0, l1, l2, l3, l4, l5, l6, l7, l8, l9, l10] (.int 4 :: S) (H) Q) : W0 rm 120 [l0, l1, l2, l3, l4, l5, l6, l7, l8, l9, l10] (S) H Q := W.iconst' at_120 (by decide) h
theorem s0_121 {rm : Room} {S : List Value} {H : AHeap} {Q : Option Value → AHeap → Prop} {l0 l1 l2 l3 l4 l5 l6 l7 l8 l9 l10 : Slot} {i : Nat} {j : Int32} {vs : List Value} {v : Value} (N : Nat) (hH : H[i]? = some (.inr (.byte, vs))) (hj : ix j N) (hv : vs[N]? = some v) (h : W0 rm 122 [l0, l1, l2, l3, l4, l5, l6, l7, l8, l9, l10] (v :: S) (H) Q) : W0 rm 121 [l0, l1, l2, l3, l4, l5, l6, l7, l8, l9, l10] (.int j :: .ref i :: S) H Q := W.xaload (Or.inr (Or.inr ⟨rfl, Or.inl rfl⟩)) at_121 hH hj hv h
theorem s0_121z {rm : Room} {S : List Value} {H : AHeap} {Q : Option Value → AHeap → Prop} {l0 l1 l2 l3 l4 l5 l6 l7 l8 l9 l10 : Slot} {i : Nat} {j : Int32} {vs : List Value} {v : Value} (N : Nat) (hH : H[i]? = some (.inr (.boolean, vs))) (hj : ix j N) (hv : vs[N]? = some v) (h : W0 rm 122 [l0, l1, l2, l3, l4, l5, l6, l7, l8, l9, l10] (v :: S) (H) Q) : W0 rm 121 [l0, l1, l2, l3, l4, l5, l6, l7, l8, l9, l10] (.int j :: .ref i :: S) H Q := W.xaload (Or.inr (Or.inr ⟨rfl, Or.inr rfl⟩)) at_121 hH hj hv h
theorem s0_122 {rm : Room} {S : List Value} {H : AHeap} {Q : Option Value → AHeap → Prop} {l0 l1 l2 l3 l4 l5 l6 l7 l8 l9 l10 : Slot} {rm' : Room} {H' : AHeap} {a0 : Int32} {r : Int32} (hM : M5 rm' [.int a0] H (Is (some (.int r)) H')) (hr : rok rm rm' 1 S = true) (h : W0 (less rm rm') 125 [l0, l1, l2, l3, l4, l5, l6, l7, l8, l9, l10] (.int r :: S) H' Q) : W0 rm 122 [l0, l1, l2, l3, l4, l5, l6, l7, l8, l9, l10] (.int a0 :: S) H Q := W.callS (S := S) (as := [.int a0]) (rm' := rm') at_122 (List.mem_of_getElem? (i := 39) rfl) (List.mem_of_getElem? (i := 40) rfl) (List.mem_of_getElem? (i := 41) rfl) (List.mem_of_getElem? (i := 42) rfl) (by decide) pd5 rfl rfl hM hr (fun _ _ q => by obtain ⟨rfl, rfl⟩ := q; exact h)
theorem s0_122q {rm : Room} {S : List Value} {H : AHeap} {Q : Option Value → AHeap → Prop} {l0 l1 l2 l3 l4 l5 l6 l7 l8 l9 l10 : Slot} {rm' : Room} {Q' : Option Value → AHeap → Prop} {a0 : Value} (hM : M5 rm' [a0] H Q') (hr : rok rm rm' 1 S = true) (h : ∀ v H', Q' v H' → W0 (less rm rm') 125 [l0, l1, l2, l3, l4, l5, l6, l7, l8, l9, l10] (v.toList ++ S) H' Q) : W0 rm 122 [l0, l1, l2, l3, l4, l5, l6, l7, l8, l9, l10] (a0 :: S) H Q := W.callS (S := S) (as := [a0]) (rm' := rm') at_122 (List.mem_of_getElem? (i := 39) rfl) (List.mem_of_getElem? (i := 40) rfl) (List.mem_of_getElem? (i := 41) rfl) (List.mem_of_getElem? (i := 42) rfl) (by decide) pd5 rfl rfl hM hr h
theorem s0_125 {rm : Room} {S : List Value} {H : AHeap} {Q : Option Value → AHeap → Prop} {l0 l1 l2 l3 l4 l5 l6 l7 l8 l9 l10 : Slot}  (h : W0 rm 127 [l0, l1, l2, l3, l4, l5, l6, l7, l8, l9, l10] (.int 8 :: S) (H) Q) : W0 rm 125 [l0, l1, l2, l3, l4, l5, l6, l7, l8, l9, l10] (S) H Q := W.bipush' at_125 (by decide) h
theorem s0_127 {rm : Room} {S : List Value} {H : AHeap} {Q : Option Value → AHeap → Prop} {l0 l1 l2 l3 l4 l5 l6 l7 l8 l9 l10 : Slot} {x y : Int32} (h : W0 rm 128 [l0, l1, l2, l3, l4, l5, l6, l7, l8, l9, l10] (.int (x <<< (y &&& 31)) :: S) (H) Q) : W0 rm 127 [l0, l1, l2, l3, l4, l5, l6, l7, l8, l9, l10] (.int y :: .int x :: S) H Q := W.ishl at_127 h
theorem s0_128 {rm : Room} {S : List Value} {H : AHeap} {Q : Option Value → AHeap → Prop} {l0 l1 l2 l3 l4 l5 l6 l7 l8 l9 l10 : Slot} {x y : Int32} (h : W0 rm 129 [l0, l1, l2, l3, l4, l5, l6, l7, l8, l9, l10] (.int (x ||| y) :: S) (H) Q) : W0 rm 128 [l0, l1, l2, l3, l4, l5, l6, l7, l8, l9, l10] (.int y :: .int x :: S) H Q := W.ior at_128 h
theorem s0_129 {rm : Room} {S : List Value} {H : AHeap} {Q : Option Value → AHeap → Prop} {l0 l1 l2 l3 l4 l5 l7 l8 l9 l10 : Slot} {i : Nat} (h : W0 rm 131 [l0, l1, l2, l3, l4, l5, .val (.ref i), l7, l8, l9, l10] (.ref i :: S) (H) Q) : W0 rm 129 [l0, l1, l2, l3, l4, l5, .val (.ref i), l7, l8, l9, l10] (S) H Q := W.aload at_129 rfl rfl h
theorem s0_129n {rm : Room} {S : List Value} {H : AHeap} {Q : Option Value → AHeap → Prop} {l0 l1 l2 l3 l4 l5 l7 l8 l9 l10 : Slot}  (h : W0 rm 131 [l0, l1, l2, l3, l4, l5, .val .null, l7, l8, l9, l10] (.null :: S) (H) Q) : W0 rm 129 [l0, l1, l2, l3, l4, l5, .val .null, l7, l8, l9, l10] (S) H Q := W.aload at_129 rfl rfl h
theorem s0_131 {rm : Room} {S : List Value} {H : AHeap} {Q : Option Value → AHeap → Prop} {l0 l1 l2 l3 l4 l5 l6 l7 l8 l9 l10 : Slot}  (h : W0 rm 132 [l0, l1, l2, l3, l4, l5, l6, l7, l8, l9, l10] (.int 5 :: S) (H) Q) : W0 rm 131 [l0, l1, l2, l3, l4, l5, l6, l7, l8, l9, l10] (S) H Q := W.iconst' at_131 (by decide) h
theorem s0_132 {rm : Room} {S : List Value} {H : AHeap} {Q : Option Value → AHeap → Prop} {l0 l1 l2 l3 l4 l5 l6 l7 l8 l9 l10 : Slot} {i : Nat} {j : Int32} {vs : List Value} {v : Value} (N : Nat) (hH : H[i]? = some (.inr (.byte, vs))) (hj : ix j N) (hv : vs[N]? = some v) (h : W0 rm 133 [l0, l1, l2, l3, l4, l5, l6, l7, l8, l9, l10] (v :: S) (H) Q) : W0 rm 132 [l0, l1, l2, l3, l4, l5, l6, l7, l8, l9, l10] (.int j :: .ref i :: S) H Q := W.xaload (Or.inr (Or.inr ⟨rfl, Or.inl rfl⟩)) at_132 hH hj hv h
theorem s0_132z {rm : Room} {S : List Value} {H : AHeap} {Q : Option Value → AHeap → Prop} {l0 l1 l2 l3 l4 l5 l6 l7 l8 l9 l10 : Slot} {i : Nat} {j : Int32} {vs : List Value} {v : Value} (N : Nat) (hH : H[i]? = some (.inr (.boolean, vs))) (hj : ix j N) (hv : vs[N]? = some v) (h : W0 rm 133 [l0, l1, l2, l3, l4, l5, l6, l7, l8, l9, l10] (v :: S) (H) Q) : W0 rm 132 [l0, l1, l2, l3, l4, l5, l6, l7, l8, l9, l10] (.int j :: .ref i :: S) H Q := W.xaload (Or.inr (Or.inr ⟨rfl, Or.inr rfl⟩)) at_132 hH hj hv h
theorem s0_133 {rm : Room} {S : List Value} {H : AHeap} {Q : Option Value → AHeap → Prop} {l0 l1 l2 l3 l4 l5 l6 l7 l8 l9 l10 : Slot} {rm' : Room} {H' : AHeap} {a0 : Int32} {r : Int32} (hM : M5 rm' [.int a0] H (Is (some (.int r)) H')) (hr : rok rm rm' 1 S = true) (h : W0 (less rm rm') 136 [l0, l1, l2, l3, l4, l5, l6, l7, l8, l9, l10] (.int r :: S) H' Q) : W0 rm 133 [l0, l1, l2, l3, l4, l5, l6, l7, l8, l9, l10] (.int a0 :: S) H Q := W.callS (S := S) (as := [.int a0]) (rm' := rm') at_133 (List.mem_of_getElem? (i := 39) rfl) (List.mem_of_getElem? (i := 40) rfl) (List.mem_of_getElem? (i := 41) rfl) (List.mem_of_getElem? (i := 42) rfl) (by decide) pd5 rfl rfl hM hr (fun _ _ q => by obtain ⟨rfl, rfl⟩ := q; exact h)
theorem s0_133q {rm : Room} {S : List Value} {H : AHeap} {Q : Option Value → AHeap → Prop} {l0 l1 l2 l3 l4 l5 l6 l7 l8 l9 l10 : Slot} {rm' : Room} {Q' : Option Value → AHeap → Prop} {a0 : Value} (hM : M5 rm' [a0] H Q') (hr : rok rm rm' 1 S = true) (h : ∀ v H', Q' v H' → W0 (less rm rm') 136 [l0, l1, l2, l3, l4, l5, l6, l7, l8, l9, l10] (v.toList ++ S) H' Q) : W0 rm 133 [l0, l1, l2, l3, l4, l5, l6, l7, l8, l9, l10] (a0 :: S) H Q := W.callS (S := S) (as := [a0]) (rm' := rm') at_133 (List.mem_of_getElem? (i := 39) rfl) (List.mem_of_getElem? (i := 40) rfl) (List.mem_of_getElem? (i := 41) rfl) (List.mem_of_getElem? (i := 42) rfl) (by decide) pd5 rfl rfl hM hr h
theorem s0_136 {rm : Room} {S : List Value} {H : AHeap} {Q : Option Value → AHeap → Prop} {l0 l1 l2 l3 l4 l5 l6 l7 l8 l9 l10 : Slot} {x y : Int32} (h : W0 rm 137 [l0, l1, l2, l3, l4, l5, l6, l7, l8, l9, l10] (.int (x ||| y) :: S) (H) Q) : W0 rm 136 [l0, l1, l2, l3, l4, l5, l6, l7, l8, l9, l10] (.int y :: .int x :: S) H Q := W.ior at_136 h
theorem s0_137 {rm : Room} {S : List Value} {H : AHeap} {Q : Option Value → AHeap → Prop} {l0 l1 l2 l3 l4 l5 l6 l7 l8 l9 l10 : Slot} {x : Int32} (ho : one l9 = true) (h : W0 rm 139 [l0, l1, l2, l3, l4, l5, l6, l7, l8, .val (.int x), l10] (S) (H) Q) : W0 rm 137 [l0, l1, l2, l3, l4, l5, l6, l7, l8, l9, l10] (.int x :: S) H Q := W.istore at_137 rfl ho h
theorem s0_137w {rm : Room} {S : List Value} {H : AHeap} {Q : Option Value → AHeap → Prop} {l0 l1 l2 l3 l4 l5 l6 l7 l8 l10 : Slot} {w : Value} {x : Int32} (ho : w.category = 2) (h : W0 rm 139 [l0, l1, l2, l3, l4, l5, l6, l7, l8, .val (.int x), .unset] (S) (H) Q) : W0 rm 137 [l0, l1, l2, l3, l4, l5, l6, l7, l8, .val w, l10] (.int x :: S) H Q := W.istoreW at_137 rfl ho (Nat.le_of_ble_eq_true rfl) h
theorem s0_137s {rm : Room} {S : List Value} {H : AHeap} {Q : Option Value → AHeap → Prop} {l0 l1 l2 l3 l4 l5 l6 l7 l8 l10 : Slot} {x : Int32} (h : W0 rm 139 [l0, l1, l2, l3, l4, l5, l6, l7, .unset, .val (.int x), l10] (S) (H) Q) : W0 rm 137 [l0, l1, l2, l3, l4, l5, l6, l7, l8, .second, l10] (.int x :: S) H Q := W.istoreS at_137 rfl (by decide) h
theorem s0_139 {rm : Room} {S : List Value} {H : AHeap} {Q : Option Value → AHeap → Prop} {l0 l1 l2 l3 l4 l5 l7 l8 l9 l10 : Slot} {i : Nat} (h : W0 rm 141 [l0, l1, l2, l3, l4, l5, .val (.ref i), l7, l8, l9, l10] (.ref i :: S) (H) Q) : W0 rm 139 [l0, l1, l2, l3, l4, l5, .val (.ref i), l7, l8, l9, l10] (S) H Q := W.aload at_139 rfl rfl h
theorem s0_139n {rm : Room} {S : List Value} {H : AHeap} {Q : Option Value → AHeap → Prop} {l0 l1 l2 l3 l4 l5 l7 l8 l9 l10 : Slot}  (h : W0 rm 141 [l0, l1, l2, l3, l4, l5, .val .null, l7, l8, l9, l10] (.null :: S) (H) Q) : W0 rm 139 [l0, l1, l2, l3, l4, l5, .val .null, l7, l8, l9, l10] (S) H Q := W.aload at_139 rfl rfl h
theorem s0_141 {rm : Room} {S : List Value} {H : AHeap} {Q : Option Value → AHeap → Prop} {l0 l1 l2 l3 l4 l5 l6 l7 l8 l9 l10 : Slot}  (h : W0 rm 143 [l0, l1, l2, l3, l4, l5, l6, l7, l8, l9, l10] (.int 6 :: S) (H) Q) : W0 rm 141 [l0, l1, l2, l3, l4, l5, l6, l7, l8, l9, l10] (S) H Q := W.bipush' at_141 (by decide) h
theorem s0_143 {rm : Room} {S : List Value} {H : AHeap} {Q : Option Value → AHeap → Prop} {l0 l1 l2 l3 l4 l5 l6 l7 l8 l9 l10 : Slot} {i : Nat} {j : Int32} {vs : List Value} {v : Value} (N : Nat) (hH : H[i]? = some (.inr (.byte, vs))) (hj : ix j N) (hv : vs[N]? = some v) (h : W0 rm 144 [l0, l1, l2, l3, l4, l5, l6, l7, l8, l9, l10] (v :: S) (H) Q) : W0 rm 143 [l0, l1, l2, l3, l4, l5, l6, l7, l8, l9, l10] (.int j :: .ref i :: S) H Q := W.xaload (Or.inr (Or.inr ⟨rfl, Or.inl rfl⟩)) at_143 hH hj hv h
theorem s0_143z {rm : Room} {S : List Value} {H : AHeap} {Q : Option Value → AHeap → Prop} {l0 l1 l2 l3 l4 l5 l6 l7 l8 l9 l10 : Slot} {i : Nat} {j : Int32} {vs : List Value} {v : Value} (N : Nat) (hH : H[i]? = some (.inr (.boolean, vs))) (hj : ix j N) (hv : vs[N]? = some v) (h : W0 rm 144 [l0, l1, l2, l3, l4, l5, l6, l7, l8, l9, l10] (v :: S) (H) Q) : W0 rm 143 [l0, l1, l2, l3, l4, l5, l6, l7, l8, l9, l10] (.int j :: .ref i :: S) H Q := W.xaload (Or.inr (Or.inr ⟨rfl, Or.inr rfl⟩)) at_143 hH hj hv h
theorem s0_144 {rm : Room} {S : List Value} {H : AHeap} {Q : Option Value → AHeap → Prop} {l0 l1 l2 l3 l4 l5 l6 l7 l8 l9 l10 : Slot} {rm' : Room} {H' : AHeap} {a0 : Int32} {r : Int32} (hM : M5 rm' [.int a0] H (Is (some (.int r)) H')) (hr : rok rm rm' 1 S = true) (h : W0 (less rm rm') 147 [l0, l1, l2, l3, l4, l5, l6, l7, l8, l9, l10] (.int r :: S) H' Q) : W0 rm 144 [l0, l1, l2, l3, l4, l5, l6, l7, l8, l9, l10] (.int a0 :: S) H Q := W.callS (S := S) (as := [.int a0]) (rm' := rm') at_144 (List.mem_of_getElem? (i := 39) rfl) (List.mem_of_getElem? (i := 40) rfl) (List.mem_of_getElem? (i := 41) rfl) (List.mem_of_getElem? (i := 42) rfl) (by decide) pd5 rfl rfl hM hr (fun _ _ q => by obtain ⟨rfl, rfl⟩ := q; exact h)
theorem s0_144q {rm : Room} {S : List Value} {H : AHeap} {Q : Option Value → AHeap → Prop} {l0 l1 l2 l3 l4 l5 l6 l7 l8 l9 l10 : Slot} {rm' : Room} {Q' : Option Value → AHeap → Prop} {a0 : Value} (hM : M5 rm' [a0] H Q') (hr : rok rm rm' 1 S = true) (h : ∀ v H', Q' v H' → W0 (less rm rm') 147 [l0, l1, l2, l3, l4, l5, l6, l7, l8, l9, l10] (v.toList ++ S) H' Q) : W0 rm 144 [l0, l1, l2, l3, l4, l5, l6, l7, l8, l9, l10] (a0 :: S) H Q := W.callS (S := S) (as := [a0]) (rm' := rm') at_144 (List.mem_of_getElem? (i := 39) rfl) (List.mem_of_getElem? (i := 40) rfl) (List.mem_of_getElem? (i := 41) rfl) (List.mem_of_getElem? (i := 42) rfl) (by decide) pd5 rfl rfl hM hr h
theorem s0_147 {rm : Room} {S : List Value} {H : AHeap} {Q : Option Value → AHeap → Prop} {l0 l1 l2 l3 l4 l5 l6 l7 l8 l9 l10 : Slot}  (h : W0 rm 149 [l0, l1, l2, l3, l4, l5, l6, l7, l8, l9, l10] (.int 8 :: S) (H) Q) : W0 rm 147 [l0, l1, l2, l3, l4, l5, l6, l7, l8, l9, l10] (S) H Q := W.bipush' at_147 (by decide) h
theorem s0_149 {rm : Room} {S : List Value} {H : AHeap} {Q : Option Value → AHeap → Prop} {l0 l1 l2 l3 l4 l5 l6 l7 l8 l9 l10 : Slot} {x y : Int32} (h : W0 rm 150 [l0, l1, l2, l3, l4, l5, l6, l7, l8, l9, l10] (.int (x <<< (y &&& 31)) :: S) (H) Q) : W0 rm 149 [l0, l1, l2, l3, l4, l5, l6, l7, l8, l9, l10] (.int y :: .int x :: S) H Q := W.ishl at_149 h
theorem s0_150 {rm : Room} {S : List Value} {H : AHeap} {Q : Option Value → AHeap → Prop} {l0 l1 l2 l3 l4 l5 l7 l8 l9 l10 : Slot} {i : Nat} (h : W0 rm 152 [l0, l1, l2, l3, l4, l5, .val (.ref i), l7, l8, l9, l10] (.ref i :: S) (H) Q) : W0 rm 150 [l0, l1, l2, l3, l4, l5, .val (.ref i), l7, l8, l9, l10] (S) H Q := W.aload at_150 rfl rfl h
theorem s0_150n {rm : Room} {S : List Value} {H : AHeap} {Q : Option Value → AHeap → Prop} {l0 l1 l2 l3 l4 l5 l7 l8 l9 l10 : Slot}  (h : W0 rm 152 [l0, l1, l2, l3, l4, l5, .val .null, l7, l8, l9, l10] (.null :: S) (H) Q) : W0 rm 150 [l0, l1, l2, l3, l4, l5, .val .null, l7, l8, l9, l10] (S) H Q := W.aload at_150 rfl rfl h
theorem s0_152 {rm : Room} {S : List Value} {H : AHeap} {Q : Option Value → AHeap → Prop} {l0 l1 l2 l3 l4 l5 l6 l7 l8 l9 l10 : Slot}  (h : W0 rm 154 [l0, l1, l2, l3, l4, l5, l6, l7, l8, l9, l10] (.int 7 :: S) (H) Q) : W0 rm 152 [l0, l1, l2, l3, l4, l5, l6, l7, l8, l9, l10] (S) H Q := W.bipush' at_152 (by decide) h
theorem s0_154 {rm : Room} {S : List Value} {H : AHeap} {Q : Option Value → AHeap → Prop} {l0 l1 l2 l3 l4 l5 l6 l7 l8 l9 l10 : Slot} {i : Nat} {j : Int32} {vs : List Value} {v : Value} (N : Nat) (hH : H[i]? = some (.inr (.byte, vs))) (hj : ix j N) (hv : vs[N]? = some v) (h : W0 rm 155 [l0, l1, l2, l3, l4, l5, l6, l7, l8, l9, l10] (v :: S) (H) Q) : W0 rm 154 [l0, l1, l2, l3, l4, l5, l6, l7, l8, l9, l10] (.int j :: .ref i :: S) H Q := W.xaload (Or.inr (Or.inr ⟨rfl, Or.inl rfl⟩)) at_154 hH hj hv h
theorem s0_154z {rm : Room} {S : List Value} {H : AHeap} {Q : Option Value → AHeap → Prop} {l0 l1 l2 l3 l4 l5 l6 l7 l8 l9 l10 : Slot} {i : Nat} {j : Int32} {vs : List Value} {v : Value} (N : Nat) (hH : H[i]? = some (.inr (.boolean, vs))) (hj : ix j N) (hv : vs[N]? = some v) (h : W0 rm 155 [l0, l1, l2, l3, l4, l5, l6, l7, l8, l9, l10] (v :: S) (H) Q) : W0 rm 154 [l0, l1, l2, l3, l4, l5, l6, l7, l8, l9, l10] (.int j :: .ref i :: S) H Q := W.xaload (Or.inr (Or.inr ⟨rfl, Or.inr rfl⟩)) at_154 hH hj hv h
theorem s0_155 {rm : Room} {S : List Value} {H : AHeap} {Q : Option Value → AHeap → Prop} {l0 l1 l2 l3 l4 l5 l6 l7 l8 l9 l10 : Slot} {rm' : Room} {H' : AHeap} {a0 : Int32} {r : Int32} (hM : M5 rm' [.int a0] H (Is (some (.int r)) H')) (hr : rok rm rm' 1 S = true) (h : W0 (less rm rm') 158 [l0, l1, l2, l3, l4, l5, l6, l7, l8, l9, l10] (.int r :: S) H' Q) : W0 rm 155 [l0, l1, l2, l3, l4, l5, l6, l7, l8, l9, l10] (.int a0 :: S) H Q := W.callS (S := S) (as := [.int a0]) (rm' := rm') at_155 (List.mem_of_getElem? (i := 39) rfl) (List.mem_of_getElem? (i := 40) rfl) (List.mem_of_getElem? (i := 41) rfl) (List.mem_of_getElem? (i := 42) rfl) (by decide) pd5 rfl rfl hM hr (fun _ _ q => by obtain ⟨rfl, rfl⟩ := q; exact h)
theorem s0_155q {rm : Room} {S : List Value} {H : AHeap} {Q : Option Value → AHeap → Prop} {l0 l1 l2 l3 l4 l5 l6 l7 l8 l9 l10 : Slot} {rm' : Room} {Q' : Option Value → AHeap → Prop} {a0 : Value} (hM : M5 rm' [a0] H Q') (hr : rok rm rm' 1 S = true) (h : ∀ v H', Q' v H' → W0 (less rm rm') 158 [l0, l1, l2, l3, l4, l5, l6, l7, l8, l9, l10] (v.toList ++ S) H' Q) : W0 rm 155 [l0, l1, l2, l3, l4, l5, l6, l7, l8, l9, l10] (a0 :: S) H Q := W.callS (S := S) (as := [a0]) (rm' := rm') at_155 (List.mem_of_getElem? (i := 39) rfl) (List.mem_of_getElem? (i := 40) rfl) (List.mem_of_getElem? (i := 41) rfl) (List.mem_of_getElem? (i := 42) rfl) (by decide) pd5 rfl rfl hM hr h
theorem s0_158 {rm : Room} {S : List Value} {H : AHeap} {Q : Option Value → AHeap → Prop} {l0 l1 l2 l3 l4 l5 l6 l7 l8 l9 l10 : Slot} {x y : Int32} (h : W0 rm 159 [l0, l1, l2, l3, l4, l5, l6, l7, l8, l9, l10] (.int (x ||| y) :: S) (H) Q) : W0 rm 158 [l0, l1, l2, l3, l4, l5, l6, l7, l8, l9, l10] (.int y :: .int x :: S) H Q := W.ior at_158 h
theorem s0_159 {rm : Room} {S : List Value} {H : AHeap} {Q : Option Value → AHeap → Prop} {l0 l1 l2 l3 l4 l5 l6 l7 l8 l9 l10 : Slot} {x : Int32} (ho : one l10 = true) (h : W0 rm 161 [l0, l1, l2, l3, l4, l5, l6, l7, l8, l9, .val (.int x)] (S) (H) Q) : W0 rm 159 [l0, l1, l2, l3, l4, l5, l6, l7, l8, l9, l10] (.int x :: S) H Q := W.istore at_159 rfl ho h
theorem s0_159s {rm : Room} {S : List Value} {H : AHeap} {Q : Option Value → AHeap → Prop} {l0 l1 l2 l3 l4 l5 l6 l7 l8 l9 : Slot} {x : Int32} (h : W0 rm 161 [l0, l1, l2, l3, l4, l5, l6, l7, l8, .unset, .val (.int x)] (S) (H) Q) : W0 rm 159 [l0, l1, l2, l3, l4, l5, l6, l7, l8, l9, .second] (.int x :: S) H Q := W.istoreS at_159 rfl (by decide) h
theorem s0_161 {rm : Room} {S : List Value} {H : AHeap} {Q : Option Value → AHeap → Prop} {l0 l1 l2 l3 l4 l5 l6 l7 l9 l10 : Slot} {x : Int32} (h : W0 rm 163 [l0, l1, l2, l3, l4, l5, l6, l7, .val (.int x), l9, l10] (.int x :: S) (H) Q) : W0 rm 161 [l0, l1, l2, l3, l4, l5, l6, l7, .val (.int x), l9, l10] (S) H Q := W.iload at_161 rfl h
theorem s0_163 {rm : Room} {S : List Value} {H : AHeap} {Q : Option Value → AHeap → Prop} {l0 l1 l2 l4 l5 l6 l7 l8 l9 l10 : Slot} {x : Int32} (h : W0 rm 164 [l0, l1, l2, .val (.int x), l4, l5, l6, l7, l8, l9, l10] (.int x :: S) (H) Q) : W0 rm 163 [l0, l1, l2, .val (.int x), l4, l5, l6, l7, l8, l9, l10] (S) H Q := W.iload_n at_163 rfl h
theorem s0_164 {rm : Room} {S : List Value} {H : AHeap} {Q : Option Value → AHeap → Prop} {l0 l1 l2 l3 l4 l5 l6 l7 l8 l9 l10 : Slot} {x y : Int32} (h1 : ¬ x = y → W0 rm 184 [l0, l1, l2, l3, l4, l5, l6, l7, l8, l9, l10] S H Q) (h2 : x = y → W0 rm 167 [l0, l1, l2, l3, l4, l5, l6, l7, l8, l9, l10] S H Q) : W0 rm 164 [l0, l1, l2, l3, l4, l5, l6, l7, l8, l9, l10] (.int y :: .int x :: S) H Q := W.icmp at_164 (by decide) (by decide) h1 h2
theorem s0_167 {rm : Room} {S : List Value} {H : AHeap} {Q : Option Value → AHeap → Prop} {l0 l1 l2 l3 l4 l5 l6 l7 l8 l10 : Slot} {x : Int32} (h : W0 rm 169 [l0, l1, l2, l3, l4, l5, l6, l7, l8, .val (.int x), l10] (.int x :: S) (H) Q) : W0 rm 167 [l0, l1, l2, l3, l4, l5, l6, l7, l8, .val (.int x), l10] (S) H Q := W.iload at_167 rfl h
theorem s0_169 {rm : Room} {S : List Value} {H : AHeap} {Q : Option Value → AHeap → Prop} {l0 l2 l3 l4 l5 l6 l7 l8 l9 l10 : Slot} {x : Int32} (h : W0 rm 170 [l0, .val (.int x), l2, l3, l4, l5, l6, l7, l8, l9, l10] (.int x :: S) (H) Q) : W0 rm 169 [l0, .val (.int x), l2, l3, l4, l5, l6, l7, l8, l9, l10] (S) H Q := W.iload_n at_169 rfl h
theorem s0_170 {rm : Room} {S : List Value} {H : AHeap} {Q : Option Value → AHeap → Prop} {l0 l1 l2 l3 l4 l5 l6 l7 l8 l9 l10 : Slot} {x y : Int32} (h1 : ¬ x = y → W0 rm 184 [l0, l1, l2, l3, l4, l5, l6, l7, l8, l9, l10] S H Q) (h2 : x = y → W0 rm 173 [l0, l1, l2, l3, l4, l5, l6, l7, l8, l9, l10] S H Q) : W0 rm 170 [l0, l1, l2, l3, l4, l5, l6, l7, l8, l9, l10] (.int y :: .int x :: S) H Q := W.icmp at_170 (by decide) (by decide) h1 h2
theorem s0_173 {rm : Room} {S : List Value} {H : AHeap} {Q : Option Value → AHeap → Prop} {l0 l1 l2 l3 l4 l5 l6 l7 l8 l9 : Slot} {x : Int32} (h : W0 rm 175 [l0, l1, l2, l3, l4, l5, l6, l7, l8, l9, .val (.int x)] (.int x :: S) (H) Q) : W0 rm 173 [l0, l1, l2, l3, l4, l5, l6, l7, l8, l9, .val (.int x)] (S) H Q := W.iload at_173 rfl h
theorem s0_175 {rm : Room} {S : List Value} {H : AHeap} {Q : Option Value → AHeap → Prop} {l0 l1 l2 l3 l5 l6 l7 l8 l9 l10 : Slot} {x : Int32} (h : W0 rm 177 [l0, l1, l2, l3, .val (.int x), l5, l6, l7, l8, l9, l10] (.int x :: S) (H) Q) : W0 rm 175 [l0, l1, l2, l3, .val (.int x), l5, l6, l7, l8, l9, l10] (S) H Q := W.iload at_175 rfl h
theorem s0_177 {rm : Room} {S : List Value} {H : AHeap} {Q : Option Value → AHeap → Prop} {l0 l1 l2 l3 l4 l5 l6 l7 l8 l9 l10 : Slot} {x y : Int32} (h1 : ¬ x = y → W0 rm 184 [l0, l1, l2, l3, l4, l5, l6, l7, l8, l9, l10] S H Q) (h2 : x = y → W0 rm 180 [l0, l1, l2, l3, l4, l5, l6, l7, l8, l9, l10] S H Q) : W0 rm 177 [l0, l1, l2, l3, l4, l5, l6, l7, l8, l9, l10] (.int y :: .int x :: S) H Q := W.icmp at_177 (by decide) (by decide) h1 h2
theorem s0_180 {rm : Room} {S : List Value} {H : AHeap} {Q : Option Value → AHeap → Prop} {l0 l1 l2 l3 l4 l5 l6 l7 l8 l9 l10 : Slot}  (h : W0 rm 181 [l0, l1, l2, l3, l4, l5, l6, l7, l8, l9, l10] (.int 1 :: S) (H) Q) : W0 rm 180 [l0, l1, l2, l3, l4, l5, l6, l7, l8, l9, l10] (S) H Q := W.iconst' at_180 (by decide) h
theorem s0_181 {rm : Room} {S : List Value} {H : AHeap} {Q : Option Value → AHeap → Prop} {l0 l1 l2 l3 l4 l5 l6 l7 l8 l9 l10 : Slot}  (h : W0 rm 185 [l0, l1, l2, l3, l4, l5, l6, l7, l8, l9, l10] (S) (H) Q) : W0 rm 181 [l0, l1, l2, l3, l4, l5, l6, l7, l8, l9, l10] (S) H Q := W.goto at_181 (by decide) (by decide) h
theorem s0_184 {rm : Room} {S : List Value} {H : AHeap} {Q : Option Value → AHeap → Prop} {l0 l1 l2 l3 l4 l5 l6 l7 l8 l9 l10 : Slot}  (h : W0 rm 185 [l0, l1, l2, l3, l4, l5, l6, l7, l8, l9, l10] (.int 0 :: S) (H) Q) : W0 rm 184 [l0, l1, l2, l3, l4, l5, l6, l7, l8, l9, l10] (S) H Q := W.iconst' at_184 (by decide) h
theorem s0_185 {rm : Room} {S : List Value} {H : AHeap} {Q : Option Value → AHeap → Prop} {l0 l1 l2 l3 l4 l5 l6 l7 l8 l9 l10 : Slot} {x : Int32} (hQ : Q (some (.int (x &&& 1))) H) : W0 rm 185 [l0, l1, l2, l3, l4, l5, l6, l7, l8, l9, l10] (.int x :: S) H Q := W.ireturnZ at_185 rfl hQ
theorem e1 {rm : Room} {H : AHeap} {Q : Option Value → AHeap → Prop} {a0 : Nat} {a1 : Int32} {a2 : Int32} {a3 : Int32} (h : W1 rm 0 [.val (.ref a0), .val (.int a1), .val (.int a2), .val (.int a3)] [] H Q) : M1 rm [.ref a0, .int a1, .int a2, .int a3] H Q := M.of pf1 rfl rfl h
theorem e1L {rm : Room} {H : AHeap} {Q : Option Value → AHeap → Prop} {L : List Slot} {as : List Value} (h : W1 rm 0 L [] H Q) (hl : ent as ++ List.replicate (4 - (ent as).length) .unset = L := by rfl) (hn : L.length = 4 := by rfl) : M1 rm as H Q := M.of pf1 hl hn h
theorem d1_0 : decode prog_92_method_1_code 0 = .ok (.aload_n 0, 1) := by decide +kernel
theorem s1_0 {rm : Room} {S : List Value} {H : AHeap} {Q : Option Value → AHeap → Prop} {l1 l2 l3 : Slot} {i : Nat} (h : W1 rm 1 [.val (.ref i), l1, l2, l3] (.ref i :: S) (H) Q) : W1 rm 0 [.val (.ref i), l1, l2, l3] (S) H Q := W.aload_n d1_0 rfl rfl h
theorem s1_0n {rm : Room} {S : List Value} {H : AHeap} {Q : Option Value → AHeap → Prop} {l1 l2 l3 : Slot}  (h : W1 rm 1 [.val .null, l1, l2, l3] (.null :: S) (H) Q) : W1 rm 0 [.val .null, l1, l2, l3] (S) H Q := W.aload_n d1_0 rfl rfl h
theorem d1_1 : decode prog_92_method_1_code 1 = .ok (.invokespecial 1, 3) := by decide +kernel
theorem s1_1 {rm : Room} {S : List Value} {H : AHeap} {Q : Option Value → AHeap → Prop} {l0 l1 l2 l3 : Slot} {rm' : Room} {H' : AHeap} {i : Nat}   (hM : M2 rm' [.ref i] H (Is none H')) (hr : rok rm rm' 1 S = true) (h : W1 (less rm rm') 4 [l0, l1, l2, l3] (S) H' Q) : W1 rm 1 [l0, l1, l2, l3] (.ref i :: S) H Q := W.callI (S := S) (as := []) (rm' := rm') d1_1 rfl rfl (List.mem_of_getElem? (i := 7) rfl) (List.mem_of_getElem? (i := 8) rfl) (List.mem_of_getElem? (i := 10) rfl) (List.mem_of_getElem? (i := 11) rfl) (by decide) pd2 rfl rfl hM hr (fun _ _ q => by obtain ⟨rfl, rfl⟩ := q; exact h)
theorem s1_1q {rm : Room} {S : List Value} {H : AHeap} {Q : Option Value → AHeap → Prop} {l0 l1 l2 l3 : Slot} {rm' : Room} {Q' : Option Value → AHeap → Prop} {i : Nat}  (hM : M2 rm' [.ref i] H Q') (hr : rok rm rm' 1 S = true) (h : ∀ v H', Q' v H' → W1 (less rm rm') 4 [l0, l1, l2, l3] (v.toList ++ S) H' Q) : W1 rm 1 [l0, l1, l2, l3] (.ref i :: S) H Q := W.callI (S := S) (as := []) (rm' := rm') d1_1 rfl rfl (List.mem_of_getElem? (i := 7) rfl) (List.mem_of_getElem? (i := 8) rfl) (List.mem_of_getElem? (i := 10) rfl) (List.mem_of_getElem? (i := 11) rfl) (by decide) pd2 rfl rfl hM hr h
theorem d1_4 : decode prog_92_method_1_code 4 = .ok (.ldc 7, 2) := by decide +kernel
theorem d1_6 : decode prog_92_method_1_code 6 = .ok (.iload_n 1, 1) := by decide +kernel
theorem s1_6 {rm : Room} {S : List Value} {H : AHeap} {Q : Option Value → AHeap → Prop} {l0 l2 l3 : Slot} {x : Int32} (h : W1 rm 7 [l0, .val (.int x), l2, l3] (.int x :: S) (H) Q) : W1 rm 6 [l0, .val (.int x), l2, l3] (S) H Q := W.iload_n d1_6 rfl h
theorem d1_7 : decode prog_92_method_1_code 7 = .ok (.invokestatic 9, 3) := by decide +kernel
theorem s1_7 {rm : Room} {S : List Value} {H : AHeap} {Q : Option Value → AHeap → Prop} {l0 l1 l2 l3 : Slot} {rm' : Room} {H' : AHeap} {a0 : Nat} {a1 : Int32}  (hM : M3 rm' [.ref a0, .int a1] H (Is none H')) (hr : rok rm rm' 2 S = true) (h : W1 (less rm rm') 10 [l0, l1, l2, l3] (S) H' Q) : W1 rm 7 [l0, l1, l2, l3] (.int a1 :: .ref a0 :: S) H Q := W.callS (S := S) (as := [.ref a0, .int a1]) (rm' := rm') d1_7 (List.mem_of_getElem? (i := 23) rfl) (List.mem_of_getElem? (i := 24) rfl) (List.mem_of_getElem? (i := 3) rfl) (List.mem_of_getElem? (i := 25) rfl) (by decide) pd3 rfl rfl hM hr (fun _ _ q => by obtain ⟨rfl, rfl⟩ := q; exact h)
theorem s1_7q {rm : Room} {S : List Value} {H : AHeap} {Q : Option Value → AHeap → Prop} {l0 l1 l2 l3 : Slot} {rm' : Room} {Q' : Option Value → AHeap → Prop} {a0 a1 : Value} (hM : M3 rm' [a0, a1] H Q') (hr : rok rm rm' 2 S = true) (h : ∀ v H', Q' v H' → W1 (less rm rm') 10 [l0, l1, l2, l3] (v.toList ++ S) H' Q) : W1 rm 7 [l0, l1, l2, l3] (a1 :: a0 :: S) H Q := W.callS (S := S) (as := [a0, a1]) (rm' := rm') d1_7 (List.mem_of_getElem? (i := 23) rfl) (List.mem_of_getElem? (i := 24) rfl) (List.mem_of_getElem? (i := 3) rfl) (List.mem_of_getElem? (i := 25) rfl) (by decide) pd3 rfl rfl hM hr h
theorem d1_10 : decode prog_92_method_1_code 10 = .ok (.ldc 15, 2) := by decide +kernel
theorem d1_12 : decode prog_92_method_1_code 12 = .ok (.iload_n 3, 1) := by decide +kernel
theorem s1_12 {rm : Room} {S : List Value} {H : AHeap} {Q : Option Value → AHeap → Prop} {l0 l1 l2 : Slot} {x : Int32} (h : W1 rm 13 [l0, l1, l2, .val (.int x)] (.int x :: S) (H) Q) : W1 rm 12 [l0, l1, l2, .val (.int x)] (S) H Q := W.iload_n d1_12 rfl h
theorem d1_13 : decode prog_92_method_1_code 13 = .ok (.invokestatic 9, 3) := by decide +kernel
theorem s1_13 {rm : Room} {S : List Value} {H : AHeap} {Q : Option Value → AHeap → Prop} {l0 l1 l2 l3 : Slot} {rm' : Room} {H' : AHeap} {a0 : Nat} {a1 : Int32}  (hM : M3 rm' [.ref a0, .int a1] H (Is none H')) (hr : rok rm rm' 2 S = true) (h : W1 (less rm rm') 16 [l0, l1, l2, l3] (S) H' Q) : W1 rm 13 [l0, l1, l2, l3] (.int a1 :: .ref a0 :: S) H Q := W.callS (S := S) (as := [.ref a0, .int a1]) (rm' := rm') d1_13 (List.mem_of_getElem? (i := 23) rfl) (List.mem_of_getElem? (i := 24) rfl) (List.mem_of_getElem? (i := 3) rfl) (List.mem_of_getElem? (i := 25) rfl) (by decide) pd3 rfl rfl hM hr (fun _ _ q => by obtain ⟨rfl, rfl⟩ := q; exact h)
theorem s1_13q {rm : Room} {S : List Value} {H : AHeap} {Q : Option Value → AHeap → Prop} {l0 l1 l2 l3 : Slot} {rm' : Room} {Q' : Option Value → AHeap → Prop} {a0 a1 : Value} (hM : M3 rm' [a0, a1] H Q') (hr : rok rm rm' 2 S = true) (h : ∀ v H', Q' v H' → W1 (less rm rm') 16 [l0, l1, l2, l3] (v.toList ++ S) H' Q) : W1 rm 13 [l0, l1, l2, l3] (a1 :: a0 :: S) H Q := W.callS (S := S) (as := [a0, a1]) (rm' := rm') d1_13 (List.mem_of_getElem? (i := 23) rfl) (List.mem_of_getElem? (i := 24) rfl) (List.mem_of_getElem? (i := 3) rfl) (List.mem_of_getElem? (i := 25) rfl) (by decide) pd3 rfl rfl hM hr h
theorem d1_16 : decode prog_92_method_1_code 16 = .ok (.aload_n 0, 1) := by decide +kernel
theorem s1_16 {rm : Room} {S : List Value} {H : AHeap} {Q : Option Value → AHeap → Prop} {l1 l2 l3 : Slot} {i : Nat} (h : W1 rm 17 [.val (.ref i), l1, l2, l3] (.ref i :: S) (H) Q) : W1 rm 16 [.val (.ref i), l1, l2, l3] (S) H Q := W.aload_n d1_16 rfl rfl h
theorem s1_16n {rm : Room} {S : List Value} {H : AHeap} {Q : Option Value → AHeap → Prop} {l1 l2 l3 : Slot}  (h : W1 rm 17 [.val .null, l1, l2, l3] (.null :: S) (H) Q) : W1 rm 16 [.val .null, l1, l2, l3] (S) H Q := W.aload_n d1_16 rfl rfl h
theorem d1_17 : decode prog_92_method_1_code 17 = .ok (.iload_n 1, 1) := by decide +kernel
theorem s1_17 {rm : Room} {S : List Value} {H : AHeap} {Q : Option Value → AHeap → Prop} {l0 l2 l3 : Slot} {x : Int32} (h : W1 rm 18 [l0, .val (.int x), l2, l3] (.int x :: S) (H) Q) : W1 rm 17 [l0, .val (.int x), l2, l3] (S) H Q := W.iload_n d1_17 rfl h
theorem d1_18 : decode prog_92_method_1_code 18 = .ok (.putfield 17, 3) := by decide +kernel
theorem s1_18 {rm : Room} {S : List Value} {H : AHeap} {Q : Option Value → AHeap → Prop} {l0 l1 l2 l3 : Slot} {i : Nat} {f0 f1 f2 : Value} {x : Int32} (hH : H[i]? = some (.inl (0, [f0, f1, f2]))) (h : W1 rm 21 [l0, l1, l2, l3] (S) (H.set i (.inl (0, [.int x, f1, f2]))) Q) : W1 rm 18 [l0, l1, l2, l3] (.int x :: .ref i :: S) H Q := W.putF (c := 0) (j := 0) kt d1_18 (host := "") (Or.inl (List.mem_of_getElem? (i := 28) rfl)) (Or.inl rfl) rfl rfl (Or.inr ⟨(List.mem_of_getElem? (i := 29) rfl), rfl, rfl⟩) rfl rfl hH h
theorem d1_21 : decode prog_92_method_1_code 21 = .ok (.aload_n 0, 1) := by decide +kernel
theorem s1_21 {rm : Room} {S : List Value} {H : AHeap} {Q : Option Value → AHeap → Prop} {l1 l2 l3 : Slot} {i : Nat} (h : W1 rm 22 [.val (.ref i), l1, l2, l3] (.ref i :: S) (H) Q) : W1 rm 21 [.val (.ref i), l1, l2, l3] (S) H Q := W.aload_n d1_21 rfl rfl h
theorem s1_21n {rm : Room} {S : List Value} {H : AHeap} {Q : Option Value → AHeap → Prop} {l1 l2 l3 : Slot}  (h : W1 rm 22 [.val .null, l1, l2, l3] (.null :: S) (H) Q) : W1 rm 21 [.val .null, l1, l2, l3] (S) H Q := W.aload_n d1_21 rfl rfl h
theorem d1_22 : decode prog_92_method_1_code 22 = .ok (.iload_n 2, 1) := by decide +kernel
theorem s1_22 {rm : Room} {S : List Value} {H : AHeap} {Q : Option Value → AHeap → Prop} {l0 l1 l3 : Slot} {x : Int32} (h : W1 rm 23 [l0, l1, .val (.int x), l3] (.int x :: S) (H) Q) : W1 rm 22 [l0, l1, .val (.int x), l3] (S) H Q := W.iload_n d1_22 rfl h
theorem d1_23 : decode prog_92_method_1_code 23 = .ok (.putfield 20, 3) := by decide +kernel
theorem s1_23 {rm : Room} {S : List Value} {H : AHeap} {Q : Option Value → AHeap → Prop} {l0 l1 l2 l3 : Slot} {i : Nat} {f0 f1 f2 : Value} {x : Int32} (hH : H[i]? = some (.inl (0, [f0, f1, f2]))) (h : W1 rm 26 [l0, l1, l2, l3] (S) (H.set i (.inl (0, [f0, .int x, f2]))) Q) : W1 rm 23 [l0, l1, l2, l3] (.int x :: .ref i :: S) H Q := W.putF (c := 0) (j := 1) kt d1_23 (host := "") (Or.inl (List.mem_of_getElem? (i := 30) rfl)) (Or.inl rfl) rfl rfl (Or.inr ⟨(List.mem_of_getElem? (i := 31) rfl), rfl, rfl⟩) rfl rfl hH h
theorem d1_26 : decode prog_92_method_1_code 26 = .ok (.aload_n 0, 1) := by decide +kernel
theorem s1_26 {rm : Room} {S : List Value} {H : AHeap} {Q : Option Value → AHeap → Prop} {l1 l2 l3 : Slot} {i : Nat} (h : W1 rm 27 [.val (.ref i), l1, l2, l3] (.ref i :: S) (H) Q) : W1 rm 26 [.val (.ref i), l1, l2, l3] (S) H Q := W.aload_n d1_26 rfl rfl h
theorem s1_26n {rm : Room} {S : List Value} {H : AHeap} {Q : Option Value → AHeap → Prop} {l1 l2 l3 : Slot}  (h : W1 rm 27 [.val .null, l1, l2, l3] (.null :: S) (H) Q) : W1 rm 26 [.val .null, l1, l2, l3] (S) H Q := W.aload_n d1_26 rfl rfl h
theorem d1_27 : decode prog_92_method_1_code 27 = .ok (.iload_n 3, 1) := by decide +kernel
theorem s1_27 {rm : Room} {S : List Value} {H : AHeap} {Q : Option Value → AHeap → Prop} {l0 l1 l2 : Slot} {x : Int32} (h : W1 rm 28 [l0, l1, l2, .val (.int x)] (.int x :: S) (H) Q) : W1 rm 27 [l0, l1, l2, .val (.int x)] (S) H Q := W.iload_n d1_27 rfl h
theorem d1_28 : decode prog_92_method_1_code 28 = .ok (.putfield 23, 3) := by decide +kernel
theorem s1_28 {rm : Room} {S : List Value} {H : AHeap} {Q : Option Value → AHeap → Prop} {l0 l1 l2 l3 : Slot} {i : Nat} {f0 f1 f2 : Value} {x : Int32} (hH : H[i]? = some (.inl (0, [f0, f1, f2]))) (h : W1 rm 31 [l0, l1, l2, l3] (S) (H.set i (.inl (0, [f0, f1, .int x]))) Q) : W1 rm 28 [l0, l1, l2, l3] (.int x :: .ref i :: S) H Q := W.putF (c := 0) (j := 2) kt d1_28 (host := "") (Or.inl (List.mem_of_getElem? (i := 32) rfl)) (Or.inl rfl) rfl rfl (Or.inr ⟨(List.mem_of_getElem? (i := 33) rfl), rfl, rfl⟩) rfl rfl hH h
theorem d1_31 : decode prog_92_method_1_code 31 = .ok (.return_, 1) := by decide +kernel
theorem s1_31 {rm : Room} {H : AHeap} {Q : Option Value → AHeap → Prop} {l0 l1 l2 l3 : Slot} (hQ : Q none H) : W1 rm 31 [l0, l1, l2, l3] [] H Q := W.ret_ d1_31 rfl hQ
theorem e2 {rm : Room} {H : AHeap} {Q : Option Value → AHeap → Prop} {a0 : Nat} (h : W2 rm 0 [.val (.ref a0)] [] H Q) : M2 rm [.ref a0] H Q := M.of pf2 rfl rfl h
theorem e2L {rm : Room} {H : AHeap} {Q : Option Value → AHeap → Prop} {L : List Slot} {as : List Value} (h : W2 rm 0 L [] H Q) (hl : ent as ++ List.replicate (1 - (ent as).length) .unset = L := by rfl) (hn : L.length = 1 := by rfl) : M2 rm as H Q := M.of pf2 hl hn h
theorem d2_0 : decode jdk_30_method_1_code 0 = .ok (.aload_n 0, 1) := by decide +kernel
theorem s2_0 {rm : Room} {S : List Value} {H : AHeap} {Q : Option Value → AHeap → Prop} {i : Nat} (h : W2 rm 1 [.val (.ref i)] (.ref i :: S) (H) Q) : W2 rm 0 [.val (.ref i)] (S) H Q := W.aload_n d2_0 rfl rfl h
theorem s2_0n {rm : Room} {S : List Value} {H : AHeap} {Q : Option Value → AHeap → Prop}  (h : W2 rm 1 [.val .null] (.null :: S) (H) Q) : W2 rm 0 [.val .null] (S) H Q := W.aload_n d2_0 rfl rfl h
theorem d2_1 : decode jdk_30_method_1_code 1 = .ok (.invokespecial 1, 3) := by decide +kernel
theorem s2_1 {rm : Room} {S : List Value} {H : AHeap} {Q : Option Value → AHeap → Prop} {l0 : Slot} {i : Nat} (hr : iok rm S = true) (h : W2 rm 4 [l0] (S) (H) Q) : W2 rm 1 [l0] (.ref i :: S) H Q := W.initO d2_1 (List.mem_of_getElem? (i := 12) rfl) (List.mem_of_getElem? (i := 13) rfl) (List.mem_of_getElem? (i := 14) rfl) hr h
theorem d2_4 : decode jdk_30_method_1_code 4 = .ok (.return_, 1) := by decide +kernel
theorem s2_4 {rm : Room} {H : AHeap} {Q : Option Value → AHeap → Prop} {l0 : Slot} (hQ : Q none H) : W2 rm 4 [l0] [] H Q := W.ret_ d2_4 rfl hQ
theorem e3 {rm : Room} {H : AHeap} {Q : Option Value → AHeap → Prop} {a0 : Nat} {a1 : Int32} (h : W3 rm 0 [.val (.ref a0), .val (.int a1)] [] H Q) : M3 rm [.ref a0, .int a1] H Q := M.of pf3 rfl rfl h
theorem e3L {rm : Room} {H : AHeap} {Q : Option Value → AHeap → Prop} {L : List Slot} {as : List Value} (h : W3 rm 0 L [] H Q) (hl : ent as ++ List.replicate (2 - (ent as).length) .unset = L := by rfl) (hn : L.length = 2 := by rfl) : M3 rm as H Q := M.of pf3 hl hn h
theorem d3_0 : decode prog_92_method_6_code 0 = .ok (.iload_n 1, 1) := by decide +kernel
theorem s3_0 {rm : Room} {S : List Value} {H : AHeap} {Q : Option Value → AHeap → Prop} {l0 : Slot} {x : Int32} (h : W3 rm 1 [l0, .val (.int x)] (.int x :: S) (H) Q) : W3 rm 0 [l0, .val (.int x)] (S) H Q := W.iload_n d3_0 rfl h
theorem d3_1 : decode prog_92_method_6_code 1 = .ok (.ifCond .lt 9, 3) := by decide +kernel
theorem s3_1 {rm : Room} {S : List Value} {H : AHeap} {Q : Option Value → AHeap → Prop} {l0 l1 : Slot} {x : Int32} (h1 : x < 0 → W3 rm 10 [l0, l1] S H Q) (h2 : ¬ x < 0 → W3 rm 4 [l0, l1] S H Q) : W3 rm 1 [l0, l1] (.int x :: S) H Q := W.ifc d3_1 (by decide) (by decide) h1 h2
theorem d3_4 : decode prog_92_method_6_code 4 = .ok (.iload_n 1, 1) := by decide +kernel
theorem s3_4 {rm : Room} {S : List Value} {H : AHeap} {Q : Option Value → AHeap → Prop} {l0 : Slot} {x : Int32} (h : W3 rm 5 [l0, .val (.int x)] (.int x :: S) (H) Q) : W3 rm 4 [l0, .val (.int x)] (S) H Q := W.iload_n d3_4 rfl h
theorem d3_5 : decode prog_92_method_6_code 5 = .ok (.ldc 120, 2) := by decide +kernel
theorem s3_5 {rm : Room} {S : List Value} {H : AHeap} {Q : Option Value → AHeap → Prop} {l0 l1 : Slot}  (h : W3 rm 7 [l0, l1] (.int 65535 :: S) (H) Q) : W3 rm 5 [l0, l1] (S) H Q := W.ldcInt d3_5 (List.mem_of_getElem? (i := 26) rfl) h
theorem d3_7 : decode prog_92_method_6_code 7 = .ok (.if_icmp .le 18, 3) := by decide +kernel
theorem s3_7 {rm : Room} {S : List Value} {H : AHeap} {Q : Option Value → AHeap → Prop} {l0 l1 : Slot} {x y : Int32} (h1 : ¬ y < x → W3 rm 25 [l0, l1] S H Q) (h2 : y < x → W3 rm 10 [l0, l1] S H Q) : W3 rm 7 [l0, l1] (.int y :: .int x :: S) H Q := W.icmp d3_7 (by decide) (by decide) h1 h2
theorem d3_10 : decode prog_92_method_6_code 10 = .ok (.new 50, 3) := by decide +kernel
theorem d3_13 : decode prog_92_method_6_code 13 = .ok (.dup, 1) := by decide +kernel
theorem s3_13 {rm : Room} {S : List Value} {H : AHeap} {Q : Option Value → AHeap → Prop} {l0 l1 : Slot} {v : Value} (hc : v.category = 1) (h : W3 rm 14 [l0, l1] (v :: v :: S) (H) Q) : W3 rm 13 [l0, l1] (v :: S) H Q := W.dup d3_13 hc h
theorem d3_14 : decode prog_92_method_6_code 14 = .ok (.aload_n 0, 1) := by decide +kernel
theorem s3_14 {rm : Room} {S : List Value} {H : AHeap} {Q : Option Value → AHeap → Prop} {l1 : Slot} {i : Nat} (h : W3 rm 15 [.val (.ref i), l1] (.ref i :: S) (H) Q) : W3 rm 14 [.val (.ref i), l1] (S) H Q := W.aload_n d3_14 rfl rfl h
theorem s3_14n {rm : Room} {S : List Value} {H : AHeap} {Q : Option Value → AHeap → Prop} {l1 : Slot}  (h : W3 rm 15 [.val .null, l1] (.null :: S) (H) Q) : W3 rm 14 [.val .null, l1] (S) H Q := W.aload_n d3_14 rfl rfl h
theorem d3_15 : decode prog_92_method_6_code 15 = .ok (.iload_n 1, 1) := by decide +kernel
theorem s3_15 {rm : Room} {S : List Value} {H : AHeap} {Q : Option Value → AHeap → Prop} {l0 : Slot} {x : Int32} (h : W3 rm 16 [l0, .val (.int x)] (.int x :: S) (H) Q) : W3 rm 15 [l0, .val (.int x)] (S) H Q := W.iload_n d3_15 rfl h
theorem d3_21 : decode prog_92_method_6_code 21 = .ok (.invokespecial 56, 3) := by decide +kernel
theorem d3_25 : decode prog_92_method_6_code 25 = .ok (.return_, 1) := by decide +kernel
theorem s3_25 {rm : Room} {H : AHeap} {Q : Option Value → AHeap → Prop} {l0 l1 : Slot} (hQ : Q none H) : W3 rm 25 [l0, l1] [] H Q := W.ret_ d3_25 rfl hQ
theorem e4 {rm : Room} {H : AHeap} {Q : Option Value → AHeap → Prop} {a0 : Nat} (h : W4 rm 0 [.val (.ref a0)] [] H Q) : M4 rm [.ref a0] H Q := M.of pf4 rfl rfl h
theorem e4L {rm : Room} {H : AHeap} {Q : Option Value → AHeap → Prop} {L : List Slot} {as : List Value} (h : W4 rm 0 L [] H Q) (hl : ent as ++ List.replicate (1 - (ent as).length) .unset = L := by rfl) (hn : L.length = 1 := by rfl) : M4 rm as H Q := M.of pf4 hl hn h
theorem d4_0 : decode prog_92_method_4_code 0 = .ok (.bipush 8, 2) := by decide +kernel
theorem s4_0 {rm : Room} {S : List Value} {H : AHeap} {Q : Option Value → AHeap → Prop} {l0 : Slot}  (h : W4 rm 2 [l0] (.int 8 :: S) (H) Q) : W4 rm 0 [l0] (S) H Q := W.bipush' d4_0 (by decide) h
theorem d4_2 : decode prog_92_method_4_code 2 = .ok (.newarray .byte, 2) := by decide +kernel
theorem s4_2 {rm : Room} {S : List Value} {H : AHeap} {Q : Option Value → AHeap → Prop} {l0 : Slot} {n : Int32} (i N : Nat) (hn : ix n N) (hi : H.length = i) (hr : nok rm N = true) (h : W4 ⟨rm.frames, rm.cells - 1, rm.slots - N, rm.locals⟩ 4 [l0] (.ref i :: S) (H ++ [.inr (.byte, List.replicate N (.int 0))]) Q) : W4 rm 2 [l0] (.int n :: S) H Q := W.newarray (ty := .byte) (d := .int 0) d4_2 rfl (List.mem_of_getElem? (i := 18) rfl) rfl hn hi hr h
theorem d4_4 : decode prog_92_method_4_code 4 = .ok (.dup, 1) := by decide +kernel
theorem s4_4 {rm : Room} {S : List Value} {H : AHeap} {Q : Option Value → AHeap → Prop} {l0 : Slot} {v : Value} (hc : v.category = 1) (h : W4 rm 5 [l0] (v :: v :: S) (H) Q) : W4 rm 4 [l0] (v :: S) H Q := W.dup d4_4 hc h
theorem d4_5 : decode prog_92_method_4_code 5 = .ok (.iconst 0, 1) := by decide +kernel
theorem s4_5 {rm : Room} {S : List Value} {H : AHeap} {Q : Option Value → AHeap → Prop} {l0 : Slot}  (h : W4 rm 6 [l0] (.int 0 :: S) (H) Q) : W4 rm 5 [l0] (S) H Q := W.iconst' d4_5 (by decide) h
theorem d4_6 : decode prog_92_method_4_code 6 = .ok (.aload_n 0, 1) := by decide +kernel
theorem s4_6 {rm : Room} {S : List Value} {H : AHeap} {Q : Option Value → AHeap → Prop} {i : Nat} (h : W4 rm 7 [.val (.ref i)] (.ref i :: S) (H) Q) : W4 rm 6 [.val (.ref i)] (S) H Q := W.aload_n d4_6 rfl rfl h
theorem s4_6n {rm : Room} {S : List Value} {H : AHeap} {Q : Option Value → AHeap → Prop}  (h : W4 rm 7 [.val .null] (.null :: S) (H) Q) : W4 rm 6 [.val .null] (S) H Q := W.aload_n d4_6 rfl rfl h
theorem d4_7 : decode prog_92_method_4_code 7 = .ok (.getfield 17, 3) := by decide +kernel
theorem s4_7 {rm : Room} {S : List Value} {H : AHeap} {Q : Option Value → AHeap → Prop} {l0 : Slot} {i : Nat} {f0 f1 f2 : Value} (hH : H[i]? = some (.inl (0, [f0, f1, f2]))) (h : W4 rm 10 [l0] (f0 :: S) (H) Q) : W4 rm 7 [l0] (.ref i :: S) H Q := W.getF (c := 0) (j := 0) d4_7 (host := "") (Or.inl (List.mem_of_getElem? (i := 28) rfl)) (Or.inl rfl) rfl rfl hH rfl h
theorem d4_10 : decode prog_92_method_4_code 10 = .ok (.bipush 8, 2) := by decide +kernel
theorem s4_10 {rm : Room} {S : List Value} {H : AHeap} {Q : Option Value → AHeap → Prop} {l0 : Slot}  (h : W4 rm 12 [l0] (.int 8 :: S) (H) Q) : W4 rm 10 [l0] (S) H Q := W.bipush' d4_10 (by decide) h
theorem d4_12 : decode prog_92_method_4_code 12 = .ok (.ishr, 1) := by decide +kernel
theorem s4_12 {rm : Room} {S : List Value} {H : AHeap} {Q : Option Value → AHeap → Prop} {l0 : Slot} {x y : Int32} (h : W4 rm 13 [l0] (.int (x >>> (y &&& 31)) :: S) (H) Q) : W4 rm 12 [l0] (.int y :: .int x :: S) H Q := W.ishr d4_12 h
theorem d4_13 : decode prog_92_method_4_code 13 = .ok (.i2b, 1) := by decide +kernel
theorem s4_13 {rm : Room} {S : List Value} {H : AHeap} {Q : Option Value → AHeap → Prop} {l0 : Slot} {x : Int32} (h : W4 rm 14 [l0] (.int x.toInt8.toInt32 :: S) (H) Q) : W4 rm 13 [l0] (.int x :: S) H Q := W.i2b d4_13 h
theorem d4_14 : decode prog_92_method_4_code 14 = .ok (.bastore, 1) := by decide +kernel
theorem s4_14 {rm : Room} {S : List Value} {H : AHeap} {Q : Option Value → AHeap → Prop} {l0 : Slot} {i : Nat} {j : Int32} {x : Int32} {vs : List Value} (N : Nat) (hH : H[i]? = some (.inr (.byte, vs))) (hj : ix j N) (hl : Nat.blt N vs.length = true) (h : W4 rm 15 [l0] (S) (H.set i (.inr (.byte, vs.set N (.int x.toInt8.toInt32)))) Q) : W4 rm 14 [l0] (.int x :: .int j :: .ref i :: S) H Q := W.bastore d4_14 hH hj hl h
theorem s4_14z {rm : Room} {S : List Value} {H : AHeap} {Q : Option Value → AHeap → Prop} {l0 : Slot} {i : Nat} {j : Int32} {x : Int32} {vs : List Value} (N : Nat) (hH : H[i]? = some (.inr (.boolean, vs))) (hj : ix j N) (hl : Nat.blt N vs.length = true) (h : W4 rm 15 [l0] (S) (H.set i (.inr (.boolean, vs.set N (.int (x &&& 1))))) Q) : W4 rm 14 [l0] (.int x :: .int j :: .ref i :: S) H Q := W.bastoreZ d4_14 hH hj hl h
theorem d4_15 : decode prog_92_method_4_code 15 = .ok (.dup, 1) := by decide +kernel
theorem s4_15 {rm : Room} {S : List Value} {H : AHeap} {Q : Option Value → AHeap → Prop} {l0 : Slot} {v : Value} (hc : v.category = 1) (h : W4 rm 16 [l0] (v :: v :: S) (H) Q) : W4 rm 15 [l0] (v :: S) H Q := W.dup d4_15 hc h
theorem d4_16 : decode prog_92_method_4_code 16 = .ok (.iconst 1, 1) := by decide +kernel
theorem s4_16 {rm : Room} {S : List Value} {H : AHeap} {Q : Option Value → AHeap → Prop} {l0 : Slot}  (h : W4 rm 17 [l0] (.int 1 :: S) (H) Q) : W4 rm 16 [l0] (S) H Q := W.iconst' d4_16 (by decide) h
theorem d4_17 : decode prog_92_method_4_code 17 = .ok (.aload_n 0, 1) := by decide +kernel
theorem s4_17 {rm : Room} {S : List Value} {H : AHeap} {Q : Option Value → AHeap → Prop} {i : Nat} (h : W4 rm 18 [.val (.ref i)] (.ref i :: S) (H) Q) : W4 rm 17 [.val (.ref i)] (S) H Q := W.aload_n d4_17 rfl rfl h
theorem s4_17n {rm : Room} {S : List Value} {H : AHeap} {Q : Option Value → AHeap → Prop}  (h : W4 rm 18 [.val .null] (.null :: S) (H) Q) : W4 rm 17 [.val .null] (S) H Q := W.aload_n d4_17 rfl rfl h
theorem d4_18 : decode prog_92_method_4_code 18 = .ok (.getfield 17, 3) := by decide +kernel
theorem s4_18 {rm : Room} {S : List Value} {H : AHeap} {Q : Option Value → AHeap → Prop} {l0 : Slot} {i : Nat} {f0 f1 f2 : Value} (hH : H[i]? = some (.inl (0, [f0, f1, f2]))) (h : W4 rm 21 [l0] (f0 :: S) (H) Q) : W4 rm 18 [l0] (.ref i :: S) H Q := W.getF (c := 0) (j := 0) d4_18 (host := "") (Or.inl (List.mem_of_getElem? (i := 28) rfl)) (Or.inl rfl) rfl rfl hH rfl h
theorem d4_21 : decode prog_92_method_4_code 21 = .ok (.i2b, 1) := by decide +kernel
theorem s4_21 {rm : Room} {S : List Value} {H : AHeap} {Q : Option Value → AHeap → Prop} {l0 : Slot} {x : Int32} (h : W4 rm 22 [l0] (.int x.toInt8.toInt32 :: S) (H) Q) : W4 rm 21 [l0] (.int x :: S) H Q := W.i2b d4_21 h
theorem d4_22 : decode prog_92_method_4_code 22 = .ok (.bastore, 1) := by decide +kernel
theorem s4_22 {rm : Room} {S : List Value} {H : AHeap} {Q : Option Value → AHeap → Prop} {l0 : Slot} {i : Nat} {j : Int32} {x : Int32} {vs : List Value} (N : Nat) (hH : H[i]? = some (.inr (.byte, vs))) (hj : ix j N) (hl : Nat.blt N vs.length = true) (h : W4 rm 23 [l0] (S) (H.set i (.inr (.byte, vs.set N (.int x.toInt8.toInt32)))) Q) : W4 rm 22 [l0] (.int x :: .int j :: .ref i :: S) H Q := W.bastore d4_22 hH hj hl h
theorem s4_22z {rm : Room} {S : List Value} {H : AHeap} {Q : Option Value → AHeap → Prop} {l0 : Slot} {i : Nat} {j : Int32} {x : Int32} {vs : List Value} (N : Nat) (hH : H[i]? = some (.inr (.boolean, vs))) (hj : ix j N) (hl : Nat.blt N vs.length = true) (h : W4 rm 23 [l0] (S) (H.set i (.inr (.boolean, vs.set N (.int (x &&& 1))))) Q) : W4 rm 22 [l0] (.int x :: .int j :: .ref i :: S) H Q := W.bastoreZ d4_22 hH hj hl h
theorem d4_23 : decode prog_92_method_4_code 23 = .ok (.dup, 1) := by decide +kernel
theorem s4_23 {rm : Room} {S : List Value} {H : AHeap} {Q : Option Value → AHeap → Prop} {l0 : Slot} {v : Value} (hc : v.category = 1) (h : W4 rm 24 [l0] (v :: v :: S) (H) Q) : W4 rm 23 [l0] (v :: S) H Q := W.dup d4_23 hc h
theorem d4_24 : decode prog_92_method_4_code 24 = .ok (.iconst 2, 1) := by decide +kernel
theorem s4_24 {rm : Room} {S : List Value} {H : AHeap} {Q : Option Value → AHeap → Prop} {l0 : Slot}  (h : W4 rm 25 [l0] (.int 2 :: S) (H) Q) : W4 rm 24 [l0] (S) H Q := W.iconst' d4_24 (by decide) h
theorem d4_25 : decode prog_92_method_4_code 25 = .ok (.aload_n 0, 1) := by decide +kernel
theorem s4_25 {rm : Room} {S : List Value} {H : AHeap} {Q : Option Value → AHeap → Prop} {i : Nat} (h : W4 rm 26 [.val (.ref i)] (.ref i :: S) (H) Q) : W4 rm 25 [.val (.ref i)] (S) H Q := W.aload_n d4_25 rfl rfl h
theorem s4_25n {rm : Room} {S : List Value} {H : AHeap} {Q : Option Value → AHeap → Prop}  (h : W4 rm 26 [.val .null] (.null :: S) (H) Q) : W4 rm 25 [.val .null] (S) H Q := W.aload_n d4_25 rfl rfl h
theorem d4_26 : decode prog_92_method_4_code 26 = .ok (.getfield 20, 3) := by decide +kernel
theorem s4_26 {rm : Room} {S : List Value} {H : AHeap} {Q : Option Value → AHeap → Prop} {l0 : Slot} {i : Nat} {f0 f1 f2 : Value} (hH : H[i]? = some (.inl (0, [f0, f1, f2]))) (h : W4 rm 29 [l0] (f1 :: S) (H) Q) : W4 rm 26 [l0] (.ref i :: S) H Q := W.getF (c := 0) (j := 1) d4_26 (host := "") (Or.inl (List.mem_of_getElem? (i := 30) rfl)) (Or.inl rfl) rfl rfl hH rfl h
theorem d4_29 : decode prog_92_method_4_code 29 = .ok (.bipush 24, 2) := by decide +kernel
theorem s4_29 {rm : Room} {S : List Value} {H : AHeap} {Q : Option Value → AHeap → Prop} {l0 : Slot}  (h : W4 rm 31 [l0] (.int 24 :: S) (H) Q) : W4 rm 29 [l0] (S) H Q := W.bipush' d4_29 (by decide) h
theorem d4_31 : decode prog_92_method_4_code 31 = .ok (.ishr, 1) := by decide +kernel
theorem s4_31 {rm : Room} {S : List Value} {H : AHeap} {Q : Option Value → AHeap → Prop} {l0 : Slot} {x y : Int32} (h : W4 rm 32 [l0] (.int (x >>> (y &&& 31)) :: S) (H) Q) : W4 rm 31 [l0] (.int y :: .int x :: S) H Q := W.ishr d4_31 h
theorem d4_32 : decode prog_92_method_4_code 32 = .ok (.i2b, 1) := by decide +kernel
theorem s4_32 {rm : Room} {S : List Value} {H : AHeap} {Q : Option Value → AHeap → Prop} {l0 : Slot} {x : Int32} (h : W4 rm 33 [l0] (.int x.toInt8.toInt32 :: S) (H) Q) : W4 rm 32 [l0] (.int x :: S) H Q := W.i2b d4_32 h
theorem d4_33 : decode prog_92_method_4_code 33 = .ok (.bastore, 1) := by decide +kernel
theorem s4_33 {rm : Room} {S : List Value} {H : AHeap} {Q : Option Value → AHeap → Prop} {l0 : Slot} {i : Nat} {j : Int32} {x : Int32} {vs : List Value} (N : Nat) (hH : H[i]? = some (.inr (.byte, vs))) (hj : ix j N) (hl : Nat.blt N vs.length = true) (h : W4 rm 34 [l0] (S) (H.set i (.inr (.byte, vs.set N (.int x.toInt8.toInt32)))) Q) : W4 rm 33 [l0] (.int x :: .int j :: .ref i :: S) H Q := W.bastore d4_33 hH hj hl h
theorem s4_33z {rm : Room} {S : List Value} {H : AHeap} {Q : Option Value → AHeap → Prop} {l0 : Slot} {i : Nat} {j : Int32} {x : Int32} {vs : List Value} (N : Nat) (hH : H[i]? = some (.inr (.boolean, vs))) (hj : ix j N) (hl : Nat.blt N vs.length = true) (h : W4 rm 34 [l0] (S) (H.set i (.inr (.boolean, vs.set N (.int (x &&& 1))))) Q) : W4 rm 33 [l0] (.int x :: .int j :: .ref i :: S) H Q := W.bastoreZ d4_33 hH hj hl h
theorem d4_34 : decode prog_92_method_4_code 34 = .ok (.dup, 1) := by decide +kernel
theorem s4_34 {rm : Room} {S : List Value} {H : AHeap} {Q : Option Value → AHeap → Prop} {l0 : Slot} {v : Value} (hc : v.category = 1) (h : W4 rm 35 [l0] (v :: v :: S) (H) Q) : W4 rm 34 [l0] (v :: S) H Q := W.dup d4_34 hc h
theorem d4_35 : decode prog_92_method_4_code 35 = .ok (.iconst 3, 1) := by decide +kernel
theorem s4_35 {rm : Room} {S : List Value} {H : AHeap} {Q : Option Value → AHeap → Prop} {l0 : Slot}  (h : W4 rm 36 [l0] (.int 3 :: S) (H) Q) : W4 rm 35 [l0] (S) H Q := W.iconst' d4_35 (by decide) h
theorem d4_36 : decode prog_92_method_4_code 36 = .ok (.aload_n 0, 1) := by decide +kernel
theorem s4_36 {rm : Room} {S : List Value} {H : AHeap} {Q : Option Value → AHeap → Prop} {i : Nat} (h : W4 rm 37 [.val (.ref i)] (.ref i :: S) (H) Q) : W4 rm 36 [.val (.ref i)] (S) H Q := W.aload_n d4_36 rfl rfl h
theorem s4_36n {rm : Room} {S : List Value} {H : AHeap} {Q : Option Value → AHeap → Prop}  (h : W4 rm 37 [.val .null] (.null :: S) (H) Q) : W4 rm 36 [.val .null] (S) H Q := W.aload_n d4_36 rfl rfl h
theorem d4_37 : decode prog_92_method_4_code 37 = .ok (.getfield 20, 3) := by decide +kernel
theorem s4_37 {rm : Room} {S : List Value} {H : AHeap} {Q : Option Value → AHeap → Prop} {l0 : Slot} {i : Nat} {f0 f1 f2 : Value} (hH : H[i]? = some (.inl (0, [f0, f1, f2]))) (h : W4 rm 40 [l0] (f1 :: S) (H) Q) : W4 rm 37 [l0] (.ref i :: S) H Q := W.getF (c := 0) (j := 1) d4_37 (host := "") (Or.inl (List.mem_of_getElem? (i := 30) rfl)) (Or.inl rfl) rfl rfl hH rfl h
theorem d4_40 : decode prog_92_method_4_code 40 = .ok (.bipush 16, 2) := by decide +kernel
theorem s4_40 {rm : Room} {S : List Value} {H : AHeap} {Q : Option Value → AHeap → Prop} {l0 : Slot}  (h : W4 rm 42 [l0] (.int 16 :: S) (H) Q) : W4 rm 40 [l0] (S) H Q := W.bipush' d4_40 (by decide) h
theorem d4_42 : decode prog_92_method_4_code 42 = .ok (.ishr, 1) := by decide +kernel
theorem s4_42 {rm : Room} {S : List Value} {H : AHeap} {Q : Option Value → AHeap → Prop} {l0 : Slot} {x y : Int32} (h : W4 rm 43 [l0] (.int (x >>> (y &&& 31)) :: S) (H) Q) : W4 rm 42 [l0] (.int y :: .int x :: S) H Q := W.ishr d4_42 h
theorem d4_43 : decode prog_92_method_4_code 43 = .ok (.i2b, 1) := by decide +kernel
theorem s4_43 {rm : Room} {S : List Value} {H : AHeap} {Q : Option Value → AHeap → Prop} {l0 : Slot} {x : Int32} (h : W4 rm 44 [l0] (.int x.toInt8.toInt32 :: S) (H) Q) : W4 rm 43 [l0] (.int x :: S) H Q := W.i2b d4_43 h
theorem d4_44 : decode prog_92_method_4_code 44 = .ok (.bastore, 1) := by decide +kernel
theorem s4_44 {rm : Room} {S : List Value} {H : AHeap} {Q : Option Value → AHeap → Prop} {l0 : Slot} {i : Nat} {j : Int32} {x : Int32} {vs : List Value} (N : Nat) (hH : H[i]? = some (.inr (.byte, vs))) (hj : ix j N) (hl : Nat.blt N vs.length = true) (h : W4 rm 45 [l0] (S) (H.set i (.inr (.byte, vs.set N (.int x.toInt8.toInt32)))) Q) : W4 rm 44 [l0] (.int x :: .int j :: .ref i :: S) H Q := W.bastore d4_44 hH hj hl h
theorem s4_44z {rm : Room} {S : List Value} {H : AHeap} {Q : Option Value → AHeap → Prop} {l0 : Slot} {i : Nat} {j : Int32} {x : Int32} {vs : List Value} (N : Nat) (hH : H[i]? = some (.inr (.boolean, vs))) (hj : ix j N) (hl : Nat.blt N vs.length = true) (h : W4 rm 45 [l0] (S) (H.set i (.inr (.boolean, vs.set N (.int (x &&& 1))))) Q) : W4 rm 44 [l0] (.int x :: .int j :: .ref i :: S) H Q := W.bastoreZ d4_44 hH hj hl h
theorem d4_45 : decode prog_92_method_4_code 45 = .ok (.dup, 1) := by decide +kernel
theorem s4_45 {rm : Room} {S : List Value} {H : AHeap} {Q : Option Value → AHeap → Prop} {l0 : Slot} {v : Value} (hc : v.category = 1) (h : W4 rm 46 [l0] (v :: v :: S) (H) Q) : W4 rm 45 [l0] (v :: S) H Q := W.dup d4_45 hc h
theorem d4_46 : decode prog_92_method_4_code 46 = .ok (.iconst 4, 1) := by decide +kernel
theorem s4_46 {rm : Room} {S : List Value} {H : AHeap} {Q : Option Value → AHeap → Prop} {l0 : Slot}  (h : W4 rm 47 [l0] (.int 4 :: S) (H) Q) : W4 rm 46 [l0] (S) H Q := W.iconst' d4_46 (by decide) h
theorem d4_47 : decode prog_92_method_4_code 47 = .ok (.aload_n 0, 1) := by decide +kernel
theorem s4_47 {rm : Room} {S : List Value} {H : AHeap} {Q : Option Value → AHeap → Prop} {i : Nat} (h : W4 rm 48 [.val (.ref i)] (.ref i :: S) (H) Q) : W4 rm 47 [.val (.ref i)] (S) H Q := W.aload_n d4_47 rfl rfl h
theorem s4_47n {rm : Room} {S : List Value} {H : AHeap} {Q : Option Value → AHeap → Prop}  (h : W4 rm 48 [.val .null] (.null :: S) (H) Q) : W4 rm 47 [.val .null] (S) H Q := W.aload_n d4_47 rfl rfl h
theorem d4_48 : decode prog_92_method_4_code 48 = .ok (.getfield 20, 3) := by decide +kernel
theorem s4_48 {rm : Room} {S : List Value} {H : AHeap} {Q : Option Value → AHeap → Prop} {l0 : Slot} {i : Nat} {f0 f1 f2 : Value} (hH : H[i]? = some (.inl (0, [f0, f1, f2]))) (h : W4 rm 51 [l0] (f1 :: S) (H) Q) : W4 rm 48 [l0] (.ref i :: S) H Q := W.getF (c := 0) (j := 1) d4_48 (host := "") (Or.inl (List.mem_of_getElem? (i := 30) rfl)) (Or.inl rfl) rfl rfl hH rfl h
theorem d4_51 : decode prog_92_method_4_code 51 = .ok (.bipush 8, 2) := by decide +kernel
theorem s4_51 {rm : Room} {S : List Value} {H : AHeap} {Q : Option Value → AHeap → Prop} {l0 : Slot}  (h : W4 rm 53 [l0] (.int 8 :: S) (H) Q) : W4 rm 51 [l0] (S) H Q := W.bipush' d4_51 (by decide) h
theorem d4_53 : decode prog_92_method_4_code 53 = .ok (.ishr, 1) := by decide +kernel
theorem s4_53 {rm : Room} {S : List Value} {H : AHeap} {Q : Option Value → AHeap → Prop} {l0 : Slot} {x y : Int32} (h : W4 rm 54 [l0] (.int (x >>> (y &&& 31)) :: S) (H) Q) : W4 rm 53 [l0] (.int y :: .int x :: S) H Q := W.ishr d4_53 h
theorem d4_54 : decode prog_92_method_4_code 54 = .ok (.i2b, 1) := by decide +kernel
theorem s4_54 {rm : Room} {S : List Value} {H : AHeap} {Q : Option Value → AHeap → Prop} {l0 : Slot} {x : Int32} (h : W4 rm 55 [l0] (.int x.toInt8.toInt32 :: S) (H) Q) : W4 rm 54 [l0] (.int x :: S) H Q := W.i2b d4_54 h
theorem d4_55 : decode prog_92_method_4_code 55 = .ok (.bastore, 1) := by decide +kernel
theorem s4_55 {rm : Room} {S : List Value} {H : AHeap} {Q : Option Value → AHeap → Prop} {l0 : Slot} {i : Nat} {j : Int32} {x : Int32} {vs : List Value} (N : Nat) (hH : H[i]? = some (.inr (.byte, vs))) (hj : ix j N) (hl : Nat.blt N vs.length = true) (h : W4 rm 56 [l0] (S) (H.set i (.inr (.byte, vs.set N (.int x.toInt8.toInt32)))) Q) : W4 rm 55 [l0] (.int x :: .int j :: .ref i :: S) H Q := W.bastore d4_55 hH hj hl h
theorem s4_55z {rm : Room} {S : List Value} {H : AHeap} {Q : Option Value → AHeap → Prop} {l0 : Slot} {i : Nat} {j : Int32} {x : Int32} {vs : List Value} (N : Nat) (hH : H[i]? = some (.inr (.boolean, vs))) (hj : ix j N) (hl : Nat.blt N vs.length = true) (h : W4 rm 56 [l0] (S) (H.set i (.inr (.boolean, vs.set N (.int (x &&& 1))))) Q) : W4 rm 55 [l0] (.int x :: .int j :: .ref i :: S) H Q := W.bastoreZ d4_55 hH hj hl h
theorem d4_56 : decode prog_92_method_4_code 56 = .ok (.dup, 1) := by decide +kernel
theorem s4_56 {rm : Room} {S : List Value} {H : AHeap} {Q : Option Value → AHeap → Prop} {l0 : Slot} {v : Value} (hc : v.category = 1) (h : W4 rm 57 [l0] (v :: v :: S) (H) Q) : W4 rm 56 [l0] (v :: S) H Q := W.dup d4_56 hc h
theorem d4_57 : decode prog_92_method_4_code 57 = .ok (.iconst 5, 1) := by decide +kernel
theorem s4_57 {rm : Room} {S : List Value} {H : AHeap} {Q : Option Value → AHeap → Prop} {l0 : Slot}  (h : W4 rm 58 [l0] (.int 5 :: S) (H) Q) : W4 rm 57 [l0] (S) H Q := W.iconst' d4_57 (by decide) h
theorem d4_58 : decode prog_92_method_4_code 58 = .ok (.aload_n 0, 1) := by decide +kernel
theorem s4_58 {rm : Room} {S : List Value} {H : AHeap} {Q : Option Value → AHeap → Prop} {i : Nat} (h : W4 rm 59 [.val (.ref i)] (.ref i :: S) (H) Q) : W4 rm 58 [.val (.ref i)] (S) H Q := W.aload_n d4_58 rfl rfl h
theorem s4_58n {rm : Room} {S : List Value} {H : AHeap} {Q : Option Value → AHeap → Prop}  (h : W4 rm 59 [.val .null] (.null :: S) (H) Q) : W4 rm 58 [.val .null] (S) H Q := W.aload_n d4_58 rfl rfl h
theorem d4_59 : decode prog_92_method_4_code 59 = .ok (.getfield 20, 3) := by decide +kernel
theorem s4_59 {rm : Room} {S : List Value} {H : AHeap} {Q : Option Value → AHeap → Prop} {l0 : Slot} {i : Nat} {f0 f1 f2 : Value} (hH : H[i]? = some (.inl (0, [f0, f1, f2]))) (h : W4 rm 62 [l0] (f1 :: S) (H) Q) : W4 rm 59 [l0] (.ref i :: S) H Q := W.getF (c := 0) (j := 1) d4_59 (host := "") (Or.inl (List.mem_of_getElem? (i := 30) rfl)) (Or.inl rfl) rfl rfl hH rfl h
theorem d4_62 : decode prog_92_method_4_code 62 = .ok (.i2b, 1) := by decide +kernel
theorem s4_62 {rm : Room} {S : List Value} {H : AHeap} {Q : Option Value → AHeap → Prop} {l0 : Slot} {x : Int32} (h : W4 rm 63 [l0] (.int x.toInt8.toInt32 :: S) (H) Q) : W4 rm 62 [l0] (.int x :: S) H Q := W.i2b d4_62 h
theorem d4_63 : decode prog_92_method_4_code 63 = .ok (.bastore, 1) := by decide +kernel
theorem s4_63 {rm : Room} {S : List Value} {H : AHeap} {Q : Option Value → AHeap → Prop} {l0 : Slot} {i : Nat} {j : Int32} {x : Int32} {vs : List Value} (N : Nat) (hH : H[i]? = some (.inr (.byte, vs))) (hj : ix j N) (hl : Nat.blt N vs.length = true) (h : W4 rm 64 [l0] (S) (H.set i (.inr (.byte, vs.set N (.int x.toInt8.toInt32)))) Q) : W4 rm 63 [l0] (.int x :: .int j :: .ref i :: S) H Q := W.bastore d4_63 hH hj hl h
theorem s4_63z {rm : Room} {S : List Value} {H : AHeap} {Q : Option Value → AHeap → Prop} {l0 : Slot} {i : Nat} {j : Int32} {x : Int32} {vs : List Value} (N : Nat) (hH : H[i]? = some (.inr (.boolean, vs))) (hj : ix j N) (hl : Nat.blt N vs.length = true) (h : W4 rm 64 [l0] (S) (H.set i (.inr (.boolean, vs.set N (.int (x &&& 1))))) Q) : W4 rm 63 [l0] (.int x :: .int j :: .ref i :: S) H Q := W.bastoreZ d4_63 hH hj hl h
theorem d4_64 : decode prog_92_method_4_code 64 = .ok (.dup, 1) := by decide +kernel
theorem s4_64 {rm : Room} {S : List Value} {H : AHeap} {Q : Option Value → AHeap → Prop} {l0 : Slot} {v : Value} (hc : v.category = 1) (h : W4 rm 65 [l0] (v :: v :: S) (H) Q) : W4 rm 64 [l0] (v :: S) H Q := W.dup d4_64 hc h
theorem d4_65 : decode prog_92_method_4_code 65 = .ok (.bipush 6, 2) := by decide +kernel
theorem s4_65 {rm : Room} {S : List Value} {H : AHeap} {Q : Option Value → AHeap → Prop} {l0 : Slot}  (h : W4 rm 67 [l0] (.int 6 :: S) (H) Q) : W4 rm 65 [l0] (S) H Q := W.bipush' d4_65 (by decide) h
theorem d4_67 : decode prog_92_method_4_code 67 = .ok (.aload_n 0, 1) := by decide +kernel
theorem s4_67 {rm : Room} {S : List Value} {H : AHeap} {Q : Option Value → AHeap → Prop} {i : Nat} (h : W4 rm 68 [.val (.ref i)] (.ref i :: S) (H) Q) : W4 rm 67 [.val (.ref i)] (S) H Q := W.aload_n d4_67 rfl rfl h
theorem s4_67n {rm : Room} {S : List Value} {H : AHeap} {Q : Option Value → AHeap → Prop}  (h : W4 rm 68 [.val .null] (.null :: S) (H) Q) : W4 rm 67 [.val .null] (S) H Q := W.aload_n d4_67 rfl rfl h
theorem d4_68 : decode prog_92_method_4_code 68 = .ok (.getfield 23, 3) := by decide +kernel
theorem s4_68 {rm : Room} {S : List Value} {H : AHeap} {Q : Option Value → AHeap → Prop} {l0 : Slot} {i : Nat} {f0 f1 f2 : Value} (hH : H[i]? = some (.inl (0, [f0, f1, f2]))) (h : W4 rm 71 [l0] (f2 :: S) (H) Q) : W4 rm 68 [l0] (.ref i :: S) H Q := W.getF (c := 0) (j := 2) d4_68 (host := "") (Or.inl (List.mem_of_getElem? (i := 32) rfl)) (Or.inl rfl) rfl rfl hH rfl h
theorem d4_71 : decode prog_92_method_4_code 71 = .ok (.bipush 8, 2) := by decide +kernel
theorem s4_71 {rm : Room} {S : List Value} {H : AHeap} {Q : Option Value → AHeap → Prop} {l0 : Slot}  (h : W4 rm 73 [l0] (.int 8 :: S) (H) Q) : W4 rm 71 [l0] (S) H Q := W.bipush' d4_71 (by decide) h
theorem d4_73 : decode prog_92_method_4_code 73 = .ok (.ishr, 1) := by decide +kernel
theorem s4_73 {rm : Room} {S : List Value} {H : AHeap} {Q : Option Value → AHeap → Prop} {l0 : Slot} {x y : Int32} (h : W4 rm 74 [l0] (.int (x >>> (y &&& 31)) :: S) (H) Q) : W4 rm 73 [l0] (.int y :: .int x :: S) H Q := W.ishr d4_73 h
theorem d4_74 : decode prog_92_method_4_code 74 = .ok (.i2b, 1) := by decide +kernel
theorem s4_74 {rm : Room} {S : List Value} {H : AHeap} {Q : Option Value → AHeap → Prop} {l0 : Slot} {x : Int32} (h : W4 rm 75 [l0] (.int x.toInt8.toInt32 :: S) (H) Q) : W4 rm 74 [l0] (.int x :: S) H Q := W.i2b d4_74 h
theorem d4_75 : decode prog_92_method_4_code 75 = .ok (.bastore, 1) := by decide +kernel
theorem s4_75 {rm : Room} {S : List Value} {H : AHeap} {Q : Option Value → AHeap → Prop} {l0 : Slot} {i : Nat} {j : Int32} {x : Int32} {vs : List Value} (N : Nat) (hH : H[i]? = some (.inr (.byte, vs))) (hj : ix j N) (hl : Nat.blt N vs.length = true) (h : W4 rm 76 [l0] (S) (H.set i (.inr (.byte, vs.set N (.int x.toInt8.toInt32)))) Q) : W4 rm 75 [l0] (.int x :: .int j :: .ref i :: S) H Q := W.bastore d4_75 hH hj hl h
theorem s4_75z {rm : Room} {S : List Value} {H : AHeap} {Q : Option Value → AHeap → Prop} {l0 : Slot} {i : Nat} {j : Int32} {x : Int32} {vs : List Value} (N : Nat) (hH : H[i]? = some (.inr (.boolean, vs))) (hj : ix j N) (hl : Nat.blt N vs.length = true) (h : W4 rm 76 [l0] (S) (H.set i (.inr (.boolean, vs.set N (.int (x &&& 1))))) Q) : W4 rm 75 [l0] (.int x :: .int j :: .ref i :: S) H Q := W.bastoreZ d4_75 hH hj hl h
theorem d4_76 : decode prog_92_method_4_code 76 = .ok (.dup, 1) := by decide +kernel
theorem s4_76 {rm : Room} {S : List Value} {H : AHeap} {Q : Option Value → AHeap → Prop} {l0 : Slot} {v : Value} (hc : v.category = 1) (h : W4 rm 77 [l0] (v :: v :: S) (H) Q) : W4 rm 76 [l0] (v :: S) H Q := W.dup d4_76 hc h
theorem d4_77 : decode prog_92_method_4_code 77 = .ok (.bipush 7, 2) := by decide +kernel
theorem s4_77 {rm : Room} {S : List Value} {H : AHeap} {Q : Option Value → AHeap → Prop} {l0 : Slot}  (h : W4 rm 79 [l0] (.int 7 :: S) (H) Q) : W4 rm 77 [l0] (S) H Q := W.bipush' d4_77 (by decide) h
theorem d4_79 : decode prog_92_method_4_code 79 = .ok (.aload_n 0, 1) := by decide +kernel
theorem s4_79 {rm : Room} {S : List Value} {H : AHeap} {Q : Option Value → AHeap → Prop} {i : Nat} (h : W4 rm 80 [.val (.ref i)] (.ref i :: S) (H) Q) : W4 rm 79 [.val (.ref i)] (S) H Q := W.aload_n d4_79 rfl rfl h
theorem s4_79n {rm : Room} {S : List Value} {H : AHeap} {Q : Option Value → AHeap → Prop}  (h : W4 rm 80 [.val .null] (.null :: S) (H) Q) : W4 rm 79 [.val .null] (S) H Q := W.aload_n d4_79 rfl rfl h
theorem d4_80 : decode prog_92_method_4_code 80 = .ok (.getfield 23, 3) := by decide +kernel
theorem s4_80 {rm : Room} {S : List Value} {H : AHeap} {Q : Option Value → AHeap → Prop} {l0 : Slot} {i : Nat} {f0 f1 f2 : Value} (hH : H[i]? = some (.inl (0, [f0, f1, f2]))) (h : W4 rm 83 [l0] (f2 :: S) (H) Q) : W4 rm 80 [l0] (.ref i :: S) H Q := W.getF (c := 0) (j := 2) d4_80 (host := "") (Or.inl (List.mem_of_getElem? (i := 32) rfl)) (Or.inl rfl) rfl rfl hH rfl h
theorem d4_83 : decode prog_92_method_4_code 83 = .ok (.i2b, 1) := by decide +kernel
theorem s4_83 {rm : Room} {S : List Value} {H : AHeap} {Q : Option Value → AHeap → Prop} {l0 : Slot} {x : Int32} (h : W4 rm 84 [l0] (.int x.toInt8.toInt32 :: S) (H) Q) : W4 rm 83 [l0] (.int x :: S) H Q := W.i2b d4_83 h
theorem d4_84 : decode prog_92_method_4_code 84 = .ok (.bastore, 1) := by decide +kernel
theorem s4_84 {rm : Room} {S : List Value} {H : AHeap} {Q : Option Value → AHeap → Prop} {l0 : Slot} {i : Nat} {j : Int32} {x : Int32} {vs : List Value} (N : Nat) (hH : H[i]? = some (.inr (.byte, vs))) (hj : ix j N) (hl : Nat.blt N vs.length = true) (h : W4 rm 85 [l0] (S) (H.set i (.inr (.byte, vs.set N (.int x.toInt8.toInt32)))) Q) : W4 rm 84 [l0] (.int x :: .int j :: .ref i :: S) H Q := W.bastore d4_84 hH hj hl h
theorem s4_84z {rm : Room} {S : List Value} {H : AHeap} {Q : Option Value → AHeap → Prop} {l0 : Slot} {i : Nat} {j : Int32} {x : Int32} {vs : List Value} (N : Nat) (hH : H[i]? = some (.inr (.boolean, vs))) (hj : ix j N) (hl : Nat.blt N vs.length = true) (h : W4 rm 85 [l0] (S) (H.set i (.inr (.boolean, vs.set N (.int (x &&& 1))))) Q) : W4 rm 84 [l0] (.int x :: .int j :: .ref i :: S) H Q := W.bastoreZ d4_84 hH hj hl h
theorem d4_85 : decode prog_92_method_4_code 85 = .ok (.areturn, 1) := by decide +kernel
theorem s4_85 {rm : Room} {S : List Value} {H : AHeap} {Q : Option Value → AHeap → Prop} {l0 : Slot} {i : Nat} (hQ : Q (some (.ref i)) H) : W4 rm 85 [l0] (.ref i :: S) H Q := W.areturn d4_85 rfl rfl rfl hQ
theorem e5 {rm : Room} {H : AHeap} {Q : Option Value → AHeap → Prop} {a0 : Int32} (h : W5 rm 0 [.val (.int a0)] [] H Q) : M5 rm [.int a0] H Q := M.of pf5 rfl rfl h
theorem e5L {rm : Room} {H : AHeap} {Q : Option Value → AHeap → Prop} {L : List Slot} {as : List Value} (h : W5 rm 0 L [] H Q) (hl : ent as ++ List.replicate (1 - (ent as).length) .unset = L := by rfl) (hn : L.length = 1 := by rfl) : M5 rm as H Q := M.of pf5 hl hn h
theorem d5_0 : decode method_2_code 0 = .ok (.iload_n 0, 1) := by decide +kernel
theorem s5_0 {rm : Room} {S : List Value} {H : AHeap} {Q : Option Value → AHeap → Prop} {x : Int32} (h : W5 rm 1 [.val (.int x)] (.int x :: S) (H) Q) : W5 rm 0 [.val (.int x)] (S) H Q := W.iload_n d5_0 rfl h
theorem d5_1 : decode method_2_code 1 = .ok (.sipush 255, 3) := by decide +kernel
theorem s5_1 {rm : Room} {S : List Value} {H : AHeap} {Q : Option Value → AHeap → Prop} {l0 : Slot}  (h : W5 rm 4 [l0] (.int 255 :: S) (H) Q) : W5 rm 1 [l0] (S) H Q := W.sipush' d5_1 (by decide) h
theorem d5_4 : decode method_2_code 4 = .ok (.iand, 1) := by decide +kernel
theorem s5_4 {rm : Room} {S : List Value} {H : AHeap} {Q : Option Value → AHeap → Prop} {l0 : Slot} {x y : Int32} (h : W5 rm 5 [l0] (.int (x &&& y) :: S) (H) Q) : W5 rm 4 [l0] (.int y :: .int x :: S) H Q := W.iand d5_4 h
theorem d5_5 : decode method_2_code 5 = .ok (.ireturn, 1) := by decide +kernel
theorem s5_5 {rm : Room} {S : List Value} {H : AHeap} {Q : Option Value → AHeap → Prop} {l0 : Slot} {x : Int32} (hQ : Q (some (.int x)) H) : W5 rm 5 [l0] (.int x :: S) H Q := W.ireturn d5_5 rfl hQ
theorem b0_177 {rm : Room} {S : List Value} {H : AHeap} {Q : Option Value → AHeap → Prop} {l0 l1 l2 l3 l4 l5 l6 l7 l8 l9 l10 : Slot} {x y : Int32} (h : ∀ t : Int32, ((x = y) ∧ t = 1) ∨ ((¬ x = y) ∧ t = 0) → W0 rm 185 [l0, l1, l2, l3, l4, l5, l6, l7, l8, l9, l10] (.int t :: S) H Q) : W0 rm 177 [l0, l1, l2, l3, l4, l5, l6, l7, l8, l9, l10] (.int y :: .int x :: S) H Q := s0_177 (fun q => s0_184 (h 0 (Or.inr ⟨q, rfl⟩))) (fun q => s0_180 (s0_181 (h 1 (Or.inl ⟨q, rfl⟩))))
theorem own_rec {rm : Room} {i : Nat} {H : AHeap} (h : iok rm [] = true) : M2 rm [.ref i] H (Is none H) := e2 (s2_0 (s2_1 h (s2_4 ⟨rfl, rfl⟩)))
theorem own_atoms : ∀ a ∈ Bundle.stringAtoms, a ∈ tables_1 := fun a ha => by
  simp only [Bundle.stringAtoms, List.mem_cons, List.not_mem_nil, or_false] at ha
  rcases ha with rfl | rfl | rfl | rfl | rfl | rfl | rfl
  · exact List.mem_of_getElem? (i := 16) rfl
  · exact List.mem_of_getElem? (i := 17) rfl
  · exact List.mem_of_getElem? (i := 18) rfl
  · exact List.mem_of_getElem? (i := 19) rfl
  · exact List.mem_of_getElem? (i := 20) rfl
  · exact List.mem_of_getElem? (i := 21) rfl
  · exact List.mem_of_getElem? (i := 22) rfl
/-- checkU16 comes back, whatever String it is given -/
theorem own_chk (x : Int32) (h0 : ¬ x < 0) (h1 : ¬ 65535 < x) : MR tables_1 μ3 ⟨0, 0, 0, 0⟩ x := by
  intro Z a0 hw l h ws a
  refine MetFree.of_bodySF pf3 hisR ?_
  intro p e s m args below meth c s₁ Bd hml0 hP hK
  obtain ⟨rfl, hZ, hh⟩ := hP
  have X0 := Stand.of_body Bd
  have hx := Bd.exec
  have hby := Bd.bytes
  have hown : s.vm.findClass μ3.1.cls = some m.cls := findClass_of_methodNamed Bd.named
  have e0 : s₁.heap = h := by rw [← hh, Bd.state]; rfl
  obtain ⟨fs, hr, hrun, hended, hW, hsame⟩ := X0.leave (v := none) (fun _ => rfl) Bd.notSynchronized
  have q : entryFrame m [Value.ref a, .int x].toArray μ3.2.2.1 = mkF m 0 #[.val (.ref a), .val (.int x)] [] := rfl
  refine ⟨_, _, castTop q ?_, hrun, hended, none, [], rfl, ⟨rfl, e0, rfl⟩, ⟨_, rfl⟩, hW, hsame⟩
  refine XS.iloadN X0.here hx rfl (hb hby d3_0) rfl ?_
  refine XS.ifNo X0.here hx rfl (hb hby d3_1) rfl (by rw [if0]; exact (cnd_not _ _ _).mpr h0) ?_
  refine XS.iloadN X0.here hx rfl (hb hby d3_4) rfl ?_
  refine X0.ldcInt hx hown (mvT hZ (hw _ (List.mem_of_getElem? (i := 26) rfl))) (g := mkF m 5 #[.val (.ref a), .val (.int x)] [.int x]) rfl (hb hby d3_5) _ ?_
  show Steps p.tables e below (s₁.setTop (mkF m 7 #[.val (.ref a), .val (.int x)] [.int 65535, .int x])) _
  refine XS.icmpYes X0.here hx rfl rfl (hb hby d3_7) rfl ((cnd_iff _ _ _).mpr h1) (show (0 : Int) ≤ ((7 : Nat) : Int) + 18 by decide) (show (((7 : Nat) : Int) + 18).toNat = 25 by decide) ?_
  exact X0.returnOut hx Bd.returns (hb hby d3_25) hr
theorem own_mask (p : Int32) : ¬ (p &&& 65535) < 0 ∧ ¬ 65535 < (p &&& 65535) := by
  have e : (p &&& 65535).toInt = p.toInt % 2 ^ 16 := Jvm.Kit.i32_mask p 65535 (k := 16) (by decide) (by decide)
  rw [Int32.lt_iff_toInt_lt, Int32.lt_iff_toInt_lt, e, show (0 : Int32).toInt = 0 from by decide, show (65535 : Int32).toInt = 65535 from by decide]
  omega
theorem own_junk (K : KTab) (a : ACell) (g g' : Nat) : ([a] ++ junk K g) ++ junk K g' = a :: junk K (g + g') := by
  simp [junk, List.replicate_append_replicate]
theorem own_init (c o s : Int32) (hc : ¬ c < 0 ∧ ¬ 65535 < c) (hs : ¬ s < 0 ∧ ¬ 65535 < s) : MS tables_1 KT μ1 ⟨2, 4, 88, 40⟩ [.ref 0, .int c, .int o, .int s] [.inl (0, [.int 0, .int 0, .int 0])] (fun v H' => v = none ∧ ∃ g, H' = .inl (0, [.int c, .int o, .int s]) :: junk KT g) := by
  refine MS.of (L := [.val (.ref 0), .val (.int c), .val (.int o), .val (.int s)]) pf1 rfl rfl ?_
  refine WS.aload_n (v := .ref 0) d1_0 rfl rfl ?_
  refine WS.callI (μ' := μ2) (as := []) (S := []) (i := 0) (rm' := ⟨1, 0, 0, 12⟩) d1_1 rfl rfl (List.mem_of_getElem? (i := 7) rfl) (List.mem_of_getElem? (i := 8) rfl) (List.mem_of_getElem? (i := 10) rfl) (List.mem_of_getElem? (i := 11) rfl) (by decide) pd2 rfl rfl (own_rec rfl) rfl ?_
  refine WS.ldcCall (μ' := μ3) (n := 32) (x := c) (text := "category") (rm' := ⟨0, 0, 0, 0⟩) d1_4 d1_6 d1_7 (List.mem_of_getElem? (i := 15) rfl) own_atoms rfl (by decide) (by decide) (by decide) (by decide) (List.mem_of_getElem? (i := 23) rfl) (List.mem_of_getElem? (i := 24) rfl) (List.mem_of_getElem? (i := 3) rfl) (List.mem_of_getElem? (i := 25) rfl) (by decide) pd3 rfl (own_chk c hc.1 hc.2) rfl fun g => ?_
  refine WS.ldcCall (μ' := μ3) (n := 48) (x := s) (text := "sub-category") (rm' := ⟨0, 0, 0, 0⟩) d1_10 d1_12 d1_13 (List.mem_of_getElem? (i := 27) rfl) own_atoms rfl (by decide) (by decide) (by decide) (by decide) (List.mem_of_getElem? (i := 23) rfl) (List.mem_of_getElem? (i := 24) rfl) (List.mem_of_getElem? (i := 3) rfl) (List.mem_of_getElem? (i := 25) rfl) (by decide) pd3 rfl (own_chk s hs.1 hs.2) rfl fun g' => ?_
  rw [own_junk]
  refine WS.of_W ?_
  refine s1_16 (s1_17 (s1_18 rfl (s1_21 (s1_22 (s1_23 rfl (s1_26 (s1_27 (s1_28 rfl (s1_31 ⟨⟨rfl, g + g', rfl⟩, ?_⟩)))))))))
  exact Nat.le_refl _
theorem own_set (H : AHeap) (a b : ACell) : (H ++ [a]).set H.length b = H ++ [b] := by simp
theorem own_get (H : AHeap) (a : ACell) : (H ++ [a])[H.length]? = some a := by simp
set_option maxHeartbeats 1000000 in
theorem own_tob (c o s : Int32) (H : AHeap) (hH : H[0]? = some (.inl (0, [.int c, .int o, .int s]))) : M4 ⟨0, 1, 8, 0⟩ [.ref 0] H (Is (some (.ref H.length)) (H ++ [.inr (.byte, [.int (c >>> (8 &&& 31)).toInt8.toInt32.toInt8.toInt32, .int (c).toInt8.toInt32.toInt8.toInt32, .int (o >>> (24 &&& 31)).toInt8.toInt32.toInt8.toInt32, .int (o >>> (16 &&& 31)).toInt8.toInt32.toInt8.toInt32, .int (o >>> (8 &&& 31)).toInt8.toInt32.toInt8.toInt32, .int (o).toInt8.toInt32.toInt8.toInt32, .int (s >>> (8 &&& 31)).toInt8.toInt32.toInt8.toInt32, .int (s).toInt8.toInt32.toInt8.toInt32])])) := by
  refine e4 ?_
  refine s4_0 (s4_2 H.length 8 (by decide) rfl rfl ?_)
  refine s4_4 rfl ?_
  refine s4_5 ?_
  refine s4_6 ?_
  refine s4_7 (ha hH) ?_
  refine s4_10 ?_
  refine s4_12 ?_
  refine s4_13 ?_
  refine s4_14 0 (own_get H _) (by decide) rfl ?_
  rw [own_set]
  refine s4_15 rfl ?_
  refine s4_16 ?_
  refine s4_17 ?_
  refine s4_18 (ha hH) ?_
  refine s4_21 ?_
  refine s4_22 1 (own_get H _) (by decide) rfl ?_
  rw [own_set]
  refine s4_23 rfl ?_
  refine s4_24 ?_
  refine s4_25 ?_
  refine s4_26 (ha hH) ?_
  refine s4_29 ?_
  refine s4_31 ?_
  refine s4_32 ?_
  refine s4_33 2 (own_get H _) (by decide) rfl ?_
  rw [own_set]
  refine s4_34 rfl ?_
  refine s4_35 ?_
  refine s4_36 ?_
  refine s4_37 (ha hH) ?_
  refine s4_40 ?_
  refine s4_42 ?_
  refine s4_43 ?_
  refine s4_44 3 (own_get H _) (by decide) rfl ?_
  rw [own_set]
  refine s4_45 rfl ?_
  refine s4_46 ?_
  refine s4_47 ?_
  refine s4_48 (ha hH) ?_
  refine s4_51 ?_
  refine s4_53 ?_
  refine s4_54 ?_
  refine s4_55 4 (own_get H _) (by decide) rfl ?_
  rw [own_set]
  refine s4_56 rfl ?_
  refine s4_57 ?_
  refine s4_58 ?_
  refine s4_59 (ha hH) ?_
  refine s4_62 ?_
  refine s4_63 5 (own_get H _) (by decide) rfl ?_
  rw [own_set]
  refine s4_64 rfl ?_
  refine s4_65 ?_
  refine s4_67 ?_
  refine s4_68 (ha hH) ?_
  refine s4_71 ?_
  refine s4_73 ?_
  refine s4_74 ?_
  refine s4_75 6 (own_get H _) (by decide) rfl ?_
  rw [own_set]
  refine s4_76 rfl ?_
  refine s4_77 ?_
  refine s4_79 ?_
  refine s4_80 (ha hH) ?_
  refine s4_83 ?_
  refine s4_84 7 (own_get H _) (by decide) rfl ?_
  rw [own_set]
  exact s4_85 ⟨rfl, rfl⟩
theorem own_u (b : Int32) (H : AHeap) : M5 ⟨0, 0, 0, 0⟩ [.int b] H (Is (some (.int (b &&& 255))) H) := e5 (s5_0 (s5_1 (s5_4 (s5_5 ⟨rfl, rfl⟩))))
theorem own_i32 (i : Nat) (h : i < 32) : i = 0 ∨ i = 1 ∨ i = 2 ∨ i = 3 ∨ i = 4 ∨ i = 5 ∨ i = 6 ∨ i = 7 ∨ i = 8 ∨ i = 9 ∨ i = 10 ∨ i = 11 ∨ i = 12 ∨ i = 13 ∨ i = 14 ∨ i = 15 ∨ i = 16 ∨ i = 17 ∨ i = 18 ∨ i = 19 ∨ i = 20 ∨ i = 21 ∨ i = 22 ∨ i = 23 ∨ i = 24 ∨ i = 25 ∨ i = 26 ∨ i = 27 ∨ i = 28 ∨ i = 29 ∨ i = 30 ∨ i = 31 := by omega
theorem own_b (y : Int32) : y.toInt8.toInt32.toInt8.toInt32 &&& 255 = y &&& 255 := by
  apply Int32.toBitVec_inj.mp
  rw [Int32.toBitVec_and, Int32.toBitVec_and]
  apply BitVec.eq_of_getLsbD_eq
  intro i hi
  show (((((y.toBitVec.signExtend 8).signExtend 32).signExtend 8).signExtend 32) &&& 255#32).getLsbD i = (y.toBitVec &&& 255#32).getLsbD i
  simp only [BitVec.getLsbD_and, BitVec.getLsbD_signExtend]
  rcases own_i32 i hi with rfl | rfl | rfl | rfl | rfl | rfl | rfl | rfl | rfl | rfl | rfl | rfl | rfl | rfl | rfl | rfl | rfl | rfl | rfl | rfl | rfl | rfl | rfl | rfl | rfl | rfl | rfl | rfl | rfl | rfl | rfl | rfl <;> simp
theorem own_e16 (p c : Int32) (h : p &&& 65535 = c) : ((c >>> (8 &&& 31)) &&& 255) <<< (8 &&& 31) ||| (c &&& 255) = c := by
  subst h
  apply Int32.toBitVec_inj.mp
  apply BitVec.eq_of_getLsbD_eq
  intro i hi
  show (((BitVec.sshiftRight (p.toBitVec &&& 65535#32) 8) &&& 255#32) <<< 8 ||| ((p.toBitVec &&& 65535#32) &&& 255#32)).getLsbD i = (p.toBitVec &&& 65535#32).getLsbD i
  simp only [BitVec.getLsbD_and, BitVec.getLsbD_or, BitVec.getLsbD_shiftLeft, BitVec.getLsbD_sshiftRight]
  rcases own_i32 i hi with rfl | rfl | rfl | rfl | rfl | rfl | rfl | rfl | rfl | rfl | rfl | rfl | rfl | rfl | rfl | rfl | rfl | rfl | rfl | rfl | rfl | rfl | rfl | rfl | rfl | rfl | rfl | rfl | rfl | rfl | rfl | rfl <;> simp
theorem own_e32 (o : Int32) : ((o >>> (24 &&& 31)) &&& 255) <<< (24 &&& 31) ||| ((o >>> (16 &&& 31)) &&& 255) <<< (16 &&& 31) ||| ((o >>> (8 &&& 31)) &&& 255) <<< (8 &&& 31) ||| (o &&& 255) = o := by
  apply Int32.toBitVec_inj.mp
  apply BitVec.eq_of_getLsbD_eq
  intro i hi
  show (((BitVec.sshiftRight o.toBitVec 24) &&& 255#32) <<< 24 ||| ((BitVec.sshiftRight o.toBitVec 16) &&& 255#32) <<< 16 ||| ((BitVec.sshiftRight o.toBitVec 8) &&& 255#32) <<< 8 ||| (o.toBitVec &&& 255#32)).getLsbD i = o.toBitVec.getLsbD i
  simp only [BitVec.getLsbD_and, BitVec.getLsbD_or, BitVec.getLsbD_shiftLeft, BitVec.getLsbD_sshiftRight]
  rcases own_i32 i hi with rfl | rfl | rfl | rfl | rfl | rfl | rfl | rfl | rfl | rfl | rfl | rfl | rfl | rfl | rfl | rfl | rfl | rfl | rfl | rfl | rfl | rfl | rfl | rfl | rfl | rfl | rfl | rfl | rfl | rfl | rfl | rfl <;> simp
/-- the rest of the law, behind the constructor -/
theorem own_tail (p o r c s : Int32) (hcp : p &&& 65535 = c) (hsp : r &&& 65535 = s) (H : AHeap) (i j n : Nat) (ne : i ≠ j) (hn : n ≤ H.length) (G1 : H[i]? = some (.inr (.byte, [.int (c >>> (8 &&& 31)).toInt8.toInt32.toInt8.toInt32, .int (c).toInt8.toInt32.toInt8.toInt32, .int (o >>> (24 &&& 31)).toInt8.toInt32.toInt8.toInt32, .int (o >>> (16 &&& 31)).toInt8.toInt32.toInt8.toInt32, .int (o >>> (8 &&& 31)).toInt8.toInt32.toInt8.toInt32, .int (o).toInt8.toInt32.toInt8.toInt32, .int (s >>> (8 &&& 31)).toInt8.toInt32.toInt8.toInt32, .int (s).toInt8.toInt32.toInt8.toInt32]) : ACell)) (G2 : H[j]? = some (.inr (.byte, [.int (c >>> (8 &&& 31)).toInt8.toInt32.toInt8.toInt32, .int (c).toInt8.toInt32.toInt8.toInt32, .int (o >>> (24 &&& 31)).toInt8.toInt32.toInt8.toInt32, .int (o >>> (16 &&& 31)).toInt8.toInt32.toInt8.toInt32, .int (o >>> (8 &&& 31)).toInt8.toInt32.toInt8.toInt32, .int (o).toInt8.toInt32.toInt8.toInt32, .int (s >>> (8 &&& 31)).toInt8.toInt32.toInt8.toInt32, .int (s).toInt8.toInt32.toInt8.toInt32]) : ACell)) :
    W0 ⟨6, 17, 2069, 128⟩ 36 [.val (.int p), .val (.int o), .val (.int r), .val (.int c), .val (.int s), .val (.ref 0), .val (.ref i), .unset, .unset, .unset, .unset] [.ref j] H (fun v H' => v = some (.int 1) ∧ n ≤ H'.length) := by
  refine s0_36 rfl ?_
  refine s0_38 ?_
  refine s0_40 ?_
  refine s0_43 ?_
  refine s0_45 ?_
  refine s0_50 ?_
  refine s0_52k 8 G1 rfl ?_
  refine s0_53 (s0_55 (fun h => absurd rfl h) (fun _ => ?_))
  refine s0_58 ?_
  refine s0_60k 8 G2 rfl ?_
  refine s0_61 (s0_63 (fun _ => ?_) (fun h => absurd rfl h))
  refine s0_68 (s0_70 (W.acmpne (pc' := 77) at_72 (by decide) (by decide) ne ?_))
  refine s0_77 ?_
  refine s0_79 ?_
  refine s0_80 0 G1 (by decide) rfl ?_
  refine s0_81 (own_u _ _) rfl ?_
  refine s0_84 ?_
  refine s0_86 ?_
  refine s0_87 ?_
  refine s0_89 ?_
  refine s0_90 1 G1 (by decide) rfl ?_
  refine s0_91 (own_u _ _) rfl ?_
  simp only [own_b]
  refine s0_94 ?_
  refine s0_95 rfl ?_
  rw [own_e16 p c hcp]
  refine s0_97 ?_
  refine s0_99 ?_
  refine s0_100 2 G1 (by decide) rfl ?_
  refine s0_101 (own_u _ _) rfl ?_
  refine s0_104 ?_
  refine s0_106 ?_
  refine s0_107 ?_
  refine s0_109 ?_
  refine s0_110 3 G1 (by decide) rfl ?_
  refine s0_111 (own_u _ _) rfl ?_
  refine s0_114 ?_
  refine s0_116 ?_
  refine s0_117 ?_
  refine s0_118 ?_
  refine s0_120 ?_
  refine s0_121 4 G1 (by decide) rfl ?_
  refine s0_122 (own_u _ _) rfl ?_
  refine s0_125 ?_
  refine s0_127 ?_
  refine s0_128 ?_
  refine s0_129 ?_
  refine s0_131 ?_
  refine s0_132 5 G1 (by decide) rfl ?_
  refine s0_133 (own_u _ _) rfl ?_
  simp only [own_b]
  refine s0_136 ?_
  refine s0_137 rfl ?_
  rw [own_e32 o]
  refine s0_139 ?_
  refine s0_141 ?_
  refine s0_143 6 G1 (by decide) rfl ?_
  refine s0_144 (own_u _ _) rfl ?_
  refine s0_147 ?_
  refine s0_149 ?_
  refine s0_150 ?_
  refine s0_152 ?_
  refine s0_154 7 G1 (by decide) rfl ?_
  refine s0_155 (own_u _ _) rfl ?_
  simp only [own_b]
  refine s0_158 ?_
  refine s0_159 rfl ?_
  rw [own_e16 r s hsp]
  refine s0_161 (s0_163 (s0_164 (fun h => absurd rfl h) (fun _ => ?_)))
  refine s0_167 (s0_169 (s0_170 (fun h => absurd rfl h) (fun _ => ?_)))
  refine s0_173 (s0_175 (s0_177 (fun h => absurd rfl h) (fun _ => ?_)))
  exact s0_180 (s0_181 (s0_185 ⟨rfl, hn⟩))
theorem law_ok (p o r : Int32) : MS tables_1 KT μ0 room_1 [.int p, .int o, .int r] [] (fun v _ => v = some (.int 1)) := by
  refine MS.of (L := [.val (.int p), .val (.int o), .val (.int r), .unset, .unset, .unset, .unset, .unset, .unset, .unset, .unset]) pf0 rfl rfl ?_
  refine WS.iload_n at_0 rfl ?_
  refine WS.ldcInt at_1 (List.mem_of_getElem? (i := 0) rfl) ?_
  refine WS.iand at_3 ?_
  refine WS.istore_n (o := .unset) at_4 rfl rfl ?_
  refine WS.iload_n (x := r) at_5 rfl ?_
  refine WS.ldcInt at_6 (List.mem_of_getElem? (i := 0) rfl) ?_
  refine WS.iand at_8 ?_
  refine WS.istore (o := .unset) at_9 rfl rfl ?_
  have hc := own_mask p
  have hs := own_mask r
  generalize hcp : p &&& 65535 = c at hc
  generalize hsp : r &&& 65535 = s at hs
  refine WS.new (c := 0) (i := 0) kt at_11 (List.mem_of_getElem? (i := 1) rfl) (List.mem_of_getElem? (i := 3) rfl) rfl rfl rfl ?_
  refine WS.dup at_14 rfl ?_
  refine WS.iload_n (x := c) at_15 rfl ?_
  refine WS.iload_n (x := o) at_16 rfl ?_
  refine WS.iload (x := s) at_17 rfl ?_
  refine WS.callIS (μ' := μ1) (as := [.int c, .int o, .int s]) (S := [.ref 0]) (i := 0) (rm' := ⟨2, 4, 88, 40⟩) at_19 rfl rfl (List.mem_of_getElem? (i := 4) rfl) (List.mem_of_getElem? (i := 5) rfl) (List.mem_of_getElem? (i := 3) rfl) (List.mem_of_getElem? (i := 6) rfl) (by decide) pd1 rfl rfl (own_init c o s hc hs) rfl ?_
  rintro v H' ⟨rfl, g, rfl⟩
  refine WS.of_W ?_
  show W0 ⟨6, 19, 2085, 128⟩ 22 [.val (.int p), .val (.int o), .val (.int r), .val (.int c), .val (.int s), .unset, .unset, .unset, .unset, .unset, .unset] [.ref 0] (.inl (0, [.int c, .int o, .int s]) :: junk KT g) _
  have hH : (.inl (0, [.int c, .int o, .int s]) :: junk KT g : AHeap)[0]? = some (.inl (0, [.int c, .int o, .int s])) := rfl
  generalize (.inl (0, [.int c, .int o, .int s]) :: junk KT g : AHeap) = H at hH
  refine s0_22 rfl (s0_24 (s0_26 hH (own_tob c o s H hH) rfl ?_))
  refine s0_29 rfl (s0_31 (s0_33 (ha hH) (own_tob c o s _ (ha hH)) rfl ?_))
  refine own_tail p o r c s hcp hsp _ H.length _ H.length ?_ ?_ (ha (own_get _ _)) (own_get _ _)
  · simp
  · simp
set_option maxRecDepth 65536 in
set_option maxHeartbeats 4000000 in
theorem comes_1 {Post : Tables → Env → Array Value → State → Outcome → State → Prop} (hpost : ∀ tb e args s v u, (limb_1_1.after args s (.returned v) u = true ∧ limb_1_2.after args s (.returned v) u = true ∧ True) → ReturnedEndW s (.returned v) u (Jvm.fieldLocs frame_1_writes args s ++ Jvm.arrayLocs frame_1_arrays args s ++ Jvm.staticLocs frame_1_statics s) 24 2176 → Post tb e args s (.returned v) u) :
    ArmFor flags0 classFile x code maxLocals ret World_1 tables_1 room_1 Calls_1 rest_1 Pre_1 Post := by
  intro l hfl _ _ p e ha hc hk s m args below hf hA hF happ hP
  obtain ⟨hcalls, hrest, hpre⟩ := hP
  obtain ⟨-, -, -, hnamed, -, -, -, hat⟩ := (Spec.applies_iff hf).mp happ
  obtain ⟨hg, hn⟩ := and_e (Cond.before_iff.mp (show (Jvm.Cond.and given_1 narrow_1).before args s = true from hpre))
  obtain ⟨hg0, hg⟩ := and_e hg
  obtain ⟨hk0, hg⟩ := and_e hg
  obtain ⟨hk1, hg⟩ := and_e hg
  have hk2 := hg
  obtain ⟨w0, w1, w2, rfl⟩ : ∃ w0 w1 w2 : Value, args = #[w0, w1, w2] := by
    have hs : args.size = 3 := by simpa [Cond.value, given_1] using hg0
    obtain ⟨L⟩ := args
    match L, hs with
    | [w0, w1, w2], _ => exact ⟨w0, w1, w2, rfl⟩
  have hw := fun d (hd : d ∈ tables_1) => atoms_spec (ws := Jvm.Cond.code x code maxLocals ret :: tables_1) hat d (List.mem_cons_of_mem _ hd)
  obtain ⟨i0, e0⟩ := is_v hk0
  obtain rfl : w0 = (.int i0) := Option.some.inj e0
  obtain ⟨i1, e1⟩ := is_v hk1
  obtain rfl : w1 = (.int i1) := Option.some.inj e1
  obtain ⟨i2, e2⟩ := is_v hk2
  obtain rfl : w2 = (.int i2) := Option.some.inj e2
  obtain ⟨n, o, h1, h2, h3, _, L, rfl, ⟨v', H', rfl, hR, rfl, N⟩, hq⟩ := law_ok i0 i1 i2 s _ hw l s.heap tables_1 (Rel.start s KT) p e ha hc hk s m _ below hf ((Spec.applies_iff_loose hf).mp happ).1 ⟨rfl, State.Warmed39.refl s, rfl⟩ trivial
  refine ⟨n, _, h1, h2, h3, hpost _ _ _ _ _ _ ⟨Cond.after_iff.mpr rfl, Cond.after_iff.mpr (eq_i res_at (Term.int_eval (1)) rfl), trivial⟩ ⟨hq.1, hq.2.1, hq.2.2.1, (hq.2.2.2.sift fun y hy => Or.inr (N y hy)).mono (by decide) (by decide)⟩⟩
theorem main_1_1 : Claimed_1_1 := comes_1 fun _ _ _ _ _ _ h hF => ⟨h.1, hF⟩
theorem main_1_2 : Claimed_1_2 := comes_1 fun _ _ _ _ _ _ h hF => ⟨h.2.1, hF⟩
end Jvm.Pilot.@@N@@
namespace Jvm.Pilot.@@N@@
open Jvm Jvm.ClassFile Sem Op Lib Jvm.Free Jvm.Stand Jvm.Pilot.@@N@@.Jvm.D
/-! MADE BY PROGRAM (witnessworld.py) out of the Statement's table words and the real class files: 15 classes; the members and pool entries that the words name. The judged class is class 1, her method 2. -/
namespace start1
open Jvm.ClassFile
def u (s : String) : CpInfo := .utf8 (stringToUtf16 s)
/-- a pool by its gaps: so many unusable entries, then the entry; so many at the end -/
def gap : Nat → List CpInfo → List CpInfo
  | 0, r => r
  | n + 1, r => .unusable :: gap n r
def poolList (es : List (Nat × CpInfo)) (last : Nat) : List CpInfo := es.foldr (fun e r => gap e.1 (e.2 :: r)) (gap last [])
def pool (es : List (Nat × CpInfo)) (last : Nat) : Array CpInfo := ⟨poolList es last⟩
def fileOf (pool : Array CpInfo) (this : Nat) (attrs : Array Attribute := #[]) (ms : Array MethodInfo := #[]) (fl : Nat := 33) (sup : Nat := 0) (ifs : Array Nat := #[]) (fds : Array FieldInfo := #[]) : ClassFile where
  minorVersion := 0
  majorVersion := 65
  constantPool := pool
  accessFlags := fl
  thisClass := this
  superClass := sup
  interfaces := ifs
  fields := fds
  methods := ms
  attributes := attrs
def plain (name : String) (sup : Option ClassId) : Class where
  name := name
  kind := .ordinary
  loader := none
  accessFlags := 33
  super := sup
  interfaces := #[]
  cf := none
  fields := #[]
  methods := #[]
  instanceTypes := #[]
  staticTypes := #[]
  resolved := #[]
  callSites := []
  init := .initialized
  statics := none
  mirror := none

def pool0 : Array CpInfo := pool [(5, u "<init>"), (0, u "()V"), (1, .class_ 10), (1, u "java/lang/Object")] 113

def k0c0 : Code := { maxStack := 0, maxLocals := 1, code := object_method_1_code, exceptionTable := #[], attributes := #[] }
def k0m0 : Method := { name := "<init>", desc := "()V", sig := { parameters := [], returnType := none }, accessFlags := 1, code := some k0c0 }
/-- java/lang/Object -/
def k0 : Class := { plain "java/lang/Object" none with
  accessFlags := 33
  interfaces := #[]
  cf := some (fileOf pool0 8 #[] #[{ accessFlags := 1, nameIndex := 5, descriptorIndex := 6, attributes := #[] }] 33 0 #[] #[])
  fields := #[]
  methods := #[k0m0]
  instanceTypes := #[]
  staticTypes := #[]
  resolved := Array.replicate 124 none
  statics := none }

def pool1 : Array CpInfo := pool [(2, .class_ 4), (1, u "java/lang/Object"), (0, u "<init>"), (0, u "()V"), (0, .integer 65535), (0, .class_ 9), (0, u "com/example/manoa/manoa/model/PrimaryDeviceType"), (0, .methodref 8 11), (0, .nameAndType 5 12), (0, u "(III)V"), (0, .methodref 8 14), (0, .nameAndType 15 16), (0, u "toBytes"), (0, u "()[B"), (0, .methodref 18 19), (0, .class_ 20), (0, .nameAndType 21 22), (0, u "com/example/manoa/manoa/model/PrimaryDeviceTypeToBytesPinLaw"), (0, u "u"), (0, u "(B)I"), (2, u "law"), (0, u "(III)Z")] 5

def k1m0 : Method := { name := "<init>", desc := "()V", sig := { parameters := [], returnType := none }, accessFlags := 1, code := none }
def k1c1 : Code := { maxStack := 2, maxLocals := 1, code := method_2_code, exceptionTable := #[], attributes := #[] }
def k1m1 : Method := { name := "u", desc := "(B)I", sig := { parameters := [.byte], returnType := some .int }, accessFlags := 10, code := some k1c1 }
def k1c2 : Code := { maxStack := 5, maxLocals := 11, code := code, exceptionTable := #[], attributes := #[] }
def k1m2 : Method := { name := "law", desc := "(III)Z", sig := { parameters := [.int, .int, .int], returnType := some .boolean }, accessFlags := 9, code := some k1c2 }
/-- com/example/manoa/manoa/model/PrimaryDeviceTypeToBytesPinLaw -/
def k1 : Class := { plain "com/example/manoa/manoa/model/PrimaryDeviceTypeToBytesPinLaw" (some 0) with
  accessFlags := 49
  interfaces := #[]
  cf := some (fileOf pool1 18 #[] #[{ accessFlags := 1, nameIndex := 5, descriptorIndex := 6, attributes := #[] }, { accessFlags := 10, nameIndex := 21, descriptorIndex := 22, attributes := #[] }, { accessFlags := 9, nameIndex := 25, descriptorIndex := 26, attributes := #[] }] 49 2 #[] #[])
  fields := #[]
  methods := #[k1m0, k1m1, k1m2]
  instanceTypes := #[]
  staticTypes := #[]
  resolved := Array.replicate 32 none
  statics := none }

def pool2 : Array CpInfo := pool [(1, .methodref 2 3), (0, .class_ 4), (0, .nameAndType 5 6), (0, u "java/lang/Object"), (0, u "<init>"), (0, u "()V"), (0, .class_ 8), (0, u "java/lang/Record")] 13

def k2c0 : Code := { maxStack := 1, maxLocals := 1, code := jdk_30_method_1_code, exceptionTable := #[], attributes := #[] }
def k2m0 : Method := { name := "<init>", desc := "()V", sig := { parameters := [], returnType := none }, accessFlags := 4, code := some k2c0 }
/-- java/lang/Record -/
def k2 : Class := { plain "java/lang/Record" (some 0) with
  accessFlags := 1057
  interfaces := #[]
  cf := some (fileOf pool2 7 #[] #[{ accessFlags := 4, nameIndex := 5, descriptorIndex := 6, attributes := #[] }] 1057 2 #[] #[])
  fields := #[]
  methods := #[k2m0]
  instanceTypes := #[]
  staticTypes := #[]
  resolved := Array.replicate 22 none
  statics := none }

def pool3 : Array CpInfo := pool [(1, .methodref 2 3), (0, .class_ 4), (0, .nameAndType 5 6), (0, u "java/lang/Record"), (0, u "<init>"), (0, u "()V"), (0, .string 8), (0, u "category"), (0, .methodref 10 11), (0, .class_ 12), (0, .nameAndType 13 14), (0, u "com/example/manoa/manoa/model/PrimaryDeviceType"), (0, u "checkU16"), (0, u "(Ljava/lang/String;I)V"), (0, .string 16), (0, u "sub-category"), (0, .fieldref 10 18), (0, .nameAndType 8 19), (0, u "I"), (0, .fieldref 10 21), (0, .nameAndType 22 19), (0, u "oui"), (0, .fieldref 10 24), (0, .nameAndType 25 19), (0, u "subcategory"), (10, u "TEXT_FORM"), (0, u "Ljava/util/regex/Pattern;"), (37, u "(III)V"), (44, .integer 65535), (14, u "DEFAULT"), (0, u "Lcom/example/manoa/manoa/model/PrimaryDeviceType;"), (6, u "LENGTH"), (10, u "toBytes"), (0, u "()[B")] 36

def k3c0 : Code := { maxStack := 2, maxLocals := 4, code := prog_92_method_1_code, exceptionTable := #[], attributes := #[] }
def k3m0 : Method := { name := "<init>", desc := "(III)V", sig := { parameters := [.int, .int, .int], returnType := none }, accessFlags := 1, code := some k3c0 }
def k3c1 : Code := { maxStack := 5, maxLocals := 1, code := prog_92_method_4_code, exceptionTable := #[], attributes := #[] }
def k3m1 : Method := { name := "toBytes", desc := "()[B", sig := { parameters := [], returnType := some (.array .byte) }, accessFlags := 1, code := some k3c1 }
def k3c2 : Code := { maxStack := 4, maxLocals := 2, code := prog_92_method_6_code, exceptionTable := #[], attributes := #[] }
def k3m2 : Method := { name := "checkU16", desc := "(Ljava/lang/String;I)V", sig := { parameters := [(.object "java/lang/String"), .int], returnType := none }, accessFlags := 10, code := some k3c2 }
/-- com/example/manoa/manoa/model/PrimaryDeviceType -/
def k3 : Class := { plain "com/example/manoa/manoa/model/PrimaryDeviceType" (some 2) with
  accessFlags := 49
  interfaces := #[]
  cf := some (fileOf pool3 10 #[] #[{ accessFlags := 1, nameIndex := 5, descriptorIndex := 75, attributes := #[] }, { accessFlags := 1, nameIndex := 154, descriptorIndex := 155, attributes := #[] }, { accessFlags := 10, nameIndex := 13, descriptorIndex := 14, attributes := #[] }] 49 2 #[] #[{ accessFlags := 18, nameIndex := 8, descriptorIndex := 19, attributes := #[] }, { accessFlags := 18, nameIndex := 22, descriptorIndex := 19, attributes := #[] }, { accessFlags := 18, nameIndex := 25, descriptorIndex := 19, attributes := #[] }, { accessFlags := 25, nameIndex := 135, descriptorIndex := 136, attributes := #[] }, { accessFlags := 25, nameIndex := 143, descriptorIndex := 19, attributes := #[] }, { accessFlags := 26, nameIndex := 36, descriptorIndex := 37, attributes := #[] }])
  fields := #[{ name := "category", type := .int, accessFlags := 18, slot := 0, constantValue := 0 }, { name := "oui", type := .int, accessFlags := 18, slot := 1, constantValue := 0 }, { name := "subcategory", type := .int, accessFlags := 18, slot := 2, constantValue := 0 }, { name := "DEFAULT", type := (.object "com/example/manoa/manoa/model/PrimaryDeviceType"), accessFlags := 25, slot := 0, constantValue := 0 }, { name := "LENGTH", type := .int, accessFlags := 25, slot := 1, constantValue := 0 }, { name := "TEXT_FORM", type := (.object "java/util/regex/Pattern"), accessFlags := 26, slot := 2, constantValue := 0 }]
  methods := #[k3m0, k3m1, k3m2]
  instanceTypes := #[.int, .int, .int]
  staticTypes := #[(.object "com/example/manoa/manoa/model/PrimaryDeviceType"), .int, (.object "java/util/regex/Pattern")]
  resolved := Array.replicate 192 none
  statics := none }

def pool4 : Array CpInfo := pool [(1, .class_ 2), (0, u "java/io/Serializable"), (0, .class_ 4), (0, u "java/lang/Object")] 2

/-- java/io/Serializable -/
def k4 : Class := { plain "java/io/Serializable" (some 0) with
  accessFlags := 1537
  interfaces := #[]
  cf := some (fileOf pool4 1 #[] #[] 1537 3 #[] #[])
  fields := #[]
  methods := #[]
  instanceTypes := #[]
  staticTypes := #[]
  resolved := Array.replicate 7 none
  statics := none }

def pool5 : Array CpInfo := pool [(1, .class_ 2), (0, u "java/lang/Comparable"), (0, .class_ 4), (0, u "java/lang/Object")] 7

/-- java/lang/Comparable -/
def k5 : Class := { plain "java/lang/Comparable" (some 0) with
  accessFlags := 1537
  interfaces := #[]
  cf := some (fileOf pool5 1 #[] #[] 1537 3 #[] #[])
  fields := #[]
  methods := #[]
  instanceTypes := #[]
  staticTypes := #[]
  resolved := Array.replicate 12 none
  statics := none }

def pool6 : Array CpInfo := pool [(2, .class_ 4), (1, u "java/lang/CharSequence"), (42, .class_ 48), (0, u "java/lang/CharSequence$1CodePointIterator"), (10, .class_ 60), (0, u "java/lang/CharSequence$1CharIterator"), (5, .class_ 67), (0, u "java/lang/Object")] 63

/-- java/lang/CharSequence -/
def k6 : Class := { plain "java/lang/CharSequence" (some 0) with
  accessFlags := 1537
  interfaces := #[]
  cf := some (fileOf pool6 2 #[.nestMembers #[47, 59]] #[] 1537 66 #[] #[])
  fields := #[]
  methods := #[]
  instanceTypes := #[]
  staticTypes := #[]
  resolved := Array.replicate 131 none
  statics := none }

def pool7 : Array CpInfo := pool [(1, .class_ 2), (0, u "java/lang/constant/Constable"), (0, .class_ 4), (0, u "java/lang/Object")] 6

/-- java/lang/constant/Constable -/
def k7 : Class := { plain "java/lang/constant/Constable" (some 0) with
  accessFlags := 1537
  interfaces := #[]
  cf := some (fileOf pool7 1 #[] #[] 1537 3 #[] #[])
  fields := #[]
  methods := #[]
  instanceTypes := #[]
  staticTypes := #[]
  resolved := Array.replicate 11 none
  statics := none }

def pool8 : Array CpInfo := pool [(1, .class_ 2), (0, u "java/lang/constant/ConstantDesc"), (0, .class_ 4), (0, u "java/lang/Object")] 32

/-- java/lang/constant/ConstantDesc -/
def k8 : Class := { plain "java/lang/constant/ConstantDesc" (some 0) with
  accessFlags := 1537
  interfaces := #[]
  cf := some (fileOf pool8 1 #[] #[] 1537 3 #[] #[])
  fields := #[]
  methods := #[]
  instanceTypes := #[]
  staticTypes := #[]
  resolved := Array.replicate 37 none
  statics := none }

def pool9 : Array CpInfo := pool [(2, .class_ 4), (1, u "java/lang/Object"), (0, u "<init>"), (0, u "()V"), (3, .class_ 12), (1, u "java/lang/String"), (0, u "value"), (0, u "[B"), (2, u "coder"), (0, u "B"), (2, u "hash"), (0, u "I"), (2, u "hashIsZero"), (0, u "Z"), (13, u "COMPACT_STRINGS"), (534, .class_ 576), (0, u "java/lang/CharSequence"), (22, u "CASE_INSENSITIVE_ORDER"), (0, u "Ljava/util/Comparator;"), (500, u "serialPersistentFields"), (0, u "[Ljava/io/ObjectStreamField;"), (0, .class_ 1104), (0, u "java/lang/String$CaseInsensitiveComparator"), (1, .class_ 1107), (0, u "java/io/Serializable"), (0, .class_ 1109), (0, u "java/lang/Comparable"), (0, .class_ 1111), (0, u "java/lang/constant/Constable"), (0, .class_ 1113), (0, u "java/lang/constant/ConstantDesc"), (2, u "serialVersionUID"), (0, u "J"), (3, u "REPL"), (0, u "C"), (2, u "LATIN1"), (1, u "UTF16")] 323

def k9m0 : Method := { name := "<init>", desc := "()V", sig := { parameters := [], returnType := none }, accessFlags := 1, code := none }
/-- java/lang/String -/
def k9 : Class := { plain "java/lang/String" (some 0) with
  accessFlags := 49
  interfaces := #[4, 5, 6, 7, 8]
  cf := some (fileOf pool9 10 #[.nestMembers #[1103]] #[{ accessFlags := 1, nameIndex := 5, descriptorIndex := 6, attributes := #[] }] 49 2 #[1106, 1108, 575, 1110, 1112] #[{ accessFlags := 18, nameIndex := 13, descriptorIndex := 14, attributes := #[] }, { accessFlags := 18, nameIndex := 17, descriptorIndex := 18, attributes := #[] }, { accessFlags := 2, nameIndex := 21, descriptorIndex := 22, attributes := #[] }, { accessFlags := 2, nameIndex := 25, descriptorIndex := 26, attributes := #[] }, { accessFlags := 26, nameIndex := 1116, descriptorIndex := 1117, attributes := #[] }, { accessFlags := 24, nameIndex := 40, descriptorIndex := 26, attributes := #[] }, { accessFlags := 26, nameIndex := 1101, descriptorIndex := 1102, attributes := #[] }, { accessFlags := 26, nameIndex := 1121, descriptorIndex := 1122, attributes := #[] }, { accessFlags := 25, nameIndex := 599, descriptorIndex := 600, attributes := #[] }, { accessFlags := 24, nameIndex := 1125, descriptorIndex := 18, attributes := #[] }, { accessFlags := 24, nameIndex := 1127, descriptorIndex := 18, attributes := #[] }])
  fields := #[{ name := "value", type := (.array .byte), accessFlags := 18, slot := 0, constantValue := 0 }, { name := "coder", type := .byte, accessFlags := 18, slot := 1, constantValue := 0 }, { name := "hash", type := .int, accessFlags := 2, slot := 2, constantValue := 0 }, { name := "hashIsZero", type := .boolean, accessFlags := 2, slot := 3, constantValue := 0 }, { name := "serialVersionUID", type := .long, accessFlags := 26, slot := 0, constantValue := 0 }, { name := "COMPACT_STRINGS", type := .boolean, accessFlags := 24, slot := 1, constantValue := 0 }, { name := "serialPersistentFields", type := (.array (.object "java/io/ObjectStreamField")), accessFlags := 26, slot := 2, constantValue := 0 }, { name := "REPL", type := .char, accessFlags := 26, slot := 3, constantValue := 0 }, { name := "CASE_INSENSITIVE_ORDER", type := (.object "java/util/Comparator"), accessFlags := 25, slot := 4, constantValue := 0 }, { name := "LATIN1", type := .byte, accessFlags := 24, slot := 5, constantValue := 0 }, { name := "UTF16", type := .byte, accessFlags := 24, slot := 6, constantValue := 0 }]
  methods := #[k9m0]
  instanceTypes := #[(.array .byte), .byte, .int, .boolean]
  staticTypes := #[.long, .boolean, (.array (.object "java/io/ObjectStreamField")), .char, (.object "java/util/Comparator"), .byte, .byte]
  resolved := Array.replicate 1451 none
  statics := none }

def pool10 : Array CpInfo := pool [(1, u "java/lang/Cloneable"), (0, .class_ 1), (0, u "java/lang/Object"), (0, .class_ 3)] 3

/-- java/lang/Cloneable -/
def k10 : Class := { plain "java/lang/Cloneable" (some 0) with
  accessFlags := 1537
  interfaces := #[]
  cf := some (fileOf pool10 2 #[] #[] 1537 4 #[] #[])
  fields := #[]
  methods := #[]
  instanceTypes := #[]
  staticTypes := #[]
  resolved := Array.replicate 8 none
  statics := none }

/-- the primitive byte -/
def k11 : Class := { plain "byte" none with kind := .primitive 'B', accessFlags := 0x411 }
/-- [B -/
def k12 : Class := { plain "[B" (some 0) with kind := .array 11 .byte, interfaces := #[10, 4], accessFlags := 1041 }

/-- the primitive int -/
def k13 : Class := { plain "int" none with kind := .primitive 'I', accessFlags := 0x411 }
/-- [I -/
def k14 : Class := { plain "[I" (some 0) with kind := .array 13 .int, interfaces := #[10, 4], accessFlags := 1041 }

def heap : Heap := #[]
def classes : Array Class := #[k0, k1, k2, k3, k4, k5, k6, k7, k8, k9, k10, k11, k12, k13, k14]
def interned : List (Array UInt16 × Addr) := []
def slotsUsed : Nat := 0
def theMethod : MethodId := ⟨1, 2⟩
def args0 : Array Value := #[.int 5, .int 3, .int 7]
def aboutOver (below : List Frame) : State where
  vm := { classes := classes, interned := interned.toArray }
  heap := heap
  slotsUsed := slotsUsed
  threads := #[{ frames := .invoking theMethod args0 :: below }]
def below0 : List Frame := [.native { method := ⟨0, 0⟩, args := #[] }]
def about1 : State := aboutOver below0
def p0 : Program := .bare "" "" ""
def e0 : Env := launch0.env 0 0 0
theorem w_frames : about1.frames = Frame.invoking theMethod args0 :: below0 := rfl
set_option maxRecDepth 65536 in
theorem w_args : argsFit about1.vm theMethod args0 = true := by decide +kernel
set_option maxRecDepth 65536 in
theorem w_heap : heapFits about1 = true := by decide +kernel
set_option maxRecDepth 65536 in
theorem w_runnable : about1.curStatus? = some .runnable := by decide +kernel
set_option maxRecDepth 65536 in
theorem w_alone : about1.alone = true := by decide +kernel
set_option maxRecDepth 65536 in
theorem w_named : about1.methodNamed? x = some theMethod := by decide +kernel
set_option maxRecDepth 65536 in
theorem w_hears : about1.hears theMethod below0 = true := by decide +kernel
set_option maxRecDepth 65536 in
theorem w_ripe : about1.ripe theMethod args0 below0 = true := by decide +kernel
theorem w_running : about1.status = .running := rfl
set_option maxRecDepth 65536 in
theorem w_room : about1.hasRoom e0.platform room_1 = true :=
  launch0.hasRoom_least _ room_1 (by decide +kernel) (by decide +kernel) (by decide +kernel) (by decide +kernel) (by decide +kernel) (by decide +kernel)
theorem allAtoms_all (ts : List Jvm.Cond) (a : Array Jvm.Value) (st : Jvm.State) : (allAtoms ts).before a st = ts.all (fun c => c.before a st) := by
  induction ts with
  | nil => rfl
  | cons c t ih =>
    show (Jvm.Cond.and c (allAtoms t)).before a st = _
    rw [Jvm.Cond.before_and, ih, List.all_cons]
def words1 : List Jvm.Cond := Jvm.Cond.code x code maxLocals ret :: tables_1
/-- a 'code' word, met by the world's own term for the bytes: nothing is compared byte by byte -/
theorem code_word {y : MethodName} {bytes : ByteArray} {mx : Nat} {rt : Option FieldType} {a : Array Value} {s : State} {m : MethodId} {meth : Method} {c : Code} (h1 : s.methodNamed? y = some m) (h2 : s.vm.method? m = some meth) (h3 : meth.code = some c) (h4 : c.code = bytes)
    (h5 : (c.maxLocals == mx && c.exceptionTable.isEmpty && decide (c.maxStack ≤ mostOperands) && decide (meth.sig.returnType = rt) && !meth.locks && decide (parseMethodDescriptor y.desc = some meth.sig)) = true) : (Jvm.Cond.code y bytes mx rt).before a s = true := by
  simp only [Bool.and_eq_true, beq_iff_eq, Bool.not_eq_true', decide_eq_true_eq] at h5
  obtain ⟨⟨⟨⟨⟨g1, g2⟩, g3⟩, g4⟩, g5⟩, g6⟩ := h5
  simp [Cond.before, Cond.holds, Cond.value, h1, h2, h3, h4, g1, g2, g3, g4, g5, g6]
def isCode : Jvm.Cond → Bool
  | .code _ _ _ _ => true
  | _ => false
theorem all_split {L : List Jvm.Cond} {P : Jvm.Cond → Bool} (h1 : L.all (fun c => isCode c || P c) = true) (h2 : ∀ c ∈ L.filter isCode, P c = true) : L.all P = true := by
  refine List.all_eq_true.mpr fun c hc => ?_
  have h := List.all_eq_true.mp h1 c hc
  rcases Bool.eq_false_or_eq_true (isCode c) with hi | hi
  · exact h2 c (List.mem_filter.mpr ⟨hc, hi⟩)
  · simpa [hi] using h
set_option maxRecDepth 65536 in
theorem w_c0 : (Jvm.Cond.code x code maxLocals ret).before args0 about1 = true := code_word (m := ⟨1, 2⟩) (meth := k1m2) (c := k1c2) (by decide +kernel) rfl rfl rfl (by decide +kernel)
set_option maxRecDepth 65536 in
theorem w_c1 : (Jvm.Cond.code ({ cls := "com/example/manoa/manoa/model/PrimaryDeviceType", name := "<init>", desc := "(III)V" } : Jvm.MethodName) prog_92_method_1_code (4 : Nat) (Option.none : Option Jvm.ClassFile.FieldType)).before args0 about1 = true := code_word (m := ⟨3, 0⟩) (meth := k3m0) (c := k3c0) (by decide +kernel) rfl rfl rfl (by decide +kernel)
set_option maxRecDepth 65536 in
theorem w_c2 : (Jvm.Cond.code ({ cls := "java/lang/Record", name := "<init>", desc := "()V" } : Jvm.MethodName) jdk_30_method_1_code (1 : Nat) (Option.none : Option Jvm.ClassFile.FieldType)).before args0 about1 = true := code_word (m := ⟨2, 0⟩) (meth := k2m0) (c := k2c0) (by decide +kernel) rfl rfl rfl (by decide +kernel)
set_option maxRecDepth 65536 in
theorem w_c3 : (Jvm.Cond.code ({ cls := "java/lang/Object", name := "<init>", desc := "()V" } : Jvm.MethodName) object_method_1_code (1 : Nat) (Option.none : Option Jvm.ClassFile.FieldType)).before args0 about1 = true := code_word (m := ⟨0, 0⟩) (meth := k0m0) (c := k0c0) (by decide +kernel) rfl rfl rfl (by decide +kernel)
set_option maxRecDepth 65536 in
theorem w_c4 : (Jvm.Cond.code ({ cls := "com/example/manoa/manoa/model/PrimaryDeviceType", name := "checkU16", desc := "(Ljava/lang/String;I)V" } : Jvm.MethodName) prog_92_method_6_code (2 : Nat) (Option.none : Option Jvm.ClassFile.FieldType)).before args0 about1 = true := code_word (m := ⟨3, 2⟩) (meth := k3m2) (c := k3c2) (by decide +kernel) rfl rfl rfl (by decide +kernel)
set_option maxRecDepth 65536 in
theorem w_c5 : (Jvm.Cond.code ({ cls := "com/example/manoa/manoa/model/PrimaryDeviceType", name := "toBytes", desc := "()[B" } : Jvm.MethodName) prog_92_method_4_code (1 : Nat) (Option.some (Jvm.ClassFile.FieldType.array Jvm.ClassFile.FieldType.byte))).before args0 about1 = true := code_word (m := ⟨3, 1⟩) (meth := k3m1) (c := k3c1) (by decide +kernel) rfl rfl rfl (by decide +kernel)
set_option maxRecDepth 65536 in
theorem w_c6 : (Jvm.Cond.code ({ cls := "com/example/manoa/manoa/model/PrimaryDeviceTypeToBytesPinLaw", name := "u", desc := "(B)I" } : Jvm.MethodName) method_2_code (1 : Nat) (Option.some Jvm.ClassFile.FieldType.int)).before args0 about1 = true := code_word (m := ⟨1, 1⟩) (meth := k1m1) (c := k1c1) (by decide +kernel) rfl rfl rfl (by decide +kernel)
def codes1 : List Jvm.Cond := [Jvm.Cond.code x code maxLocals ret, Jvm.Cond.code ({ cls := "com/example/manoa/manoa/model/PrimaryDeviceType", name := "<init>", desc := "(III)V" } : Jvm.MethodName) prog_92_method_1_code (4 : Nat) (Option.none : Option Jvm.ClassFile.FieldType), Jvm.Cond.code ({ cls := "java/lang/Record", name := "<init>", desc := "()V" } : Jvm.MethodName) jdk_30_method_1_code (1 : Nat) (Option.none : Option Jvm.ClassFile.FieldType), Jvm.Cond.code ({ cls := "java/lang/Object", name := "<init>", desc := "()V" } : Jvm.MethodName) object_method_1_code (1 : Nat) (Option.none : Option Jvm.ClassFile.FieldType), Jvm.Cond.code ({ cls := "com/example/manoa/manoa/model/PrimaryDeviceType", name := "checkU16", desc := "(Ljava/lang/String;I)V" } : Jvm.MethodName) prog_92_method_6_code (2 : Nat) (Option.none : Option Jvm.ClassFile.FieldType), Jvm.Cond.code ({ cls := "com/example/manoa/manoa/model/PrimaryDeviceType", name := "toBytes", desc := "()[B" } : Jvm.MethodName) prog_92_method_4_code (1 : Nat) (Option.some (Jvm.ClassFile.FieldType.array Jvm.ClassFile.FieldType.byte)), Jvm.Cond.code ({ cls := "com/example/manoa/manoa/model/PrimaryDeviceTypeToBytesPinLaw", name := "u", desc := "(B)I" } : Jvm.MethodName) method_2_code (1 : Nat) (Option.some Jvm.ClassFile.FieldType.int)]
set_option maxRecDepth 65536 in
theorem codes_eq : words1.filter isCode = codes1 := rfl
theorem w_codes : ∀ c ∈ words1.filter isCode, c.before args0 about1 = true := by
  rw [codes_eq]
  intro c hc
  simp only [codes1, List.mem_cons, List.not_mem_nil, or_false] at hc
  rcases hc with rfl | rfl | rfl | rfl | rfl | rfl | rfl
  · exact w_c0
  · exact w_c1
  · exact w_c2
  · exact w_c3
  · exact w_c4
  · exact w_c5
  · exact w_c6
set_option maxRecDepth 65536 in
theorem w_t1 : (words1.take 24).all (fun c => isCode c || c.before args0 about1) = true := by decide +kernel
set_option maxRecDepth 65536 in
theorem w_t2 : (words1.drop 24).all (fun c => isCode c || c.before args0 about1) = true := by decide +kernel
theorem w_tables : (allAtoms (Jvm.Cond.code x code maxLocals ret :: tables_1)).before args0 about1 = true := by
  rw [allAtoms_all]
  show words1.all (fun c => c.before args0 about1) = true
  refine all_split ?_ w_codes
  rw [← List.take_append_drop 24 words1, List.all_append, w_t1, w_t2]
  rfl
set_option maxRecDepth 65536 in
theorem w_case : (Jvm.Cond.and given_1 narrow_1).before args0 about1 = true := by decide +kernel
theorem w_applies : (headSpec (Jvm.Cond.code x code maxLocals ret :: tables_1) room_1).applies x e0.platform about1 = true :=
  (Spec.applies_iff w_frames).mpr ⟨w_running, w_runnable, w_alone, w_named, w_hears, w_ripe, w_room, w_tables⟩
theorem atStart : AtStart classFile x code maxLocals ret World_1 tables_1 room_1 Calls_1 rest_1 Pre_1 launch0 p0 e0 about1 theMethod args0 below0 :=
  ⟨lists_1, trivial, launch0.admits_env _ _ _, launch0.least_env, fairChoices_fair.cas, fairChoices_fair.clock, w_frames, w_args, w_heap, w_applies, trivial, trivial, w_case⟩
end start1
theorem witness_1 : WitnessClaimed_1 := ⟨start1.p0, start1.e0, start1.about1, start1.theMethod, start1.args0, start1.below0, start1.atStart⟩
end Jvm.Pilot.@@N@@
