import JvmDerived
import JvmDerived.Pilot.@@N@@Statement
import JvmDerived.Pilot.@@N@@Code
set_option linter.unusedVariables false
set_option linter.unusedSimpArgs false
/-! ## A small machine: its steps are plain functions; one theorem carries its runs to the model's -/
namespace Jvm.MV
open Jvm Jvm.ClassFile Sem Op Lib Jvm.Free Jvm.Stand Jvm.LawKit Jvm.RoadKit Bundle
abbrev MH : Type := List (Nat × List Value)
abbrev MS : Type := Nat × List Slot × List Value × MH
abbrev MR : Type := Option Value × MH
abbrev Orc : Type := Nat → List Value → MH → Option MR
abbrev MOp : Type := Orc → List Slot → List Value → MH → Option (MS ⊕ MR)
abbrev POp : Type := List Slot → List Value → Option (Nat × List Slot × List Value)
abbrev Tab : Type := List (FieldType × Nat × List (String × String × String × FieldType))
abbrev Meths : Type := List (Nat × List (Nat × MOp))
def lift (g : POp) : MOp := fun _ L S H => match g L S with
  | some (n, L', S') => some (.inl (n, L', S', H))
  | none => none
def look : List (Nat × MOp) → Nat → Option MOp
  | [], _ => none
  | (q, f) :: r, pc => match Nat.beq q pc with
    | true => some f
    | false => look r pc
def mrun (call : Orc) (code : List (Nat × MOp)) : Nat → MS → Option MR
  | 0, _ => none
  | n + 1, (pc, L, S, H) => match look code pc with
    | none => none
    | some f => match f call L S H with
      | none => none
      | some (.inl st) => mrun call code n st
      | some (.inr r) => some r
def loc : List Value → List Slot
  | [] => []
  | v :: r => if v.category = 2 then .val v :: .second :: loc r else .val v :: loc r
def mloc (as : List Value) (n : Nat) : List Slot := loc as ++ List.replicate (n - (loc as).length) .unset
def callN (D : Meths) (F : Nat) : Nat → Orc
  | 0 => fun _ _ _ => none
  | k + 1 => fun μ as H => match D[μ]? with
    | none => none
    | some (n, code) => if (loc as).length ≤ n then mrun (callN D F k) code F (0, mloc as n, [], H) else none
def Le (c c' : Orc) : Prop := ∀ μ as H r, c μ as H = some r → c' μ as H = some r
def Mono (f : MOp) : Prop := ∀ c c' L S H r, Le c c' → f c L S H = some r → f c' L S H = some r
theorem mono_lift (g : POp) : Mono (lift g) := fun _ _ _ _ _ _ _ h => h
theorem look_mem {code : List (Nat × MOp)} {pc : Nat} {f : MOp} (h : look code pc = some f) : (pc, f) ∈ code := by
  induction code with
  | nil => cases h
  | cons q r ih =>
    obtain ⟨q, f'⟩ := q
    simp only [look] at h
    cases hb : Nat.beq q pc with
    | true =>
      rw [hb] at h
      cases h
      cases Nat.eq_of_beq_eq_true hb
      exact List.mem_cons_self ..
    | false =>
      rw [hb] at h
      exact List.mem_cons_of_mem _ (ih h)
theorem mrun_mono {code : List (Nat × MOp)} (hm : ∀ q ∈ code, Mono q.2) {c c' : Orc} (hl : Le c c') : ∀ n n' st r, n ≤ n' → mrun c code n st = some r → mrun c' code n' st = some r
  | 0, _, _, _, _, h => by cases h
  | n + 1, 0, _, _, hn, _ => by omega
  | n + 1, n' + 1, (pc, L, S, H), r, hn, h => by
    simp only [mrun] at h ⊢
    cases hk : look code pc with
    | none => simp [hk] at h
    | some f =>
      simp only [hk] at h ⊢
      cases hf : f c L S H with
      | none => simp [hf] at h
      | some q =>
        rw [hf] at h
        have hm' : f c' L S H = some q := hm _ (look_mem hk) c c' L S H q hl hf
        rw [hm']
        cases q with
        | inl st => exact mrun_mono hm hl n n' st r (by omega) h
        | inr r' => exact h
theorem callN_mono {D : Meths} (hD : ∀ q ∈ D, ∀ w ∈ q.2, Mono w.2) {F F' : Nat} (hF : F ≤ F') : ∀ k k', k ≤ k' → Le (callN D F k) (callN D F' k')
  | 0, _, _ => fun _ _ _ _ h => by cases h
  | k + 1, 0, h => by omega
  | k + 1, k' + 1, hk => fun μ as H r h => by
    simp only [callN] at h ⊢
    cases hq : D[μ]? with
    | none => simp [hq] at h
    | some q =>
      obtain ⟨n, code⟩ := q
      simp only [hq] at h ⊢
      split at h
      · rw [if_pos (by assumption)]
        exact mrun_mono (hD _ (List.mem_of_getElem? hq)) (callN_mono hD hF k k' (by omega)) F F' _ r hF h
      · cases h
/-! what it means to end with r -/
def Eval (D : Meths) (μ : Nat) (as : List Value) (H : MH) (r : MR) : Prop := ∃ F k, callN D F k μ as H = some r
def Go (D : Meths) (code : List (Nat × MOp)) (st : MS) (r : MR) : Prop := ∃ F k n, mrun (callN D F k) code n st = some r
section Rules
variable {D : Meths} {code : List (Nat × MOp)} {pc : Nat} {L : List Slot} {S : List Value} {H : MH} {f : MOp} {st' : MS} {r : MR}
theorem Go.step (hl : look code pc = some f) (hf : ∀ c, f c L S H = some (.inl st')) (h : Go D code st' r) : Go D code (pc, L, S, H) r := by
  obtain ⟨F, k, n, h⟩ := h
  exact ⟨F, k, n + 1, by simp only [mrun, hl, hf]; exact h⟩
theorem Go.ret (hl : look code pc = some f) (hf : ∀ c, f c L S H = some (.inr r)) : Go D code (pc, L, S, H) r :=
  ⟨0, 0, 1, by simp only [mrun, hl, hf]⟩
theorem Go.call (hD : ∀ q ∈ D, ∀ w ∈ q.2, Mono w.2) (hc : ∀ w ∈ code, Mono w.2) {μ : Nat} {as : List Value} {H1 : MH} {r1 : MR} (hE : Eval D μ as H1 r1) (hl : look code pc = some f) (hf : ∀ c : Orc, c μ as H1 = some r1 → f c L S H = some (.inl st')) (h : Go D code st' r) : Go D code (pc, L, S, H) r := by
  obtain ⟨F, k, n, h⟩ := h
  obtain ⟨F1, k1, h1⟩ := hE
  have m1 := callN_mono hD (Nat.le_max_left F F1) k (max k k1) (Nat.le_max_left ..)
  have m2 := callN_mono hD (Nat.le_max_right F F1) k1 (max k k1) (Nat.le_max_right ..)
  refine ⟨max F F1, max k k1, n + 1, ?_⟩
  simp only [mrun, hl, hf _ (m2 _ _ _ _ h1)]
  exact mrun_mono hc m1 n n _ _ (Nat.le_refl _) h
theorem Eval.intro (hD : ∀ q ∈ D, ∀ w ∈ q.2, Mono w.2) {μ : Nat} {as : List Value} {n : Nat} (hq : D[μ]? = some (n, code)) (hn : (loc as).length ≤ n) (h : Go D code (0, mloc as n, [], H) r) : Eval D μ as H r := by
  obtain ⟨F, k, n', h⟩ := h
  refine ⟨max F n', k + 1, ?_⟩
  simp only [callN, hq, if_pos hn]
  exact mrun_mono (hD _ (List.mem_of_getElem? hq)) (callN_mono hD (Nat.le_max_left ..) k k (Nat.le_refl _)) _ _ _ _ (Nat.le_max_right ..) h
end Rules
/-! ### the plain steps -/
def mset (L : List Slot) (k : Nat) (v : Value) : Option (List Slot) := match L[k]? with
  | some .unset => some (L.set k (.val v))
  | some (.val w) => match w.category with
    | 1 => some (L.set k (.val v))
    | _ => none
  | _ => none
def mset2 (L : List Slot) (k : Nat) (v : Value) : Option (List Slot) := match L[k]? with
  | some .unset => match L[k + 1]? with
    | some .unset => some ((L.set k (.val v)).set (k + 1) .second)
    | _ => none
  | _ => none
def pIld (k n : Nat) : POp := fun L S => match L[k]? with
  | some (.val (.int x)) => some (n, L, .int x :: S)
  | _ => none
def pLld (k n : Nat) : POp := fun L S => match L[k]? with
  | some (.val (.long x)) => some (n, L, .long x :: S)
  | _ => none
def pAld (k n : Nat) : POp := fun L S => match L[k]? with
  | some (.val (.ref x)) => some (n, L, .ref x :: S)
  | some (.val .null) => some (n, L, .null :: S)
  | _ => none
def pIst (k n : Nat) : POp := fun L S => match S with
  | .int x :: S' => match mset L k (.int x) with
    | some L' => some (n, L', S')
    | none => none
  | _ => none
def pLst (k n : Nat) : POp := fun L S => match S with
  | .long x :: S' => match mset2 L k (.long x) with
    | some L' => some (n, L', S')
    | none => none
  | _ => none
def pAst (k n : Nat) : POp := fun L S => match S with
  | .ref x :: S' => match mset L k (.ref x) with
    | some L' => some (n, L', S')
    | none => none
  | .null :: S' => match mset L k .null with
    | some L' => some (n, L', S')
    | none => none
  | _ => none
def pInt (x : Int32) (n : Nat) : POp := fun L S => some (n, L, .int x :: S)
def pLong (x : Int64) (n : Nat) : POp := fun L S => some (n, L, .long x :: S)
def pNull (n : Nat) : POp := fun L S => some (n, L, .null :: S)
def pBin (g : Int32 → Int32 → Int32) (n : Nat) : POp := fun L S => match S with
  | .int y :: .int x :: S' => some (n, L, .int (g x y) :: S')
  | _ => none
def pRem (n : Nat) : POp := fun L S => match S with
  | .int y :: .int x :: S' => if y = 0 then none else some (n, L, .int (x % y) :: S')
  | _ => none
def pUn (g : Int32 → Int32) (n : Nat) : POp := fun L S => match S with
  | .int x :: S' => some (n, L, .int (g x) :: S')
  | _ => none
def pI2L (n : Nat) : POp := fun L S => match S with
  | .int x :: S' => some (n, L, .long x.toInt64 :: S')
  | _ => none
def pLBin (g : Int64 → Int64 → Int64) (n : Nat) : POp := fun L S => match S with
  | .long y :: .long x :: S' => some (n, L, .long (g x y) :: S')
  | _ => none
def pLsh (g : Int64 → Int32 → Int64) (n : Nat) : POp := fun L S => match S with
  | .int y :: .long x :: S' => some (n, L, .long (g x y) :: S')
  | _ => none
def pLcmp (n : Nat) : POp := fun L S => match S with
  | .long y :: .long x :: S' => some (n, L, .int (XT.cmpL x y) :: S')
  | _ => none
def pInc (k : Nat) (d : Int32) (n : Nat) : POp := fun L S => match L[k]? with
  | some (.val (.int x)) => some (n, L.set k (.val (.int (x + d))), S)
  | _ => none
def pGoto (t : Nat) : POp := fun L S => some (t, L, S)
def pIf (cd : ClassFile.Cond) (t n : Nat) : POp := fun L S => match S with
  | .int x :: S' => match ifCond.holds cd x with
    | true => some (t, L, S')
    | false => some (n, L, S')
  | _ => none
def pIcmp (cd : ClassFile.Cond) (t n : Nat) : POp := fun L S => match S with
  | .int y :: .int x :: S' => match if_icmp.holds cd x y with
    | true => some (t, L, S')
    | false => some (n, L, S')
  | _ => none
def pNullYes (t n : Nat) : POp := fun L S => match S with
  | .null :: S' => some (t, L, S')
  | .ref _ :: S' => some (n, L, S')
  | _ => none
def pDup (n : Nat) : POp := fun L S => match S with
  | x :: S' => match x.category with
    | 1 => some (n, L, x :: x :: S')
    | _ => none
  | _ => none
def pPop (n : Nat) : POp := fun L S => match S with
  | x :: S' => match x.category with
    | 1 => some (n, L, S')
    | _ => none
  | _ => none
def pDupX1 (n : Nat) : POp := fun L S => match S with
  | x :: y :: S' => match x.category, y.category with
    | 1, 1 => some (n, L, x :: y :: x :: S')
    | _, _ => none
  | _ => none
def pDup2 (n : Nat) : POp := fun L S => match S with
  | x :: y :: S' => match x.category, y.category with
    | 1, 1 => some (n, L, x :: y :: x :: y :: S')
    | _, _ => none
  | _ => none
def pDupX2 (n : Nat) : POp := fun L S => match S with
  | x :: y :: z :: S' => match x.category, y.category, z.category with
    | 1, 1, 1 => some (n, L, x :: y :: z :: x :: S')
    | _, _, _ => none
  | _ => none
/-- which of two references are one: below xl two places may be one object -/
def same (xl : Nat) : Value → Value → Option Bool
  | .null, .null => some true
  | .null, .ref _ => some false
  | .ref _, .null => some false
  | .ref i, .ref j => match Nat.beq i j with
    | true => some true
    | false => match Nat.ble xl i || Nat.ble xl j with
      | true => some false
      | false => none
  | _, _ => none
def pAcmp (xl : Nat) (t n : Nat) : POp := fun L S => match S with
  | y :: x :: S' => match same xl x y with
    | some true => some (t, L, S')
    | some false => some (n, L, S')
    | none => none
  | _ => none
def oRetI (t : FieldType) : MOp := fun _ _ S H => match S with
  | .int x :: _ => some (.inr (some (.int (nar t x)), H))
  | _ => none
def oRetL : MOp := fun _ _ S H => match S with
  | [.long x] => some (.inr (some (.long x), H))
  | _ => none
def oRetA : MOp := fun _ _ S H => match S with
  | .ref x :: _ => some (.inr (some (.ref x), H))
  | .null :: _ => some (.inr (some .null, H))
  | _ => none
def oRet : MOp := fun _ _ S H => match S with
  | [] => some (.inr (none, H))
  | _ => none
def wt (S : List Value) : Nat := (S.map fun v => v.category).sum
def oCall (μ na W n : Nat) : MOp := fun call L S H =>
  if na ≤ S.length ∧ wt (S.drop na) ≤ W then match call μ (S.take na).reverse H with
    | some (v, H') => some (.inl (n, L, v.toList ++ S.drop na, H'))
    | none => none
  else none
end Jvm.MV
namespace Jvm.MV
open Jvm Jvm.ClassFile Sem Op Lib Jvm.Free Jvm.Stand Jvm.LawKit Jvm.RoadKit Bundle
/-! ### the small machine's places and the model's -/
abbrev MI : Type := MethodName × ByteArray × Nat × Option FieldType × Nat × Nat
section Real
variable (Z : State) (X : List Addr) (CT : Tab)
def ph (i : Nat) : Nat := match X[i]? with
  | some a => a
  | none => Z.heap.size + (i - X.length)
def ab : Value → Value
  | .ref i => .ref (ph Z X i)
  | v => v
def abS : Slot → Slot
  | .val v => .val (ab Z X v)
  | s => s
abbrev fra (m : MethodId) (pc : Nat) (L : List Slot) (S : List Value) : JFrame := mkF m pc ((L.map (abS Z X)).toArray) (S.map (ab Z X))
def OvT (cA : ClassId) (t : FieldType) : Prop := (∀ C, t = .object C → Ovr Z cA C) ∧ ∀ u, t = .array u → OvrA Z cA u (FieldType.array u).toString
def CellOk (h : Heap) (a : Addr) (k : Nat) (vs : List Value) : Prop := match CT[k]? with
  | some (.array t, n, _) => ∃ c, Arr Z h a c t ∧ c.slots = (vs.map (ab Z X)).toArray ∧ (n = 1 → Exa Z h a ("[" ++ t.toString)) ∧ (n = 1 → OvT Z c.cls t)
  | some (.object C, _, fs) => Exa Z h a C ∧ vs.length = fs.length ∧ ∀ (j : Nat) (O nm d : String) (ty : FieldType) (v : Value), fs[j]? = some (O, nm, d, ty) → vs[j]? = some v → Fld Z h a O nm d (ab Z X v)
  | _ => False
def Rep (h : Heap) (H : MH) : Prop := X.length ≤ H.length ∧ h.size = Z.heap.size + (H.length - X.length) ∧ (∀ a : Nat, a < Z.heap.size → h[a]? = Z.heap[a]?) ∧ ∀ (i k : Nat) (vs : List Value), H[i]? = some (k, vs) → CellOk Z X CT h (ph Z X i) k vs
def szc (q : Nat × List Value) : Nat := match CT[q.1]? with
  | some (.array _, _, _) => q.2.length
  | some (_, n, _) => n
  | none => 0
def sz (H : MH) : Nat := (H.map (szc CT)).sum
def Sit (p : Program) (l : Launch) (e : Env) (R : Room) (s : State) (m : MethodId) (args : Array Value) (below : List Frame) (meth : Method) (c : Code) (H0 : MH) (T : State) (L : List Slot) (H : MH) : Prop :=
  ∃ locs, Stand p l e R s m args below meth c T locs (H.length - H0.length) (sz CT H - sz CT H0) ∧ Rep Z X CT T.heap H ∧ Fr Z.heap.size locs ∧ L.length = c.maxLocals ∧ H0.length ≤ H.length ∧ sz CT H0 ≤ sz CT H ∧ s.heap.size = Z.heap.size + (H0.length - X.length) ∧ X.length ≤ H0.length
def Con (l : Launch) (M : MI) (as : List Value) (H : MH) (v : Option Value) (H' : MH) : Prop :=
  ∀ h0, Rep Z X CT h0 H → MetFree l M.1 (head1 [Jvm.Cond.code M.1 M.2.1 M.2.2.1 M.2.2.2.1] ({ frames := M.2.2.2.2.1, cells := H'.length - H.length, slots := sz CT H' - sz CT H, locals := M.2.2.2.2.2 } : Room))
    (fun a U => a = (as.map (ab Z X)).toArray ∧ Z.Warmed39 U.vm ∧ U.heap = h0) (fun _ _ _ _ _ => True)
    (fun _ U o U' => ∃ w L, o = .returned w ∧ (w = v.map (ab Z X) ∧ Fr Z.heap.size L ∧ Rep Z X CT U'.heap H') ∧ FrameEnd U o U' L (H'.length - H.length) (sz CT H' - sz CT H))
def Up (H : MH) (H' : MH) : Prop := H.length ≤ H'.length ∧ sz CT H ≤ sz CT H'
def OSnd (l : Launch) (MT : List MI) (call : Orc) : Prop := ∀ (μ : Nat) (as : List Value) (H : MH) (v : Option Value) (H' : MH), call μ as H = some (v, H') → Up CT H H' ∧ ∃ M, MT[μ]? = some M ∧ Con Z X CT l M as H v H'
/-- where a step leads -/
def Nxt (p : Program) (l : Launch) (e : Env) (R : Room) (s : State) (m : MethodId) (args : Array Value) (below : List Frame) (meth : Method) (c : Code) (H0 Hf : MH) (pc : Nat) (T : State) (L : List Slot) (S : List Value) (H : MH) : MS ⊕ MR → Prop
  | .inl (pc', L', S', H') => (H'.length ≤ Hf.length → sz CT H' ≤ sz CT Hf → ∃ T', Sit Z X CT p l e R s m args below meth c H0 T' L' H' ∧ ∀ target, Steps p.tables e below (T'.setTop (fra Z X m pc' L' S')) target → Steps p.tables e below (T.setTop (fra Z X m pc L S)) target)
  | .inr (v, H') => H' = H ∧ ∃ s₂, Steps p.tables e below (T.setTop (fra Z X m pc L S)) s₂ ∧ s₂.status = .running ∧ Ended s₂ below (.returned (v.map (ab Z X))) ∧ (∃ L', Fr Z.heap.size L' ∧ FrameEnd s (.returned (v.map (ab Z X))) s₂ L' (H.length - H0.length) (sz CT H - sz CT H0)) ∧ Rep Z X CT s₂.heap H
def hOf : MS ⊕ MR → MH
  | .inl (_, _, _, H') => H'
  | .inr (_, H') => H'
def Grow (f : MOp) : Prop := ∀ call L S H r, (∀ μ as H v H', call μ as H = some (v, H') → Up CT H H') → f call L S H = some r → Up CT H (hOf r)
def Sound (l : Launch) (MT : List MI) (M : MI) (pc : Nat) (f : MOp) : Prop := Mono f ∧ Grow CT f ∧
  ∀ (p : Program) (e : Env) (R : Room) (s : State) (m : MethodId) (args : Array Value) (below : List Frame) (meth : Method) (c : Code), p.tables.exec = Jvm.exec → Z.Warmed39 s.vm → s.vm.findClass M.1.cls = some m.cls → c.code = M.2.1 → meth.name = M.1.name → meth.sig.returnType = M.2.2.2.1 → meth.locks = false → M.2.2.2.2.1 ≤ R.frames → M.2.2.2.2.2 ≤ R.locals →
    ∀ call : Orc, OSnd Z X CT l MT call → ∀ H0 Hf : MH, Hf.length - H0.length ≤ R.cells → sz CT Hf - sz CT H0 ≤ R.slots → ∀ T L S H, Sit Z X CT p l e R s m args below meth c H0 T L H → ∀ r, f call L S H = some r → Nxt Z X CT p l e R s m args below meth c H0 Hf pc T L S H r
end Real
section Proofs
variable {Z : State} {X : List Addr} {CT : Tab} {l : Launch} {MT : List MI} {M : MI}
theorem mrun_grow {code : List (Nat × MOp)} {call : Orc} (hC : ∀ q ∈ code, Grow CT q.2) (hcall : ∀ μ as H v H', call μ as H = some (v, H') → Up CT H H') : ∀ n st r, mrun call code n st = some r → Up CT st.2.2.2 r.2
  | 0, _, _, h => by cases h
  | n + 1, (pc, L, S, H), r, h => by
    simp only [mrun] at h
    cases hk : look code pc with
    | none => simp [hk] at h
    | some f =>
      simp only [hk] at h
      cases hfr : f call L S H with
      | none => simp [hfr] at h
      | some q =>
        have g := hC _ (look_mem hk) call L S H q hcall hfr
        simp only [hfr] at h
        cases q with
        | inr r' => cases h; exact g
        | inl st =>
          obtain ⟨pc', L', S', H'⟩ := st
          have g2 := mrun_grow hC hcall n _ _ h
          exact ⟨Nat.le_trans g.1 g2.1, Nat.le_trans g.2 g2.2⟩
theorem run_sound {p : Program} {e : Env} {R : Room} {s : State} {m : MethodId} {args : Array Value} {below : List Frame} {meth : Method} {c : Code} {code : List (Nat × MOp)} {call : Orc} {H0 : MH}
    (hC : ∀ q ∈ code, Sound Z X CT l MT M q.1 q.2) (hx : p.tables.exec = Jvm.exec) (hZ : Z.Warmed39 s.vm) (hown : s.vm.findClass M.1.cls = some m.cls) (hby : c.code = M.2.1) (hnm : meth.name = M.1.name) (hret : meth.sig.returnType = M.2.2.2.1) (hlk : meth.locks = false) (hf : M.2.2.2.2.1 ≤ R.frames) (hl : M.2.2.2.2.2 ≤ R.locals) (hcall : OSnd Z X CT l MT call) {v : Option Value} {Hf : MH}
    (hRc : Hf.length - H0.length ≤ R.cells) (hRs : sz CT Hf - sz CT H0 ≤ R.slots) : ∀ n pc L S H T, mrun call code n (pc, L, S, H) = some (v, Hf) → Sit Z X CT p l e R s m args below meth c H0 T L H →
    ∃ s₂, Steps p.tables e below (T.setTop (fra Z X m pc L S)) s₂ ∧ s₂.status = .running ∧ Ended s₂ below (.returned (v.map (ab Z X))) ∧ (∃ L', Fr Z.heap.size L' ∧ FrameEnd s (.returned (v.map (ab Z X))) s₂ L' (Hf.length - H0.length) (sz CT Hf - sz CT H0)) ∧ Rep Z X CT s₂.heap Hf
  | 0, _, _, _, _, _, h, _ => by cases h
  | n + 1, pc, L, S, H, T, h, hs => by
    simp only [mrun] at h
    cases hk : look code pc with
    | none => simp [hk] at h
    | some f =>
      simp only [hk] at h
      cases hfr : f call L S H with
      | none => simp [hfr] at h
      | some r =>
        have q := (hC _ (look_mem hk)).2.2 p e R s m args below meth c hx hZ hown hby hnm hret hlk hf hl call hcall H0 Hf hRc hRs T L S H hs r hfr
        simp only [hfr] at h
        cases r with
        | inr r =>
          cases h
          obtain ⟨rfl, q⟩ := q
          exact q
        | inl st =>
          obtain ⟨pc', L', S', H'⟩ := st
          have g := mrun_grow (fun w hw => (hC w hw).2.1) (fun μ as H v H' hq => (hcall μ as H v H' hq).1) n _ _ h
          obtain ⟨T', hs', st⟩ := q g.1 g.2
          obtain ⟨s₂, k1, k2⟩ := run_sound hC hx hZ hown hby hnm hret hlk hf hl hcall hRc hRs n pc' L' S' H' T' h hs'
          exact ⟨s₂, st _ k1, k2⟩
/-! the method's entry -/
theorem loc_map (as : List Value) : loc (as.map (ab Z X)) = (loc as).map (abS Z X) := by
  induction as with
  | nil => rfl
  | cons v r ih =>
    have hc : (ab Z X v).category = v.category := by cases v <;> rfl
    simp only [List.map_cons, loc, hc]
    split <;> simp [ih, abS]
theorem loc_len (as : List Value) : (loc (as.map (ab Z X))).length = (loc as).length := by rw [loc_map]; simp
theorem locals_eq (as : List Value) (n : Nat) : argsToLocals as.toArray n = (mloc as n).toArray := by
  have h : ∀ (as : List Value) (acc : Array Slot), as.foldl (fun acc v => if v.category = 2 then (acc.push (.val v)).push .second else acc.push (.val v)) acc = acc ++ (loc as).toArray := by
    intro as
    induction as with
    | nil => intro acc; simp [loc]
    | cons v r ih =>
      intro acc
      simp only [List.foldl_cons, loc, ih]
      split <;> simp
  simp only [argsToLocals, mloc, List.foldl_toArray, h]
  simp
theorem mloc_map (as : List Value) (n : Nat) : mloc (as.map (ab Z X)) n = (mloc as n).map (abS Z X) := by
  simp only [mloc, loc_map, List.map_append, List.length_map, List.map_replicate, abS]
theorem entry_eq (m : MethodId) (as : List Value) (n : Nat) : entryFrame m (as.map (ab Z X)).toArray n = fra Z X m 0 (mloc as n) [] := by
  simp only [entryFrame, locals_eq, mloc_map, fra, mkF, List.map_nil]
theorem mloc_len {as : List Value} {n : Nat} (h : (loc as).length ≤ n) : (mloc as n).length = n := by
  simp only [mloc, List.length_append, List.length_replicate]; omega
theorem met_of_run {code : List (Nat × MOp)} {call : Orc} (hp : plainFor M.1 = true) (hC : ∀ q ∈ code, Sound Z X CT l MT M q.1 q.2) (hcall : OSnd Z X CT l MT call) {F : Nat} {as : List Value} {H Hf : MH} {v : Option Value} (hrun : mrun call code F (0, mloc as M.2.2.1, [], H) = some (v, Hf)) (hn : (loc as).length ≤ M.2.2.1)
    {R : Room} {ws : List Jvm.Cond} (hf : M.2.2.2.2.1 ≤ R.frames) (hl : M.2.2.2.2.2 ≤ R.locals) (hRc : Hf.length - H.length ≤ R.cells) (hRs : sz CT Hf - sz CT H ≤ R.slots) {h0 : Heap} (hrep : Rep Z X CT h0 H) :
    MetFree l M.1 (head1 (Jvm.Cond.code M.1 M.2.1 M.2.2.1 M.2.2.2.1 :: ws) R)
    (fun a U => a = (as.map (ab Z X)).toArray ∧ Z.Warmed39 U.vm ∧ U.heap = h0) (fun _ _ _ _ _ => True)
    (fun _ U o U' => ∃ w L, o = .returned w ∧ (w = v.map (ab Z X) ∧ Fr Z.heap.size L ∧ Rep Z X CT U'.heap Hf) ∧ FrameEnd U o U' L (Hf.length - H.length) (sz CT Hf - sz CT H)) := by
  refine MetFree.of_bodySF hp hisR ?_
  intro p e s m args below meth c s₁ Bd hml hP hK
  obtain ⟨rfl, hZ, hh⟩ := hP
  have X0 : Stand p l e R s m _ below meth c s₁ [] 0 0 := Stand.of_body Bd
  have e0 : s₁.heap = h0 := by rw [← hh, Bd.state]; rfl
  have hnm := (name_of_methodNamed Bd.named Bd.method).1
  have hS : Sit Z X CT p l e R s m (as.map (ab Z X)).toArray below meth c H s₁ (mloc as M.2.2.1) H := by
    refine ⟨[], ?_, by rw [e0]; exact hrep, Fr.nil _, by rw [hml]; exact mloc_len hn, Nat.le_refl _, Nat.le_refl _, by rw [hh]; exact hrep.2.1, hrep.1⟩
    rw [Nat.sub_self, Nat.sub_self]; exact X0
  obtain ⟨s₂, k1, k2, k3, ⟨L', k4, k5⟩, k6⟩ := run_sound hC Bd.exec hZ (findClass_of_methodNamed Bd.named) Bd.bytes hnm Bd.returns Bd.notSynchronized hf hl hcall hRc hRs F 0 (mloc as M.2.2.1) [] H s₁ hrun hS
  refine ⟨s₂, _, castTop (entry_eq m as M.2.2.1) k1, k2, k3, _, L', rfl, ⟨rfl, k4, k6⟩, k5⟩
theorem osnd_callN {D : Meths} (hlen : ∀ (μ n : Nat) (code : List (Nat × MOp)), D[μ]? = some (n, code) → ∃ M, MT[μ]? = some M ∧ M.2.2.1 = n ∧ plainFor M.1 = true ∧ ∀ q ∈ code, Sound Z X CT l MT M q.1 q.2) (F : Nat) : ∀ k, OSnd Z X CT l MT (callN D F k)
  | 0 => fun μ as H v H' h => by cases h
  | k + 1 => fun μ as H v H' h => by
    have ih := osnd_callN hlen F k
    simp only [callN] at h
    cases hq : D[μ]? with
    | none => simp [hq] at h
    | some q =>
      obtain ⟨n, code⟩ := q
      simp only [hq] at h
      split at h
      · rename_i hn
        obtain ⟨M, h1, rfl, h3, h4⟩ := hlen μ n code hq
        refine ⟨mrun_grow (fun w hw => (h4 w hw).2.1) (fun μ as H v H' hq => (ih μ as H v H' hq).1) F _ _ h, M, h1, fun h0 hrep => ?_⟩
        exact met_of_run h3 h4 ih h hn (Nat.le_refl _) (Nat.le_refl _) (Nat.le_refl _) (Nat.le_refl _) hrep
      · cases h
end Proofs
end Jvm.MV
namespace Jvm.MV
open Jvm Jvm.ClassFile Sem Op Lib Jvm.Free Jvm.Stand Jvm.LawKit Jvm.RoadKit Bundle
section Plain
variable {Z : State} {X : List Addr} {CT : Tab} {l : Launch} {MT : List MI} {M : MI} {pc : Nat} {a0 : Array Value}
def allP {α : Type} (P : α → Prop) : List α → Prop
  | [] => True
  | x :: r => P x ∧ allP P r
theorem allP_mem {α : Type} {P : α → Prop} : ∀ {xs : List α}, allP P xs → ∀ q ∈ xs, P q
  | [], _, _, hq => nomatch hq
  | _ :: _, h, q, hq => (List.mem_cons.mp hq).elim (fun e => e ▸ h.1) (allP_mem h.2 q)
def allC (P : Nat → MOp → Prop) : List (Nat × MOp) → Prop
  | [] => True
  | (pc, f) :: r => P pc f ∧ allC P r
theorem allC_mem {P : Nat → MOp → Prop} : ∀ {xs : List (Nat × MOp)}, allC P xs → ∀ q ∈ xs, P q.1 q.2
  | [], _, _, hq => nomatch hq
  | (_, _) :: _, h, q, hq => (List.mem_cons.mp hq).elim (fun e => e ▸ h.1) (allC_mem h.2 q)
theorem le_r {a b : Nat} (h : Nat.ble a b = true) : a ≤ b := Nat.le_of_ble_eq_true h
theorem allC_cons {P : Nat → MOp → Prop} {pc : Nat} {f : MOp} {r : List (Nat × MOp)} (h : P pc f) (t : allC P r) : allC P ((pc, f) :: r) := ⟨h, t⟩
theorem allC_nil {P : Nat → MOp → Prop} : allC P [] := trivial
theorem Up.refl (H : MH) : Up CT H H := ⟨Nat.le_refl _, Nat.le_refl _⟩
theorem grow_lift (g : POp) : Grow CT (lift g) := fun call L S H r hc h => by
  simp only [lift] at h
  split at h
  · cases h; exact Up.refl _
  · cases h
/-- what a plain step owes -/
def Pure (Z : State) (X : List Addr) (l : Launch) (M : MI) (pc : Nat) (g : POp) : Prop := ∀ (p : Program) (e : Env) (R : Room) (s : State) (m : MethodId) (args : Array Value) (below : List Frame) (meth : Method) (c : Code) (T : State) (locs : List Loc) (cells slots : Nat),
  Stand p l e R s m args below meth c T locs cells slots → p.tables.exec = Jvm.exec → Z.Warmed39 s.vm → s.vm.findClass M.1.cls = some m.cls → c.code = M.2.1 → ∀ L S n L' S', g L S = some (n, L', S') →
  L'.length = L.length ∧ ∀ target, Steps p.tables e below (T.setTop (fra Z X m n L' S')) target → Steps p.tables e below (T.setTop (fra Z X m pc L S)) target
theorem Sound.pure {g : POp} (h : Pure Z X l M pc g) : Sound Z X CT l MT M pc (lift g) := by
  refine ⟨mono_lift g, grow_lift g, ?_⟩
  intro p e R s m args below meth c hx hZ hown hby hnm hret hlk hf hl call hcall H0 Hf hRc hRs T L S H hs r hr
  simp only [lift] at hr
  split at hr
  · rename_i n L' S' hg
    cases hr
    obtain ⟨locs, Y, hrep, hfr, hlen, h1, h2, h3⟩ := hs
    obtain ⟨q1, q2⟩ := h p e R s m args below meth c T locs _ _ Y hx hZ hown hby L S n L' S' hg
    exact fun _ _ => ⟨T, ⟨locs, Y, hrep, hfr, by rw [q1]; exact hlen, h1, h2, h3⟩, q2⟩
  · cases hr
theorem lget {L : List Slot} {k : Nat} {v : Value} (h : L[k]? = some (.val v)) : ((L.map (abS Z X)).toArray)[k]? = some (.val (ab Z X v)) := by simp [h, abS]
theorem ab_cat (v : Value) : (ab Z X v).category = v.category := by cases v <;> rfl
theorem lset {L L' : List Slot} {k : Nat} {v : Value} (h : mset L k v = some L') (hv : v.category = 1) : storeLocals ((L.map (abS Z X)).toArray) k (ab Z X v) = some ((L'.map (abS Z X)).toArray) ∧ L'.length = L.length := by
  have key : ∀ o, L[k]? = some o → (abS Z X o = .unset ∨ ∃ w, abS Z X o = .val w ∧ w.category = 1) → storeLocals ((L.map (abS Z X)).toArray) k (ab Z X v) = some (((L.set k (.val v)).map (abS Z X)).toArray) := fun o ho hk => by
    rw [XS.store1 (o := abS Z X o) (by simp [ho]) hk (by rw [ab_cat]; exact hv)]
    simp [abS]
  simp only [mset] at h
  split at h
  · rename_i ho
    cases h
    exact ⟨key _ ho (Or.inl rfl), by simp⟩
  · rename_i w ho
    split at h
    · rename_i hc
      cases h
      exact ⟨key _ ho (Or.inr ⟨_, rfl, by rw [ab_cat]; exact hc⟩), by simp⟩
    · cases h
  · cases h
theorem lset2 {L L' : List Slot} {k : Nat} {x : Int64} (h : mset2 L k (.long x) = some L') : storeLocals ((L.map (abS Z X)).toArray) k (.long x) = some ((L'.map (abS Z X)).toArray) ∧ L'.length = L.length := by
  simp only [mset2] at h
  split at h
  · rename_i h0
    split at h
    · rename_i h1
      cases h
      have hk : k + 1 < L.length := (List.getElem?_eq_some_iff.mp h1).1
      have e0 : ((L.map (abS Z X)).toArray)[k]? = some .unset := by simp [h0, abS]
      have e1 : (((L.map (abS Z X)).toArray).setIfInBounds k (.val (.long x)))[k + 1]? = some .unset := by simp [h1, abS]
      refine ⟨?_, by simp⟩
      simp only [storeLocals, e0, Option.bind_eq_bind, Option.bind_some, storeSelf, setAt]
      have s1 : k < ((L.map (abS Z X)).toArray).size := by simp; omega
      simp only [s1, if_true, Option.bind_some, e1]
      have s2 : k + 1 < (((L.map (abS Z X)).toArray).setIfInBounds k (.val (.long x))).size := by simp; omega
      simp [Value.category, abS, ab]
      omega
    · cases h
  · cases h

theorem s_iadd (hd : decode M.2.1 pc = .ok (.iadd, 1)) : Sound Z X CT l MT M pc (lift (pBin (· + ·) (pc + 1))) := Sound.pure fun p e R s m args below meth c T locs cells slots Y hx hZ hown hby L S n L' S' h => by
  simp only [pBin] at h
  split at h
  · cases h; exact ⟨rfl, fun target ht => XS.iadd Y.here hx rfl (hb hby hd) rfl ht⟩
  · cases h
theorem s_isub (hd : decode M.2.1 pc = .ok (.isub, 1)) : Sound Z X CT l MT M pc (lift (pBin (· - ·) (pc + 1))) := Sound.pure fun p e R s m args below meth c T locs cells slots Y hx hZ hown hby L S n L' S' h => by
  simp only [pBin] at h
  split at h
  · cases h; exact ⟨rfl, fun target ht => XS.isub Y.here hx rfl (hb hby hd) rfl ht⟩
  · cases h
theorem s_imul (hd : decode M.2.1 pc = .ok (.imul, 1)) : Sound Z X CT l MT M pc (lift (pBin (· * ·) (pc + 1))) := Sound.pure fun p e R s m args below meth c T locs cells slots Y hx hZ hown hby L S n L' S' h => by
  simp only [pBin] at h
  split at h
  · cases h; exact ⟨rfl, fun target ht => XS.imul Y.here hx rfl (hb hby hd) rfl ht⟩
  · cases h
theorem s_iand (hd : decode M.2.1 pc = .ok (.iand, 1)) : Sound Z X CT l MT M pc (lift (pBin (· &&& ·) (pc + 1))) := Sound.pure fun p e R s m args below meth c T locs cells slots Y hx hZ hown hby L S n L' S' h => by
  simp only [pBin] at h
  split at h
  · cases h; exact ⟨rfl, fun target ht => XS.iand Y.here hx rfl (hb hby hd) rfl ht⟩
  · cases h
theorem s_ior (hd : decode M.2.1 pc = .ok (.ior, 1)) : Sound Z X CT l MT M pc (lift (pBin (· ||| ·) (pc + 1))) := Sound.pure fun p e R s m args below meth c T locs cells slots Y hx hZ hown hby L S n L' S' h => by
  simp only [pBin] at h
  split at h
  · cases h; exact ⟨rfl, fun target ht => XT.ior Y.here hx rfl (hb hby hd) rfl ht⟩
  · cases h
theorem s_ixor (hd : decode M.2.1 pc = .ok (.ixor, 1)) : Sound Z X CT l MT M pc (lift (pBin (· ^^^ ·) (pc + 1))) := Sound.pure fun p e R s m args below meth c T locs cells slots Y hx hZ hown hby L S n L' S' h => by
  simp only [pBin] at h
  split at h
  · cases h; exact ⟨rfl, fun target ht => XT.ixor Y.here hx rfl (hb hby hd) rfl ht⟩
  · cases h
theorem s_ishl (hd : decode M.2.1 pc = .ok (.ishl, 1)) : Sound Z X CT l MT M pc (lift (pBin (fun x y => x <<< (y &&& 31)) (pc + 1))) := Sound.pure fun p e R s m args below meth c T locs cells slots Y hx hZ hown hby L S n L' S' h => by
  simp only [pBin] at h
  split at h
  · cases h; exact ⟨rfl, fun target ht => XT.ishl Y.here hx rfl (hb hby hd) rfl ht⟩
  · cases h
theorem s_ishr (hd : decode M.2.1 pc = .ok (.ishr, 1)) : Sound Z X CT l MT M pc (lift (pBin (fun x y => x >>> (y &&& 31)) (pc + 1))) := Sound.pure fun p e R s m args below meth c T locs cells slots Y hx hZ hown hby L S n L' S' h => by
  simp only [pBin] at h
  split at h
  · cases h; exact ⟨rfl, fun target ht => XT.ishr Y.here hx rfl (hb hby hd) rfl ht⟩
  · cases h
theorem s_iushr (hd : decode M.2.1 pc = .ok (.iushr, 1)) : Sound Z X CT l MT M pc (lift (pBin XT.ushr (pc + 1))) := Sound.pure fun p e R s m args below meth c T locs cells slots Y hx hZ hown hby L S n L' S' h => by
  simp only [pBin] at h
  split at h
  · cases h; exact ⟨rfl, fun target ht => XT.iushr Y.here hx rfl (hb hby hd) rfl ht⟩
  · cases h
theorem s_irem (hd : decode M.2.1 pc = .ok (.irem, 1)) : Sound Z X CT l MT M pc (lift (pRem (pc + 1))) := Sound.pure fun p e R s m args below meth c T locs cells slots Y hx hZ hown hby L S n L' S' h => by
  simp only [pRem] at h
  split at h
  · split at h
    · cases h
    · rename_i hy
      cases h; exact ⟨rfl, fun target ht => iremM Y hx rfl (hb hby hd) rfl hy ht⟩
  · cases h
theorem s_ineg (hd : decode M.2.1 pc = .ok (.ineg, 1)) : Sound Z X CT l MT M pc (lift (pUn (fun x => -x) (pc + 1))) := Sound.pure fun p e R s m args below meth c T locs cells slots Y hx hZ hown hby L S n L' S' h => by
  simp only [pUn] at h
  split at h
  · cases h; exact ⟨rfl, fun target ht => XS.ineg Y.here hx rfl (hb hby hd) rfl ht⟩
  · cases h
theorem s_i2b (hd : decode M.2.1 pc = .ok (.i2b, 1)) : Sound Z X CT l MT M pc (lift (pUn (fun x => x.toInt8.toInt32) (pc + 1))) := Sound.pure fun p e R s m args below meth c T locs cells slots Y hx hZ hown hby L S n L' S' h => by
  simp only [pUn] at h
  split at h
  · cases h; exact ⟨rfl, fun target ht => XT.i2b Y.here hx rfl (hb hby hd) rfl ht⟩
  · cases h
theorem s_i2c (hd : decode M.2.1 pc = .ok (.i2c, 1)) : Sound Z X CT l MT M pc (lift (pUn (fun x => x.toUInt32.toUInt16.toUInt32.toInt32) (pc + 1))) := Sound.pure fun p e R s m args below meth c T locs cells slots Y hx hZ hown hby L S n L' S' h => by
  simp only [pUn] at h
  split at h
  · cases h; exact ⟨rfl, fun target ht => XT.i2c Y.here hx rfl (hb hby hd) rfl ht⟩
  · cases h
theorem s_i2s (hd : decode M.2.1 pc = .ok (.i2s, 1)) : Sound Z X CT l MT M pc (lift (pUn (fun x => x.toInt16.toInt32) (pc + 1))) := Sound.pure fun p e R s m args below meth c T locs cells slots Y hx hZ hown hby L S n L' S' h => by
  simp only [pUn] at h
  split at h
  · cases h; exact ⟨rfl, fun target ht => XT.i2s Y.here hx rfl (hb hby hd) rfl ht⟩
  · cases h
theorem s_i2l (hd : decode M.2.1 pc = .ok (.i2l, 1)) : Sound Z X CT l MT M pc (lift (pI2L (pc + 1))) := Sound.pure fun p e R s m args below meth c T locs cells slots Y hx hZ hown hby L S n L' S' h => by
  simp only [pI2L] at h
  split at h
  · cases h; exact ⟨rfl, fun target ht => XT.i2l Y.here hx rfl (hb hby hd) rfl ht⟩
  · cases h
theorem s_ladd (hd : decode M.2.1 pc = .ok (.ladd, 1)) : Sound Z X CT l MT M pc (lift (pLBin (· + ·) (pc + 1))) := Sound.pure fun p e R s m args below meth c T locs cells slots Y hx hZ hown hby L S n L' S' h => by
  simp only [pLBin] at h
  split at h
  · cases h; exact ⟨rfl, fun target ht => XT.ladd Y.here hx rfl (hb hby hd) rfl ht⟩
  · cases h
theorem s_lsub (hd : decode M.2.1 pc = .ok (.lsub, 1)) : Sound Z X CT l MT M pc (lift (pLBin (· - ·) (pc + 1))) := Sound.pure fun p e R s m args below meth c T locs cells slots Y hx hZ hown hby L S n L' S' h => by
  simp only [pLBin] at h
  split at h
  · cases h; exact ⟨rfl, fun target ht => XT.lsub Y.here hx rfl (hb hby hd) rfl ht⟩
  · cases h
theorem s_lmul (hd : decode M.2.1 pc = .ok (.lmul, 1)) : Sound Z X CT l MT M pc (lift (pLBin (· * ·) (pc + 1))) := Sound.pure fun p e R s m args below meth c T locs cells slots Y hx hZ hown hby L S n L' S' h => by
  simp only [pLBin] at h
  split at h
  · cases h; exact ⟨rfl, fun target ht => XT.lmul Y.here hx rfl (hb hby hd) rfl ht⟩
  · cases h
theorem s_land (hd : decode M.2.1 pc = .ok (.land, 1)) : Sound Z X CT l MT M pc (lift (pLBin (· &&& ·) (pc + 1))) := Sound.pure fun p e R s m args below meth c T locs cells slots Y hx hZ hown hby L S n L' S' h => by
  simp only [pLBin] at h
  split at h
  · cases h; exact ⟨rfl, fun target ht => XT.land Y.here hx rfl (hb hby hd) rfl ht⟩
  · cases h
theorem s_lor (hd : decode M.2.1 pc = .ok (.lor, 1)) : Sound Z X CT l MT M pc (lift (pLBin (· ||| ·) (pc + 1))) := Sound.pure fun p e R s m args below meth c T locs cells slots Y hx hZ hown hby L S n L' S' h => by
  simp only [pLBin] at h
  split at h
  · cases h; exact ⟨rfl, fun target ht => XT.lor Y.here hx rfl (hb hby hd) rfl ht⟩
  · cases h
theorem s_lxor (hd : decode M.2.1 pc = .ok (.lxor, 1)) : Sound Z X CT l MT M pc (lift (pLBin (· ^^^ ·) (pc + 1))) := Sound.pure fun p e R s m args below meth c T locs cells slots Y hx hZ hown hby L S n L' S' h => by
  simp only [pLBin] at h
  split at h
  · cases h; exact ⟨rfl, fun target ht => XT.lxor Y.here hx rfl (hb hby hd) rfl ht⟩
  · cases h
theorem s_lshl (hd : decode M.2.1 pc = .ok (.lshl, 1)) : Sound Z X CT l MT M pc (lift (pLsh (fun x y => x <<< (y.toInt64 &&& 63)) (pc + 1))) := Sound.pure fun p e R s m args below meth c T locs cells slots Y hx hZ hown hby L S n L' S' h => by
  simp only [pLsh] at h
  split at h
  · cases h; exact ⟨rfl, fun target ht => XT.lshl Y.here hx rfl (hb hby hd) rfl ht⟩
  · cases h
theorem s_lcmp (hd : decode M.2.1 pc = .ok (.lcmp, 1)) : Sound Z X CT l MT M pc (lift (pLcmp (pc + 1))) := Sound.pure fun p e R s m args below meth c T locs cells slots Y hx hZ hown hby L S n L' S' h => by
  simp only [pLcmp] at h
  split at h
  · cases h; exact ⟨rfl, fun target ht => XT.lcmp Y.here hx rfl (hb hby hd) rfl ht⟩
  · cases h
theorem s_iloadN {k : Fin 4} {kk : Nat} (hd : decode M.2.1 pc = .ok (.iload_n k, 1)) (hk : k.val = kk) : Sound Z X CT l MT M pc (lift (pIld kk (pc + 1))) := Sound.pure fun p e R s m args below meth c T locs cells slots Y hx hZ hown hby L S n L' S' h => by
  subst hk
  simp only [pIld] at h
  split at h
  · rename_i hL
    cases h; exact ⟨rfl, fun target ht => XS.iloadN Y.here hx rfl (hb hby hd) (lget hL) ht⟩
  · cases h
theorem s_iload {k : Nat} (hd : decode M.2.1 pc = .ok (.iload k, 2)) : Sound Z X CT l MT M pc (lift (pIld k (pc + 2))) := Sound.pure fun p e R s m args below meth c T locs cells slots Y hx hZ hown hby L S n L' S' h => by
  simp only [pIld] at h
  split at h
  · rename_i hL
    cases h; exact ⟨rfl, fun target ht => XS.iload Y.here hx rfl (hb hby hd) (lget hL) ht⟩
  · cases h
theorem s_lloadN {k : Fin 4} {kk : Nat} (hd : decode M.2.1 pc = .ok (.lload_n k, 1)) (hk : k.val = kk) : Sound Z X CT l MT M pc (lift (pLld kk (pc + 1))) := Sound.pure fun p e R s m args below meth c T locs cells slots Y hx hZ hown hby L S n L' S' h => by
  subst hk
  simp only [pLld] at h
  split at h
  · rename_i hL
    cases h; exact ⟨rfl, fun target ht => XT.lloadN Y.here hx rfl (hb hby hd) (lget hL) ht⟩
  · cases h
theorem s_lload {k : Nat} (hd : decode M.2.1 pc = .ok (.lload k, 2)) : Sound Z X CT l MT M pc (lift (pLld k (pc + 2))) := Sound.pure fun p e R s m args below meth c T locs cells slots Y hx hZ hown hby L S n L' S' h => by
  simp only [pLld] at h
  split at h
  · rename_i hL
    cases h; exact ⟨rfl, fun target ht => XT.lload Y.here hx rfl (hb hby hd) (lget hL) ht⟩
  · cases h
theorem s_aloadN {k : Fin 4} {kk : Nat} (hd : decode M.2.1 pc = .ok (.aload_n k, 1)) (hk : k.val = kk) : Sound Z X CT l MT M pc (lift (pAld kk (pc + 1))) := Sound.pure fun p e R s m args below meth c T locs cells slots Y hx hZ hown hby L S n L' S' h => by
  subst hk
  simp only [pAld] at h
  split at h
  · rename_i hL
    cases h; exact ⟨rfl, fun target ht => XS.aloadN Y.here hx rfl (hb hby hd) (lget hL) rfl ht⟩
  · rename_i hL
    cases h; exact ⟨rfl, fun target ht => XS.aloadN Y.here hx rfl (hb hby hd) (lget hL) rfl ht⟩
  · cases h
theorem s_aload {k : Nat} (hd : decode M.2.1 pc = .ok (.aload k, 2)) : Sound Z X CT l MT M pc (lift (pAld k (pc + 2))) := Sound.pure fun p e R s m args below meth c T locs cells slots Y hx hZ hown hby L S n L' S' h => by
  simp only [pAld] at h
  split at h
  · rename_i hL
    cases h; exact ⟨rfl, fun target ht => XS.aload Y.here hx rfl (hb hby hd) (lget hL) rfl ht⟩
  · rename_i hL
    cases h; exact ⟨rfl, fun target ht => XS.aload Y.here hx rfl (hb hby hd) (lget hL) rfl ht⟩
  · cases h
theorem s_istoreN {k : Fin 4} {kk : Nat} (hd : decode M.2.1 pc = .ok (.istore_n k, 1)) (hk : k.val = kk) : Sound Z X CT l MT M pc (lift (pIst kk (pc + 1))) := Sound.pure fun p e R s m args below meth c T locs cells slots Y hx hZ hown hby L S n L' S' h => by
  subst hk
  simp only [pIst] at h
  split at h
  · split at h
    · rename_i hm
      cases h
      have q := lset (Z := Z) (X := X) hm rfl
      exact ⟨q.2, fun target ht => XS.istoreN Y.here hx rfl (hb hby hd) rfl q.1 ht⟩
    · cases h
  · cases h
theorem s_istore {k : Nat} (hd : decode M.2.1 pc = .ok (.istore k, 2)) : Sound Z X CT l MT M pc (lift (pIst k (pc + 2))) := Sound.pure fun p e R s m args below meth c T locs cells slots Y hx hZ hown hby L S n L' S' h => by
  simp only [pIst] at h
  split at h
  · split at h
    · rename_i hm
      cases h
      have q := lset (Z := Z) (X := X) hm rfl
      exact ⟨q.2, fun target ht => XS.istore Y.here hx rfl (hb hby hd) rfl q.1 ht⟩
    · cases h
  · cases h
theorem s_lstoreN {k : Fin 4} {kk : Nat} (hd : decode M.2.1 pc = .ok (.lstore_n k, 1)) (hk : k.val = kk) : Sound Z X CT l MT M pc (lift (pLst kk (pc + 1))) := Sound.pure fun p e R s m args below meth c T locs cells slots Y hx hZ hown hby L S n L' S' h => by
  subst hk
  simp only [pLst] at h
  split at h
  · split at h
    · rename_i hm
      cases h
      have q := lset2 (Z := Z) (X := X) hm
      exact ⟨q.2, fun target ht => XT.lstoreN Y.here hx rfl (hb hby hd) rfl q.1 ht⟩
    · cases h
  · cases h
theorem s_lstore {k : Nat} (hd : decode M.2.1 pc = .ok (.lstore k, 2)) : Sound Z X CT l MT M pc (lift (pLst k (pc + 2))) := Sound.pure fun p e R s m args below meth c T locs cells slots Y hx hZ hown hby L S n L' S' h => by
  simp only [pLst] at h
  split at h
  · split at h
    · rename_i hm
      cases h
      have q := lset2 (Z := Z) (X := X) hm
      exact ⟨q.2, fun target ht => XT.lstore Y.here hx rfl (hb hby hd) rfl q.1 ht⟩
    · cases h
  · cases h
theorem s_astoreN {k : Fin 4} {kk : Nat} (hd : decode M.2.1 pc = .ok (.astore_n k, 1)) (hk : k.val = kk) : Sound Z X CT l MT M pc (lift (pAst kk (pc + 1))) := Sound.pure fun p e R s m args below meth c T locs cells slots Y hx hZ hown hby L S n L' S' h => by
  subst hk
  simp only [pAst] at h
  split at h
  · split at h
    · rename_i hm
      cases h
      have q := lset (Z := Z) (X := X) hm rfl
      exact ⟨q.2, fun target ht => XS.astoreN Y.here hx rfl (hb hby hd) rfl rfl q.1 ht⟩
    · cases h
  · split at h
    · rename_i hm
      cases h
      have q := lset (Z := Z) (X := X) hm rfl
      exact ⟨q.2, fun target ht => XS.astoreN Y.here hx rfl (hb hby hd) rfl rfl q.1 ht⟩
    · cases h
  · cases h
theorem s_astore {k : Nat} (hd : decode M.2.1 pc = .ok (.astore k, 2)) : Sound Z X CT l MT M pc (lift (pAst k (pc + 2))) := Sound.pure fun p e R s m args below meth c T locs cells slots Y hx hZ hown hby L S n L' S' h => by
  simp only [pAst] at h
  split at h
  · split at h
    · rename_i hm
      cases h
      have q := lset (Z := Z) (X := X) hm rfl
      exact ⟨q.2, fun target ht => XS.astore Y.here hx rfl (hb hby hd) rfl rfl q.1 ht⟩
    · cases h
  · split at h
    · rename_i hm
      cases h
      have q := lset (Z := Z) (X := X) hm rfl
      exact ⟨q.2, fun target ht => XS.astore Y.here hx rfl (hb hby hd) rfl rfl q.1 ht⟩
    · cases h
  · cases h
theorem s_iconst {i : Int} {x : Int32} (hd : decode M.2.1 pc = .ok (.iconst i, 1)) (hx0 : Int32.ofInt i = x) : Sound Z X CT l MT M pc (lift (pInt x (pc + 1))) := Sound.pure fun p e R s m args below meth c T locs cells slots Y hx hZ hown hby L S n L' S' h => by
  subst hx0; cases h; exact ⟨rfl, fun target ht => XS.iconst Y.here hx rfl (hb hby hd) ht⟩
theorem s_bipush {i : Int} {x : Int32} (hd : decode M.2.1 pc = .ok (.bipush i, 2)) (hx0 : (Int8.ofInt i).toInt32 = x) : Sound Z X CT l MT M pc (lift (pInt x (pc + 2))) := Sound.pure fun p e R s m args below meth c T locs cells slots Y hx hZ hown hby L S n L' S' h => by
  subst hx0; cases h; exact ⟨rfl, fun target ht => XS.bipush Y.here hx rfl (hb hby hd) ht⟩
theorem s_sipush {i : Int} {x : Int32} (hd : decode M.2.1 pc = .ok (.sipush i, 3)) (hx0 : (Int16.ofInt i).toInt32 = x) : Sound Z X CT l MT M pc (lift (pInt x (pc + 3))) := Sound.pure fun p e R s m args below meth c T locs cells slots Y hx hZ hown hby L S n L' S' h => by
  subst hx0; cases h; exact ⟨rfl, fun target ht => XS.sipush Y.here hx rfl (hb hby hd) ht⟩
theorem s_lconst {k : Fin 2} {x : Int64} (hd : decode M.2.1 pc = .ok (.lconst k, 1)) (hx0 : Int64.ofNat k = x) : Sound Z X CT l MT M pc (lift (pLong x (pc + 1))) := Sound.pure fun p e R s m args below meth c T locs cells slots Y hx hZ hown hby L S n L' S' h => by
  subst hx0; cases h; exact ⟨rfl, fun target ht => XT.lconst Y.here hx rfl (hb hby hd) ht⟩
theorem s_null (hd : decode M.2.1 pc = .ok (.aconst_null, 1)) : Sound Z X CT l MT M pc (lift (pNull (pc + 1))) := Sound.pure fun p e R s m args below meth c T locs cells slots Y hx hZ hown hby L S n L' S' h => by
  cases h; exact ⟨rfl, fun target ht => XS.aconstNull Y.here hx rfl (hb hby hd) ht⟩
theorem s_ldcInt {i : Nat} {x : Int32} (hd : decode M.2.1 pc = .ok (.ldc i, 2)) (w : (Jvm.Cond.constant M.1.cls i x).before a0 Z = true) : Sound Z X CT l MT M pc (lift (pInt x (pc + 2))) := Sound.pure fun p e R s m args below meth c T locs cells slots Y hx hZ hown hby L S n L' S' h => by
  cases h; exact ⟨rfl, fun target ht => Y.ldcInt hx hown (mvT hZ w) (g := fra Z X m pc L S) rfl (hb hby hd) _ ht⟩
theorem s_ldc2Long {i : Nat} {x : Int64} (hd : decode M.2.1 pc = .ok (.ldc2_w i, 3)) (w : (Jvm.Cond.constantLong M.1.cls i x).before a0 Z = true) : Sound Z X CT l MT M pc (lift (pLong x (pc + 3))) := Sound.pure fun p e R s m args below meth c T locs cells slots Y hx hZ hown hby L S n L' S' h => by
  cases h; exact ⟨rfl, fun target ht => Y.ldc2Long hx hown (mvT hZ w) (g := fra Z X m pc L S) rfl (hb hby hd) _ ht⟩
theorem s_iinc {k : Nat} {cst : Int} {d : Int32} (hd : decode M.2.1 pc = .ok (.iinc k cst, 3)) (hd0 : Int32.ofInt cst = d) : Sound Z X CT l MT M pc (lift (pInc k d (pc + 3))) := Sound.pure fun p e R s m args below meth c T locs cells slots Y hx hZ hown hby L S n L' S' h => by
  subst hd0
  simp only [pInc] at h
  split at h
  · rename_i x hL
    cases h
    have hm : mset L k (.int (x + Int32.ofInt cst)) = some (L.set k (.val (.int (x + Int32.ofInt cst)))) := by simp [mset, hL, Value.category]
    have q := lset (Z := Z) (X := X) hm rfl
    exact ⟨q.2, fun target ht => XS.iinc Y.here hx rfl (hb hby hd) (lget hL) q.1 ht⟩
  · cases h
theorem s_goto {o : Int} {t : Nat} (hd : decode M.2.1 pc = .ok (.goto o, 3)) (ho : 0 ≤ (pc : Int) + o) (hp : ((pc : Int) + o).toNat = t) : Sound Z X CT l MT M pc (lift (pGoto t)) := Sound.pure fun p e R s m args below meth c T locs cells slots Y hx hZ hown hby L S n L' S' h => by
  cases h; exact ⟨rfl, fun target ht => XS.goto Y.here hx rfl (pc0 := pc) rfl (hb hby hd) ho hp ht⟩
theorem s_if {cd : ClassFile.Cond} {o : Int} {t : Nat} (hd : decode M.2.1 pc = .ok (.ifCond cd o, 3)) (ho : 0 ≤ (pc : Int) + o) (hp : ((pc : Int) + o).toNat = t) : Sound Z X CT l MT M pc (lift (pIf cd t (pc + 3))) := Sound.pure fun p e R s m args below meth c T locs cells slots Y hx hZ hown hby L S n L' S' h => by
  simp only [pIf] at h
  split at h
  · split at h
    · rename_i hc
      cases h; exact ⟨rfl, fun target ht => XS.ifYes Y.here hx rfl (pc0 := pc) rfl (hb hby hd) rfl hc ho hp ht⟩
    · rename_i hc
      cases h; exact ⟨rfl, fun target ht => XS.ifNo Y.here hx rfl (hb hby hd) rfl hc ht⟩
  · cases h
theorem s_icmp {cd : ClassFile.Cond} {o : Int} {t : Nat} (hd : decode M.2.1 pc = .ok (.if_icmp cd o, 3)) (ho : 0 ≤ (pc : Int) + o) (hp : ((pc : Int) + o).toNat = t) : Sound Z X CT l MT M pc (lift (pIcmp cd t (pc + 3))) := Sound.pure fun p e R s m args below meth c T locs cells slots Y hx hZ hown hby L S n L' S' h => by
  simp only [pIcmp] at h
  split at h
  · split at h
    · rename_i hc
      cases h; exact ⟨rfl, fun target ht => XS.icmpYes Y.here hx rfl (pc0 := pc) rfl (hb hby hd) rfl hc ho hp ht⟩
    · rename_i hc
      cases h; exact ⟨rfl, fun target ht => XS.icmpNo Y.here hx rfl (hb hby hd) rfl hc ht⟩
  · cases h
theorem s_ifnull {o : Int} {t : Nat} (hd : decode M.2.1 pc = .ok (.ifnull o, 3)) (ho : 0 ≤ (pc : Int) + o) (hp : ((pc : Int) + o).toNat = t) : Sound Z X CT l MT M pc (lift (pNullYes t (pc + 3))) := Sound.pure fun p e R s m args below meth c T locs cells slots Y hx hZ hown hby L S n L' S' h => by
  simp only [pNullYes] at h
  split at h
  · cases h; exact ⟨rfl, fun target ht => XS.ifnullYes Y.here hx rfl (pc0 := pc) rfl (hb hby hd) rfl ho hp ht⟩
  · cases h; exact ⟨rfl, fun target ht => XS.ifnullNo Y.here hx rfl (hb hby hd) rfl ht⟩
  · cases h
theorem s_ifnonnull {o : Int} {t : Nat} (hd : decode M.2.1 pc = .ok (.ifnonnull o, 3)) (ho : 0 ≤ (pc : Int) + o) (hp : ((pc : Int) + o).toNat = t) : Sound Z X CT l MT M pc (lift (pNullYes (pc + 3) t)) := Sound.pure fun p e R s m args below meth c T locs cells slots Y hx hZ hown hby L S n L' S' h => by
  simp only [pNullYes] at h
  split at h
  · cases h; exact ⟨rfl, fun target ht => XT.ifnonnullNo Y.here hx rfl (hb hby hd) rfl ht⟩
  · cases h; exact ⟨rfl, fun target ht => XT.ifnonnullYes Y.here hx rfl (pc0 := pc) rfl (hb hby hd) rfl ho hp ht⟩
  · cases h
theorem s_dup (hd : decode M.2.1 pc = .ok (.dup, 1)) : Sound Z X CT l MT M pc (lift (pDup (pc + 1))) := Sound.pure fun p e R s m args below meth c T locs cells slots Y hx hZ hown hby L S n L' S' h => by
  simp only [pDup] at h
  split at h
  · split at h
    · rename_i hc
      cases h; exact ⟨rfl, fun target ht => XS.dup Y.here hx rfl (hb hby hd) rfl (by rw [ab_cat]; exact hc) ht⟩
    · cases h
  · cases h
theorem s_pop (hd : decode M.2.1 pc = .ok (.pop, 1)) : Sound Z X CT l MT M pc (lift (pPop (pc + 1))) := Sound.pure fun p e R s m args below meth c T locs cells slots Y hx hZ hown hby L S n L' S' h => by
  simp only [pPop] at h
  split at h
  · split at h
    · rename_i hc
      cases h; exact ⟨rfl, fun target ht => XT.pop Y.here hx rfl (hb hby hd) rfl (by rw [ab_cat]; exact hc) ht⟩
    · cases h
  · cases h
theorem s_dupX1 (hd : decode M.2.1 pc = .ok (.dup_x1, 1)) : Sound Z X CT l MT M pc (lift (pDupX1 (pc + 1))) := Sound.pure fun p e R s m args below meth c T locs cells slots Y hx hZ hown hby L S n L' S' h => by
  simp only [pDupX1] at h
  split at h
  · split at h
    · rename_i hc hc'
      cases h; exact ⟨rfl, fun target ht => XT.dupX1 Y.here hx rfl (hb hby hd) rfl (by rw [ab_cat]; exact hc) (by rw [ab_cat]; exact hc') ht⟩
    · cases h
  · cases h
theorem s_dup2 (hd : decode M.2.1 pc = .ok (.dup2, 1)) : Sound Z X CT l MT M pc (lift (pDup2 (pc + 1))) := Sound.pure fun p e R s m args below meth c T locs cells slots Y hx hZ hown hby L S n L' S' h => by
  simp only [pDup2] at h
  split at h
  · split at h
    · rename_i hc hc'
      cases h; exact ⟨rfl, fun target ht => XT.dup2 Y.here hx rfl (hb hby hd) rfl (by rw [ab_cat]; exact hc) (by rw [ab_cat]; exact hc') ht⟩
    · cases h
  · cases h
theorem s_dupX2 (hd : decode M.2.1 pc = .ok (.dup_x2, 1)) : Sound Z X CT l MT M pc (lift (pDupX2 (pc + 1))) := Sound.pure fun p e R s m args below meth c T locs cells slots Y hx hZ hown hby L S n L' S' h => by
  simp only [pDupX2] at h
  split at h
  · split at h
    · rename_i x y z S0 _ _ _ hc hc' hc''
      cases h
      refine ⟨rfl, fun target ht => ?_⟩
      have e1 : (ab Z X x).category = 1 := by rw [ab_cat]; exact hc
      have e2 : (ab Z X y).category = 1 := by rw [ab_cat]; exact hc'
      have e3 : (ab Z X z).category = 1 := by rw [ab_cat]; exact hc''
      have hd' := hb hby hd
      jvm_step Y.here [Y.here.top, hx, hd', e1, e2, e3]
      exact ht
    · cases h
  · cases h
/-! references compared -/
theorem same_spec {xl : Nat} (hxl : ∀ i j, i ≠ j → (xl ≤ i ∨ xl ≤ j) → ph Z X i ≠ ph Z X j) {x y : Value} {b : Bool} (h : same xl x y = some b) : (ab Z X x).isRef = true ∧ (ab Z X y).isRef = true ∧ decide (ab Z X x = ab Z X y) = b := by
  cases x <;> cases y <;> simp only [same, reduceCtorEq] at h
  · cases h; exact ⟨rfl, rfl, by simp [ab]⟩
  · cases h; exact ⟨rfl, rfl, by simp [ab]⟩
  · cases h; exact ⟨rfl, rfl, by simp [ab]⟩
  · rename_i i j
    refine ⟨rfl, rfl, ?_⟩
    cases hb : Nat.beq i j with
    | true => rw [hb] at h; cases h; cases Nat.eq_of_beq_eq_true hb; simp
    | false =>
      rw [hb] at h
      cases hc : (Nat.ble xl i || Nat.ble xl j) with
      | false => simp [hc] at h
      | true =>
        simp only [hc, Option.some.injEq] at h
        subst h
        have hne : i ≠ j := Nat.ne_of_beq_eq_false hb
        have := hxl i j hne (by rcases Bool.or_eq_true_iff.mp hc with q | q; exact Or.inl (Nat.le_of_ble_eq_true q); exact Or.inr (Nat.le_of_ble_eq_true q))
        simp [ab, this]
theorem s_acmpeq {xl : Nat} (hxl : ∀ i j, i ≠ j → (xl ≤ i ∨ xl ≤ j) → ph Z X i ≠ ph Z X j) {o : Int} {t : Nat} (hd : decode M.2.1 pc = .ok (.if_acmp .eq o, 3)) (ho : 0 ≤ (pc : Int) + o) (hp : ((pc : Int) + o).toNat = t) : Sound Z X CT l MT M pc (lift (pAcmp xl t (pc + 3))) := Sound.pure fun p e R s m args below meth c T locs cells slots Y hx hZ hown hby L S n L' S' h => by
  simp only [pAcmp] at h
  split at h
  · split at h
    · rename_i hs
      cases h
      obtain ⟨q1, q2, q3⟩ := same_spec hxl hs
      exact ⟨rfl, fun target ht => XT.acmpYes Y.here hx rfl (pc0 := pc) rfl (hb hby hd) rfl q1 q2 q3 ho hp ht⟩
    · rename_i hs
      cases h
      obtain ⟨q1, q2, q3⟩ := same_spec hxl hs
      exact ⟨rfl, fun target ht => XT.acmpNo Y.here hx rfl (hb hby hd) rfl q1 q2 q3 ht⟩
    · cases h
  · cases h
theorem s_acmpne {xl : Nat} (hxl : ∀ i j, i ≠ j → (xl ≤ i ∨ xl ≤ j) → ph Z X i ≠ ph Z X j) {o : Int} {t : Nat} (hd : decode M.2.1 pc = .ok (.if_acmp .ne o, 3)) (ho : 0 ≤ (pc : Int) + o) (hp : ((pc : Int) + o).toNat = t) : Sound Z X CT l MT M pc (lift (pAcmp xl (pc + 3) t)) := Sound.pure fun p e R s m args below meth c T locs cells slots Y hx hZ hown hby L S n L' S' h => by
  simp only [pAcmp] at h
  split at h
  · split at h
    · rename_i hs
      cases h
      obtain ⟨q1, q2, q3⟩ := same_spec hxl hs
      exact ⟨rfl, fun target ht => XT.acmpNo Y.here hx rfl (hb hby hd) rfl q1 q2 (by simpa [XT.acmp] using of_decide_eq_true q3) ht⟩
    · rename_i hs
      cases h
      obtain ⟨q1, q2, q3⟩ := same_spec hxl hs
      exact ⟨rfl, fun target ht => XT.acmpYes Y.here hx rfl (pc0 := pc) rfl (hb hby hd) rfl q1 q2 (by simpa [XT.acmp] using of_decide_eq_false q3) ho hp ht⟩
    · cases h
  · cases h
end Plain
/-! ### returns and calls -/
section Ends
variable {Z : State} {X : List Addr} {CT : Tab} {l : Launch} {MT : List MI} {M : MI} {pc : Nat} {a0 : Array Value}
theorem s_retI {t : FieldType} (hd : decode M.2.1 pc = .ok (.ireturn, 1)) (hr : M.2.2.2.1 = some t) (ht : t = .int ∨ t = .boolean ∨ t = .byte ∨ t = .char ∨ t = .short) : Sound Z X CT l MT M pc (oRetI t) := by
  refine ⟨fun _ _ _ _ _ _ _ h => h, fun call L S H r hc h => ?_, ?_⟩
  · simp only [oRetI] at h
    split at h
    · cases h; exact Up.refl _
    · cases h
  · intro p e R s m args below meth c hx hZ hown hby hnm hret hlk hf hl call hcall H0 Hf hRc hRs T L S H hs r h
    simp only [oRetI] at h
    split at h
    · rename_i x S'
      cases h
      obtain ⟨locs, Y, hrep, hfr, hlen, h1, h2, h3⟩ := hs
      have hret' : meth.sig.returnType = some t := hret.trans hr
      obtain ⟨fs, hl', hrun, hended, hW, hsame⟩ := Y.leave (v := some (.int (nar t x))) (fun q => by rw [hret'] at q; cases q)
      refine ⟨rfl, _, ?_, hrun, hended, ⟨locs, hfr, ⟨_, rfl⟩, hW, hsame⟩, hrep⟩
      have hm' := Y.method'
      have hd' := hb hby hd
      have hn : narrow t (.int x) = .int (nar t x) := by rcases ht with rfl | rfl | rfl | rfl | rfl <;> rfl
      show Steps p.tables e below (T.setTop { method := m, pc := pc, locals := _, stack := Value.int x :: _, locked := none }) _
      rcases ht with rfl | rfl | rfl | rfl | rfl
      all_goals
        jvm_step Y.here [Y.here.top, hx, hd', hm', hret', hn]
        first | (intro acts; rw [hl' _ acts rfl rfl rfl]) | rw [hl' _ _ rfl rfl rfl]
        exact Steps.refl _
    · cases h
theorem s_retL (hd : decode M.2.1 pc = .ok (.lreturn, 1)) (hr : M.2.2.2.1 = some .long) : Sound Z X CT l MT M pc oRetL := by
  refine ⟨fun _ _ _ _ _ _ _ h => h, fun call L S H r hc h => ?_, ?_⟩
  · simp only [oRetL] at h
    split at h
    · cases h; exact Up.refl _
    · cases h
  · intro p e R s m args below meth c hx hZ hown hby hnm hret hlk hf hl call hcall H0 Hf hRc hRs T L S H hs r h
    simp only [oRetL] at h
    split at h
    · rename_i x
      cases h
      obtain ⟨locs, Y, hrep, hfr, hlen, h1, h2, h3⟩ := hs
      have hret' : meth.sig.returnType = some .long := hret.trans hr
      obtain ⟨fs, hl', hrun, hended, hW, hsame⟩ := Y.leave (v := some (.long x)) (fun q => by rw [hret'] at q; cases q)
      exact ⟨rfl, _, retOut Y hx hret' rfl (Or.inr (Or.inl ⟨rfl, rfl, x, rfl⟩)) (hb hby hd) hl', hrun, hended, ⟨locs, hfr, ⟨_, rfl⟩, hW, hsame⟩, hrep⟩
    · cases h
theorem s_retA {t : FieldType} (hd : decode M.2.1 pc = .ok (.areturn, 1)) (hr : M.2.2.2.1 = some t) (ht : t.isReference = true) : Sound Z X CT l MT M pc oRetA := by
  refine ⟨fun _ _ _ _ _ _ _ h => h, fun call L S H r hc h => ?_, ?_⟩
  · simp only [oRetA] at h
    split at h
    · cases h; exact Up.refl _
    · cases h; exact Up.refl _
    · cases h
  · intro p e R s m args below meth c hx hZ hown hby hnm hret hlk hf hl call hcall H0 Hf hRc hRs T L S H hs r h
    simp only [oRetA] at h
    have hret' : meth.sig.returnType = some t := hret.trans hr
    split at h
    · rename_i x S'
      cases h
      obtain ⟨locs, Y, hrep, hfr, hlen, h1, h2, h3⟩ := hs
      obtain ⟨fs, hl', hrun, hended, hW, hsame⟩ := Y.leave (v := some (ab Z X (.ref x))) (fun q => by rw [hret'] at q; cases q)
      exact ⟨rfl, _, retOut Y hx hret' (by cases t <;> first | rfl | cases ht) (Or.inr (Or.inr (Or.inr (Or.inr ⟨rfl, ht, rfl⟩)))) (hb hby hd) hl', hrun, hended, ⟨locs, hfr, ⟨_, rfl⟩, hW, hsame⟩, hrep⟩
    · rename_i S'
      cases h
      obtain ⟨locs, Y, hrep, hfr, hlen, h1, h2, h3⟩ := hs
      obtain ⟨fs, hl', hrun, hended, hW, hsame⟩ := Y.leave (v := some .null) (fun q => by rw [hret'] at q; cases q)
      exact ⟨rfl, _, retOut Y hx hret' (by cases t <;> first | rfl | cases ht) (Or.inr (Or.inr (Or.inr (Or.inr ⟨rfl, ht, rfl⟩)))) (hb hby hd) hl', hrun, hended, ⟨locs, hfr, ⟨_, rfl⟩, hW, hsame⟩, hrep⟩
    · cases h
theorem s_ret (hd : decode M.2.1 pc = .ok (.return_, 1)) (hr : M.2.2.2.1 = none) : Sound Z X CT l MT M pc oRet := by
  refine ⟨fun _ _ _ _ _ _ _ h => h, fun call L S H r hc h => ?_, ?_⟩
  · simp only [oRet] at h
    split at h
    · cases h; exact Up.refl _
    · cases h
  · intro p e R s m args below meth c hx hZ hown hby hnm hret hlk hf hl call hcall H0 Hf hRc hRs T L S H hs r h
    simp only [oRet] at h
    split at h
    · cases h
      obtain ⟨locs, Y, hrep, hfr, hlen, h1, h2, h3⟩ := hs
      obtain ⟨fs, hl', hrun, hended, hW, hsame⟩ := Y.leave (v := none) (fun _ => rfl)
      exact ⟨rfl, _, Y.returnOut hx (hret.trans hr) (hb hby hd) hl', hrun, hended, ⟨locs, hfr, ⟨_, rfl⟩, hW, hsame⟩, hrep⟩
    · cases h
theorem wt_map (S : List Value) : ((S.map (ab Z X)).map fun v => v.category).sum = wt S := by
  induction S with
  | nil => rfl
  | cons v r ih => simp only [List.map_cons, List.sum_cons, wt, ab_cat] at ih ⊢; rw [ih]
theorem mono_call (μ na W n : Nat) : Mono (oCall μ na W n) := fun c c' L S H r hl h => by
  simp only [oCall] at h ⊢
  split at h
  · rename_i hg
    rw [if_pos hg]
    split at h
    · rename_i hq
      rw [hl _ _ _ _ hq]; exact h
    · cases h
  · cases h
theorem grow_call (μ na W n : Nat) : Grow CT (oCall μ na W n) := fun call L S H r hc h => by
  simp only [oCall] at h
  split at h
  · split at h
    · rename_i hq
      cases h; exact hc _ _ _ _ _ hq
    · cases h
  · cases h
theorem s_callS {μ na W idx : Nat} {Mc : MI} {ps : List FieldType} {rt : Option FieldType} (hd : decode M.2.1 pc = .ok (.invokestatic idx, 3)) (hMc : MT[μ]? = some Mc) (w1 : (Jvm.Cond.methodLink M.1.cls idx Mc.1).before a0 Z = true) (w2 : (Jvm.Cond.static Mc.1).before a0 Z = true) (w3 : (Jvm.Cond.initialized Mc.1.cls).before a0 Z = true) (w4 : (Jvm.Cond.code Mc.1 Mc.2.1 Mc.2.2.1 Mc.2.2.2.1).before a0 Z = true)
    (hpd : parseMethodDescriptor Mc.1.desc = some ⟨ps, rt⟩) (hna : ps.length = na) (hy : Mc.1.cls ≠ "java/lang/invoke/MethodHandle" ∧ Mc.1.cls ≠ "java/lang/invoke/VarHandle") (hf0 : Mc.2.2.2.2.1 + 1 ≤ M.2.2.2.2.1) (hl0 : W + (Mc.2.2.1 + 11) + Mc.2.2.2.2.2 ≤ M.2.2.2.2.2) : Sound Z X CT l MT M pc (oCall μ na W (pc + 3)) := by
  refine ⟨mono_call _ _ _ _, grow_call _ _ _ _, ?_⟩
  intro p e R s m args below meth c hx hZ hown hby hnm hret hlk hf hl call hcall H0 Hf hRc hRs T L S H hs r h
  simp only [oCall] at h
  split at h
  · rename_i hg
    obtain ⟨hg1, hg2⟩ := hg
    split at h
    · rename_i v H' hq
      cases h
      obtain ⟨⟨u1, u2⟩, M', hM', con⟩ := hcall _ _ _ _ _ hq
      cases hMc.symm.trans hM'
      intro b1 b2
      obtain ⟨locs, Y, hrep, hfr, hlen, h1, h2, h3⟩ := hs
      have B := backOf (W := W) (args := args) (below := below) (p := p) (e := e) (R := R) (len := 3) (Q := fun w hh L => w = v.map (ab Z X) ∧ Fr Z.heap.size L ∧ Rep Z X CT hh H') (con T.heap hrep) hZ w4 w3 (Nat.le_trans hf0 hf) (Nat.le_trans hl0 hl)
      have hst : (fra Z X m pc L S).stack = (((S.take na).reverse).map (ab Z X)).reverse ++ (S.drop na).map (ab Z X) := by
        show S.map (ab Z X) = _
        rw [← List.map_reverse, List.reverse_reverse, ← List.map_append, List.take_append_drop]
      obtain ⟨v', vm₁, ⟨T', L', k', n'⟩, -, Y', ⟨Lc, ⟨hv, hfrL, hrep'⟩, l', y', z'⟩, st⟩ := Jvm.LawKit.callS Y hx (y := Mc.1) hown (mvT hZ w1) (mvT hZ w2) (mvT hZ w3) (mvT hZ w4) hy B (g := fra Z X m pc L S) rfl (by show (List.toArray _).size = _; simp [hlen]) (argsL := ((S.take na).reverse).map (ab Z X)) (rest := (S.drop na).map (ab Z X)) (lenOf hpd (by simp [hna]; omega)) hst (by rw [wt_map]; simpa using hg2) (hb hby hd) (fun _ _ => ⟨rfl, rfl, by show (H.length - H0.length) + (H'.length - H.length) ≤ R.cells; omega, by show (sz CT H - sz CT H0) + (sz CT H' - sz CT H) ≤ R.slots; omega⟩)
      dsimp only [Pt.U, Pt.locs, Pt.cells, Pt.slots] at Y' l' y' z' st hrep'
      subst l' y' z' hv
      refine ⟨T', ⟨locs ++ Lc, ?_, hrep', Fr.app hfr hfrL, hlen, by omega, by omega, h3⟩, ?_⟩
      · have e1 : (H.length - H0.length) + (H'.length - H.length) = H'.length - H0.length := by omega
        have e2 : (sz CT H - sz CT H0) + (sz CT H' - sz CT H) = sz CT H' - sz CT H0 := by omega
        rw [← e1, ← e2]; exact Y'
      · intro target ht
        refine st _ ?_
        have e3 : (v.toList ++ S.drop na).map (ab Z X) = (v.map (ab Z X)).toList ++ (S.drop na).map (ab Z X) := by cases v <;> simp
        show Steps p.tables e below (T'.setTop (mkF m (pc + 3) _ _)) target
        rw [← e3]; exact ht
    · cases h
  · cases h
end Ends
end Jvm.MV
namespace Jvm.MV
open Jvm Jvm.ClassFile Sem Op Lib Jvm.Free Jvm.Stand Jvm.LawKit Jvm.RoadKit Bundle
/-! ### steps that make, read and write cells -/
def oNewA (k : Nat) (dv : Value) (n : Nat) : MOp := fun _ L S H => match S with
  | .int z :: S' => if z < 0 then none else if z.toNatClampNeg * 8 ≤ 536870912 then some (.inl (n, L, .ref H.length :: S', H ++ [(k, List.replicate z.toNatClampNeg dv)])) else none
  | _ => none
def oNew (k : Nat) (ds : List Value) (n : Nat) : MOp := fun _ L S H => some (.inl (n, L, .ref H.length :: S, H ++ [(k, ds)]))
/-- read place j of an array of kind k -/
def oALd (k : Nat) (n : Nat) : MOp := fun _ L S H => match S with
  | .int j :: .ref a :: S' => match H[a]? with
    | some (k', vs) => match Nat.beq k' k with
      | true => if j < 0 then none else match vs[j.toNatClampNeg]? with
        | some v => some (.inl (n, L, v :: S', H))
        | none => none
      | false => none
    | none => none
  | _ => none
def oASt (xl : Nat) (k : Nat) (t : FieldType) (n : Nat) : MOp := fun _ L S H => match S with
  | .int x :: .int j :: .ref a :: S' => match H[a]? with
    | some (k', vs) => match Nat.beq k' k && Nat.ble xl a with
      | true => if j < 0 then none else match Nat.ble vs.length j.toNatClampNeg with
        | false => some (.inl (n, L, S', H.set a (k', vs.set j.toNatClampNeg (.int (nar t x)))))
        | true => none
      | false => none
    | none => none
  | _ => none
def oALen (k : Nat) (n : Nat) : MOp := fun _ L S H => match S with
  | .ref a :: S' => match H[a]? with
    | some (k', vs) => match Nat.beq k' k with
      | true => some (.inl (n, L, .int vs.length.toInt32 :: S', H))
      | false => none
    | none => none
  | _ => none
def oGetF (k pos n : Nat) : MOp := fun _ L S H => match S with
  | .ref a :: S' => match H[a]? with
    | some (k', vs) => match Nat.beq k' k with
      | true => match vs[pos]? with
        | some v => some (.inl (n, L, v :: S', H))
        | none => none
      | false => none
    | none => none
  | _ => none
/-- a value as a field of this type takes it -/
def cv : FieldType → Value → Option Value
  | .int, .int x => some (.int x)
  | .boolean, .int x => some (.int (nar .boolean x))
  | .byte, .int x => some (.int (nar .byte x))
  | .long, .long x => some (.long x)
  | .object _, .null => some .null
  | .object _, .ref a => some (.ref a)
  | .array _, .null => some .null
  | .array _, .ref a => some (.ref a)
  | _, _ => none
def oPutF (xl : Nat) (k pos : Nat) (ty : FieldType) (n : Nat) : MOp := fun _ L S H => match S with
  | v :: .ref a :: S' => match H[a]? with
    | some (k', vs) => match Nat.beq k' k && Nat.ble xl a with
      | true => match cv ty v with
        | some v' => some (.inl (n, L, S', H.set a (k', vs.set pos v')))
        | none => none
      | false => none
    | none => none
  | _ => none
def oInit0 (W n : Nat) : MOp := fun _ L S H => match S with
  | .ref _ :: S' => if wt S' ≤ W then some (.inl (n, L, S', H)) else none
  | _ => none
/-- a call whose receiver is an object of kind k -/
def oCallR (k μ na W n : Nat) : MOp := fun call L S H =>
  if na + 1 ≤ S.length ∧ wt (S.drop (na + 1)) ≤ W then match S[na]? with
    | some (.ref a) => match H[a]? with
      | some (k', _) => match Nat.beq k' k with
        | true => match call μ (.ref a :: (S.take na).reverse) H with
          | some (v, H') => some (.inl (n, L, v.toList ++ S.drop (na + 1), H'))
          | none => none
        | false => none
      | none => none
    | _ => none
  else none
section Heap
variable {Z : State} {X : List Addr} {CT : Tab} {l : Launch} {MT : List MI} {M : MI} {pc : Nat} {a0 : Array Value} {h h' : Heap} {H : MH} {i k : Nat} {vs : List Value}
theorem ph_fresh (hi : X.length ≤ i) : ph Z X i = Z.heap.size + (i - X.length) := by
  simp [ph, List.getElem?_eq_none hi]
theorem ph_old (hX : ∀ a ∈ X, a < Z.heap.size) (hi : i < X.length) : ph Z X i < Z.heap.size := by
  simp only [ph, List.getElem?_eq_getElem hi]; exact hX _ (List.getElem_mem hi)
theorem ph_ne (hX : ∀ a ∈ X, a < Z.heap.size) {j : Nat} (hij : i ≠ j) (hi : X.length ≤ i ∨ X.length ≤ j) : ph Z X i ≠ ph Z X j := by
  rcases Nat.lt_or_ge i X.length with h1 | h1 <;> rcases Nat.lt_or_ge j X.length with h2 | h2
  · omega
  · have := ph_old hX h1; have := ph_fresh (Z := Z) h2; omega
  · have := ph_old hX h2; have := ph_fresh (Z := Z) h1; omega
  · have := ph_fresh (Z := Z) h1; have := ph_fresh (Z := Z) h2; omega
theorem CellOk.ext {a : Addr} (E : Ext h h') (q : CellOk Z X CT h a k vs) : CellOk Z X CT h' a k vs := by
  simp only [CellOk] at q ⊢
  split at q
  · obtain ⟨c, A, s, q1, q2⟩ := q
    exact ⟨c, A.ext E, s, fun w => (q1 w).ext E, q2⟩
  · exact ⟨q.1.ext E, q.2.1, fun j O nm d ty v h1 h2 => (q.2.2 j O nm d ty v h1 h2).ext E⟩
  · exact q
theorem CellOk.other {a b : Addr} {sl : Nat} {v : Value} (W : Wr h h' b sl v) (hne : a ≠ b) (q : CellOk Z X CT h a k vs) : CellOk Z X CT h' a k vs := by
  simp only [CellOk] at q ⊢
  split at q
  · obtain ⟨c, A, s, q1, q2⟩ := q
    exact ⟨c, A.other W hne, s, fun w => (q1 w).wr W, q2⟩
  · exact ⟨q.1.wr W, q.2.1, fun j O nm d ty v h1 h2 => (q.2.2 j O nm d ty v h1 h2).other W (Or.inl hne)⟩
  · exact q
theorem Rep.push (R : Rep Z X CT h H) (E : Ext h h') (hs : h'.size = h.size + 1) (hc : CellOk Z X CT h' h.size k vs) : Rep Z X CT h' (H ++ [(k, vs)]) := by
  obtain ⟨r1, r2, r3, r4⟩ := R
  refine ⟨by simp; omega, by simp; omega, fun a ha => ?_, fun i k' vs' hi => ?_⟩
  · have hlt : a < h.size := by omega
    have e1 : h[a]? = some h[a] := Array.getElem?_eq_getElem hlt
    rw [E.2 _ _ e1, ← e1]; exact r3 a ha
  · rcases Nat.lt_trichotomy i H.length with q | q | q
    · rw [List.getElem?_append_left q] at hi
      exact (r4 i k' vs' hi).ext E
    · subst q
      simp at hi
      obtain ⟨rfl, rfl⟩ := hi
      rw [ph_fresh r1, ← r2]; exact hc
    · rw [List.getElem?_eq_none (by simp; omega)] at hi; cases hi
theorem Rep.at (R : Rep Z X CT h H) {q : Nat × List Value} (hi : H[i]? = some q) : CellOk Z X CT h (ph Z X i) q.1 q.2 := R.2.2.2 i q.1 q.2 hi
theorem Rep.upd (hX : ∀ a ∈ X, a < Z.heap.size) (R : Rep Z X CT h H) (hi : X.length ≤ i) {sl : Nat} {v : Value} (W : Wr h h' (ph Z X i) sl v) (hc : CellOk Z X CT h' (ph Z X i) k vs) : Rep Z X CT h' (H.set i (k, vs)) := by
  obtain ⟨r1, r2, r3, r4⟩ := R
  refine ⟨by simpa using r1, by rw [W.size]; simpa using r2, fun a ha => ?_, fun j k' vs' hj => ?_⟩
  · have hne : a ≠ ph Z X i := by have := ph_fresh (Z := Z) hi; omega
    rw [← r3 a ha]
    obtain ⟨cell, -, -, -, rfl⟩ := W
    rw [Array.getElem?_setIfInBounds_ne (Ne.symm hne)]
  · by_cases e : j = i
    · subst e
      by_cases hl : j < H.length
      · rw [List.getElem?_set_self hl] at hj
        cases hj; exact hc
      · rw [List.getElem?_eq_none (by simp; omega)] at hj; cases hj
    · rw [List.getElem?_set_ne (Ne.symm e)] at hj
      exact (r4 j k' vs' hj).other W (ph_ne hX e (Or.inr hi))
theorem sz_app (H : MH) (q : Nat × List Value) : sz CT (H ++ [q]) = sz CT H + szc CT q := by simp [sz]
theorem sz_set {q q' : Nat × List Value} (hi : H[i]? = some q) (hq : szc CT q' = szc CT q) : sz CT (H.set i q') = sz CT H := by
  have e : (H.set i q').map (szc CT) = H.map (szc CT) := by
    rw [List.map_set, hq]
    refine List.ext_getElem? fun j => ?_
    by_cases hj : i = j
    · subst hj
      have hl : i < H.length := (List.getElem?_eq_some_iff.mp hi).1
      rw [List.getElem?_set_self (by simpa using hl)]
      simp [hi]
    · rw [List.getElem?_set_ne hj]
  simp only [sz, e]
theorem ab_default (t : FieldType) : ab Z X (defaultValue t) = defaultValue t := by cases t <;> rfl
theorem grow_newA (k : Nat) (dv : Value) (n : Nat) : Grow CT (oNewA k dv n) := fun call L S H r hc h => by
  simp only [oNewA] at h
  split at h
  · split at h
    · cases h
    · split at h
      · cases h; exact ⟨by simp [hOf], by simp only [hOf, sz_app]; omega⟩
      · cases h
  · cases h
theorem s_newA {aty : ArrayType} {n1 : Nat} {fs : List (String × String × String × FieldType)} (hd : decode M.2.1 pc = .ok (.newarray aty, 2)) (w : (Jvm.Cond.arrayClass (newarray.typeOf aty)).before a0 Z = true) (hk : CT[k]? = some (.array (newarray.typeOf aty), n1, fs)) {dv : Value} (hdv : defaultValue (newarray.typeOf aty) = dv) : Sound Z X CT l MT M pc (oNewA k dv (pc + 2)) := by
  subst hdv
  refine ⟨fun _ _ _ _ _ _ _ h => h, grow_newA _ _ _, ?_⟩
  intro p e R s m args below meth c hx hZ hown hby hnm hret hlk hf hl call hcall H0 Hf hRc hRs T L S H hs r h
  simp only [oNewA] at h
  split at h
  · rename_i z S'
    split at h
    · cases h
    · rename_i hz
      split at h
      · rename_i hbig
        cases h
        intro b1 b2
        obtain ⟨locs, Y, hrep, hfr, hlen, h1, h2, h3⟩ := hs
        have es : szc CT (k, List.replicate z.toNatClampNeg (defaultValue (newarray.typeOf aty))) = z.toNatClampNeg := by simp [szc, hk]
        rw [sz_app, es] at b2
        simp at b1
        obtain ⟨T', h', cA, Y', e', E, A, Ex, st⟩ := newPE Y hx hZ w rfl (g := fra Z X m pc L (.int z :: S')) rfl (hb hby hd) rfl hz (cap := z.toNatClampNeg) (Nat.le_refl _) hbig (by omega) (by omega) rfl
        have hsz : h'.size = T.heap.size + 1 := by
          have q1 : T.heap.size < h'.size := A.lt
          have q2 : T'.heap.size ≤ _ := Y'.heapSize
          have q3 := hrep.2.1
          obtain ⟨u1, u2⟩ := h3
          have q4 := hrep.1
          rw [e'] at q2
          omega
        refine ⟨T', ⟨locs, ?_, ?_, hfr, hlen, by simp; omega, by rw [sz_app]; omega, h3⟩, fun target ht => st _ ?_⟩
        · have e1 : (H ++ [(k, List.replicate z.toNatClampNeg (defaultValue (newarray.typeOf aty)))]).length - H0.length = H.length - H0.length + 1 := by simp; omega
          have e2 : sz CT (H ++ [(k, List.replicate z.toNatClampNeg (defaultValue (newarray.typeOf aty)))]) - sz CT H0 = sz CT H - sz CT H0 + z.toNatClampNeg := by rw [sz_app, es]; omega
          rw [e1, e2]; exact Y'
        · rw [e']
          refine hrep.push E hsz ?_
          simp only [CellOk, hk]
          refine ⟨_, A, ?_, fun _ => Ex, fun _ => ⟨fun C hC => ?_, fun C hC => ?_⟩⟩
          · simp [newA, ab_default]
          · cases aty <;> simp [newarray.typeOf] at hC
          · cases aty <;> simp [newarray.typeOf] at hC
        · have e3 : ab Z X (.ref H.length) = .ref T.heap.size := by simp only [ab, ph_fresh hrep.1, hrep.2.1]
          show Steps p.tables e below (T'.setTop (mkF m (pc + 2) _ (.ref T.heap.size :: _))) target
          rw [← e3]; exact ht
      · cases h
  · cases h
theorem grow_same {f : MOp} (hh : ∀ c L S H r, f c L S H = some r → hOf r = H) : Grow CT f := fun call L S H r hc h => by rw [hh _ _ _ _ _ h]; exact Up.refl _
theorem arr_at (R : Rep Z X CT h H) {q : Nat × List Value} (hi : H[i]? = some q) {t : FieldType} {n1 : Nat} {fs : List (String × String × String × FieldType)} (hk : CT[q.1]? = some (.array t, n1, fs)) : ∃ c, Arr Z h (ph Z X i) c t ∧ c.slots = (q.2.map (ab Z X)).toArray ∧ (n1 = 1 → Exa Z h (ph Z X i) ("[" ++ t.toString)) ∧ (n1 = 1 → OvT Z c.cls t) := by
  have := R.at hi
  simpa only [CellOk, hk] using this
/-- reading an array: what the model's own law for the instruction says is handed in -/
theorem s_ald {t : FieldType} {n1 : Nat} {fs : List (String × String × String × FieldType)} (hk : CT[k]? = some (.array t, n1, fs))
    (law : ∀ (p : Program) (l : Launch) (e : Env) (R : Room) (s : State) (m : MethodId) (args : Array Value) (below : List Frame) (meth : Method) (c : Code) (T : State) (locs : List Loc) (cells slots : Nat), Stand p l e R s m args below meth c T locs cells slots → p.tables.exec = Jvm.exec → c.code = M.2.1 → ∀ (a : Addr) (cell : Cell) (j : Int32) (v : Value), T.heap[a]? = some cell → s.isArrayOf cell t → cell.vm ≠ .unknown → ¬ (j < 0 ∨ cell.slots.size ≤ j.toNatClampNeg) → cell.slots[j.toNatClampNeg]? = some v →
      ∀ (Ls : Array Slot) (rest : List Value) (target : State), Steps p.tables e below (T.setTop (mkF m (pc + 1) Ls (v :: rest))) target → Steps p.tables e below (T.setTop (mkF m pc Ls (.int j :: .ref a :: rest))) target) : Sound Z X CT l MT M pc (oALd k (pc + 1)) := by
  refine ⟨fun _ _ _ _ _ _ _ h => h, grow_same fun c L S H r h => ?_, ?_⟩
  · simp only [oALd] at h
    repeat' (split at h)
    all_goals first | (cases h; done) | (cases h; rfl)
  · intro p e R s m args below meth c hx hZ hown hby hnm hret hlk hf hl call hcall H0 Hf hRc hRs T L S H hs r h
    simp only [oALd] at h
    split at h
    · rename_i j a S'
      split at h
      · rename_i k' vs hH
        split at h
        · rename_i hb1
          cases Nat.eq_of_beq_eq_true hb1
          split at h
          · cases h
          · rename_i hj
            split at h
            · rename_i v hv
              cases h
              intro b1 b2
              obtain ⟨locs, Y, hrep, hfr, hlen, h1, h2, h3⟩ := hs
              obtain ⟨cell, A, hsl, -⟩ := arr_at hrep hH hk
              have hlt : j.toNatClampNeg < vs.length := (List.getElem?_eq_some_iff.mp hv).1
              refine ⟨T, ⟨locs, Y, hrep, hfr, hlen, h1, h2, h3⟩, fun target ht => ?_⟩
              exact law _ _ _ _ _ _ _ _ _ _ _ _ _ _ Y hx hby _ _ _ _ A.1 (State.isArrayOf_alike hZ.alike A.2.1) A.2.2 (by rw [hsl]; simp; exact ⟨by simpa [Int32.not_lt] using hj, hlt⟩) (by rw [hsl]; simp [hv]) _ _ target ht
            · cases h
        · cases h
      · cases h
    · cases h
theorem s_iaload {n1 : Nat} {fs : List (String × String × String × FieldType)} (hd : decode M.2.1 pc = .ok (.iaload, 1)) (hk : CT[k]? = some (.array .int, n1, fs)) : Sound Z X CT l MT M pc (oALd k (pc + 1)) :=
  s_ald hk fun _ _ _ _ _ _ _ _ _ _ _ _ _ _ Y hx hby _ _ _ _ h1 h2 h3 h4 h5 _ _ target ht => Y.iaload hx h1 h2 h3 h4 h5 (g := mkF _ pc _ _) rfl rfl (hb hby hd) target ht
theorem s_laload {n1 : Nat} {fs : List (String × String × String × FieldType)} (hd : decode M.2.1 pc = .ok (.laload, 1)) (hk : CT[k]? = some (.array .long, n1, fs)) : Sound Z X CT l MT M pc (oALd k (pc + 1)) :=
  s_ald hk fun _ _ _ _ _ _ _ _ _ _ _ _ _ _ Y hx hby _ _ _ _ h1 h2 h3 h4 h5 _ _ target ht => Y.laload hx h1 h2 h3 h4 h5 (g := mkF _ pc _ _) rfl rfl (hb hby hd) target ht
theorem s_baload {n1 : Nat} {fs : List (String × String × String × FieldType)} (hd : decode M.2.1 pc = .ok (.baload, 1)) (hk : CT[k]? = some (.array .byte, n1, fs)) : Sound Z X CT l MT M pc (oALd k (pc + 1)) :=
  s_ald hk fun _ _ _ _ _ _ _ _ _ _ _ _ _ _ Y hx hby _ _ _ _ h1 h2 h3 h4 h5 _ _ target ht => Y.baloadBytes hx h1 h2 h3 h4 h5 (g := mkF _ pc _ _) rfl rfl (hb hby hd) target ht
theorem s_zaload {n1 : Nat} {fs : List (String × String × String × FieldType)} (hd : decode M.2.1 pc = .ok (.baload, 1)) (hk : CT[k]? = some (.array .boolean, n1, fs)) : Sound Z X CT l MT M pc (oALd k (pc + 1)) :=
  s_ald hk fun _ _ _ _ _ _ _ _ _ _ _ _ _ _ Y hx hby _ _ _ _ h1 h2 h3 h4 h5 _ _ target ht => Y.baloadBooleans hx h1 h2 h3 h4 h5 (g := mkF _ pc _ _) rfl rfl (hb hby hd) target ht
theorem s_caload {n1 : Nat} {fs : List (String × String × String × FieldType)} (hd : decode M.2.1 pc = .ok (.caload, 1)) (hk : CT[k]? = some (.array .char, n1, fs)) : Sound Z X CT l MT M pc (oALd k (pc + 1)) :=
  s_ald hk fun _ _ _ _ _ _ _ _ _ _ _ _ _ _ Y hx hby _ _ _ _ h1 h2 h3 h4 h5 _ _ target ht => Y.caload hx h1 h2 h3 h4 h5 (g := mkF _ pc _ _) rfl rfl (hb hby hd) target ht
theorem s_aaload {t : FieldType} {n1 : Nat} {fs : List (String × String × String × FieldType)} (hd : decode M.2.1 pc = .ok (.aaload, 1)) (ht : t.isReference = true) (hk : CT[k]? = some (.array t, n1, fs)) : Sound Z X CT l MT M pc (oALd k (pc + 1)) :=
  s_ald hk fun _ _ _ _ _ _ _ _ _ _ _ _ _ _ Y hx hby _ _ _ _ h1 h2 h3 h4 h5 _ _ target ht' => Y.aaload hx h1 h2 ht h3 h4 h5 (g := mkF _ pc _ _) rfl rfl (hb hby hd) target ht'
theorem s_alen {t : FieldType} {n1 : Nat} {fs : List (String × String × String × FieldType)} (hd : decode M.2.1 pc = .ok (.arraylength, 1)) (hk : CT[k]? = some (.array t, n1, fs)) : Sound Z X CT l MT M pc (oALen k (pc + 1)) := by
  refine ⟨fun _ _ _ _ _ _ _ h => h, grow_same fun c L S H r h => ?_, ?_⟩
  · simp only [oALen] at h
    repeat' (split at h)
    all_goals first | (cases h; done) | (cases h; rfl)
  · intro p e R s m args below meth c hx hZ hown hby hnm hret hlk hf hl call hcall H0 Hf hRc hRs T L S H hs r h
    simp only [oALen] at h
    split at h
    · rename_i a S'
      split at h
      · rename_i k' vs hH
        split at h
        · rename_i hb1
          cases Nat.eq_of_beq_eq_true hb1
          cases h
          intro b1 b2
          obtain ⟨locs, Y, hrep, hfr, hlen, h1, h2, h3⟩ := hs
          obtain ⟨cell, A, hsl, -⟩ := arr_at hrep hH hk
          refine ⟨T, ⟨locs, Y, hrep, hfr, hlen, h1, h2, h3⟩, fun target ht => ?_⟩
          refine Y.arraylength hx A.1 (State.isArrayOf_alike hZ.alike A.2.1) (g := fra Z X m pc L (.ref a :: S')) rfl rfl (hb hby hd) target ?_
          rw [hsl]; simp only [List.size_toArray, List.length_map]; exact ht
        · cases h
      · cases h
    · cases h
/-- writing an int-like array -/
theorem s_ast (hX : ∀ a ∈ X, a < Z.heap.size) {t : FieldType} {n1 : Nat} {fs : List (String × String × String × FieldType)} (hk : CT[k]? = some (.array t, n1, fs))
    (law : ∀ (p : Program) (l : Launch) (e : Env) (R : Room) (s : State) (m : MethodId) (args : Array Value) (below : List Frame) (meth : Method) (c : Code) (T : State) (locs : List Loc) (cells slots : Nat), Stand p l e R s m args below meth c T locs cells slots → p.tables.exec = Jvm.exec → Z.Warmed39 s.vm → c.code = M.2.1 → ∀ (h : Heap), T.heap = h → ∀ (a : Addr) (cl : Cell), Arr Z h a cl t → ∀ (j x : Int32), ¬ (j < 0 ∨ cl.slots.size ≤ j.toNatClampNeg) → ∀ (Ls : Array Slot) (rest : List Value),
      ∃ T' h', Stand p l e R s m args below meth c T' (locs ++ [⟨a, j.toNatClampNeg⟩]) cells slots ∧ T'.heap = h' ∧ Wr h h' a j.toNatClampNeg (.int (nar t x)) ∧ ∀ target, Steps p.tables e below (T'.setTop (mkF m (pc + 1) Ls rest)) target → Steps p.tables e below (T.setTop (mkF m pc Ls (.int x :: .int j :: .ref a :: rest))) target) : Sound Z X CT l MT M pc (oASt X.length k t (pc + 1)) := by
  have sset : ∀ {H : MH} {a : Nat} {vs : List Value} (j : Nat) (v : Value), H[a]? = some (k, vs) → sz CT (H.set a (k, vs.set j v)) = sz CT H := fun j v hH => sz_set hH (by simp [szc, hk])
  refine ⟨fun _ _ _ _ _ _ _ h => h, fun call L S H r hc h => ?_, ?_⟩
  · simp only [oASt] at h
    split at h
    · split at h
      · rename_i k' vs hH
        split at h
        · rename_i hb1
          have e1 := Nat.eq_of_beq_eq_true (Bool.and_eq_true_iff.mp hb1).1
          subst e1
          split at h
          · cases h
          · split at h
            · cases h; exact ⟨by simp [hOf], by simp only [hOf]; rw [sset _ _ hH]; exact Nat.le_refl _⟩
            · cases h
        · cases h
      · cases h
    · cases h
  · intro p e R s m args below meth c hx hZ hown hby hnm hret hlk hf hl call hcall H0 Hf hRc hRs T L S H hs r h
    simp only [oASt] at h
    split at h
    · rename_i x j a S'
      split at h
      · rename_i k' vs hH
        split at h
        · rename_i hb1
          obtain ⟨hb1, hb2⟩ := Bool.and_eq_true_iff.mp hb1
          have e1 := Nat.eq_of_beq_eq_true hb1
          subst e1
          have hxa : X.length ≤ a := Nat.le_of_ble_eq_true hb2
          split at h
          · cases h
          · rename_i hj
            split at h
            · rename_i hb3
              have hlt : j.toNatClampNeg < vs.length := Nat.lt_of_not_le fun q => by rw [Nat.ble_eq_true_of_le q] at hb3; cases hb3
              cases h
              intro b1 b2
              obtain ⟨locs, Y, hrep, hfr, hlen, h1, h2, h3⟩ := hs
              obtain ⟨cell, A, hsl, q1, q2⟩ := arr_at hrep hH hk
              have hin : ¬ (j < 0 ∨ cell.slots.size ≤ j.toNatClampNeg) := by rw [hsl]; simp; exact ⟨by simpa [Int32.not_lt] using hj, hlt⟩
              obtain ⟨T', h', Y', e', W, st⟩ := law _ _ _ _ _ _ _ _ _ _ _ _ _ _ Y hx hZ hby _ rfl _ _ A _ x hin (L.map (abS Z X)).toArray (S'.map (ab Z X))
              refine ⟨T', ⟨_, ?_, ?_, Fr.snoc Y' hfr ?_, hlen, by simpa using h1, by rw [sset _ _ hH]; exact h2, h3⟩, st⟩
              · rw [sset _ _ hH, List.length_set]; exact Y'
              · rw [e']
                refine hrep.upd hX hxa W ?_
                simp only [CellOk, hk]
                refine ⟨_, A.same W, ?_, fun w => (q1 w).wr W, q2⟩
                simp only [Cell.setSlot, hsl]
                simp [List.map_set, ab]
              · have := ph_fresh (Z := Z) hxa; omega
            · cases h
        · cases h
      · cases h
    · cases h
theorem s_iastore (hX : ∀ a ∈ X, a < Z.heap.size) {n1 : Nat} {fs : List (String × String × String × FieldType)} (hd : decode M.2.1 pc = .ok (.iastore, 1)) (hk : CT[k]? = some (.array .int, n1, fs)) : Sound Z X CT l MT M pc (oASt X.length k .int (pc + 1)) :=
  s_ast hX hk fun _ _ _ _ _ _ _ _ _ _ _ _ _ _ Y hx hZ hby _ eT _ _ A _ _ hj _ _ => stI Y hx hZ eT A hj (g := mkF _ pc _ _) rfl rfl (hb hby hd)
theorem s_bastore (hX : ∀ a ∈ X, a < Z.heap.size) {n1 : Nat} {fs : List (String × String × String × FieldType)} (hd : decode M.2.1 pc = .ok (.bastore, 1)) (hk : CT[k]? = some (.array .byte, n1, fs)) : Sound Z X CT l MT M pc (oASt X.length k .byte (pc + 1)) :=
  s_ast hX hk fun _ _ _ _ _ _ _ _ _ _ _ _ _ _ Y hx hZ hby _ eT _ _ A _ _ hj _ _ => stB Y hx hZ eT A hj (g := mkF _ pc _ _) rfl rfl (hb hby hd)
theorem s_zastore (hX : ∀ a ∈ X, a < Z.heap.size) {n1 : Nat} {fs : List (String × String × String × FieldType)} (hd : decode M.2.1 pc = .ok (.bastore, 1)) (hk : CT[k]? = some (.array .boolean, n1, fs)) : Sound Z X CT l MT M pc (oASt X.length k .boolean (pc + 1)) :=
  s_ast hX hk fun _ _ _ _ _ _ _ _ _ _ _ _ _ _ Y hx hZ hby _ eT _ _ A _ _ hj _ _ => stZ Y hx hZ eT A hj (g := mkF _ pc _ _) rfl rfl (hb hby hd)
theorem s_castore (hX : ∀ a ∈ X, a < Z.heap.size) {n1 : Nat} {fs : List (String × String × String × FieldType)} (hd : decode M.2.1 pc = .ok (.castore, 1)) (hk : CT[k]? = some (.array .char, n1, fs)) : Sound Z X CT l MT M pc (oASt X.length k .char (pc + 1)) :=
  s_ast hX hk fun _ _ _ _ _ _ _ _ _ _ _ _ _ _ Y hx hZ hby _ eT _ _ A _ _ hj _ _ => stC Y hx hZ eT A hj (g := mkF _ pc _ _) rfl rfl (hb hby hd)
end Heap
end Jvm.MV
namespace Jvm.MV
open Jvm Jvm.ClassFile Sem Op Lib Jvm.Free Jvm.Stand Jvm.LawKit Jvm.RoadKit Bundle
section Objs
variable {Z : State} {X : List Addr} {CT : Tab} {l : Launch} {MT : List MI} {M : MI} {pc : Nat} {a0 : Array Value} {h h' : Heap} {H : MH} {i k : Nat} {vs : List Value}
/-- the sheet lays these fields into the class C -/
def LayIn (Z : State) (a0 : Array Value) (C : String) (fs : List (String × String × String × FieldType)) : Prop := allP (fun f => Laid Z a0 C f.1 f.2.1 f.2.2.1 ∧ parseFieldDescriptor f.2.2.1 = some f.2.2.2) fs
theorem grow_new (k : Nat) (ds : List Value) (n : Nat) : Grow CT (oNew k ds n) := fun call L S H r hc h => by
  cases h; exact ⟨by simp [hOf], by simp only [hOf, sz_app]; omega⟩
theorem s_new {C : String} {idx n1 : Nat} {fs : List (String × String × String × FieldType)} (hd : decode M.2.1 pc = .ok (.new idx, 3)) (w : (Jvm.Cond.classLink M.1.cls idx C).before a0 Z = true) (wi : (Jvm.Cond.instantiable C n1).before a0 Z = true) (wz : (Jvm.Cond.initialized C).before a0 Z = true) (hk : CT[k]? = some (.object C, n1, fs)) (hL : LayIn Z a0 C fs) {ds : List Value} (hds : fs.map (fun f => defaultValue f.2.2.2) = ds) : Sound Z X CT l MT M pc (oNew k ds (pc + 3)) := by
  subst hds
  refine ⟨fun _ _ _ _ _ _ _ h => h, grow_new _ _ _, ?_⟩
  intro p e R s m args below meth c hx hZ hown hby hnm hret hlk hf hl call hcall H0 Hf hRc hRs T L S H hs r h
  cases h
  intro b1 b2
  obtain ⟨locs, Y, hrep, hfr, hlen, h1, h2, h3⟩ := hs
  have es : szc CT (k, fs.map (fun f => defaultValue f.2.2.2)) = n1 := by simp [szc, hk]
  rw [sz_app, es] at b2
  simp at b1
  obtain ⟨T', h', Y', e', E, A, D, -, st⟩ := newO Y hx hZ hown w wi wz rfl (g := fra Z X m pc L S) rfl (hb hby hd) (by omega) (by omega)
  have hsz : h'.size = T.heap.size + 1 := by
    have q1 : T.heap.size < h'.size := A.lt
    have q2 : T'.heap.size ≤ _ := Y'.heapSize
    have q3 := hrep.2.1
    obtain ⟨u1, u2⟩ := h3
    have q4 := hrep.1
    rw [e'] at q2
    omega
  refine ⟨T', ⟨locs, ?_, ?_, hfr, hlen, by simp; omega, by rw [sz_app]; omega, h3⟩, fun target ht => st _ ?_⟩
  · have e1 : (H ++ [(k, fs.map (fun f => defaultValue f.2.2.2))]).length - H0.length = H.length - H0.length + 1 := by simp; omega
    have e2 : sz CT (H ++ [(k, fs.map (fun f => defaultValue f.2.2.2))]) - sz CT H0 = sz CT H - sz CT H0 + n1 := by rw [sz_app, es]; omega
    rw [e1, e2]; exact Y'
  · rw [e']
    refine hrep.push E hsz ?_
    simp only [CellOk, hk]
    refine ⟨A, by simp, fun j O nm d ty v h1 h2 => ?_⟩
    simp only [List.getElem?_map, h1, Option.map_some, Option.some.injEq] at h2
    subst h2
    have q := allP_mem hL _ (List.mem_of_getElem? h1)
    rw [ab_default]
    exact D q.1 q.2
  · have e3 : ab Z X (.ref H.length) = .ref T.heap.size := by simp only [ab, ph_fresh hrep.1, hrep.2.1]
    show Steps p.tables e below (T'.setTop (mkF m (pc + 3) _ (.ref T.heap.size :: _))) target
    rw [← e3]; exact ht
theorem obj_at (R : Rep Z X CT h H) {q : Nat × List Value} (hi : H[i]? = some q) {C : String} {n1 : Nat} {fs : List (String × String × String × FieldType)} (hk : CT[q.1]? = some (.object C, n1, fs)) : Exa Z h (ph Z X i) C ∧ q.2.length = fs.length ∧ ∀ (j : Nat) (O nm d : String) (ty : FieldType) (v : Value), fs[j]? = some (O, nm, d, ty) → q.2[j]? = some v → Fld Z h (ph Z X i) O nm d (ab Z X v) := by
  have := R.at hi
  simpa only [CellOk, hk] using this
theorem s_getF {C R0 O nm d host : String} {ty : FieldType} {idx n1 pos : Nat} {fs : List (String × String × String × FieldType)} (hd : decode M.2.1 pc = .ok (.getfield idx, 3)) (w : (Jvm.Cond.fieldLink M.1.cls idx R0 nm d).before a0 Z = true ∨ (Jvm.Cond.fieldLinkNest M.1.cls idx R0 nm d host).before a0 Z = true) (via : Via Z R0 O nm d) (hk : CT[k]? = some (.object C, n1, fs)) (hp : fs[pos]? = some (O, nm, d, ty)) : Sound Z X CT l MT M pc (oGetF k pos (pc + 3)) := by
  refine ⟨fun _ _ _ _ _ _ _ h => h, grow_same fun c L S H r h => ?_, ?_⟩
  · simp only [oGetF] at h
    repeat' (split at h)
    all_goals first | (cases h; done) | (cases h; rfl)
  · intro p e R s m args below meth c hx hZ hown hby hnm hret hlk hf hl call hcall H0 Hf hRc hRs T L S H hs r h
    simp only [oGetF] at h
    split at h
    · rename_i a S'
      split at h
      · rename_i k' vs hH
        split at h
        · rename_i hb1
          have e1 := Nat.eq_of_beq_eq_true hb1
          subst e1
          split at h
          · rename_i v hv
            cases h
            intro b1 b2
            obtain ⟨locs, Y, hrep, hfr, hlen, h1, h2, h3⟩ := hs
            have F := (obj_at hrep hH hk).2.2 _ _ _ _ _ _ hp hv
            obtain ⟨T', Y', e', st⟩ := getF Y hx hZ hown w via rfl F (g := fra Z X m pc L (.ref a :: S')) rfl rfl (hb hby hd)
            exact ⟨T', ⟨locs, Y', by rw [e']; exact hrep, hfr, hlen, h1, h2, h3⟩, st⟩
          · cases h
        · cases h
      · cases h
    · cases h
theorem cv_spec {ty : FieldType} {v v' : Value} (h : cv ty v = some v') : narrow ty (ab Z X v) = ab Z X v' ∧ fits ty (ab Z X v') = true := by
  cases ty <;> cases v <;> simp only [cv, reduceCtorEq, Option.some.injEq] at h <;> subst h <;> first | exact ⟨rfl, rfl⟩ | exact ⟨rfl, fits_nar_bool _⟩ | exact ⟨rfl, fits_nar_byte _⟩
theorem s_putF (hX : ∀ a ∈ X, a < Z.heap.size) {C R0 O nm d : String} {ty : FieldType} {idx n1 pos : Nat} {fs : List (String × String × String × FieldType)} (hd : decode M.2.1 pc = .ok (.putfield idx, 3)) (w : (Jvm.Cond.fieldLink M.1.cls idx R0 nm d).before a0 Z = true) (via : Via Z R0 O nm d) (hk : CT[k]? = some (.object C, n1, fs)) (hp : fs[pos]? = some (O, nm, d, ty))
    (hL : LayIn Z a0 C fs) (hnd : (fs.map (fun f => f.2.1)).Nodup) (wi : (Jvm.Cond.instantiable C n1).before a0 Z = true) (wl : (Jvm.Cond.lays C O nm d).before a0 Z = true ∨ ((Jvm.Cond.laysFinal C O nm d).before a0 Z = true ∧ M.1.cls = O ∧ M.1.name = "<init>")) : Sound Z X CT l MT M pc (oPutF X.length k pos ty (pc + 3)) := by
  have sset : ∀ {H : MH} {a : Nat} {vs : List Value} (j : Nat) (v : Value), H[a]? = some (k, vs) → sz CT (H.set a (k, vs.set j v)) = sz CT H := fun j v hH => sz_set hH (by simp [szc, hk])
  refine ⟨fun _ _ _ _ _ _ _ h => h, fun call L S H r hc h => ?_, ?_⟩
  · simp only [oPutF] at h
    split at h
    · split at h
      · rename_i k' vs hH
        split at h
        · rename_i hb1
          have e1 := Nat.eq_of_beq_eq_true (Bool.and_eq_true_iff.mp hb1).1
          subst e1
          split at h
          · cases h; exact ⟨by simp [hOf], by simp only [hOf]; rw [sset _ _ hH]; exact Nat.le_refl _⟩
          · cases h
        · cases h
      · cases h
    · cases h
  · intro p e R s m args below meth c hx hZ hown hby hnm hret hlk hf hl call hcall H0 Hf hRc hRs T L S H hs r h
    simp only [oPutF] at h
    split at h
    · rename_i v a S'
      split at h
      · rename_i k' vs hH
        split at h
        · rename_i hb1
          obtain ⟨hb1, hb2⟩ := Bool.and_eq_true_iff.mp hb1
          have e1 := Nat.eq_of_beq_eq_true hb1
          subst e1
          have hxa : X.length ≤ a := Nat.le_of_ble_eq_true hb2
          split at h
          · rename_i v' hv
            cases h
            intro b1 b2
            obtain ⟨locs, Y, hrep, hfr, hlen, h1, h2, h3⟩ := hs
            obtain ⟨A, hvl, hF⟩ := obj_at hrep hH hk
            have hpl : pos < vs.length := by rw [hvl]; exact (List.getElem?_eq_some_iff.mp hp).1
            have F := hF _ _ _ _ _ _ hp (List.getElem?_eq_getElem hpl)
            have q := cv_spec (Z := Z) (X := X) hv
            have ql := allP_mem hL _ (List.mem_of_getElem? hp)
            obtain ⟨T', h', Y', e', W, st⟩ := putFN Y hx hZ hown w via rfl F A (wl.imp id fun u => ⟨u.1, u.2.1, by rw [hnm]; exact u.2.2⟩) wi ql.2 q.1 q.2 (g := fra Z X m pc L (v :: .ref a :: S')) rfl rfl (hb hby hd)
            refine ⟨T', ⟨_, ?_, ?_, Fr.snoc Y' hfr ?_, hlen, by simpa using h1, by rw [sset _ _ hH]; exact h2, h3⟩, st⟩
            · rw [sset _ _ hH, List.length_set]; exact Y'
            · rw [e']
              refine hrep.upd hX hxa W ?_
              simp only [CellOk, hk]
              refine ⟨A.wr W, by simpa using hvl, fun j O' nm' d' ty' u hj hu => ?_⟩
              by_cases e : j = pos
              · subst e
                cases hp.symm.trans hj
                rw [List.getElem?_set_self hpl] at hu
                cases hu
                exact F.same W
              · rw [List.getElem?_set_ne (Ne.symm e)] at hu
                have qj := allP_mem hL _ (List.mem_of_getElem? hj)
                refine (hF _ _ _ _ _ _ hj hu).other W (Or.inr (slot_ne qj.1 ql.1 ?_ qj.2 ql.2))
                intro en
                obtain ⟨l1, g1⟩ := List.getElem?_eq_some_iff.mp hj
                obtain ⟨l2, g2⟩ := List.getElem?_eq_some_iff.mp hp
                have := (List.getElem_inj (i := j) (j := pos) (h₀ := by simpa using l1) (h₁ := by simpa using l2) hnd).mp (by simp only [List.getElem_map, g1, g2]; exact en)
                exact e this
            · have := ph_fresh (Z := Z) hxa; omega
          · cases h
        · cases h
      · cases h
    · cases h
theorem s_init0 {idx W : Nat} (hd : decode M.2.1 pc = .ok (.invokespecial idx, 3)) (w1 : (Jvm.Cond.methodLink M.1.cls idx Lib.objectInit).before a0 Z = true) (w2 : (Jvm.Cond.instanceMethod Lib.objectInit).before a0 Z = true) (w3 : (Jvm.Cond.code Lib.objectInit ⟨#[0xb1]⟩ 1 none).before a0 Z = true) (hf0 : 1 ≤ M.2.2.2.2.1) (hl0 : W + 12 ≤ M.2.2.2.2.2) : Sound Z X CT l MT M pc (oInit0 W (pc + 3)) := by
  refine ⟨fun _ _ _ _ _ _ _ h => h, grow_same fun c L S H r h => ?_, ?_⟩
  · simp only [oInit0] at h
    repeat' (split at h)
    all_goals first | (cases h; done) | (cases h; rfl)
  · intro p e R s m args below meth c hx hZ hown hby hnm hret hlk hf hl call hcall H0 Hf hRc hRs T L S H hs r h
    simp only [oInit0] at h
    split at h
    · rename_i a S'
      split at h
      · rename_i hW
        cases h
        intro b1 b2
        obtain ⟨locs, Y, hrep, hfr, hlen, h1, h2, h3⟩ := hs
        obtain ⟨T', Y', e', st⟩ := initO Y hx hZ hown w1 w2 w3 rfl (g := fra Z X m pc L (.ref a :: S')) rfl (by show (List.toArray _).size = _; simp [hlen]) rfl (hb hby hd) (Nat.le_trans hf0 hf) (W := W) (by rw [wt_map]; simpa using hW) (Nat.le_trans hl0 hl)
        exact ⟨T', ⟨locs, Y', by rw [e']; exact hrep, hfr, hlen, h1, h2, h3⟩, st⟩
      · cases h
    · cases h
theorem mono_callR (k μ na W n : Nat) : Mono (oCallR k μ na W n) := fun c c' L S H r hl h => by
  simp only [oCallR] at h ⊢
  split at h
  · rename_i hg
    rw [if_pos hg]
    split at h
    · rename_i a ha
      split at h
      · rename_i k' vs hH
        split at h
        · rename_i hb
          split at h
          · rename_i v H' hq
            simp only [hb, hl _ _ _ _ hq]; exact h
          · cases h
        · cases h
      · cases h
    · cases h
  · cases h
theorem grow_callR (k μ na W n : Nat) : Grow CT (oCallR k μ na W n) := fun call L S H r hc h => by
  simp only [oCallR] at h
  split at h
  · split at h
    · split at h
      · split at h
        · split at h
          · rename_i hq
            cases h; exact hc _ _ _ _ _ hq
          · cases h
        · cases h
      · cases h
    · cases h
  · cases h
theorem s_callR {μ na W len : Nat} {Mc : MI} (hMc : MT[μ]? = some Mc) (w3 : (Jvm.Cond.initialized Mc.1.cls).before a0 Z = true) (w4 : (Jvm.Cond.code Mc.1 Mc.2.1 Mc.2.2.1 Mc.2.2.2.1).before a0 Z = true) (hf0 : Mc.2.2.2.2.1 + 1 ≤ M.2.2.2.2.1) (hl0 : W + (Mc.2.2.1 + 11) + Mc.2.2.2.2.2 ≤ M.2.2.2.2.2)
    (law : ∀ (p : Program) (e : Env) (R : Room) (s : State) (m : MethodId) (args : Array Value) (below : List Frame) (meth : Method) (c : Code) (T : State) (locs : List Loc) (cells slots : Nat), Stand p l e R s m args below meth c T locs cells slots → p.tables.exec = Jvm.exec → Z.Warmed39 s.vm → s.vm.findClass M.1.cls = some m.cls → c.code = M.2.1 →
      ∀ (Pre : Pt → Array Value → Prop) (Post : Pt → Array Value → Option Value → Pt → Prop), Back l R p e below s args Mc.1 len W Pre Post → ∀ (a : Addr) (vs : List Value), CellOk Z X CT T.heap a k vs → ∀ (Ls : Array Slot) (argsL rest : List Value), Ls.size = c.maxLocals → argsL.length = na → 2 * 0 + (rest.map fun v => v.category).sum ≤ W →
      (∀ vm₁, s.WarmedH vm₁ → Pre ⟨T.setVm vm₁, locs, cells, slots⟩ (.ref a :: argsL).toArray) →
      ∃ (v : Option Value) (vm₁ : Vm) (B : Pt), s.WarmedH vm₁ ∧ Stand p l e R s m args below meth c B.U B.locs B.cells B.slots ∧ Post ⟨T.setVm vm₁, locs, cells, slots⟩ (.ref a :: argsL).toArray v B ∧ Steps p.tables e below (T.setTop (mkF m pc Ls (argsL.reverse ++ .ref a :: rest))) (B.U.setTop (mkF m (pc + len) Ls (v.toList ++ rest)))) :
    Sound Z X CT l MT M pc (oCallR k μ na W (pc + len)) := by
  refine ⟨mono_callR _ _ _ _ _, grow_callR _ _ _ _ _, ?_⟩
  intro p e R s m args below meth c hx hZ hown hby hnm hret hlk hf hl call hcall H0 Hf hRc hRs T L S H hs r h
  simp only [oCallR] at h
  split at h
  · rename_i hg
    obtain ⟨hg1, hg2⟩ := hg
    split at h
    · rename_i a ha
      split at h
      · rename_i k' vs hH
        split at h
        · rename_i hb1
          have e1 := Nat.eq_of_beq_eq_true hb1
          subst e1
          split at h
          · rename_i v H' hq
            cases h
            obtain ⟨⟨u1, u2⟩, M', hM', con⟩ := hcall _ _ _ _ _ hq
            cases hMc.symm.trans hM'
            intro b1 b2
            obtain ⟨locs, Y, hrep, hfr, hlen, h1, h2, h3⟩ := hs
            have B := backOf (W := W) (args := args) (below := below) (p := p) (e := e) (R := R) (len := len) (Q := fun w hh L => w = v.map (ab Z X) ∧ Fr Z.heap.size L ∧ Rep Z X CT hh H') (con T.heap hrep) hZ w4 w3 (Nat.le_trans hf0 hf) (Nat.le_trans hl0 hl)
            have hst : S.map (ab Z X) = (((S.take na).reverse).map (ab Z X)).reverse ++ .ref (ph Z X a) :: (S.drop (na + 1)).map (ab Z X) := by
              have e2 : S = S.take na ++ .ref a :: S.drop (na + 1) := by
                have e3 : S.drop na = .ref a :: S.drop (na + 1) := by
                  have hlt : na < S.length := by omega
                  rw [List.drop_eq_getElem_cons hlt]
                  congr 1
                  rw [List.getElem?_eq_getElem hlt] at ha
                  exact Option.some.inj ha
                rw [← e3, List.take_append_drop]
              conv => lhs; rw [e2]
              rw [List.map_append, List.map_cons, ← List.map_reverse, List.reverse_reverse]; rfl
            obtain ⟨v', vm₁, ⟨T', L', k'', n''⟩, -, Y', ⟨Lc, ⟨hv, hfrL, hrep'⟩, l', y', z'⟩, st⟩ := law _ _ _ _ _ _ _ _ _ _ _ _ _ Y hx hZ hown hby _ _ B _ _ (hrep.at hH) (L.map (abS Z X)).toArray (((S.take na).reverse).map (ab Z X)) ((S.drop (na + 1)).map (ab Z X)) (by simp [hlen]) (by simp; omega) (by rw [wt_map]; simpa using hg2) (fun _ _ => ⟨rfl, rfl, by show (H.length - H0.length) + (H'.length - H.length) ≤ R.cells; omega, by show (sz CT H - sz CT H0) + (sz CT H' - sz CT H) ≤ R.slots; omega⟩)
            dsimp only [Pt.U, Pt.locs, Pt.cells, Pt.slots] at Y' l' y' z' st hrep'
            subst l' y' z' hv
            refine ⟨T', ⟨locs ++ Lc, ?_, hrep', Fr.app hfr hfrL, hlen, by omega, by omega, h3⟩, ?_⟩
            · have e1 : (H.length - H0.length) + (H'.length - H.length) = H'.length - H0.length := by omega
              have e2 : (sz CT H - sz CT H0) + (sz CT H' - sz CT H) = sz CT H' - sz CT H0 := by omega
              rw [← e1, ← e2]; exact Y'
            · intro target ht
              have e3 : (v.toList ++ S.drop (na + 1)).map (ab Z X) = (v.map (ab Z X)).toList ++ (S.drop (na + 1)).map (ab Z X) := by cases v <;> simp
              show Steps p.tables e below (T.setTop (mkF m pc _ (S.map (ab Z X)))) target
              rw [hst]
              refine st.trans ?_
              rw [← e3]; exact ht
          · cases h
        · cases h
      · cases h
    · cases h
  · cases h
theorem s_special {μ na W idx : Nat} {Mc : MI} {ps : List FieldType} {rt : Option FieldType} (hd : decode M.2.1 pc = .ok (.invokespecial idx, 3)) (hMc : MT[μ]? = some Mc) (hn : Mc.1.name = "<init>") (hr : Mc.2.2.2.1 = none) (w1 : (Jvm.Cond.methodLink M.1.cls idx Mc.1).before a0 Z = true) (w2 : (Jvm.Cond.instanceMethod Mc.1).before a0 Z = true) (w3 : (Jvm.Cond.initialized Mc.1.cls).before a0 Z = true) (w4 : (Jvm.Cond.code Mc.1 Mc.2.1 Mc.2.2.1 Mc.2.2.2.1).before a0 Z = true)
    (hpd : parseMethodDescriptor Mc.1.desc = some ⟨ps, rt⟩) (hna : ps.length = na) (hy : Mc.1.cls ≠ "java/lang/invoke/MethodHandle" ∧ Mc.1.cls ≠ "java/lang/invoke/VarHandle") (hf0 : Mc.2.2.2.2.1 + 1 ≤ M.2.2.2.2.1) (hl0 : W + (Mc.2.2.1 + 11) + Mc.2.2.2.2.2 ≤ M.2.2.2.2.2) : Sound Z X CT l MT M pc (oCallR k μ na W (pc + 3)) :=
  s_callR hMc w3 w4 hf0 hl0 fun _ _ _ _ _ _ _ _ _ _ _ _ _ Y hx hZ hown hby _ _ B _ _ _ _ _ _ hs hlen hW hpre =>
    Y.specialBack hx hn hown (mvT hZ w1) (mvT hZ w2) (mvT hZ (hr ▸ w4)) hy B (g := mkF _ pc _ _) rfl hs (Steps.refl _) (lenOf hpd (hlen.trans hna.symm)) rfl hW (hb hby hd) hpre
theorem s_virtual {C : String} {y : MethodName} {μ na W idx n1 : Nat} {Mc : MI} {fs : List (String × String × String × FieldType)} {ps : List FieldType} {rt : Option FieldType} (hd : decode M.2.1 pc = .ok (.invokevirtual idx, 3)) (hMc : MT[μ]? = some Mc) (hk : CT[k]? = some (.object C, n1, fs)) (w1 : (Jvm.Cond.methodLink M.1.cls idx y).before a0 Z = true) (w2 : (Jvm.Cond.declares y).before a0 Z = true) (w5 : (Jvm.Cond.selects C y Mc.1).before a0 Z = true) (hnf : ∀ s : State, Z.Warmed39 s.vm → NotFace s y) (w6 : (Jvm.Cond.instanceMethod Mc.1).before a0 Z = true) (w3 : (Jvm.Cond.initialized Mc.1.cls).before a0 Z = true) (w4 : (Jvm.Cond.code Mc.1 Mc.2.1 Mc.2.2.1 Mc.2.2.2.1).before a0 Z = true)
    (hpd : parseMethodDescriptor y.desc = some ⟨ps, rt⟩) (hna : ps.length = na) (hy : y.cls ≠ "java/lang/invoke/MethodHandle" ∧ y.cls ≠ "java/lang/invoke/VarHandle") (hf0 : Mc.2.2.2.2.1 + 1 ≤ M.2.2.2.2.1) (hl0 : W + (Mc.2.2.1 + 11) + Mc.2.2.2.2.2 ≤ M.2.2.2.2.2) : Sound Z X CT l MT M pc (oCallR k μ na W (pc + 3)) :=
  s_callR hMc w3 w4 hf0 hl0 fun _ _ _ _ _ _ _ _ _ _ _ _ _ Y hx hZ hown hby _ _ B _ _ hc _ _ _ hs hlen hW hpre => by
    simp only [CellOk, hk] at hc
    obtain ⟨cq, kq, qa, qb, qc⟩ := isOf hZ rfl hc.1
    exact Y.virtualBack hx hown (mvT hZ w1) (mvT hZ w2) (hnf _ hZ) (mvT hZ w5) (mvT hZ w6) hy B qa qc (g := mkF _ pc _ _) rfl hs (Steps.refl _) (lenOf hpd (hlen.trans hna.symm)) rfl hW (hb hby hd) hpre
theorem s_private {C : String} {μ na W idx n1 : Nat} {Mc : MI} {fs : List (String × String × String × FieldType)} {ps : List FieldType} {rt : Option FieldType} (hd : decode M.2.1 pc = .ok (.invokevirtual idx, 3)) (hMc : MT[μ]? = some Mc) (hk : CT[k]? = some (.object C, n1, fs)) (w1 : (Jvm.Cond.methodLink M.1.cls idx Mc.1).before a0 Z = true) (w2 : (Jvm.Cond.instanceMethod Mc.1).before a0 Z = true) (w5 : (Jvm.Cond.selects Mc.1.cls Mc.1 Mc.1).before a0 Z = true) (w6 : (Jvm.Cond.privateMethod Mc.1).before a0 Z = true) (w3 : (Jvm.Cond.initialized Mc.1.cls).before a0 Z = true) (w4 : (Jvm.Cond.code Mc.1 Mc.2.1 Mc.2.2.1 Mc.2.2.2.1).before a0 Z = true)
    (hpd : parseMethodDescriptor Mc.1.desc = some ⟨ps, rt⟩) (hna : ps.length = na) (hy : Mc.1.cls ≠ "java/lang/invoke/MethodHandle" ∧ Mc.1.cls ≠ "java/lang/invoke/VarHandle") (hf0 : Mc.2.2.2.2.1 + 1 ≤ M.2.2.2.2.1) (hl0 : W + (Mc.2.2.1 + 11) + Mc.2.2.2.2.2 ≤ M.2.2.2.2.2) : Sound Z X CT l MT M pc (oCallR k μ na W (pc + 3)) :=
  s_callR hMc w3 w4 hf0 hl0 fun _ _ _ _ _ _ _ _ _ _ _ _ _ Y hx hZ hown hby _ _ B _ _ hc _ _ _ hs hlen hW hpre => by
    simp only [CellOk, hk] at hc
    obtain ⟨cq, q, q'⟩ := hc.1.cell
    exact Y.privateBack hx hown (mvT hZ w1) (mvT hZ w2) (mvT hZ w5) (Cond.privateMethod_at (mvP hZ w6 (args := #[]))) (mvT hZ w4) hy B (g := mkF _ pc _ _) rfl hs (Steps.refl _) q q' (lenOf hpd (hlen.trans hna.symm)) rfl hW (hb hby hd) hpre
end Objs
/-! ### from the run to the law's own theorem -/
section Top
variable {X : List Addr} {CT : Tab} {l : Launch} {MT : List MI} {M : MI}
theorem top_met {Z : State} {D : Meths} (hlen : ∀ (μ n : Nat) (code : List (Nat × MOp)), D[μ]? = some (n, code) → ∃ M, MT[μ]? = some M ∧ M.2.2.1 = n ∧ plainFor M.1 = true ∧ ∀ q ∈ code, Sound Z X CT l MT M q.1 q.2) {μ : Nat} {as : List Value} {H Hf : MH} {v : Option Value} (hE : Eval D μ as H (v, Hf)) (hM : MT[μ]? = some M) {R : Room} {ws : List Jvm.Cond} (hf : M.2.2.2.2.1 ≤ R.frames) (hl : M.2.2.2.2.2 ≤ R.locals) (hRc : Hf.length - H.length ≤ R.cells) (hRs : sz CT Hf - sz CT H ≤ R.slots) {h0 : Heap} (hrep : Rep Z X CT h0 H) :
    MetFree l M.1 (head1 (Jvm.Cond.code M.1 M.2.1 M.2.2.1 M.2.2.2.1 :: ws) R)
    (fun a U => a = (as.map (ab Z X)).toArray ∧ Z.Warmed39 U.vm ∧ U.heap = h0) (fun _ _ _ _ _ => True)
    (fun _ U o U' => ∃ w L, o = .returned w ∧ (w = v.map (ab Z X) ∧ Fr Z.heap.size L ∧ Rep Z X CT U'.heap Hf) ∧ FrameEnd U o U' L (Hf.length - H.length) (sz CT Hf - sz CT H)) := by
  obtain ⟨F, k, h⟩ := hE
  cases k with
  | zero => cases h
  | succ k =>
    simp only [callN] at h
    cases hq : D[μ]? with
    | none => simp [hq] at h
    | some q =>
      obtain ⟨n, code⟩ := q
      simp only [hq] at h
      split at h
      · rename_i hn
        obtain ⟨M', h1, rfl, h3, h4⟩ := hlen μ n code hq
        cases hM.symm.trans h1
        exact met_of_run h3 h4 (osnd_callN hlen F k) h hn hf hl hRc hRs hrep
      · cases h
theorem rep_nil (Z : State) (CT : Tab) : Rep Z [] CT Z.heap [] := ⟨Nat.le_refl _, by simp, fun _ _ => rfl, fun i k vs h => by simp at h⟩
end Top
end Jvm.MV
namespace Jvm.MV
open Jvm Jvm.ClassFile Sem Op Lib Jvm.Free Jvm.Stand Jvm.LawKit Jvm.RoadKit Bundle
/-! ### running the small machine by parts -/
def bot : Orc := fun _ _ _ => none
def adv (code : List (Nat × MOp)) : Nat → MS → Option MS
  | 0, st => some st
  | n + 1, (pc, L, S, H) => match look code pc with
    | none => none
    | some f => match f bot L S H with
      | some (.inl st) => adv code n st
      | _ => none
theorem bot_le (c : Orc) : Le bot c := fun _ _ _ _ h => by cases h
section Rules
variable {D : Meths} {code : List (Nat × MOp)} {pc : Nat} {L : List Slot} {S : List Value} {H : MH} {r : MR}
theorem adv_mrun (hc : ∀ w ∈ code, Mono w.2) (c : Orc) : ∀ n st st' k, adv code n st = some st' → mrun c code k st' = some r → mrun c code (n + k) st = some r
  | 0, st, st', k, h, h2 => by cases h; rw [Nat.zero_add]; exact h2
  | n + 1, (pc, L, S, H), st', k, h, h2 => by
    have e : n + 1 + k = (n + k) + 1 := by omega
    rw [e]
    simp only [adv] at h
    simp only [mrun]
    cases hk : look code pc with
    | none => simp [hk] at h
    | some f =>
      simp only [hk] at h ⊢
      cases hf : f bot L S H with
      | none => simp [hf] at h
      | some q =>
        have hm' : f c L S H = some q := hc _ (look_mem hk) bot c L S H q (bot_le c) hf
        rw [hm']
        cases q with
        | inr r' => simp [hf] at h
        | inl st1 => rw [hf] at h; exact adv_mrun hc c n st1 st' k h h2
theorem Go.adv (hc : ∀ w ∈ code, Mono w.2) (n : Nat) {st st' : MS} (h : adv code n st = some st') (hg : Go D code st' r) : Go D code st r := by
  obtain ⟨F, k, m, hg⟩ := hg
  exact ⟨F, k, n + m, adv_mrun hc _ n st st' m h hg⟩
theorem Go.of_run (F k n : Nat) {st : MS} (h : mrun (callN D F k) code n st = some r) : Go D code st r := ⟨F, k, n, h⟩
theorem Eval.intro2 (hD : ∀ q ∈ D, ∀ w ∈ q.2, Mono w.2) {μ : Nat} {as : List Value} {n : Nat} (L0 : List Slot) (hq : D[μ]? = some (n, code)) (hn : (loc as).length ≤ n) (hL : mloc as n = L0) (h : Go D code (0, L0, [], H) r) : Eval D μ as H r := Eval.intro hD hq hn (by rw [hL]; exact h)
theorem Go.icmp {cd : ClassFile.Cond} {t n : Nat} {x y : Int32} (hl : look code pc = some (lift (pIcmp cd t n))) {b : Bool} (h : if_icmp.holds cd x y = b) (hg : Go D code (cond b t n, L, S, H) r) : Go D code (pc, L, .int y :: .int x :: S, H) r :=
  Go.step hl (fun _ => by simp only [lift, pIcmp, h]; cases b <;> rfl) hg
theorem Go.ifc {cd : ClassFile.Cond} {t n : Nat} {x : Int32} (hl : look code pc = some (lift (pIf cd t n))) {b : Bool} (h : ifCond.holds cd x = b) (hg : Go D code (cond b t n, L, S, H) r) : Go D code (pc, L, .int x :: S, H) r :=
  Go.step hl (fun _ => by simp only [lift, pIf, h]; cases b <;> rfl) hg
theorem Go.icmpS {cd : ClassFile.Cond} {t n : Nat} {x y : Int32} (hl : look code pc = some (lift (pIcmp cd t n))) (hg : ∀ b, if_icmp.holds cd x y = b → Go D code (cond b t n, L, S, H) r) : Go D code (pc, L, .int y :: .int x :: S, H) r := Go.icmp hl rfl (hg _ rfl)
theorem Go.ifS {cd : ClassFile.Cond} {t n : Nat} {x : Int32} (hl : look code pc = some (lift (pIf cd t n))) (hg : ∀ b, ifCond.holds cd x = b → Go D code (cond b t n, L, S, H) r) : Go D code (pc, L, .int x :: S, H) r := Go.ifc hl rfl (hg _ rfl)
theorem Go.retE {f : MOp} {r' : MR} (hl : look code pc = some f) (hf : ∀ c, f c L S H = some (.inr r')) (he : r' = r) : Go D code (pc, L, S, H) r := he ▸ Go.ret hl hf
theorem Go.ald {k n a : Nat} {j : Int32} {vs : List Value} {v : Value} (hl : look code pc = some (oALd k n)) (hH : H[a]? = some (k, vs)) (hj : ¬ j < 0) (hv : vs[j.toNatClampNeg]? = some v) (hg : Go D code (n, L, v :: S, H) r) : Go D code (pc, L, .int j :: .ref a :: S, H) r := by
  have hb : Nat.beq k k = true := by simp
  exact Go.step hl (fun _ => by simp only [oALd, hH, hb, if_neg hj, hv]) hg
theorem Go.ast {xl k n a : Nat} {t : FieldType} {j x : Int32} {vs : List Value} (hl : look code pc = some (oASt xl k t n)) (hH : H[a]? = some (k, vs)) (ha : xl ≤ a) (hj : ¬ j < 0) (hv : j.toNatClampNeg < vs.length) (hg : Go D code (n, L, S, H.set a (k, vs.set j.toNatClampNeg (.int (nar t x)))) r) : Go D code (pc, L, .int x :: .int j :: .ref a :: S, H) r := by
  have hb : (Nat.beq k k && Nat.ble xl a) = true := by simp [ha]
  have hb2 : Nat.ble vs.length j.toNatClampNeg = false := by
    cases hq : Nat.ble vs.length j.toNatClampNeg with
    | false => rfl
    | true => have := Nat.le_of_ble_eq_true hq; omega
  exact Go.step hl (fun _ => by simp only [oASt, hH, hb, if_neg hj, hb2]) hg
theorem Go.alen {k n a : Nat} {vs : List Value} (hl : look code pc = some (oALen k n)) (hH : H[a]? = some (k, vs)) (hg : Go D code (n, L, .int vs.length.toInt32 :: S, H) r) : Go D code (pc, L, .ref a :: S, H) r := by
  have hb : Nat.beq k k = true := by simp
  exact Go.step hl (fun _ => by simp only [oALen, hH, hb]) hg
theorem Go.getF {k pos n a : Nat} {vs : List Value} {v : Value} (hl : look code pc = some (oGetF k pos n)) (hH : H[a]? = some (k, vs)) (hv : vs[pos]? = some v) (hg : Go D code (n, L, v :: S, H) r) : Go D code (pc, L, .ref a :: S, H) r := by
  have hb : Nat.beq k k = true := by simp
  exact Go.step hl (fun _ => by simp only [oGetF, hH, hb, hv]) hg
theorem Go.putF {xl k pos n a : Nat} {ty : FieldType} {vs : List Value} {v v' : Value} (hl : look code pc = some (oPutF xl k pos ty n)) (hH : H[a]? = some (k, vs)) (ha : xl ≤ a) (hv : cv ty v = some v') (hg : Go D code (n, L, S, H.set a (k, vs.set pos v')) r) : Go D code (pc, L, v :: .ref a :: S, H) r := by
  have hb : (Nat.beq k k && Nat.ble xl a) = true := by simp [ha]
  exact Go.step hl (fun _ => by simp only [oPutF, hH, hb, hv]) hg
theorem Go.rem {n : Nat} {x y : Int32} (hl : look code pc = some (lift (pRem n))) (hy : y ≠ 0) (hg : Go D code (n, L, .int (x % y) :: S, H) r) : Go D code (pc, L, .int y :: .int x :: S, H) r :=
  Go.step hl (fun _ => by simp only [lift, pRem, if_neg hy]) hg
theorem Go.scall (hD : ∀ q ∈ D, ∀ w ∈ q.2, Mono w.2) (hc : ∀ w ∈ code, Mono w.2) {μ na W n : Nat} {as rest : List Value} {v : Option Value} {H' : MH} (hl : look code pc = some (oCall μ na W n)) (hE : Eval D μ as H (v, H')) (hS : S.take na = as.reverse) (hr : S.drop na = rest) (hna : na ≤ S.length) (hW : wt rest ≤ W) (hg : Go D code (n, L, v.toList ++ rest, H') r) : Go D code (pc, L, S, H) r := by
  subst hr
  refine Go.call hD hc hE hl (fun c h => ?_) hg
  have e : (S.take na).reverse = as := by rw [hS, List.reverse_reverse]
  simp only [oCall, if_pos (And.intro hna hW), e, h]
theorem Go.rcall (hD : ∀ q ∈ D, ∀ w ∈ q.2, Mono w.2) (hc : ∀ w ∈ code, Mono w.2) {k μ na W n : Nat} {a : Nat} {vs as rest : List Value} {v : Option Value} {H' : MH} (hl : look code pc = some (oCallR k μ na W n)) (hE : Eval D μ (.ref a :: as) H (v, H')) (hH : H[a]? = some (k, vs)) (hS : S.take na = as.reverse) (ha : S[na]? = some (.ref a)) (hr : S.drop (na + 1) = rest) (hW : wt rest ≤ W) (hg : Go D code (n, L, v.toList ++ rest, H') r) : Go D code (pc, L, S, H) r := by
  subst hr
  have hna : na + 1 ≤ S.length := (List.getElem?_eq_some_iff.mp ha).1
  have hb : Nat.beq k k = true := by simp
  refine Go.call hD hc hE hl (fun c h => ?_) hg
  have e : (S.take na).reverse = as := by rw [hS, List.reverse_reverse]
  simp only [oCallR, if_pos (And.intro hna hW), ha, hH, hb, e, h]
end Rules
def b2i (b : Bool) : Int32 := cond b 1 0
theorem c_lt (x y : Int32) : if_icmp.holds .lt x y = decide (x.toInt < y.toInt) := by
  show decide (x < y) = _
  simp only [Int32.lt_iff_toInt_lt]
theorem c_le (x y : Int32) : if_icmp.holds .le x y = decide (x.toInt ≤ y.toInt) := by
  show decide (x ≤ y) = _
  simp only [Int32.le_iff_toInt_le]
theorem c_gt (x y : Int32) : if_icmp.holds .gt x y = decide (y.toInt < x.toInt) := by
  show decide (y < x) = _
  simp only [Int32.lt_iff_toInt_lt]
theorem c_ge (x y : Int32) : if_icmp.holds .ge x y = decide (y.toInt ≤ x.toInt) := by
  show decide (y ≤ x) = _
  simp only [Int32.le_iff_toInt_le]
theorem c_eq (x y : Int32) : if_icmp.holds .eq x y = decide (x.toInt = y.toInt) := by
  show (x == y) = _
  rw [Bool.eq_iff_iff]; simp [Int32.toInt_inj]
theorem c_ne (x y : Int32) : if_icmp.holds .ne x y = decide (¬ x.toInt = y.toInt) := by
  show (x != y) = _
  rw [Bool.eq_iff_iff]; simp [Int32.toInt_inj]
theorem z_lt (x : Int32) : ifCond.holds .lt x = decide (x.toInt < 0) := c_lt x 0
theorem z_le (x : Int32) : ifCond.holds .le x = decide (x.toInt ≤ 0) := c_le x 0
theorem z_gt (x : Int32) : ifCond.holds .gt x = decide (0 < x.toInt) := c_gt x 0
theorem z_ge (x : Int32) : ifCond.holds .ge x = decide (0 ≤ x.toInt) := c_ge x 0
theorem z_eq (x : Int32) : ifCond.holds .eq x = decide (x.toInt = 0) := c_eq x 0
theorem z_ne (x : Int32) : ifCond.holds .ne x = decide (¬ x.toInt = 0) := c_ne x 0
theorem z_eqb (b : Bool) : ifCond.holds .eq (b2i b) = !b := by cases b <;> rfl
theorem z_neb (b : Bool) : ifCond.holds .ne (b2i b) = b := by cases b <;> rfl
theorem nar_b (b : Bool) : nar .boolean (b2i b) = b2i b := by cases b <;> rfl
theorem ret_t {P : Prop} [Decidable P] (H : MH) (h : P) : ((some (.int (nar .boolean 1)), H) : MR) = (some (.int (b2i (decide P))), H) := by simp [h, b2i, nar]
theorem ret_f {P : Prop} [Decidable P] (H : MH) (h : ¬ P) : ((some (.int (nar .boolean 0)), H) : MR) = (some (.int (b2i (decide P))), H) := by simp [h, b2i, nar]
theorem and_rng (x m : Int32) (hm : 0 ≤ m.toInt) : 0 ≤ (x &&& m).toInt ∧ (x &&& m).toInt ≤ m.toInt := by
  have h1 : (x.toBitVec &&& m.toBitVec).toNat ≤ m.toBitVec.toNat := by rw [BitVec.toNat_and]; exact Nat.and_le_right
  have h2 := m.toBitVec.isLt
  have h0 : 0 ≤ m.toBitVec.toInt := hm
  show 0 ≤ (x.toBitVec &&& m.toBitVec).toInt ∧ (x.toBitVec &&& m.toBitVec).toInt ≤ m.toBitVec.toInt
  rw [BitVec.toInt_eq_toNat_cond] at h0
  rw [BitVec.toInt_eq_toNat_cond, BitVec.toInt_eq_toNat_cond]
  split at h0 <;> (try split) <;> omega
theorem rem_rng (x m : Int32) (hx : 0 ≤ x.toInt) (hm : 0 < m.toInt) : 0 ≤ (x % m).toInt ∧ (x % m).toInt < m.toInt := by
  rw [Int32.toInt_mod]
  exact ⟨Int.tmod_nonneg _ hx, Int.tmod_lt_of_pos _ hm⟩
theorem of_toInt {x : Int32} {n : Int} (m : Int32) (hm : m.toInt = n) (h : x.toInt = n) : x = m := Int32.toInt_inj.mp (h.trans hm.symm)
theorem inc_toInt (i : Int32) (h : i.toInt < 2147483647) : (i + 1).toInt = i.toInt + 1 := by
  have h1 := Int32.le_toInt i
  rw [Int32.toInt_add]
  show Int.bmod (i.toInt + 1) (2 ^ 32) = _
  rw [Int.bmod_def]; omega
theorem clamp_toInt (i : Int32) : i.toNatClampNeg = i.toInt.toNat := rfl
theorem not_neg (i : Int32) (h : 0 ≤ i.toInt) : ¬ i < 0 := by
  rw [Int32.lt_iff_toInt_lt]
  show ¬ i.toInt < 0
  omega
theorem small4 {x : Int32} (h0 : 0 ≤ x.toInt) (h1 : x.toInt ≤ 3) : x = 0 ∨ x = 1 ∨ x = 2 ∨ x = 3 := by
  have : x.toInt = 0 ∨ x.toInt = 1 ∨ x.toInt = 2 ∨ x.toInt = 3 := by omega
  rcases this with h | h | h | h
  · exact Or.inl (of_toInt 0 rfl h)
  · exact Or.inr (Or.inl (of_toInt 1 rfl h))
  · exact Or.inr (Or.inr (Or.inl (of_toInt 2 rfl h)))
  · exact Or.inr (Or.inr (Or.inr (of_toInt 3 rfl h)))
theorem small5 {x : Int32} (h0 : 0 ≤ x.toInt) (h1 : x.toInt < 5) : x = 0 ∨ x = 1 ∨ x = 2 ∨ x = 3 ∨ x = 4 := by
  have : x.toInt = 0 ∨ x.toInt = 1 ∨ x.toInt = 2 ∨ x.toInt = 3 ∨ x.toInt = 4 := by omega
  rcases this with h | h | h | h | h
  · exact Or.inl (of_toInt 0 rfl h)
  · exact Or.inr (Or.inl (of_toInt 1 rfl h))
  · exact Or.inr (Or.inr (Or.inl (of_toInt 2 rfl h)))
  · exact Or.inr (Or.inr (Or.inr (Or.inl (of_toInt 3 rfl h))))
  · exact Or.inr (Or.inr (Or.inr (Or.inr (of_toInt 4 rfl h))))
theorem and3 (i : Int32) : i &&& 3 = 0 ∨ i &&& 3 = 1 ∨ i &&& 3 = 2 ∨ i &&& 3 = 3 := have h := and_rng i 3 (by decide); small4 h.1 h.2
end Jvm.MV
namespace Jvm.MV
open Jvm Jvm.ClassFile Sem Op Lib Jvm.Free Jvm.Stand Jvm.LawKit Jvm.RoadKit Bundle
/-! ### statics, System.arraycopy, clone, checkcast -/
def oGetS (v : Value) (n : Nat) : MOp := fun _ L S H => some (.inl (n, L, v :: S, H))
def copyOk (xl k : Nat) (t : FieldType) (W : Nat) (nn dp sp : Int32) (b : Nat) (k1 k2 : Nat) (us vs S' : List Value) : Bool :=
  Nat.beq k1 k && Nat.beq k2 k && Nat.ble xl b && decide (0 ≤ sp) && decide (0 ≤ dp) && decide (0 ≤ nn) && Nat.ble (sp.toNatClampNeg + nn.toNatClampNeg) us.length && Nat.ble (dp.toNatClampNeg + nn.toNatClampNeg) vs.length && us.all (fits t) && vs.all (fits t) && Nat.ble (wt S') W && Nat.ble us.length 65535 && Nat.ble vs.length 65535
def oCopy (xl k : Nat) (t : FieldType) (W n : Nat) : MOp := fun _ L S H => match S with
  | .int nn :: .int dp :: .ref b :: .int sp :: .ref a :: S' => match H[a]? with
    | some (k1, us) => match H[b]? with
      | some (k2, vs) => match copyOk xl k t W nn dp sp b k1 k2 us vs S' with
        | true => some (.inl (n, L, S', H.set b (k2, vs.take dp.toNatClampNeg ++ (us.drop sp.toNatClampNeg).take nn.toNatClampNeg ++ vs.drop (dp.toNatClampNeg + nn.toNatClampNeg))))
        | false => none
      | none => none
    | none => none
  | _ => none
def oClone (k : Nat) (t : FieldType) (W n : Nat) : MOp := fun _ L S H => match S with
  | .ref a :: S' => match H[a]? with
    | some (k1, us) => match Nat.beq k1 k && us.all (fits t) && Nat.ble (wt S') W with
      | true => some (.inl (n, L, .ref H.length :: S', H ++ [(k1, us)]))
      | false => none
    | none => none
  | _ => none
def oCast (k n : Nat) : MOp := fun _ L S H => match S with
  | .ref a :: S' => match H[a]? with
    | some (k1, _) => match Nat.beq k1 k with
      | true => some (.inl (n, L, .ref a :: S', H))
      | false => none
    | none => none
  | .null :: S' => some (.inl (n, L, .null :: S', H))
  | _ => none
section More
variable {Z : State} {X : List Addr} {CT : Tab} {l : Launch} {MT : List MI} {M : MI} {pc : Nat} {a0 : Array Value} {h h' : Heap} {H : MH} {i k : Nat} {vs : List Value}
theorem s_getS {R0 O nm d host : String} {idx : Nat} {v : Value} (hd : decode M.2.1 pc = .ok (.getstatic idx, 3)) (w : (Jvm.Cond.fieldLink M.1.cls idx R0 nm d).before a0 Z = true ∨ (Jvm.Cond.fieldLinkNest M.1.cls idx R0 nm d host).before a0 Z = true) (via : Via Z R0 O nm d) (hS : Sta Z Z.heap O nm d (ab Z X v)) : Sound Z X CT l MT M pc (oGetS v (pc + 3)) := by
  refine ⟨fun _ _ _ _ _ _ _ h => h, grow_same fun c L S H r h => by cases h; rfl, ?_⟩
  intro p e R s m args below meth c hx hZ hown hby hnm hret hlk hf hl call hcall H0 Hf hRc hRs T L S H hs r h
  cases h
  intro b1 b2
  obtain ⟨locs, Y, hrep, hfr, hlen, h1, h2, h3⟩ := hs
  have hS' : Sta Z T.heap O nm d (ab Z X v) := by
    obtain ⟨cf, i, kk, f, st, cell, q1, q2, q3, q4, q5, q6, q7⟩ := hS
    exact ⟨cf, i, kk, f, st, cell, q1, q2, q3, q4, by rw [hrep.2.2.1 st (Array.getElem?_eq_some_iff.mp q5).1]; exact q5, q6, q7⟩
  obtain ⟨T', Y', e', st⟩ := getS2 Y hx hZ hown w via rfl hS' (g := fra Z X m pc L S) rfl (hb hby hd)
  exact ⟨T', ⟨locs, Y', by rw [e']; exact hrep, hfr, hlen, h1, h2, h3⟩, st⟩
theorem len32 {n : Nat} (hn : n ≤ 65535) : n.toInt32.toNatClampNeg = n ∧ ¬ n.toInt32 < 0 := by
  have q : n.toInt32.toInt = n := len_toInt (by omega)
  refine ⟨by rw [clamp_toInt, q]; simp, not_neg _ (by omega)⟩
theorem fits_ab {t : FieldType} {v : Value} : fits t (ab Z X v) = fits t v := by cases t <;> cases v <;> rfl
theorem arv_of {t : FieldType} {a : Addr} {c : Cell} (A : Arr Z h a c t) (hs : c.slots = (vs.map (ab Z X)).toArray) (hn : vs.length ≤ 65535) (hf : vs.all (fits t) = true) : Arv Z h a c.cls t vs.length.toInt32 (vs.map (ab Z X)) .null := by
  refine ⟨c, A, rfl, by rw [hs, (len32 hn).1]; simp, (len32 hn).2, fun k hk => ?_, fun i hi => ?_⟩
  · rw [hs] at hk ⊢
    simp at hk
    simp [hk]
  · rw [hs] at hi
    simp at hi
    have : vs[i] ∈ vs := List.getElem_mem hi
    have q := List.all_eq_true.mp hf _ this
    simp [hi, fits_ab, q]
theorem CellOk.keep {a : Addr} {ws : List Addr} (K : Keep h h' ws) (hne : a ∉ ws) (q : CellOk Z X CT h a k vs) : CellOk Z X CT h' a k vs := by
  simp only [CellOk] at q ⊢
  split at q
  · obtain ⟨c, A, s, q1, q2⟩ := q
    exact ⟨c, ⟨K.2.1 a c A.1 hne, A.2⟩, s, fun w => (q1 w).keep K, q2⟩
  · exact ⟨q.1.keep K, q.2.1, fun j O nm d ty v h1 h2 => (q.2.2 j O nm d ty v h1 h2).keep K hne⟩
  · exact q
theorem s_copy (hX : ∀ a ∈ X, a < Z.heap.size) {t : FieldType} {n1 idx W : Nat} {fs : List (String × String × String × FieldType)} (hd : decode M.2.1 pc = .ok (.invokestatic idx, 3)) (hk : CT[k]? = some (.array t, n1, fs)) (hp : refKind t = false)
    (w1 : (Jvm.Cond.methodLink M.1.cls idx Jvm.Stand.acN).before a0 Z = true) (w2 : (Jvm.Cond.native Jvm.Stand.acN).before a0 Z = true) (w3 : (Jvm.Cond.static Jvm.Stand.acN).before a0 Z = true) (w4 : (Jvm.Cond.initialized "java/lang/System").before a0 Z = true) (hf0 : 1 ≤ M.2.2.2.2.1) (hl0 : W + (nativeFrameWords "java/lang/System" "arraycopy" 5 + 11) ≤ M.2.2.2.2.2) : Sound Z X CT l MT M pc (oCopy X.length k t W (pc + 3)) := by
  have sset : ∀ {H : MH} {a : Nat} {vs ws : List Value}, ws.length = vs.length → H[a]? = some (k, vs) → sz CT (H.set a (k, ws)) = sz CT H := fun hl hH => sz_set hH (by simp [szc, hk, hl])
  have wl : ∀ {us vs : List Value} {d n s : Nat}, s + n ≤ us.length → d + n ≤ vs.length → (vs.take d ++ (us.drop s).take n ++ vs.drop (d + n)).length = vs.length := fun h1 h2 => by simp; omega
  refine ⟨fun _ _ _ _ _ _ _ h => h, fun call L S H r hc h => ?_, ?_⟩
  · simp only [oCopy] at h
    split at h
    · split at h
      · rename_i k1 us hA
        split at h
        · rename_i k2 vs hB
          split at h
          · rename_i hok
            simp only [copyOk, Bool.and_eq_true, decide_eq_true_eq] at hok
            obtain ⟨⟨⟨⟨⟨⟨⟨⟨⟨⟨⟨⟨o1, o2⟩, o3⟩, o4⟩, o5⟩, o6⟩, o7⟩, o8⟩, o9⟩, o10⟩, o11⟩, o12⟩, o13⟩ := hok
            have e2 := Nat.eq_of_beq_eq_true o2
            subst e2
            cases h
            exact ⟨by simp [hOf], by simp only [hOf]; rw [sset (wl (Nat.le_of_ble_eq_true o7) (Nat.le_of_ble_eq_true o8)) hB]; exact Nat.le_refl _⟩
          · cases h
        · cases h
      · cases h
    · cases h
  · intro p e R s m args below meth c hx hZ hown hby hnm hret hlk hf hl call hcall H0 Hf hRc hRs T L S H hs r h
    simp only [oCopy] at h
    split at h
    · rename_i nn dp b sp a S'
      split at h
      · rename_i k1 us hA
        split at h
        · rename_i k2 vs hB
          split at h
          · rename_i hok
            simp only [copyOk, Bool.and_eq_true, decide_eq_true_eq] at hok
            obtain ⟨⟨⟨⟨⟨⟨⟨⟨⟨⟨⟨⟨o1, o2⟩, o3⟩, o4⟩, o5⟩, o6⟩, o7⟩, o8⟩, o9⟩, o10⟩, o11⟩, o12⟩, o13⟩ := hok
            have e1 := Nat.eq_of_beq_eq_true o1
            have e2 := Nat.eq_of_beq_eq_true o2
            subst e1
            subst e2
            have p3 := Nat.le_of_ble_eq_true o3
            have p7 := Nat.le_of_ble_eq_true o7
            have p8 := Nat.le_of_ble_eq_true o8
            have p11 := Nat.le_of_ble_eq_true o11
            have p12 := Nat.le_of_ble_eq_true o12
            have p13 := Nat.le_of_ble_eq_true o13
            cases h
            intro b1 b2
            obtain ⟨locs, Y, hrep, hfr, hlen, h1, h2, h3⟩ := hs
            obtain ⟨cA, A, sA, -, -⟩ := arr_at hrep hA hk
            obtain ⟨cB, B, sB, xB, vB⟩ := arr_at hrep hB hk
            have VA := arv_of A sA p12 o9
            have VB := arv_of B sB p13 o10
            have hge : Z.heap.size ≤ ph Z X b := by have := ph_fresh (Z := Z) p3; omega
            have nn0 : ∀ {x : Int32}, 0 ≤ x → ¬ x < 0 := fun {x} q => Int32.not_lt.mpr q
            obtain ⟨T', h', L', Y', e', N', K, V', st⟩ := cpA Y hx hZ hown w1 w2 w3 w4 rfl VA VB (Or.inl ⟨rfl, hp⟩) (nn0 o4) (nn0 o5) (nn0 o6) (by rw [(len32 p12).1]; exact p7) (by rw [(len32 p13).1]; exact p8) (us := (List.range nn.toNatClampNeg).map fun i => (us.map (ab Z X)).getD (sp.toNatClampNeg + i) .null) rfl (by simpa using p8) hfr hge (g := fra Z X m pc L (.int nn :: .int dp :: .ref b :: .int sp :: .ref a :: S')) rfl (by show (List.toArray _).size = _; simp [hlen]) rfl (hb hby hd) (Nat.le_trans hf0 hf) (W := W) (by rw [wt_map]; simpa using p11) (Nat.le_trans hl0 hl)
            have hl' := wl (us := us) (vs := vs) p7 p8
            have eus : ((List.range nn.toNatClampNeg).map fun i => (us.map (ab Z X)).getD (sp.toNatClampNeg + i) .null) = ((us.drop sp.toNatClampNeg).take nn.toNatClampNeg).map (ab Z X) := by
              refine List.ext_getElem (by simp; omega) fun j hj1 hj2 => ?_
              simp at hj1
              have : sp.toNatClampNeg + j < us.length := by omega
              simp [this]
            refine ⟨T', ⟨L', ?_, ?_, N', hlen, by simpa using h1, by rw [sset hl' hB]; exact h2, h3⟩, st⟩
            · rw [sset hl' hB, List.length_set]; exact Y'
            · rw [e']
              obtain ⟨r1, r2, r3, r4⟩ := hrep
              have hsz : h'.size = T.heap.size := by
                have q1 := K.1
                have q2 : T'.heap.size ≤ _ := Y'.heapSize
                rw [e'] at q2
                omega
              refine ⟨by simpa using r1, by rw [hsz]; simpa using r2, fun x hx => ?_, fun j k' vs' hj => ?_⟩
              · have hlt : x < T.heap.size := by omega
                have hne : x ∉ [ph Z X b] := by simp; omega
                have ee : T.heap[x]? = some T.heap[x] := Array.getElem?_eq_getElem hlt
                rw [K.2.1 x _ ee hne, ← ee]; exact r3 x hx
              · by_cases ej : j = b
                · subst ej
                  have hlb : j < H.length := (List.getElem?_eq_some_iff.mp hB).1
                  rw [List.getElem?_set_self hlb] at hj
                  cases hj
                  simp only [CellOk, hk]
                  obtain ⟨c', A', q1, q2, q3, q4, q5⟩ := V'
                  refine ⟨c', A', ?_, fun w => (xB w).keep K, fun w => by rw [q1]; exact vB w⟩
                  have zs : c'.slots.size = vs.length := by rw [q2, (len32 p13).1]
                  rw [eus] at q4
                  refine Array.ext (by simp [zs]; omega) fun y hy1 hy2 => ?_
                  have q := q4 y hy1
                  rw [Array.getElem?_eq_getElem hy1] at q
                  have q' := Option.some.inj q
                  rw [q']
                  simp only [List.map_append, List.map_take, List.map_drop, List.getElem_toArray]
                  have hy3 : y < (List.take dp.toNatClampNeg (List.map (ab Z X) vs) ++ List.take nn.toNatClampNeg (List.drop sp.toNatClampNeg (List.map (ab Z X) us)) ++ List.drop (dp.toNatClampNeg + nn.toNatClampNeg) (List.map (ab Z X) vs)).length := by simp; omega
                  rw [List.getD_eq_getElem?_getD, List.getElem?_eq_getElem hy3]; rfl
                · rw [List.getElem?_set_ne (Ne.symm ej)] at hj
                  exact (r4 j k' vs' hj).keep K (by simpa using ph_ne hX ej (Or.inr p3))
          · cases h
        · cases h
      · cases h
    · cases h
theorem s_clone {t : FieldType} {ad : String} {idx W : Nat} {fs : List (String × String × String × FieldType)} (hd : decode M.2.1 pc = .ok (.invokevirtual idx, 3)) (hk : CT[k]? = some (.array t, 1, fs)) (had : "[" ++ t.toString = ad) (hp : ∀ C, t ≠ .object C) (hp2 : ∀ u, t ≠ .array u)
    (w1 : (Jvm.Cond.methodLink M.1.cls idx ⟨ad, "clone", "()Ljava/lang/Object;"⟩).before a0 Z = true) (w2 : (Jvm.Cond.sameMethod ad "java/lang/Object" "clone" "()Ljava/lang/Object;").before a0 Z = true) (w3 : (Jvm.Cond.native ⟨"java/lang/Object", "clone", "()Ljava/lang/Object;"⟩).before a0 Z = true)
    (w4 : (Jvm.Cond.instanceMethod ⟨"java/lang/Object", "clone", "()Ljava/lang/Object;"⟩).before a0 Z = true) (w5 : (Jvm.Cond.selects ad ⟨ad, "clone", "()Ljava/lang/Object;"⟩ ⟨"java/lang/Object", "clone", "()Ljava/lang/Object;"⟩).before a0 Z = true) (w6 : (Jvm.Cond.castable ad "java/lang/Cloneable").before a0 Z = true) (hf0 : 1 ≤ M.2.2.2.2.1) (hl0 : W + 14 ≤ M.2.2.2.2.2) : Sound Z X CT l MT M pc (oClone k t W (pc + 3)) := by
  refine ⟨fun _ _ _ _ _ _ _ h => h, fun call L S H r hc h => ?_, ?_⟩
  · simp only [oClone] at h
    repeat' (split at h)
    all_goals first | (cases h; done) | (cases h; exact ⟨by simp [hOf], by simp only [hOf, sz_app]; omega⟩)
  · intro p e R s m args below meth c hx hZ hown hby hnm hret hlk hf hl call hcall H0 Hf hRc hRs T L S H hs r h
    simp only [oClone] at h
    split at h
    · rename_i a S'
      split at h
      · rename_i k1 us hA
        split at h
        · rename_i hok
          simp only [Bool.and_eq_true] at hok
          obtain ⟨⟨o1, o2⟩, o3⟩ := hok
          have e1 := Nat.eq_of_beq_eq_true o1
          subst e1
          have p3 := Nat.le_of_ble_eq_true o3
          cases h
          intro b1 b2
          obtain ⟨locs, Y, hrep, hfr, hlen, h1, h2, h3⟩ := hs
          obtain ⟨cA, A, sA, xA, -⟩ := arr_at hrep hA hk
          have es : szc CT (k1, us) = us.length := by simp [szc, hk]
          rw [sz_app, es] at b2
          simp at b1
          have FC : FitC Z cA := fitC_of A fun j hj v hv => by
            rw [sA] at hv
            simp only [List.getElem?_toArray, List.getElem?_map, Option.map_eq_some_iff] at hv
            obtain ⟨u, hu, rfl⟩ := hv
            rw [fits_ab]; exact List.all_eq_true.mp o2 _ (List.mem_of_getElem? hu)
          obtain ⟨T', h', Y', e', E, A', Ex, st⟩ := cloneA Y hx hZ hown w1 w2 w3 w4 w5 w6 rfl A (had ▸ xA rfl) FC (g := fra Z X m pc L (.ref a :: S')) rfl (by show (List.toArray _).size = _; simp [hlen]) rfl (hb hby hd) (Nat.le_trans hf0 hf) (W := W) (cap := us.length) (by rw [wt_map]; simpa using p3) (Nat.le_trans hl0 hl) (by rw [sA]; simp) (by omega) (by omega)
          have hsz : h'.size = T.heap.size + 1 := by
            have q1 : T.heap.size < h'.size := A'.lt
            have q2 : T'.heap.size ≤ _ := Y'.heapSize
            have q3 := hrep.2.1
            obtain ⟨u1, u2⟩ := h3
            have q4 := hrep.1
            rw [e'] at q2
            omega
          refine ⟨T', ⟨locs, ?_, ?_, hfr, hlen, by simp; omega, by rw [sz_app]; omega, h3⟩, fun target ht => st _ ?_⟩
          · have e1 : (H ++ [(k1, us)]).length - H0.length = H.length - H0.length + 1 := by simp; omega
            have e2 : sz CT (H ++ [(k1, us)]) - sz CT H0 = sz CT H - sz CT H0 + us.length := by rw [sz_app, es]; omega
            rw [e1, e2]; exact Y'
          · rw [e']
            refine hrep.push E hsz ?_
            simp only [CellOk, hk]
            exact ⟨_, A', by show (cloneOf cA).slots = _; rw [← sA], fun _ => had ▸ Ex, fun _ => ⟨fun C hC => absurd hC (hp C), fun u hu => absurd hu (hp2 u)⟩⟩
          · have e3 : ab Z X (.ref H.length) = .ref T.heap.size := by simp only [ab, ph_fresh hrep.1, hrep.2.1]
            show Steps p.tables e below (T'.setTop (mkF m (pc + 3) _ (.ref T.heap.size :: _))) target
            rw [← e3]; exact ht
        · cases h
      · cases h
    · cases h
theorem s_virtualUp {C owner : String} {y : MethodName} {μ na W idx n1 : Nat} {Mc : MI} {fs : List (String × String × String × FieldType)} {ps : List FieldType} {rt : Option FieldType} (hd : decode M.2.1 pc = .ok (.invokevirtual idx, 3)) (hMc : MT[μ]? = some Mc) (hk : CT[k]? = some (.object C, n1, fs)) (w1 : (Jvm.Cond.methodLink M.1.cls idx y).before a0 Z = true) (w2 : (Jvm.Cond.sameMethod y.cls owner y.name y.desc).before a0 Z = true) (w7 : (Jvm.Cond.declares ⟨owner, y.name, y.desc⟩).before a0 Z = true) (hy : owner ≠ "java/lang/invoke/MethodHandle" ∧ owner ≠ "java/lang/invoke/VarHandle") (w5 : (Jvm.Cond.selects C y Mc.1).before a0 Z = true) (w6 : (Jvm.Cond.instanceMethod Mc.1).before a0 Z = true) (w3 : (Jvm.Cond.initialized Mc.1.cls).before a0 Z = true) (w4 : (Jvm.Cond.code Mc.1 Mc.2.1 Mc.2.2.1 Mc.2.2.2.1).before a0 Z = true)
    (hpd : parseMethodDescriptor y.desc = some ⟨ps, rt⟩) (hna : ps.length = na) (hf0 : Mc.2.2.2.2.1 + 1 ≤ M.2.2.2.2.1) (hl0 : W + (Mc.2.2.1 + 11) + Mc.2.2.2.2.2 ≤ M.2.2.2.2.2) : Sound Z X CT l MT M pc (oCallR k μ na W (pc + 3)) :=
  s_callR hMc w3 w4 hf0 hl0 fun _ _ _ _ _ _ _ _ _ _ _ _ _ Y hx hZ hown hby _ _ B _ _ hc _ _ _ hs hlen hW hpre => by
    simp only [CellOk, hk] at hc
    obtain ⟨cq, kq, qa, qb, qc⟩ := isOf hZ rfl hc.1
    exact Y.virtualBackUp hx hown (mvT hZ w1) (mvT hZ w2) (mvT hZ w7) hy (mvT hZ w5) (mvT hZ w6) B qa qc (g := mkF _ pc _ _) rfl hs (Steps.refl _) (lenOf hpd (hlen.trans hna.symm)) rfl hW (hb hby hd) hpre
theorem s_cast {K : String} {idx : Nat} (hd : decode M.2.1 pc = .ok (.checkcast idx, 3)) (w : (Jvm.Cond.classLink M.1.cls idx K).before a0 Z = true) (hI : ∀ (hh : Heap) (a : Addr) (vs : List Value), CellOk Z X CT hh a k vs → Ins Z hh a K true) : Sound Z X CT l MT M pc (oCast k (pc + 3)) := by
  refine ⟨fun _ _ _ _ _ _ _ h => h, grow_same fun c L S H r h => ?_, ?_⟩
  · simp only [oCast] at h
    repeat' (split at h)
    all_goals first | (cases h; done) | (cases h; rfl)
  · intro p e R s m args below meth c hx hZ hown hby hnm hret hlk hf hl call hcall H0 Hf hRc hRs T L S H hs r h
    simp only [oCast] at h
    split at h
    · rename_i a S'
      split at h
      · rename_i k1 us hA
        split at h
        · rename_i hb1
          have e1 := Nat.eq_of_beq_eq_true hb1
          subst e1
          cases h
          intro b1 b2
          obtain ⟨locs, Y, hrep, hfr, hlen, h1, h2, h3⟩ := hs
          obtain ⟨T', Y', e', st⟩ := castY Y hx hZ hown w rfl (hI _ _ _ (hrep.at hA)) (g := fra Z X m pc L (.ref a :: S')) rfl rfl (hb hby hd)
          exact ⟨T', ⟨locs, Y', by rw [e']; exact hrep, hfr, hlen, h1, h2, h3⟩, st⟩
        · cases h
      · cases h
    · rename_i S'
      cases h
      intro b1 b2
      obtain ⟨locs, Y, hrep, hfr, hlen, h1, h2, h3⟩ := hs
      exact ⟨T, ⟨locs, Y, hrep, hfr, hlen, h1, h2, h3⟩, fun target ht => Y.checkcastNull hx (g := fra Z X m pc L (.null :: S')) rfl rfl (hb hby hd) target ht⟩
    · cases h
end More
end Jvm.MV
namespace Jvm.MV
open Jvm Jvm.ClassFile Sem Op Lib Jvm.Free Jvm.Stand Jvm.LawKit Jvm.RoadKit Bundle
/-! ### arrays of references, calls by an interface, private calls -/
def okv (H : MH) (vk : Nat) : Value → Bool
  | .null => true
  | .ref b => match H[b]? with
    | some (k2, _) => Nat.beq k2 vk
    | none => false
  | _ => false
def oAStR (xl k vk n : Nat) : MOp := fun _ L S H => match S with
  | v :: .int j :: .ref a :: S' => match H[a]? with
    | some (k', vs) => match Nat.beq k' k && Nat.ble xl a && okv H vk v with
      | true => if j < 0 then none else match Nat.ble vs.length j.toNatClampNeg with
        | false => some (.inl (n, L, S', H.set a (k', vs.set j.toNatClampNeg v)))
        | true => none
      | false => none
    | none => none
  | _ => none
section More
variable {Z : State} {X : List Addr} {CT : Tab} {l : Launch} {MT : List MI} {M : MI} {pc : Nat} {a0 : Array Value} {h h' : Heap} {H : MH} {i k : Nat} {vs : List Value}
theorem s_aastore (hX : ∀ a ∈ X, a < Z.heap.size) {t : FieldType} {vk : Nat} {fs : List (String × String × String × FieldType)} (hd : decode M.2.1 pc = .ok (.aastore, 1)) (hk : CT[k]? = some (.array t, 1, fs)) (ht : t.isReference = true)
    (hsto : ∀ (hh : Heap) (a y : Addr) (cl : Cell) (us : List Value), Arr Z hh a cl t → OvT Z cl.cls t → CellOk Z X CT hh y vk us → Sto Z hh a (.ref y)) : Sound Z X CT l MT M pc (oAStR X.length k vk (pc + 1)) := by
  have sset : ∀ {H : MH} {a : Nat} {vs : List Value} (j : Nat) (v : Value), H[a]? = some (k, vs) → sz CT (H.set a (k, vs.set j v)) = sz CT H := fun j v hH => sz_set hH (by simp [szc, hk])
  refine ⟨fun _ _ _ _ _ _ _ h => h, fun call L S H r hc h => ?_, ?_⟩
  · simp only [oAStR] at h
    split at h
    · split at h
      · rename_i k' vs hH
        split at h
        · rename_i hb1
          have e1 := Nat.eq_of_beq_eq_true (Bool.and_eq_true_iff.mp (Bool.and_eq_true_iff.mp hb1).1).1
          subst e1
          split at h
          · cases h
          · split at h
            · cases h; exact ⟨by simp [hOf], by simp only [hOf]; rw [sset _ _ hH]; exact Nat.le_refl _⟩
            · cases h
        · cases h
      · cases h
    · cases h
  · intro p e R s m args below meth c hx hZ hown hby hnm hret hlk hf hl call hcall H0 Hf hRc hRs T L S H hs r h
    simp only [oAStR] at h
    split at h
    · rename_i v j a S'
      split at h
      · rename_i k' vs hH
        split at h
        · rename_i hb1
          obtain ⟨hb1, hb4⟩ := Bool.and_eq_true_iff.mp hb1
          obtain ⟨hb1, hb2⟩ := Bool.and_eq_true_iff.mp hb1
          have e1 := Nat.eq_of_beq_eq_true hb1
          subst e1
          have hxa : X.length ≤ a := Nat.le_of_ble_eq_true hb2
          split at h
          · cases h
          · rename_i hj
            split at h
            · rename_i hb3
              have hlt : j.toNatClampNeg < vs.length := Nat.lt_of_not_le fun q => by rw [Nat.ble_eq_true_of_le q] at hb3; cases hb3
              cases h
              intro b1 b2
              obtain ⟨locs, Y, hrep, hfr, hlen, h1, h2, h3⟩ := hs
              obtain ⟨cell, A, hsl, q1, q2⟩ := arr_at hrep hH hk
              have hin : ¬ (j < 0 ∨ cell.slots.size ≤ j.toNatClampNeg) := by rw [hsl]; simp; exact ⟨by simpa [Int32.not_lt] using hj, hlt⟩
              have hS : Sto Z T.heap (ph Z X a) (ab Z X v) := by
                cases v with
                | null => exact Or.inl rfl
                | ref b =>
                  simp only [okv] at hb4
                  split at hb4
                  · rename_i k2 us hB
                    have e2 := Nat.eq_of_beq_eq_true hb4
                    subst e2
                    exact hsto _ _ _ _ us A (q2 rfl) (hrep.at hB)
                  · cases hb4
                | _ => simp [okv] at hb4
              obtain ⟨T', h', Y', e', W, st⟩ := stR Y hx hZ rfl A hin ht hS (g := fra Z X m pc L (v :: .int j :: .ref a :: S')) rfl rfl (hb hby hd)
              refine ⟨T', ⟨_, ?_, ?_, Fr.snoc Y' hfr ?_, hlen, by simpa using h1, by rw [sset _ _ hH]; exact h2, h3⟩, st⟩
              · rw [sset _ _ hH, List.length_set]; exact Y'
              · rw [e']
                refine hrep.upd hX hxa W ?_
                simp only [CellOk, hk]
                refine ⟨_, A.same W, ?_, fun _ => (q1 rfl).wr W, fun _ => q2 rfl⟩
                simp only [Cell.setSlot, hsl]
                simp [List.map_set]
              · have := ph_fresh (Z := Z) hxa; omega
            · cases h
        · cases h
      · cases h
    · cases h
/-- new C[n] of a class C, or of arrays -/
theorem s_anew {t : FieldType} {idx : Nat} {fs : List (String × String × String × FieldType)} (hd : decode M.2.1 pc = .ok (.anewarray idx, 3)) (hk : CT[k]? = some (.array t, 1, fs))
    (law : ∀ (p : Program) (e : Env) (R : Room) (s : State) (m : MethodId) (args : Array Value) (below : List Frame) (meth : Method) (c : Code) (T : State) (locs : List Loc) (cells slots : Nat), Stand p l e R s m args below meth c T locs cells slots → p.tables.exec = Jvm.exec → Z.Warmed39 s.vm → s.vm.findClass M.1.cls = some m.cls → ∀ (g : JFrame), g.method = m → decode c.code g.pc = .ok (.anewarray idx, 3) → ∀ (n : Int32) (rest : List Value), g.stack = .int n :: rest → ¬ n < 0 → n.toNatClampNeg * 8 ≤ 536870912 → cells + 1 ≤ R.cells → slots + n.toNatClampNeg ≤ R.slots →
      ∃ T' h' cA, Stand p l e R s m args below meth c T' locs (cells + 1) (slots + n.toNatClampNeg) ∧ T'.heap = h' ∧ Ext T.heap h' ∧ Arr Z h' T.heap.size (newA cA t n) t ∧ Exa Z h' T.heap.size ("[" ++ t.toString) ∧ OvT Z cA t ∧ ∀ target, Steps p.tables e below (T'.setTop { g with pc := g.pc + 3, stack := .ref T.heap.size :: rest }) target → Steps p.tables e below (T.setTop g) target)
    (hdv : defaultValue t = .null) : Sound Z X CT l MT M pc (oNewA k .null (pc + 3)) := by
  refine ⟨fun _ _ _ _ _ _ _ h => h, grow_newA _ _ _, ?_⟩
  intro p e R s m args below meth c hx hZ hown hby hnm hret hlk hf hl call hcall H0 Hf hRc hRs T L S H hs r h
  simp only [oNewA] at h
  split at h
  · rename_i z S'
    split at h
    · cases h
    · rename_i hz
      split at h
      · rename_i hbig
        cases h
        intro b1 b2
        obtain ⟨locs, Y, hrep, hfr, hlen, h1, h2, h3⟩ := hs
        have es : szc CT (k, List.replicate z.toNatClampNeg Value.null) = z.toNatClampNeg := by simp [szc, hk]
        rw [sz_app, es] at b2
        simp at b1
        obtain ⟨T', h', cA, Y', e', E, A, Ex, Ov, st⟩ := law p e R s m args below meth c T _ _ _ Y hx hZ hown (fra Z X m pc L (.int z :: S')) rfl (hb hby hd) z _ rfl hz hbig (by omega) (by omega)
        have hsz : h'.size = T.heap.size + 1 := by
          have q1 : T.heap.size < h'.size := A.lt
          have q2 : T'.heap.size ≤ _ := Y'.heapSize
          have q3 := hrep.2.1
          obtain ⟨u1, u2⟩ := h3
          have q4 := hrep.1
          rw [e'] at q2
          omega
        refine ⟨T', ⟨locs, ?_, ?_, hfr, hlen, by simp; omega, by rw [sz_app]; omega, h3⟩, fun target ht => st _ ?_⟩
        · have e1 : (H ++ [(k, List.replicate z.toNatClampNeg Value.null)]).length - H0.length = H.length - H0.length + 1 := by simp; omega
          have e2 : sz CT (H ++ [(k, List.replicate z.toNatClampNeg Value.null)]) - sz CT H0 = sz CT H - sz CT H0 + z.toNatClampNeg := by rw [sz_app, es]; omega
          rw [e1, e2]; exact Y'
        · rw [e']
          refine hrep.push E hsz ?_
          simp only [CellOk, hk]
          refine ⟨_, A, ?_, fun _ => Ex, fun _ => Ov⟩
          simp [newA, hdv, ab]
        · have e3 : ab Z X (.ref H.length) = .ref T.heap.size := by simp only [ab, ph_fresh hrep.1, hrep.2.1]
          show Steps p.tables e below (T'.setTop (mkF m (pc + 3) _ (.ref T.heap.size :: _))) target
          rw [← e3]; exact ht
      · cases h
  · cases h
theorem s_anewO {C : String} {idx : Nat} {fs : List (String × String × String × FieldType)} (hd : decode M.2.1 pc = .ok (.anewarray idx, 3)) (hk : CT[k]? = some (.array (.object C), 1, fs)) (w1 : (Jvm.Cond.classLink M.1.cls idx C).before a0 Z = true) (w2 : (Jvm.Cond.arrayOver (.object C)).before a0 Z = true) : Sound Z X CT l MT M pc (oNewA k .null (pc + 3)) :=
  s_anew hd hk (fun p e R s m args below meth c T locs cells slots Y hx hZ hown g hg hdg n rest hst hn hbig hc hl => by
    obtain ⟨T', h', cA, Y', e', E, A, Ex, Ov, st⟩ := newRE Y hx hZ hown w1 w2 rfl hg hdg hst hn (cap := n.toNatClampNeg) (Nat.le_refl _) hbig hc hl rfl
    exact ⟨T', h', cA, Y', e', E, A, Ex, ⟨fun D hD => (by cases hD; exact Ov), fun u hu => (by cases hu)⟩, st⟩) rfl
theorem s_anewA {ty : FieldType} {D : String} {idx : Nat} {fs : List (String × String × String × FieldType)} (hd : decode M.2.1 pc = .ok (.anewarray idx, 3)) (hk : CT[k]? = some (.array (.array ty), 1, fs)) (hD : (FieldType.array ty).toString = D) (w1 : (Jvm.Cond.classLink M.1.cls idx D).before a0 Z = true) (w2 : (Jvm.Cond.arrayOver (.array ty)).before a0 Z = true) : Sound Z X CT l MT M pc (oNewA k .null (pc + 3)) :=
  s_anew hd hk (fun p e R s m args below meth c T locs cells slots Y hx hZ hown g hg hdg n rest hst hn hbig hc hl => by
    obtain ⟨T', h', cA, Y', e', E, A, Ex, Ov, st⟩ := newRA Y hx hZ hown hD w1 w2 rfl hg hdg hst hn (cap := n.toNatClampNeg) (Nat.le_refl _) hbig hc hl rfl
    subst hD
    exact ⟨T', h', cA, Y', e', E, A, Ex, ⟨fun D hD => (by cases hD), fun u hu => (by cases hu; exact Ov)⟩, st⟩) rfl
theorem s_iface {C : String} {y : MethodName} {μ na W idx cnt n1 : Nat} {Mc : MI} {fs : List (String × String × String × FieldType)} {ps : List FieldType} {rt : Option FieldType} (hd : decode M.2.1 pc = .ok (.invokeinterface idx cnt, 5)) (hMc : MT[μ]? = some Mc) (hk : CT[k]? = some (.object C, n1, fs)) (w1 : (Jvm.Cond.methodLink M.1.cls idx y).before a0 Z = true) (w2 : (Jvm.Cond.declares y).before a0 Z = true) (w7 : (Jvm.Cond.interfaceMethod y.cls y.cls y.name y.desc).before a0 Z = true) (hfa : ((Jvm.Cond.interfaceMethod y.cls y.cls y.name y.desc).onTables && (Jvm.Cond.interfaceMethod y.cls y.cls y.name y.desc).keepsFace) = true) (w5 : (Jvm.Cond.selects C y Mc.1).before a0 Z = true) (w6 : (Jvm.Cond.instanceMethod Mc.1).before a0 Z = true) (w8 : (Jvm.Cond.publicMethod Mc.1).before a0 Z = true) (w9 : (Jvm.Cond.unhidden C y.name y.desc).before a0 Z = true) (w10 : (Jvm.Cond.castable C y.cls).before a0 Z = true) (w3 : (Jvm.Cond.initialized Mc.1.cls).before a0 Z = true) (w4 : (Jvm.Cond.code Mc.1 Mc.2.1 Mc.2.2.1 Mc.2.2.2.1).before a0 Z = true)
    (hpd : parseMethodDescriptor y.desc = some ⟨ps, rt⟩) (hna : ps.length = na) (hy : y.cls ≠ "java/lang/invoke/MethodHandle" ∧ y.cls ≠ "java/lang/invoke/VarHandle") (hf0 : Mc.2.2.2.2.1 + 1 ≤ M.2.2.2.2.1) (hl0 : W + (Mc.2.2.1 + 11) + Mc.2.2.2.2.2 ≤ M.2.2.2.2.2) : Sound Z X CT l MT M pc (oCallR k μ na W (pc + 5)) :=
  s_callR hMc w3 w4 hf0 hl0 fun _ _ _ _ _ _ _ _ _ _ _ _ _ Y hx hZ hown hby _ _ B _ _ hc _ _ _ hs hlen hW hpre => by
    simp only [CellOk, hk] at hc
    obtain ⟨cq, kq, qa, qb, qc⟩ := isOf hZ rfl hc.1
    exact Y.interfaceBack hx hown (mvT hZ w1) (mvT hZ w2) (mvT hZ w7 hfa) (mvT hZ w5) (mvT hZ w6) (mvT hZ w8) (mvT hZ w9) (mvT hZ w10) hy B qa qb qc (g := mkF _ pc _ _) rfl hs (Steps.refl _) (lenOf hpd (hlen.trans hna.symm)) rfl hW (hb hby hd) hpre
theorem s_private2 {C : String} {μ na W idx n1 n2 : Nat} {Mc : MI} {fs : List (String × String × String × FieldType)} {ps : List FieldType} {rt : Option FieldType} (hd : decode M.2.1 pc = .ok (.invokevirtual idx, 3)) (hMc : MT[μ]? = some Mc) (hk : CT[k]? = some (.object C, n1, fs)) (w1 : (Jvm.Cond.methodLink M.1.cls idx Mc.1).before a0 Z = true) (w2 : (Jvm.Cond.instanceMethod Mc.1).before a0 Z = true) (w5 : (Jvm.Cond.instantiable Mc.1.cls n2).before a0 Z = true) (w6 : (Jvm.Cond.privateMethod Mc.1).before a0 Z = true) (w3 : (Jvm.Cond.initialized Mc.1.cls).before a0 Z = true) (w4 : (Jvm.Cond.code Mc.1 Mc.2.1 Mc.2.2.1 Mc.2.2.2.1).before a0 Z = true)
    (hpd : parseMethodDescriptor Mc.1.desc = some ⟨ps, rt⟩) (hna : ps.length = na) (hy : Mc.1.cls ≠ "java/lang/invoke/MethodHandle" ∧ Mc.1.cls ≠ "java/lang/invoke/VarHandle") (hf0 : Mc.2.2.2.2.1 + 1 ≤ M.2.2.2.2.1) (hl0 : W + (Mc.2.2.1 + 11) + Mc.2.2.2.2.2 ≤ M.2.2.2.2.2) : Sound Z X CT l MT M pc (oCallR k μ na W (pc + 3)) := by
  obtain ⟨c, kk, i1, i2, i3, i4, i5, i6⟩ := Cond.instantiable_spec w5
  have hni : kk.isInterface = false := by cases hq : kk.isInterface <;> simp_all
  exact s_private hd hMc hk w1 w2 (Jvm.Stand.selects_self_of_private i1 i2 hni (Cond.privateMethod_at w6) w2 hy) w6 w3 w4 hpd hna hy hf0 hl0
end More
end Jvm.MV
set_option maxHeartbeats 4000000
namespace Jvm.Pilot.@@N@@
open Jvm Jvm.ClassFile Sem Op Lib Jvm.Free Jvm.Stand Jvm.LawKit Jvm.RoadKit Bundle Jvm.MV Jvm.Pilot.@@N@@.Jvm.D
/-! the program of the small machine: written by gen.py -/
theorem d1_0 : decode method_3_code 0 = .ok (.iload_n 0, 1) := by decide +kernel
theorem d1_1 : decode method_3_code 1 = .ok (.iload_n 1, 1) := by decide +kernel
theorem d1_2 : decode method_3_code 2 = .ok (.iushr, 1) := by decide +kernel
theorem d1_3 : decode method_3_code 3 = .ok (.iconst 3, 1) := by decide +kernel
theorem d1_4 : decode method_3_code 4 = .ok (.iand, 1) := by decide +kernel
theorem d1_5 : decode method_3_code 5 = .ok (.istore 5, 2) := by decide +kernel
theorem d1_7 : decode method_3_code 7 = .ok (.iload 5, 2) := by decide +kernel
theorem d1_9 : decode method_3_code 9 = .ok (.iconst 1, 1) := by decide +kernel
theorem d1_10 : decode method_3_code 10 = .ok (.if_icmp .ne 5, 3) := by decide +kernel
theorem d1_13 : decode method_3_code 13 = .ok (.iload_n 3, 1) := by decide +kernel
theorem d1_14 : decode method_3_code 14 = .ok (.ireturn, 1) := by decide +kernel
theorem d1_15 : decode method_3_code 15 = .ok (.iload 5, 2) := by decide +kernel
theorem d1_17 : decode method_3_code 17 = .ok (.iconst 2, 1) := by decide +kernel
theorem d1_18 : decode method_3_code 18 = .ok (.if_icmp .ne 6, 3) := by decide +kernel
theorem d1_21 : decode method_3_code 21 = .ok (.iload 4, 2) := by decide +kernel
theorem d1_23 : decode method_3_code 23 = .ok (.ireturn, 1) := by decide +kernel
theorem d1_24 : decode method_3_code 24 = .ok (.iload_n 2, 1) := by decide +kernel
theorem d1_25 : decode method_3_code 25 = .ok (.ireturn, 1) := by decide +kernel
theorem d2_0 : decode method_4_code 0 = .ok (.iload_n 2, 1) := by decide +kernel
theorem d2_1 : decode method_4_code 1 = .ok (.iload_n 1, 1) := by decide +kernel
theorem d2_2 : decode method_4_code 2 = .ok (.iadd, 1) := by decide +kernel
theorem d2_3 : decode method_4_code 3 = .ok (.istore 4, 2) := by decide +kernel
theorem d2_5 : decode method_4_code 5 = .ok (.iload 4, 2) := by decide +kernel
theorem d2_7 : decode method_4_code 7 = .ok (.iconst 5, 1) := by decide +kernel
theorem d2_8 : decode method_4_code 8 = .ok (.if_icmp .ge 21, 3) := by decide +kernel
theorem d2_11 : decode method_4_code 11 = .ok (.aload_n 0, 1) := by decide +kernel
theorem d2_12 : decode method_4_code 12 = .ok (.iconst 2, 1) := by decide +kernel
theorem d2_13 : decode method_4_code 13 = .ok (.iload_n 1, 1) := by decide +kernel
theorem d2_14 : decode method_4_code 14 = .ok (.imul, 1) := by decide +kernel
theorem d2_15 : decode method_4_code 15 = .ok (.aload_n 3, 1) := by decide +kernel
theorem d2_16 : decode method_4_code 16 = .ok (.iload 4, 2) := by decide +kernel
theorem d2_18 : decode method_4_code 18 = .ok (.iaload, 1) := by decide +kernel
theorem d2_19 : decode method_4_code 19 = .ok (.iastore, 1) := by decide +kernel
theorem d2_20 : decode method_4_code 20 = .ok (.aload_n 0, 1) := by decide +kernel
theorem d2_21 : decode method_4_code 21 = .ok (.iconst 2, 1) := by decide +kernel
theorem d2_22 : decode method_4_code 22 = .ok (.iload_n 1, 1) := by decide +kernel
theorem d2_23 : decode method_4_code 23 = .ok (.imul, 1) := by decide +kernel
theorem d2_24 : decode method_4_code 24 = .ok (.iconst 1, 1) := by decide +kernel
theorem d2_25 : decode method_4_code 25 = .ok (.iadd, 1) := by decide +kernel
theorem d2_26 : decode method_4_code 26 = .ok (.iload 4, 2) := by decide +kernel
theorem d2_28 : decode method_4_code 28 = .ok (.iastore, 1) := by decide +kernel
theorem d2_29 : decode method_4_code 29 = .ok (.return_, 1) := by decide +kernel
theorem d3_0 : decode prog_55_method_1_code 0 = .ok (.aload_n 0, 1) := by decide +kernel
theorem d3_1 : decode prog_55_method_1_code 1 = .ok (.invokespecial 1, 3) := by decide +kernel
theorem d3_4 : decode prog_55_method_1_code 4 = .ok (.aload_n 0, 1) := by decide +kernel
theorem d3_5 : decode prog_55_method_1_code 5 = .ok (.new 7, 3) := by decide +kernel
theorem d3_8 : decode prog_55_method_1_code 8 = .ok (.dup, 1) := by decide +kernel
theorem d3_9 : decode prog_55_method_1_code 9 = .ok (.invokespecial 9, 3) := by decide +kernel
theorem d3_12 : decode prog_55_method_1_code 12 = .ok (.putfield 10, 3) := by decide +kernel
theorem d3_15 : decode prog_55_method_1_code 15 = .ok (.aload_n 0, 1) := by decide +kernel
theorem d3_16 : decode prog_55_method_1_code 16 = .ok (.iconst 0, 1) := by decide +kernel
theorem d3_17 : decode prog_55_method_1_code 17 = .ok (.newarray .boolean, 2) := by decide +kernel
theorem d3_19 : decode prog_55_method_1_code 19 = .ok (.putfield 16, 3) := by decide +kernel
theorem d3_22 : decode prog_55_method_1_code 22 = .ok (.aload_n 0, 1) := by decide +kernel
theorem d3_23 : decode prog_55_method_1_code 23 = .ok (.iload_n 1, 1) := by decide +kernel
theorem d3_24 : decode prog_55_method_1_code 24 = .ok (.putfield 20, 3) := by decide +kernel
theorem d3_27 : decode prog_55_method_1_code 27 = .ok (.aload_n 0, 1) := by decide +kernel
theorem d3_28 : decode prog_55_method_1_code 28 = .ok (.bipush 16, 2) := by decide +kernel
theorem d3_30 : decode prog_55_method_1_code 30 = .ok (.iload_n 1, 1) := by decide +kernel
theorem d3_31 : decode prog_55_method_1_code 31 = .ok (.bipush 16, 2) := by decide +kernel
theorem d3_33 : decode prog_55_method_1_code 33 = .ok (.imul, 1) := by decide +kernel
theorem d3_34 : decode prog_55_method_1_code 34 = .ok (.invokestatic 24, 3) := by decide +kernel
theorem d3_37 : decode prog_55_method_1_code 37 = .ok (.newarray .int, 2) := by decide +kernel
theorem d3_39 : decode prog_55_method_1_code 39 = .ok (.putfield 30, 3) := by decide +kernel
theorem d3_42 : decode prog_55_method_1_code 42 = .ok (.aload_n 0, 1) := by decide +kernel
theorem d3_43 : decode prog_55_method_1_code 43 = .ok (.iload_n 1, 1) := by decide +kernel
theorem d3_44 : decode prog_55_method_1_code 44 = .ok (.newarray .int, 2) := by decide +kernel
theorem d3_46 : decode prog_55_method_1_code 46 = .ok (.putfield 34, 3) := by decide +kernel
theorem d3_49 : decode prog_55_method_1_code 49 = .ok (.iconst 0, 1) := by decide +kernel
theorem d3_50 : decode prog_55_method_1_code 50 = .ok (.istore_n 2, 1) := by decide +kernel
theorem d3_51 : decode prog_55_method_1_code 51 = .ok (.iload_n 2, 1) := by decide +kernel
theorem d3_52 : decode prog_55_method_1_code 52 = .ok (.iload_n 1, 1) := by decide +kernel
theorem d3_53 : decode prog_55_method_1_code 53 = .ok (.if_icmp .ge 16, 3) := by decide +kernel
theorem d3_56 : decode prog_55_method_1_code 56 = .ok (.aload_n 0, 1) := by decide +kernel
theorem d3_57 : decode prog_55_method_1_code 57 = .ok (.getfield 34, 3) := by decide +kernel
theorem d3_60 : decode prog_55_method_1_code 60 = .ok (.iload_n 2, 1) := by decide +kernel
theorem d3_61 : decode prog_55_method_1_code 61 = .ok (.iload_n 2, 1) := by decide +kernel
theorem d3_62 : decode prog_55_method_1_code 62 = .ok (.iastore, 1) := by decide +kernel
theorem d3_63 : decode prog_55_method_1_code 63 = .ok (.iinc 2 1, 3) := by decide +kernel
theorem d3_66 : decode prog_55_method_1_code 66 = .ok (.goto (-15), 3) := by decide +kernel
theorem d3_69 : decode prog_55_method_1_code 69 = .ok (.return_, 1) := by decide +kernel
theorem d4_0 : decode jdk_38_method_2_code 0 = .ok (.aload_n 0, 1) := by decide +kernel
theorem d4_1 : decode jdk_38_method_2_code 1 = .ok (.invokespecial 1, 3) := by decide +kernel
theorem d4_4 : decode jdk_38_method_2_code 4 = .ok (.aload_n 0, 1) := by decide +kernel
theorem d4_5 : decode jdk_38_method_2_code 5 = .ok (.getstatic 39, 3) := by decide +kernel
theorem d4_8 : decode jdk_38_method_2_code 8 = .ok (.putfield 9, 3) := by decide +kernel
theorem d4_11 : decode jdk_38_method_2_code 11 = .ok (.return_, 1) := by decide +kernel
theorem d5_0 : decode jdk_39_method_1_code 0 = .ok (.aload_n 0, 1) := by decide +kernel
theorem d5_1 : decode jdk_39_method_1_code 1 = .ok (.invokespecial 1, 3) := by decide +kernel
theorem d5_4 : decode jdk_39_method_1_code 4 = .ok (.aload_n 0, 1) := by decide +kernel
theorem d5_5 : decode jdk_39_method_1_code 5 = .ok (.iconst 0, 1) := by decide +kernel
theorem d5_6 : decode jdk_39_method_1_code 6 = .ok (.putfield 7, 3) := by decide +kernel
theorem d5_9 : decode jdk_39_method_1_code 9 = .ok (.return_, 1) := by decide +kernel
theorem d6_0 : decode jdk_22_method_1_code 0 = .ok (.aload_n 0, 1) := by decide +kernel
theorem d6_1 : decode jdk_22_method_1_code 1 = .ok (.invokespecial 1, 3) := by decide +kernel
theorem d6_4 : decode jdk_22_method_1_code 4 = .ok (.return_, 1) := by decide +kernel
theorem d7_0 : decode jdk_29_method_65_code 0 = .ok (.iload_n 0, 1) := by decide +kernel
theorem d7_1 : decode jdk_29_method_65_code 1 = .ok (.iload_n 1, 1) := by decide +kernel
theorem d7_2 : decode jdk_29_method_65_code 2 = .ok (.if_icmp .lt 7, 3) := by decide +kernel
theorem d7_5 : decode jdk_29_method_65_code 5 = .ok (.iload_n 0, 1) := by decide +kernel
theorem d7_6 : decode jdk_29_method_65_code 6 = .ok (.goto 4, 3) := by decide +kernel
theorem d7_9 : decode jdk_29_method_65_code 9 = .ok (.iload_n 1, 1) := by decide +kernel
theorem d7_10 : decode jdk_29_method_65_code 10 = .ok (.ireturn, 1) := by decide +kernel
theorem d8_0 : decode prog_55_method_7_code 0 = .ok (.aload_n 0, 1) := by decide +kernel
theorem d8_1 : decode prog_55_method_7_code 1 = .ok (.iload_n 2, 1) := by decide +kernel
theorem d8_2 : decode prog_55_method_7_code 2 = .ok (.invokevirtual 40, 3) := by decide +kernel
theorem d8_5 : decode prog_55_method_7_code 5 = .ok (.aload_n 0, 1) := by decide +kernel
theorem d8_6 : decode prog_55_method_7_code 6 = .ok (.getfield 37, 3) := by decide +kernel
theorem d8_9 : decode prog_55_method_7_code 9 = .ok (.istore_n 3, 1) := by decide +kernel
theorem d8_10 : decode prog_55_method_7_code 10 = .ok (.aload_n 1, 1) := by decide +kernel
theorem d8_11 : decode prog_55_method_7_code 11 = .ok (.iconst 0, 1) := by decide +kernel
theorem d8_12 : decode prog_55_method_7_code 12 = .ok (.aload_n 0, 1) := by decide +kernel
theorem d8_13 : decode prog_55_method_7_code 13 = .ok (.getfield 30, 3) := by decide +kernel
theorem d8_16 : decode prog_55_method_7_code 16 = .ok (.iload_n 3, 1) := by decide +kernel
theorem d8_17 : decode prog_55_method_7_code 17 = .ok (.aload_n 0, 1) := by decide +kernel
theorem d8_18 : decode prog_55_method_7_code 18 = .ok (.getfield 20, 3) := by decide +kernel
theorem d8_21 : decode prog_55_method_7_code 21 = .ok (.imul, 1) := by decide +kernel
theorem d8_22 : decode prog_55_method_7_code 22 = .ok (.iload_n 2, 1) := by decide +kernel
theorem d8_23 : decode prog_55_method_7_code 23 = .ok (.aload_n 0, 1) := by decide +kernel
theorem d8_24 : decode prog_55_method_7_code 24 = .ok (.getfield 20, 3) := by decide +kernel
theorem d8_27 : decode prog_55_method_7_code 27 = .ok (.imul, 1) := by decide +kernel
theorem d8_28 : decode prog_55_method_7_code 28 = .ok (.invokestatic 64, 3) := by decide +kernel
theorem d8_31 : decode prog_55_method_7_code 31 = .ok (.aload_n 0, 1) := by decide +kernel
theorem d8_32 : decode prog_55_method_7_code 32 = .ok (.dup, 1) := by decide +kernel
theorem d8_33 : decode prog_55_method_7_code 33 = .ok (.getfield 37, 3) := by decide +kernel
theorem d8_36 : decode prog_55_method_7_code 36 = .ok (.iload_n 2, 1) := by decide +kernel
theorem d8_37 : decode prog_55_method_7_code 37 = .ok (.iadd, 1) := by decide +kernel
theorem d8_38 : decode prog_55_method_7_code 38 = .ok (.putfield 37, 3) := by decide +kernel
theorem d8_41 : decode prog_55_method_7_code 41 = .ok (.aload_n 0, 1) := by decide +kernel
theorem d8_42 : decode prog_55_method_7_code 42 = .ok (.getfield 86, 3) := by decide +kernel
theorem d8_45 : decode prog_55_method_7_code 45 = .ok (.ifnull 43, 3) := by decide +kernel
theorem d8_48 : decode prog_55_method_7_code 48 = .ok (.iload_n 3, 1) := by decide +kernel
theorem d8_49 : decode prog_55_method_7_code 49 = .ok (.istore 4, 2) := by decide +kernel
theorem d8_51 : decode prog_55_method_7_code 51 = .ok (.iload 4, 2) := by decide +kernel
theorem d8_53 : decode prog_55_method_7_code 53 = .ok (.aload_n 0, 1) := by decide +kernel
theorem d8_54 : decode prog_55_method_7_code 54 = .ok (.getfield 37, 3) := by decide +kernel
theorem d8_57 : decode prog_55_method_7_code 57 = .ok (.if_icmp .ge 31, 3) := by decide +kernel
theorem d8_60 : decode prog_55_method_7_code 60 = .ok (.aload_n 0, 1) := by decide +kernel
theorem d8_61 : decode prog_55_method_7_code 61 = .ok (.getfield 86, 3) := by decide +kernel
theorem d8_64 : decode prog_55_method_7_code 64 = .ok (.aload_n 0, 1) := by decide +kernel
theorem d8_65 : decode prog_55_method_7_code 65 = .ok (.iload 4, 2) := by decide +kernel
theorem d8_67 : decode prog_55_method_7_code 67 = .ok (.iconst 0, 1) := by decide +kernel
theorem d8_68 : decode prog_55_method_7_code 68 = .ok (.invokevirtual 90, 3) := by decide +kernel
theorem d8_71 : decode prog_55_method_7_code 71 = .ok (.aload_n 0, 1) := by decide +kernel
theorem d8_72 : decode prog_55_method_7_code 72 = .ok (.iload 4, 2) := by decide +kernel
theorem d8_74 : decode prog_55_method_7_code 74 = .ok (.iconst 1, 1) := by decide +kernel
theorem d8_75 : decode prog_55_method_7_code 75 = .ok (.invokevirtual 90, 3) := by decide +kernel
theorem d8_88 : decode prog_55_method_7_code 88 = .ok (.aload_n 0, 1) := by decide +kernel
theorem d8_89 : decode prog_55_method_7_code 89 = .ok (.iload_n 3, 1) := by decide +kernel
theorem d8_90 : decode prog_55_method_7_code 90 = .ok (.aconst_null, 1) := by decide +kernel
theorem d8_91 : decode prog_55_method_7_code 91 = .ok (.invokevirtual 74, 3) := by decide +kernel
theorem d8_94 : decode prog_55_method_7_code 94 = .ok (.return_, 1) := by decide +kernel
theorem d9_0 : decode prog_55_method_9_code 0 = .ok (.aload_n 0, 1) := by decide +kernel
theorem d9_1 : decode prog_55_method_9_code 1 = .ok (.getfield 37, 3) := by decide +kernel
theorem d9_4 : decode prog_55_method_9_code 4 = .ok (.iload_n 1, 1) := by decide +kernel
theorem d9_5 : decode prog_55_method_9_code 5 = .ok (.iadd, 1) := by decide +kernel
theorem d9_6 : decode prog_55_method_9_code 6 = .ok (.aload_n 0, 1) := by decide +kernel
theorem d9_7 : decode prog_55_method_9_code 7 = .ok (.getfield 20, 3) := by decide +kernel
theorem d9_10 : decode prog_55_method_9_code 10 = .ok (.imul, 1) := by decide +kernel
theorem d9_11 : decode prog_55_method_9_code 11 = .ok (.istore_n 2, 1) := by decide +kernel
theorem d9_12 : decode prog_55_method_9_code 12 = .ok (.iload_n 2, 1) := by decide +kernel
theorem d9_13 : decode prog_55_method_9_code 13 = .ok (.aload_n 0, 1) := by decide +kernel
theorem d9_14 : decode prog_55_method_9_code 14 = .ok (.getfield 30, 3) := by decide +kernel
theorem d9_17 : decode prog_55_method_9_code 17 = .ok (.arraylength, 1) := by decide +kernel
theorem d9_18 : decode prog_55_method_9_code 18 = .ok (.if_icmp .le 25, 3) := by decide +kernel
theorem d9_21 : decode prog_55_method_9_code 21 = .ok (.aload_n 0, 1) := by decide +kernel
theorem d9_22 : decode prog_55_method_9_code 22 = .ok (.aload_n 0, 1) := by decide +kernel
theorem d9_23 : decode prog_55_method_9_code 23 = .ok (.getfield 30, 3) := by decide +kernel
theorem d9_26 : decode prog_55_method_9_code 26 = .ok (.aload_n 0, 1) := by decide +kernel
theorem d9_27 : decode prog_55_method_9_code 27 = .ok (.getfield 30, 3) := by decide +kernel
theorem d9_30 : decode prog_55_method_9_code 30 = .ok (.arraylength, 1) := by decide +kernel
theorem d9_31 : decode prog_55_method_9_code 31 = .ok (.iconst 2, 1) := by decide +kernel
theorem d9_32 : decode prog_55_method_9_code 32 = .ok (.imul, 1) := by decide +kernel
theorem d9_33 : decode prog_55_method_9_code 33 = .ok (.iload_n 2, 1) := by decide +kernel
theorem d9_34 : decode prog_55_method_9_code 34 = .ok (.invokestatic 24, 3) := by decide +kernel
theorem d9_37 : decode prog_55_method_9_code 37 = .ok (.invokestatic 101, 3) := by decide +kernel
theorem d9_40 : decode prog_55_method_9_code 40 = .ok (.putfield 30, 3) := by decide +kernel
theorem d9_43 : decode prog_55_method_9_code 43 = .ok (.return_, 1) := by decide +kernel
theorem d10_0 : decode prog_55_method_10_code 0 = .ok (.iconst 0, 1) := by decide +kernel
theorem d10_1 : decode prog_55_method_10_code 1 = .ok (.istore_n 3, 1) := by decide +kernel
theorem d10_2 : decode prog_55_method_10_code 2 = .ok (.iload_n 3, 1) := by decide +kernel
theorem d10_3 : decode prog_55_method_10_code 3 = .ok (.aload_n 0, 1) := by decide +kernel
theorem d10_4 : decode prog_55_method_10_code 4 = .ok (.getfield 10, 3) := by decide +kernel
theorem d10_7 : decode prog_55_method_10_code 7 = .ok (.invokeinterface 107 1, 5) := by decide +kernel
theorem d10_12 : decode prog_55_method_10_code 12 = .ok (.if_icmp .ge 55, 3) := by decide +kernel
theorem d10_15 : decode prog_55_method_10_code 15 = .ok (.aload_n 0, 1) := by decide +kernel
theorem d10_16 : decode prog_55_method_10_code 16 = .ok (.getfield 10, 3) := by decide +kernel
theorem d10_19 : decode prog_55_method_10_code 19 = .ok (.iload_n 3, 1) := by decide +kernel
theorem d10_20 : decode prog_55_method_10_code 20 = .ok (.invokeinterface 112 2, 5) := by decide +kernel
theorem d10_25 : decode prog_55_method_10_code 25 = .ok (.checkcast 59, 3) := by decide +kernel
theorem d10_28 : decode prog_55_method_10_code 28 = .ok (.astore 4, 2) := by decide +kernel
theorem d10_30 : decode prog_55_method_10_code 30 = .ok (.iload_n 1, 1) := by decide +kernel
theorem d10_31 : decode prog_55_method_10_code 31 = .ok (.istore 5, 2) := by decide +kernel
theorem d10_33 : decode prog_55_method_10_code 33 = .ok (.aload 4, 2) := by decide +kernel
theorem d10_35 : decode prog_55_method_10_code 35 = .ok (.aload_n 2, 1) := by decide +kernel
theorem d10_36 : decode prog_55_method_10_code 36 = .ok (.if_acmp .eq 25, 3) := by decide +kernel
theorem d10_39 : decode prog_55_method_10_code 39 = .ok (.iload 5, 2) := by decide +kernel
theorem d10_41 : decode prog_55_method_10_code 41 = .ok (.aload_n 0, 1) := by decide +kernel
theorem d10_42 : decode prog_55_method_10_code 42 = .ok (.getfield 37, 3) := by decide +kernel
theorem d10_45 : decode prog_55_method_10_code 45 = .ok (.if_icmp .ge 16, 3) := by decide +kernel
theorem d10_48 : decode prog_55_method_10_code 48 = .ok (.aload 4, 2) := by decide +kernel
theorem d10_50 : decode prog_55_method_10_code 50 = .ok (.iload 5, 2) := by decide +kernel
theorem d10_52 : decode prog_55_method_10_code 52 = .ok (.invokevirtual 115, 3) := by decide +kernel
theorem d10_55 : decode prog_55_method_10_code 55 = .ok (.iinc 5 1, 3) := by decide +kernel
theorem d10_58 : decode prog_55_method_10_code 58 = .ok (.goto (-25), 3) := by decide +kernel
theorem d10_61 : decode prog_55_method_10_code 61 = .ok (.iinc 3 1, 3) := by decide +kernel
theorem d10_64 : decode prog_55_method_10_code 64 = .ok (.goto (-62), 3) := by decide +kernel
theorem d10_67 : decode prog_55_method_10_code 67 = .ok (.return_, 1) := by decide +kernel
theorem d11_0 : decode jdk_38_method_8_code 0 = .ok (.aload_n 0, 1) := by decide +kernel
theorem d11_1 : decode jdk_38_method_8_code 1 = .ok (.getfield 48, 3) := by decide +kernel
theorem d11_4 : decode jdk_38_method_8_code 4 = .ok (.ireturn, 1) := by decide +kernel
theorem d12_0 : decode prog_55_method_12_code 0 = .ok (.aload_n 0, 1) := by decide +kernel
theorem d12_1 : decode prog_55_method_12_code 1 = .ok (.getfield 10, 3) := by decide +kernel
theorem d12_4 : decode prog_55_method_12_code 4 = .ok (.invokeinterface 144 1, 5) := by decide +kernel
theorem d12_9 : decode prog_55_method_12_code 9 = .ok (.astore_n 2, 1) := by decide +kernel
theorem d12_10 : decode prog_55_method_12_code 10 = .ok (.aload_n 2, 1) := by decide +kernel
theorem d12_11 : decode prog_55_method_12_code 11 = .ok (.invokeinterface 148 1, 5) := by decide +kernel
theorem d12_16 : decode prog_55_method_12_code 16 = .ok (.ifCond .eq 26, 3) := by decide +kernel
theorem d12_19 : decode prog_55_method_12_code 19 = .ok (.aload_n 2, 1) := by decide +kernel
theorem d12_42 : decode prog_55_method_12_code 42 = .ok (.new 59, 3) := by decide +kernel
theorem d12_45 : decode prog_55_method_12_code 45 = .ok (.dup, 1) := by decide +kernel
theorem d12_46 : decode prog_55_method_12_code 46 = .ok (.aload_n 0, 1) := by decide +kernel
theorem d12_47 : decode prog_55_method_12_code 47 = .ok (.aload_n 1, 1) := by decide +kernel
theorem d12_48 : decode prog_55_method_12_code 48 = .ok (.invokespecial 162, 3) := by decide +kernel
theorem d12_51 : decode prog_55_method_12_code 51 = .ok (.astore_n 2, 1) := by decide +kernel
theorem d12_52 : decode prog_55_method_12_code 52 = .ok (.aload_n 2, 1) := by decide +kernel
theorem d12_53 : decode prog_55_method_12_code 53 = .ok (.aload_n 0, 1) := by decide +kernel
theorem d12_54 : decode prog_55_method_12_code 54 = .ok (.getfield 37, 3) := by decide +kernel
theorem d12_57 : decode prog_55_method_12_code 57 = .ok (.invokevirtual 165, 3) := by decide +kernel
theorem d12_60 : decode prog_55_method_12_code 60 = .ok (.aload_n 0, 1) := by decide +kernel
theorem d12_61 : decode prog_55_method_12_code 61 = .ok (.getfield 10, 3) := by decide +kernel
theorem d12_64 : decode prog_55_method_12_code 64 = .ok (.aload_n 2, 1) := by decide +kernel
theorem d12_65 : decode prog_55_method_12_code 65 = .ok (.invokeinterface 168 2, 5) := by decide +kernel
theorem d12_70 : decode prog_55_method_12_code 70 = .ok (.pop, 1) := by decide +kernel
theorem d12_71 : decode prog_55_method_12_code 71 = .ok (.aload_n 2, 1) := by decide +kernel
theorem d12_72 : decode prog_55_method_12_code 72 = .ok (.areturn, 1) := by decide +kernel
theorem d13_0 : decode jdk_38_method_55_code 0 = .ok (.new 267, 3) := by decide +kernel
theorem d13_3 : decode jdk_38_method_55_code 3 = .ok (.dup, 1) := by decide +kernel
theorem d13_4 : decode jdk_38_method_55_code 4 = .ok (.aload_n 0, 1) := by decide +kernel
theorem d13_5 : decode jdk_38_method_55_code 5 = .ok (.invokespecial 269, 3) := by decide +kernel
theorem d13_8 : decode jdk_38_method_55_code 8 = .ok (.areturn, 1) := by decide +kernel
theorem d14_0 : decode jdk_49_method_1_code 0 = .ok (.aload_n 0, 1) := by decide +kernel
theorem d14_1 : decode jdk_49_method_1_code 1 = .ok (.aload_n 1, 1) := by decide +kernel
theorem d14_2 : decode jdk_49_method_1_code 2 = .ok (.putfield 1, 3) := by decide +kernel
theorem d14_5 : decode jdk_49_method_1_code 5 = .ok (.aload_n 0, 1) := by decide +kernel
theorem d14_6 : decode jdk_49_method_1_code 6 = .ok (.invokespecial 7, 3) := by decide +kernel
theorem d14_9 : decode jdk_49_method_1_code 9 = .ok (.aload_n 0, 1) := by decide +kernel
theorem d14_10 : decode jdk_49_method_1_code 10 = .ok (.iconst (-1), 1) := by decide +kernel
theorem d14_11 : decode jdk_49_method_1_code 11 = .ok (.putfield 13, 3) := by decide +kernel
theorem d14_14 : decode jdk_49_method_1_code 14 = .ok (.aload_n 0, 1) := by decide +kernel
theorem d14_15 : decode jdk_49_method_1_code 15 = .ok (.aload_n 0, 1) := by decide +kernel
theorem d14_16 : decode jdk_49_method_1_code 16 = .ok (.getfield 1, 3) := by decide +kernel
theorem d14_19 : decode jdk_49_method_1_code 19 = .ok (.getfield 17, 3) := by decide +kernel
theorem d14_22 : decode jdk_49_method_1_code 22 = .ok (.putfield 22, 3) := by decide +kernel
theorem d14_25 : decode jdk_49_method_1_code 25 = .ok (.return_, 1) := by decide +kernel
theorem d15_0 : decode jdk_49_method_2_code 0 = .ok (.aload_n 0, 1) := by decide +kernel
theorem d15_1 : decode jdk_49_method_2_code 1 = .ok (.getfield 25, 3) := by decide +kernel
theorem d15_4 : decode jdk_49_method_2_code 4 = .ok (.aload_n 0, 1) := by decide +kernel
theorem d15_5 : decode jdk_49_method_2_code 5 = .ok (.getfield 1, 3) := by decide +kernel
theorem d15_8 : decode jdk_49_method_2_code 8 = .ok (.getfield 28, 3) := by decide +kernel
theorem d15_11 : decode jdk_49_method_2_code 11 = .ok (.if_icmp .eq 7, 3) := by decide +kernel
theorem d15_14 : decode jdk_49_method_2_code 14 = .ok (.iconst 1, 1) := by decide +kernel
theorem d15_15 : decode jdk_49_method_2_code 15 = .ok (.goto 4, 3) := by decide +kernel
theorem d15_18 : decode jdk_49_method_2_code 18 = .ok (.iconst 0, 1) := by decide +kernel
theorem d15_19 : decode jdk_49_method_2_code 19 = .ok (.ireturn, 1) := by decide +kernel
theorem d16_0 : decode prog_13_method_1_code 0 = .ok (.aload_n 0, 1) := by decide +kernel
theorem d16_1 : decode prog_13_method_1_code 1 = .ok (.invokespecial 1, 3) := by decide +kernel
theorem d16_4 : decode prog_13_method_1_code 4 = .ok (.aload_n 0, 1) := by decide +kernel
theorem d16_5 : decode prog_13_method_1_code 5 = .ok (.bipush 15, 2) := by decide +kernel
theorem d16_7 : decode prog_13_method_1_code 7 = .ok (.putfield 7, 3) := by decide +kernel
theorem d16_10 : decode prog_13_method_1_code 10 = .ok (.aload_n 0, 1) := by decide +kernel
theorem d16_11 : decode prog_13_method_1_code 11 = .ok (.bipush 12, 2) := by decide +kernel
theorem d16_13 : decode prog_13_method_1_code 13 = .ok (.putfield 13, 3) := by decide +kernel
theorem d16_16 : decode prog_13_method_1_code 16 = .ok (.aload_n 0, 1) := by decide +kernel
theorem d16_17 : decode prog_13_method_1_code 17 = .ok (.bipush 8, 2) := by decide +kernel
theorem d16_19 : decode prog_13_method_1_code 19 = .ok (.newarray .int, 2) := by decide +kernel
theorem d16_21 : decode prog_13_method_1_code 21 = .ok (.putfield 16, 3) := by decide +kernel
theorem d16_24 : decode prog_13_method_1_code 24 = .ok (.aload_n 0, 1) := by decide +kernel
theorem d16_25 : decode prog_13_method_1_code 25 = .ok (.bipush 8, 2) := by decide +kernel
theorem d16_27 : decode prog_13_method_1_code 27 = .ok (.newarray .int, 2) := by decide +kernel
theorem d16_29 : decode prog_13_method_1_code 29 = .ok (.putfield 20, 3) := by decide +kernel
theorem d16_32 : decode prog_13_method_1_code 32 = .ok (.aload_n 0, 1) := by decide +kernel
theorem d16_33 : decode prog_13_method_1_code 33 = .ok (.bipush 8, 2) := by decide +kernel
theorem d16_35 : decode prog_13_method_1_code 35 = .ok (.anewarray 23, 3) := by decide +kernel
theorem d16_38 : decode prog_13_method_1_code 38 = .ok (.putfield 24, 3) := by decide +kernel
theorem d16_41 : decode prog_13_method_1_code 41 = .ok (.aload_n 0, 1) := by decide +kernel
theorem d16_42 : decode prog_13_method_1_code 42 = .ok (.iconst 0, 1) := by decide +kernel
theorem d16_43 : decode prog_13_method_1_code 43 = .ok (.newarray .int, 2) := by decide +kernel
theorem d16_45 : decode prog_13_method_1_code 45 = .ok (.putfield 28, 3) := by decide +kernel
theorem d16_48 : decode prog_13_method_1_code 48 = .ok (.aload_n 0, 1) := by decide +kernel
theorem d16_49 : decode prog_13_method_1_code 49 = .ok (.aload_n 1, 1) := by decide +kernel
theorem d16_50 : decode prog_13_method_1_code 50 = .ok (.putfield 31, 3) := by decide +kernel
theorem d16_53 : decode prog_13_method_1_code 53 = .ok (.aload_n 0, 1) := by decide +kernel
theorem d16_54 : decode prog_13_method_1_code 54 = .ok (.aload_n 2, 1) := by decide +kernel
theorem d16_55 : decode prog_13_method_1_code 55 = .ok (.invokevirtual 35, 3) := by decide +kernel
theorem d16_58 : decode prog_13_method_1_code 58 = .ok (.checkcast 23, 3) := by decide +kernel
theorem d16_61 : decode prog_13_method_1_code 61 = .ok (.putfield 39, 3) := by decide +kernel
theorem d16_64 : decode prog_13_method_1_code 64 = .ok (.aload_n 0, 1) := by decide +kernel
theorem d16_65 : decode prog_13_method_1_code 65 = .ok (.aload_n 2, 1) := by decide +kernel
theorem d16_66 : decode prog_13_method_1_code 66 = .ok (.arraylength, 1) := by decide +kernel
theorem d16_67 : decode prog_13_method_1_code 67 = .ok (.newarray .int, 2) := by decide +kernel
theorem d16_69 : decode prog_13_method_1_code 69 = .ok (.putfield 42, 3) := by decide +kernel
theorem d16_72 : decode prog_13_method_1_code 72 = .ok (.aload_n 0, 1) := by decide +kernel
theorem d16_73 : decode prog_13_method_1_code 73 = .ok (.aload_n 2, 1) := by decide +kernel
theorem d16_74 : decode prog_13_method_1_code 74 = .ok (.arraylength, 1) := by decide +kernel
theorem d16_75 : decode prog_13_method_1_code 75 = .ok (.iconst 1, 1) := by decide +kernel
theorem d16_76 : decode prog_13_method_1_code 76 = .ok (.iadd, 1) := by decide +kernel
theorem d16_77 : decode prog_13_method_1_code 77 = .ok (.putfield 45, 3) := by decide +kernel
theorem d16_80 : decode prog_13_method_1_code 80 = .ok (.aload_n 0, 1) := by decide +kernel
theorem d16_81 : decode prog_13_method_1_code 81 = .ok (.bipush 16, 2) := by decide +kernel
theorem d16_83 : decode prog_13_method_1_code 83 = .ok (.aload_n 0, 1) := by decide +kernel
theorem d16_84 : decode prog_13_method_1_code 84 = .ok (.getfield 45, 3) := by decide +kernel
theorem d16_87 : decode prog_13_method_1_code 87 = .ok (.imul, 1) := by decide +kernel
theorem d16_88 : decode prog_13_method_1_code 88 = .ok (.newarray .int, 2) := by decide +kernel
theorem d16_90 : decode prog_13_method_1_code 90 = .ok (.putfield 48, 3) := by decide +kernel
theorem d16_93 : decode prog_13_method_1_code 93 = .ok (.aload_n 1, 1) := by decide +kernel
theorem d16_94 : decode prog_13_method_1_code 94 = .ok (.invokevirtual 51, 3) := by decide +kernel
theorem d16_97 : decode prog_13_method_1_code 97 = .ok (.newarray .boolean, 2) := by decide +kernel
theorem d16_99 : decode prog_13_method_1_code 99 = .ok (.astore_n 3, 1) := by decide +kernel
theorem d16_100 : decode prog_13_method_1_code 100 = .ok (.iconst 0, 1) := by decide +kernel
theorem d16_101 : decode prog_13_method_1_code 101 = .ok (.istore 4, 2) := by decide +kernel
theorem d16_103 : decode prog_13_method_1_code 103 = .ok (.aload_n 2, 1) := by decide +kernel
theorem d16_104 : decode prog_13_method_1_code 104 = .ok (.astore 5, 2) := by decide +kernel
theorem d16_106 : decode prog_13_method_1_code 106 = .ok (.aload 5, 2) := by decide +kernel
theorem d16_108 : decode prog_13_method_1_code 108 = .ok (.arraylength, 1) := by decide +kernel
theorem d16_109 : decode prog_13_method_1_code 109 = .ok (.istore 6, 2) := by decide +kernel
theorem d16_111 : decode prog_13_method_1_code 111 = .ok (.iconst 0, 1) := by decide +kernel
theorem d16_112 : decode prog_13_method_1_code 112 = .ok (.istore 7, 2) := by decide +kernel
theorem d16_114 : decode prog_13_method_1_code 114 = .ok (.iload 7, 2) := by decide +kernel
theorem d16_116 : decode prog_13_method_1_code 116 = .ok (.iload 6, 2) := by decide +kernel
theorem d16_118 : decode prog_13_method_1_code 118 = .ok (.if_icmp .ge 31, 3) := by decide +kernel
theorem d16_121 : decode prog_13_method_1_code 121 = .ok (.aload 5, 2) := by decide +kernel
theorem d16_123 : decode prog_13_method_1_code 123 = .ok (.iload 7, 2) := by decide +kernel
theorem d16_125 : decode prog_13_method_1_code 125 = .ok (.iaload, 1) := by decide +kernel
theorem d16_126 : decode prog_13_method_1_code 126 = .ok (.istore 8, 2) := by decide +kernel
theorem d16_128 : decode prog_13_method_1_code 128 = .ok (.aload_n 3, 1) := by decide +kernel
theorem d16_129 : decode prog_13_method_1_code 129 = .ok (.iload 8, 2) := by decide +kernel
theorem d16_131 : decode prog_13_method_1_code 131 = .ok (.baload, 1) := by decide +kernel
theorem d16_132 : decode prog_13_method_1_code 132 = .ok (.ifCond .ne 11, 3) := by decide +kernel
theorem d16_135 : decode prog_13_method_1_code 135 = .ok (.aload_n 3, 1) := by decide +kernel
theorem d16_136 : decode prog_13_method_1_code 136 = .ok (.iload 8, 2) := by decide +kernel
theorem d16_138 : decode prog_13_method_1_code 138 = .ok (.iconst 1, 1) := by decide +kernel
theorem d16_139 : decode prog_13_method_1_code 139 = .ok (.bastore, 1) := by decide +kernel
theorem d16_140 : decode prog_13_method_1_code 140 = .ok (.iinc 4 1, 3) := by decide +kernel
theorem d16_143 : decode prog_13_method_1_code 143 = .ok (.iinc 7 1, 3) := by decide +kernel
theorem d16_146 : decode prog_13_method_1_code 146 = .ok (.goto (-32), 3) := by decide +kernel
theorem d16_149 : decode prog_13_method_1_code 149 = .ok (.aload_n 0, 1) := by decide +kernel
theorem d16_150 : decode prog_13_method_1_code 150 = .ok (.iload 4, 2) := by decide +kernel
theorem d16_152 : decode prog_13_method_1_code 152 = .ok (.aload_n 1, 1) := by decide +kernel
theorem d16_153 : decode prog_13_method_1_code 153 = .ok (.invokevirtual 51, 3) := by decide +kernel
theorem d16_156 : decode prog_13_method_1_code 156 = .ok (.if_icmp .ne 7, 3) := by decide +kernel
theorem d16_159 : decode prog_13_method_1_code 159 = .ok (.iconst 1, 1) := by decide +kernel
theorem d16_160 : decode prog_13_method_1_code 160 = .ok (.goto 4, 3) := by decide +kernel
theorem d16_163 : decode prog_13_method_1_code 163 = .ok (.iconst 0, 1) := by decide +kernel
theorem d16_164 : decode prog_13_method_1_code 164 = .ok (.putfield 57, 3) := by decide +kernel
theorem d16_167 : decode prog_13_method_1_code 167 = .ok (.return_, 1) := by decide +kernel
theorem d17_0 : decode prog_55_method_2_code 0 = .ok (.aload_n 0, 1) := by decide +kernel
theorem d17_1 : decode prog_55_method_2_code 1 = .ok (.getfield 20, 3) := by decide +kernel
theorem d17_4 : decode prog_55_method_2_code 4 = .ok (.ireturn, 1) := by decide +kernel
theorem d18_0 : decode prog_13_method_4_code 0 = .ok (.iload_n 1, 1) := by decide +kernel
theorem d18_1 : decode prog_13_method_4_code 1 = .ok (.newarray .int, 2) := by decide +kernel
theorem d18_3 : decode prog_13_method_4_code 3 = .ok (.astore_n 2, 1) := by decide +kernel
theorem d18_4 : decode prog_13_method_4_code 4 = .ok (.iconst 0, 1) := by decide +kernel
theorem d18_5 : decode prog_13_method_4_code 5 = .ok (.istore_n 3, 1) := by decide +kernel
theorem d18_6 : decode prog_13_method_4_code 6 = .ok (.iload_n 3, 1) := by decide +kernel
theorem d18_7 : decode prog_13_method_4_code 7 = .ok (.iload_n 1, 1) := by decide +kernel
theorem d18_8 : decode prog_13_method_4_code 8 = .ok (.if_icmp .ge 91, 3) := by decide +kernel
theorem d18_11 : decode prog_13_method_4_code 11 = .ok (.aload_n 0, 1) := by decide +kernel
theorem d18_12 : decode prog_13_method_4_code 12 = .ok (.iload_n 3, 1) := by decide +kernel
theorem d18_13 : decode prog_13_method_4_code 13 = .ok (.aload_n 0, 1) := by decide +kernel
theorem d18_14 : decode prog_13_method_4_code 14 = .ok (.getfield 42, 3) := by decide +kernel
theorem d18_17 : decode prog_13_method_4_code 17 = .ok (.invokevirtual 67, 3) := by decide +kernel
theorem d18_20 : decode prog_13_method_4_code 20 = .ok (.aload_n 0, 1) := by decide +kernel
theorem d18_21 : decode prog_13_method_4_code 21 = .ok (.aload_n 0, 1) := by decide +kernel
theorem d18_22 : decode prog_13_method_4_code 22 = .ok (.getfield 42, 3) := by decide +kernel
theorem d18_25 : decode prog_13_method_4_code 25 = .ok (.iconst 0, 1) := by decide +kernel
theorem d18_26 : decode prog_13_method_4_code 26 = .ok (.aload_n 0, 1) := by decide +kernel
theorem d18_27 : decode prog_13_method_4_code 27 = .ok (.aload_n 0, 1) := by decide +kernel
theorem d18_28 : decode prog_13_method_4_code 28 = .ok (.getfield 42, 3) := by decide +kernel
theorem d18_31 : decode prog_13_method_4_code 31 = .ok (.iconst 0, 1) := by decide +kernel
theorem d18_32 : decode prog_13_method_4_code 32 = .ok (.invokevirtual 71, 3) := by decide +kernel
theorem d18_35 : decode prog_13_method_4_code 35 = .ok (.invokevirtual 75, 3) := by decide +kernel
theorem d18_38 : decode prog_13_method_4_code 38 = .ok (.istore 4, 2) := by decide +kernel
theorem d18_40 : decode prog_13_method_4_code 40 = .ok (.aload_n 0, 1) := by decide +kernel
theorem d18_41 : decode prog_13_method_4_code 41 = .ok (.getfield 48, 3) := by decide +kernel
theorem d18_44 : decode prog_13_method_4_code 44 = .ok (.iload 4, 2) := by decide +kernel
theorem d18_46 : decode prog_13_method_4_code 46 = .ok (.iaload, 1) := by decide +kernel
theorem d18_47 : decode prog_13_method_4_code 47 = .ok (.iconst 1, 1) := by decide +kernel
theorem d18_48 : decode prog_13_method_4_code 48 = .ok (.isub, 1) := by decide +kernel
theorem d18_49 : decode prog_13_method_4_code 49 = .ok (.istore 5, 2) := by decide +kernel
theorem d18_51 : decode prog_13_method_4_code 51 = .ok (.iload 5, 2) := by decide +kernel
theorem d18_53 : decode prog_13_method_4_code 53 = .ok (.ifCond .ge 24, 3) := by decide +kernel
theorem d18_56 : decode prog_13_method_4_code 56 = .ok (.aload_n 0, 1) := by decide +kernel
theorem d18_57 : decode prog_13_method_4_code 57 = .ok (.getfield 87, 3) := by decide +kernel
theorem d18_60 : decode prog_13_method_4_code 60 = .ok (.istore 5, 2) := by decide +kernel
theorem d18_62 : decode prog_13_method_4_code 62 = .ok (.aload_n 0, 1) := by decide +kernel
theorem d18_63 : decode prog_13_method_4_code 63 = .ok (.iload 4, 2) := by decide +kernel
theorem d18_65 : decode prog_13_method_4_code 65 = .ok (.iload_n 3, 1) := by decide +kernel
theorem d18_66 : decode prog_13_method_4_code 66 = .ok (.aload_n 0, 1) := by decide +kernel
theorem d18_67 : decode prog_13_method_4_code 67 = .ok (.getfield 42, 3) := by decide +kernel
theorem d18_70 : decode prog_13_method_4_code 70 = .ok (.iconst 0, 1) := by decide +kernel
theorem d18_71 : decode prog_13_method_4_code 71 = .ok (.invokevirtual 79, 3) := by decide +kernel
theorem d18_74 : decode prog_13_method_4_code 74 = .ok (.goto 14, 3) := by decide +kernel
theorem d18_77 : decode prog_13_method_4_code 77 = .ok (.aload_n 0, 1) := by decide +kernel
theorem d18_78 : decode prog_13_method_4_code 78 = .ok (.getfield 20, 3) := by decide +kernel
theorem d18_81 : decode prog_13_method_4_code 81 = .ok (.iload 5, 2) := by decide +kernel
theorem d18_83 : decode prog_13_method_4_code 83 = .ok (.dup2, 1) := by decide +kernel
theorem d18_84 : decode prog_13_method_4_code 84 = .ok (.iaload, 1) := by decide +kernel
theorem d18_85 : decode prog_13_method_4_code 85 = .ok (.iconst 1, 1) := by decide +kernel
theorem d18_86 : decode prog_13_method_4_code 86 = .ok (.iadd, 1) := by decide +kernel
theorem d18_87 : decode prog_13_method_4_code 87 = .ok (.iastore, 1) := by decide +kernel
theorem d18_88 : decode prog_13_method_4_code 88 = .ok (.aload_n 2, 1) := by decide +kernel
theorem d18_89 : decode prog_13_method_4_code 89 = .ok (.iload_n 3, 1) := by decide +kernel
theorem d18_90 : decode prog_13_method_4_code 90 = .ok (.iload 5, 2) := by decide +kernel
theorem d18_92 : decode prog_13_method_4_code 92 = .ok (.iastore, 1) := by decide +kernel
theorem d18_93 : decode prog_13_method_4_code 93 = .ok (.iinc 3 1, 3) := by decide +kernel
theorem d18_96 : decode prog_13_method_4_code 96 = .ok (.goto (-90), 3) := by decide +kernel
theorem d18_99 : decode prog_13_method_4_code 99 = .ok (.aload_n 0, 1) := by decide +kernel
theorem d18_100 : decode prog_13_method_4_code 100 = .ok (.getfield 57, 3) := by decide +kernel
theorem d18_103 : decode prog_13_method_4_code 103 = .ok (.ifCond .eq 4, 3) := by decide +kernel
theorem d18_106 : decode prog_13_method_4_code 106 = .ok (.return_, 1) := by decide +kernel
theorem d18_107 : decode prog_13_method_4_code 107 = .ok (.aload_n 0, 1) := by decide +kernel
theorem d18_108 : decode prog_13_method_4_code 108 = .ok (.getfield 87, 3) := by decide +kernel
theorem d18_111 : decode prog_13_method_4_code 111 = .ok (.newarray .int, 2) := by decide +kernel
theorem d18_113 : decode prog_13_method_4_code 113 = .ok (.astore_n 3, 1) := by decide +kernel
theorem d18_114 : decode prog_13_method_4_code 114 = .ok (.iconst 0, 1) := by decide +kernel
theorem d18_115 : decode prog_13_method_4_code 115 = .ok (.istore 4, 2) := by decide +kernel
theorem d18_117 : decode prog_13_method_4_code 117 = .ok (.iload 4, 2) := by decide +kernel
theorem d18_119 : decode prog_13_method_4_code 119 = .ok (.iload_n 1, 1) := by decide +kernel
theorem d18_120 : decode prog_13_method_4_code 120 = .ok (.if_icmp .ge 68, 3) := by decide +kernel
theorem d18_123 : decode prog_13_method_4_code 123 = .ok (.aload_n 2, 1) := by decide +kernel
theorem d18_124 : decode prog_13_method_4_code 124 = .ok (.iload 4, 2) := by decide +kernel
theorem d18_126 : decode prog_13_method_4_code 126 = .ok (.iaload, 1) := by decide +kernel
theorem d18_127 : decode prog_13_method_4_code 127 = .ok (.istore 5, 2) := by decide +kernel
theorem d18_129 : decode prog_13_method_4_code 129 = .ok (.aload_n 0, 1) := by decide +kernel
theorem d18_130 : decode prog_13_method_4_code 130 = .ok (.getfield 20, 3) := by decide +kernel
theorem d18_133 : decode prog_13_method_4_code 133 = .ok (.iload 5, 2) := by decide +kernel
theorem d18_135 : decode prog_13_method_4_code 135 = .ok (.iaload, 1) := by decide +kernel
theorem d18_136 : decode prog_13_method_4_code 136 = .ok (.iconst 1, 1) := by decide +kernel
theorem d18_137 : decode prog_13_method_4_code 137 = .ok (.if_icmp .le 45, 3) := by decide +kernel
theorem d18_140 : decode prog_13_method_4_code 140 = .ok (.aload_n 3, 1) := by decide +kernel
theorem d18_141 : decode prog_13_method_4_code 141 = .ok (.iload 5, 2) := by decide +kernel
theorem d18_143 : decode prog_13_method_4_code 143 = .ok (.iaload, 1) := by decide +kernel
theorem d18_144 : decode prog_13_method_4_code 144 = .ok (.ifCond .ne 19, 3) := by decide +kernel
theorem d18_147 : decode prog_13_method_4_code 147 = .ok (.aload_n 0, 1) := by decide +kernel
theorem d18_148 : decode prog_13_method_4_code 148 = .ok (.getfield 24, 3) := by decide +kernel
theorem d18_151 : decode prog_13_method_4_code 151 = .ok (.iload 5, 2) := by decide +kernel
theorem d18_153 : decode prog_13_method_4_code 153 = .ok (.aload_n 0, 1) := by decide +kernel
theorem d18_154 : decode prog_13_method_4_code 154 = .ok (.getfield 20, 3) := by decide +kernel
theorem d18_157 : decode prog_13_method_4_code 157 = .ok (.iload 5, 2) := by decide +kernel
theorem d18_159 : decode prog_13_method_4_code 159 = .ok (.iaload, 1) := by decide +kernel
theorem d18_160 : decode prog_13_method_4_code 160 = .ok (.newarray .int, 2) := by decide +kernel
theorem d18_162 : decode prog_13_method_4_code 162 = .ok (.aastore, 1) := by decide +kernel
theorem d18_163 : decode prog_13_method_4_code 163 = .ok (.aload_n 0, 1) := by decide +kernel
theorem d18_164 : decode prog_13_method_4_code 164 = .ok (.getfield 24, 3) := by decide +kernel
theorem d18_167 : decode prog_13_method_4_code 167 = .ok (.iload 5, 2) := by decide +kernel
theorem d18_169 : decode prog_13_method_4_code 169 = .ok (.aaload, 1) := by decide +kernel
theorem d18_170 : decode prog_13_method_4_code 170 = .ok (.aload_n 3, 1) := by decide +kernel
theorem d18_171 : decode prog_13_method_4_code 171 = .ok (.iload 5, 2) := by decide +kernel
theorem d18_173 : decode prog_13_method_4_code 173 = .ok (.dup2, 1) := by decide +kernel
theorem d18_174 : decode prog_13_method_4_code 174 = .ok (.iaload, 1) := by decide +kernel
theorem d18_175 : decode prog_13_method_4_code 175 = .ok (.dup_x2, 1) := by decide +kernel
theorem d18_176 : decode prog_13_method_4_code 176 = .ok (.iconst 1, 1) := by decide +kernel
theorem d18_177 : decode prog_13_method_4_code 177 = .ok (.iadd, 1) := by decide +kernel
theorem d18_178 : decode prog_13_method_4_code 178 = .ok (.iastore, 1) := by decide +kernel
theorem d18_179 : decode prog_13_method_4_code 179 = .ok (.iload 4, 2) := by decide +kernel
theorem d18_181 : decode prog_13_method_4_code 181 = .ok (.iastore, 1) := by decide +kernel
theorem d18_182 : decode prog_13_method_4_code 182 = .ok (.iinc 4 1, 3) := by decide +kernel
theorem d18_185 : decode prog_13_method_4_code 185 = .ok (.goto (-68), 3) := by decide +kernel
theorem d18_188 : decode prog_13_method_4_code 188 = .ok (.return_, 1) := by decide +kernel
theorem d19_0 : decode jdk_38_method_25_code 0 = .ok (.aload_n 0, 1) := by decide +kernel
theorem d19_1 : decode jdk_38_method_25_code 1 = .ok (.dup, 1) := by decide +kernel
theorem d19_2 : decode jdk_38_method_25_code 2 = .ok (.getfield 63, 3) := by decide +kernel
theorem d19_5 : decode jdk_38_method_25_code 5 = .ok (.iconst 1, 1) := by decide +kernel
theorem d19_6 : decode jdk_38_method_25_code 6 = .ok (.iadd, 1) := by decide +kernel
theorem d19_7 : decode jdk_38_method_25_code 7 = .ok (.putfield 63, 3) := by decide +kernel
theorem d19_10 : decode jdk_38_method_25_code 10 = .ok (.aload_n 0, 1) := by decide +kernel
theorem d19_11 : decode jdk_38_method_25_code 11 = .ok (.aload_n 1, 1) := by decide +kernel
theorem d19_12 : decode jdk_38_method_25_code 12 = .ok (.aload_n 0, 1) := by decide +kernel
theorem d19_13 : decode jdk_38_method_25_code 13 = .ok (.getfield 9, 3) := by decide +kernel
theorem d19_16 : decode jdk_38_method_25_code 16 = .ok (.aload_n 0, 1) := by decide +kernel
theorem d19_17 : decode jdk_38_method_25_code 17 = .ok (.getfield 48, 3) := by decide +kernel
theorem d19_20 : decode jdk_38_method_25_code 20 = .ok (.invokevirtual 131, 3) := by decide +kernel
theorem d19_23 : decode jdk_38_method_25_code 23 = .ok (.iconst 1, 1) := by decide +kernel
theorem d19_24 : decode jdk_38_method_25_code 24 = .ok (.ireturn, 1) := by decide +kernel
theorem d20_0 : decode jdk_38_method_24_code 0 = .ok (.iload_n 3, 1) := by decide +kernel
theorem d20_1 : decode jdk_38_method_24_code 1 = .ok (.aload_n 2, 1) := by decide +kernel
theorem d20_2 : decode jdk_38_method_24_code 2 = .ok (.arraylength, 1) := by decide +kernel
theorem d20_3 : decode jdk_38_method_24_code 3 = .ok (.if_icmp .ne 8, 3) := by decide +kernel
theorem d20_6 : decode jdk_38_method_24_code 6 = .ok (.aload_n 0, 1) := by decide +kernel
theorem d20_7 : decode jdk_38_method_24_code 7 = .ok (.invokevirtual 129, 3) := by decide +kernel
theorem d20_10 : decode jdk_38_method_24_code 10 = .ok (.astore_n 2, 1) := by decide +kernel
theorem d20_11 : decode jdk_38_method_24_code 11 = .ok (.aload_n 2, 1) := by decide +kernel
theorem d20_12 : decode jdk_38_method_24_code 12 = .ok (.iload_n 3, 1) := by decide +kernel
theorem d20_13 : decode jdk_38_method_24_code 13 = .ok (.aload_n 1, 1) := by decide +kernel
theorem d20_14 : decode jdk_38_method_24_code 14 = .ok (.aastore, 1) := by decide +kernel
theorem d20_15 : decode jdk_38_method_24_code 15 = .ok (.aload_n 0, 1) := by decide +kernel
theorem d20_16 : decode jdk_38_method_24_code 16 = .ok (.iload_n 3, 1) := by decide +kernel
theorem d20_17 : decode jdk_38_method_24_code 17 = .ok (.iconst 1, 1) := by decide +kernel
theorem d20_18 : decode jdk_38_method_24_code 18 = .ok (.iadd, 1) := by decide +kernel
theorem d20_19 : decode jdk_38_method_24_code 19 = .ok (.putfield 48, 3) := by decide +kernel
theorem d20_22 : decode jdk_38_method_24_code 22 = .ok (.return_, 1) := by decide +kernel
theorem d21_0 : decode jdk_38_method_7_code 0 = .ok (.aload_n 0, 1) := by decide +kernel
theorem d21_1 : decode jdk_38_method_7_code 1 = .ok (.aload_n 0, 1) := by decide +kernel
theorem d21_2 : decode jdk_38_method_7_code 2 = .ok (.getfield 48, 3) := by decide +kernel
theorem d21_5 : decode jdk_38_method_7_code 5 = .ok (.iconst 1, 1) := by decide +kernel
theorem d21_6 : decode jdk_38_method_7_code 6 = .ok (.iadd, 1) := by decide +kernel
theorem d21_7 : decode jdk_38_method_7_code 7 = .ok (.invokevirtual 69, 3) := by decide +kernel
theorem d21_10 : decode jdk_38_method_7_code 10 = .ok (.areturn, 1) := by decide +kernel
theorem d22_0 : decode jdk_38_method_6_code 0 = .ok (.aload_n 0, 1) := by decide +kernel
theorem d22_1 : decode jdk_38_method_6_code 1 = .ok (.getfield 9, 3) := by decide +kernel
theorem d22_4 : decode jdk_38_method_6_code 4 = .ok (.arraylength, 1) := by decide +kernel
theorem d22_5 : decode jdk_38_method_6_code 5 = .ok (.istore_n 2, 1) := by decide +kernel
theorem d22_6 : decode jdk_38_method_6_code 6 = .ok (.iload_n 2, 1) := by decide +kernel
theorem d22_7 : decode jdk_38_method_6_code 7 = .ok (.ifCond .gt 13, 3) := by decide +kernel
theorem d22_10 : decode jdk_38_method_6_code 10 = .ok (.aload_n 0, 1) := by decide +kernel
theorem d22_11 : decode jdk_38_method_6_code 11 = .ok (.getfield 9, 3) := by decide +kernel
theorem d22_14 : decode jdk_38_method_6_code 14 = .ok (.getstatic 39, 3) := by decide +kernel
theorem d22_17 : decode jdk_38_method_6_code 17 = .ok (.if_acmp .eq 28, 3) := by decide +kernel
theorem d22_20 : decode jdk_38_method_6_code 20 = .ok (.iload_n 2, 1) := by decide +kernel
theorem d22_21 : decode jdk_38_method_6_code 21 = .ok (.iload_n 1, 1) := by decide +kernel
theorem d22_22 : decode jdk_38_method_6_code 22 = .ok (.iload_n 2, 1) := by decide +kernel
theorem d22_23 : decode jdk_38_method_6_code 23 = .ok (.isub, 1) := by decide +kernel
theorem d22_24 : decode jdk_38_method_6_code 24 = .ok (.iload_n 2, 1) := by decide +kernel
theorem d22_25 : decode jdk_38_method_6_code 25 = .ok (.iconst 1, 1) := by decide +kernel
theorem d22_26 : decode jdk_38_method_6_code 26 = .ok (.ishr, 1) := by decide +kernel
theorem d22_45 : decode jdk_38_method_6_code 45 = .ok (.aload_n 0, 1) := by decide +kernel
theorem d22_46 : decode jdk_38_method_6_code 46 = .ok (.bipush 10, 2) := by decide +kernel
theorem d22_48 : decode jdk_38_method_6_code 48 = .ok (.iload_n 1, 1) := by decide +kernel
theorem d22_49 : decode jdk_38_method_6_code 49 = .ok (.invokestatic 79, 3) := by decide +kernel
theorem d22_52 : decode jdk_38_method_6_code 52 = .ok (.anewarray 7, 3) := by decide +kernel
theorem d22_55 : decode jdk_38_method_6_code 55 = .ok (.dup_x1, 1) := by decide +kernel
theorem d22_56 : decode jdk_38_method_6_code 56 = .ok (.putfield 9, 3) := by decide +kernel
theorem d22_59 : decode jdk_38_method_6_code 59 = .ok (.areturn, 1) := by decide +kernel
theorem d23_0 : decode jdk_38_method_20_code 0 = .ok (.iload_n 1, 1) := by decide +kernel
theorem d23_1 : decode jdk_38_method_20_code 1 = .ok (.aload_n 0, 1) := by decide +kernel
theorem d23_2 : decode jdk_38_method_20_code 2 = .ok (.getfield 48, 3) := by decide +kernel
theorem d23_5 : decode jdk_38_method_20_code 5 = .ok (.invokestatic 118, 3) := by decide +kernel
theorem d23_8 : decode jdk_38_method_20_code 8 = .ok (.pop, 1) := by decide +kernel
theorem d23_9 : decode jdk_38_method_20_code 9 = .ok (.aload_n 0, 1) := by decide +kernel
theorem d23_10 : decode jdk_38_method_20_code 10 = .ok (.iload_n 1, 1) := by decide +kernel
theorem d23_11 : decode jdk_38_method_20_code 11 = .ok (.invokevirtual 123, 3) := by decide +kernel
theorem d23_14 : decode jdk_38_method_20_code 14 = .ok (.areturn, 1) := by decide +kernel
theorem d24_0 : decode jdk_31_method_17_code 0 = .ok (.iload_n 0, 1) := by decide +kernel
theorem d24_1 : decode jdk_31_method_17_code 1 = .ok (.iload_n 1, 1) := by decide +kernel
theorem d24_2 : decode jdk_31_method_17_code 2 = .ok (.aconst_null, 1) := by decide +kernel
theorem d24_3 : decode jdk_31_method_17_code 3 = .ok (.invokestatic 105, 3) := by decide +kernel
theorem d24_6 : decode jdk_31_method_17_code 6 = .ok (.ireturn, 1) := by decide +kernel
theorem d25_0 : decode jdk_41_method_11_code 0 = .ok (.iload_n 0, 1) := by decide +kernel
theorem d25_1 : decode jdk_41_method_11_code 1 = .ok (.ifCond .lt 8, 3) := by decide +kernel
theorem d25_4 : decode jdk_41_method_11_code 4 = .ok (.iload_n 0, 1) := by decide +kernel
theorem d25_5 : decode jdk_41_method_11_code 5 = .ok (.iload_n 1, 1) := by decide +kernel
theorem d25_6 : decode jdk_41_method_11_code 6 = .ok (.if_icmp .lt 10, 3) := by decide +kernel
theorem d25_9 : decode jdk_41_method_11_code 9 = .ok (.aload_n 2, 1) := by decide +kernel
theorem d25_10 : decode jdk_41_method_11_code 10 = .ok (.iload_n 0, 1) := by decide +kernel
theorem d25_11 : decode jdk_41_method_11_code 11 = .ok (.iload_n 1, 1) := by decide +kernel
theorem d25_16 : decode jdk_41_method_11_code 16 = .ok (.iload_n 0, 1) := by decide +kernel
theorem d25_17 : decode jdk_41_method_11_code 17 = .ok (.ireturn, 1) := by decide +kernel
theorem d26_0 : decode jdk_38_method_18_code 0 = .ok (.aload_n 0, 1) := by decide +kernel
theorem d26_1 : decode jdk_38_method_18_code 1 = .ok (.getfield 9, 3) := by decide +kernel
theorem d26_4 : decode jdk_38_method_18_code 4 = .ok (.iload_n 1, 1) := by decide +kernel
theorem d26_5 : decode jdk_38_method_18_code 5 = .ok (.aaload, 1) := by decide +kernel
theorem d26_6 : decode jdk_38_method_18_code 6 = .ok (.areturn, 1) := by decide +kernel
theorem d27_0 : decode prog_13_method_3_code 0 = .ok (.aload_n 0, 1) := by decide +kernel
theorem d27_1 : decode prog_13_method_3_code 1 = .ok (.iload_n 1, 1) := by decide +kernel
theorem d27_2 : decode prog_13_method_3_code 2 = .ok (.aload_n 0, 1) := by decide +kernel
theorem d27_3 : decode prog_13_method_3_code 3 = .ok (.getfield 42, 3) := by decide +kernel
theorem d27_6 : decode prog_13_method_3_code 6 = .ok (.invokevirtual 67, 3) := by decide +kernel
theorem d27_9 : decode prog_13_method_3_code 9 = .ok (.aload_n 0, 1) := by decide +kernel
theorem d27_10 : decode prog_13_method_3_code 10 = .ok (.aload_n 0, 1) := by decide +kernel
theorem d27_11 : decode prog_13_method_3_code 11 = .ok (.getfield 42, 3) := by decide +kernel
theorem d27_14 : decode prog_13_method_3_code 14 = .ok (.iconst 0, 1) := by decide +kernel
theorem d27_15 : decode prog_13_method_3_code 15 = .ok (.aload_n 0, 1) := by decide +kernel
theorem d27_16 : decode prog_13_method_3_code 16 = .ok (.aload_n 0, 1) := by decide +kernel
theorem d27_17 : decode prog_13_method_3_code 17 = .ok (.getfield 42, 3) := by decide +kernel
theorem d27_20 : decode prog_13_method_3_code 20 = .ok (.iconst 0, 1) := by decide +kernel
theorem d27_21 : decode prog_13_method_3_code 21 = .ok (.invokevirtual 71, 3) := by decide +kernel
theorem d27_24 : decode prog_13_method_3_code 24 = .ok (.invokevirtual 75, 3) := by decide +kernel
theorem d27_27 : decode prog_13_method_3_code 27 = .ok (.istore_n 2, 1) := by decide +kernel
theorem d27_28 : decode prog_13_method_3_code 28 = .ok (.aload_n 0, 1) := by decide +kernel
theorem d27_29 : decode prog_13_method_3_code 29 = .ok (.getfield 48, 3) := by decide +kernel
theorem d27_32 : decode prog_13_method_3_code 32 = .ok (.iload_n 2, 1) := by decide +kernel
theorem d27_33 : decode prog_13_method_3_code 33 = .ok (.iaload, 1) := by decide +kernel
theorem d27_34 : decode prog_13_method_3_code 34 = .ok (.iconst 1, 1) := by decide +kernel
theorem d27_35 : decode prog_13_method_3_code 35 = .ok (.isub, 1) := by decide +kernel
theorem d27_36 : decode prog_13_method_3_code 36 = .ok (.istore_n 3, 1) := by decide +kernel
theorem d27_37 : decode prog_13_method_3_code 37 = .ok (.iload_n 3, 1) := by decide +kernel
theorem d27_38 : decode prog_13_method_3_code 38 = .ok (.ifCond .ge 17, 3) := by decide +kernel
theorem d27_41 : decode prog_13_method_3_code 41 = .ok (.aload_n 0, 1) := by decide +kernel
theorem d27_42 : decode prog_13_method_3_code 42 = .ok (.iload_n 2, 1) := by decide +kernel
theorem d27_43 : decode prog_13_method_3_code 43 = .ok (.iload_n 1, 1) := by decide +kernel
theorem d27_44 : decode prog_13_method_3_code 44 = .ok (.aload_n 0, 1) := by decide +kernel
theorem d27_45 : decode prog_13_method_3_code 45 = .ok (.getfield 42, 3) := by decide +kernel
theorem d27_48 : decode prog_13_method_3_code 48 = .ok (.iconst 0, 1) := by decide +kernel
theorem d27_49 : decode prog_13_method_3_code 49 = .ok (.invokevirtual 79, 3) := by decide +kernel
theorem d27_52 : decode prog_13_method_3_code 52 = .ok (.goto 104, 3) := by decide +kernel
theorem d27_55 : decode prog_13_method_3_code 55 = .ok (.aload_n 0, 1) := by decide +kernel
theorem d27_56 : decode prog_13_method_3_code 56 = .ok (.getfield 20, 3) := by decide +kernel
theorem d27_59 : decode prog_13_method_3_code 59 = .ok (.iload_n 3, 1) := by decide +kernel
theorem d27_60 : decode prog_13_method_3_code 60 = .ok (.iaload, 1) := by decide +kernel
theorem d27_61 : decode prog_13_method_3_code 61 = .ok (.iconst 1, 1) := by decide +kernel
theorem d27_62 : decode prog_13_method_3_code 62 = .ok (.if_icmp .ne 36, 3) := by decide +kernel
theorem d27_65 : decode prog_13_method_3_code 65 = .ok (.aload_n 0, 1) := by decide +kernel
theorem d27_66 : decode prog_13_method_3_code 66 = .ok (.getfield 24, 3) := by decide +kernel
theorem d27_69 : decode prog_13_method_3_code 69 = .ok (.iload_n 3, 1) := by decide +kernel
theorem d27_70 : decode prog_13_method_3_code 70 = .ok (.iconst 4, 1) := by decide +kernel
theorem d27_71 : decode prog_13_method_3_code 71 = .ok (.newarray .int, 2) := by decide +kernel
theorem d27_73 : decode prog_13_method_3_code 73 = .ok (.dup, 1) := by decide +kernel
theorem d27_74 : decode prog_13_method_3_code 74 = .ok (.iconst 0, 1) := by decide +kernel
theorem d27_75 : decode prog_13_method_3_code 75 = .ok (.aload_n 0, 1) := by decide +kernel
theorem d27_76 : decode prog_13_method_3_code 76 = .ok (.getfield 16, 3) := by decide +kernel
theorem d27_79 : decode prog_13_method_3_code 79 = .ok (.iload_n 3, 1) := by decide +kernel
theorem d27_80 : decode prog_13_method_3_code 80 = .ok (.iaload, 1) := by decide +kernel
theorem d27_81 : decode prog_13_method_3_code 81 = .ok (.iastore, 1) := by decide +kernel
theorem d27_82 : decode prog_13_method_3_code 82 = .ok (.dup, 1) := by decide +kernel
theorem d27_83 : decode prog_13_method_3_code 83 = .ok (.iconst 1, 1) := by decide +kernel
theorem d27_84 : decode prog_13_method_3_code 84 = .ok (.iconst 0, 1) := by decide +kernel
theorem d27_85 : decode prog_13_method_3_code 85 = .ok (.iastore, 1) := by decide +kernel
theorem d27_86 : decode prog_13_method_3_code 86 = .ok (.dup, 1) := by decide +kernel
theorem d27_87 : decode prog_13_method_3_code 87 = .ok (.iconst 2, 1) := by decide +kernel
theorem d27_88 : decode prog_13_method_3_code 88 = .ok (.iconst 0, 1) := by decide +kernel
theorem d27_89 : decode prog_13_method_3_code 89 = .ok (.iastore, 1) := by decide +kernel
theorem d27_90 : decode prog_13_method_3_code 90 = .ok (.dup, 1) := by decide +kernel
theorem d27_91 : decode prog_13_method_3_code 91 = .ok (.iconst 3, 1) := by decide +kernel
theorem d27_92 : decode prog_13_method_3_code 92 = .ok (.iconst 0, 1) := by decide +kernel
theorem d27_93 : decode prog_13_method_3_code 93 = .ok (.iastore, 1) := by decide +kernel
theorem d27_94 : decode prog_13_method_3_code 94 = .ok (.aastore, 1) := by decide +kernel
theorem d27_95 : decode prog_13_method_3_code 95 = .ok (.goto 42, 3) := by decide +kernel
theorem d27_98 : decode prog_13_method_3_code 98 = .ok (.aload_n 0, 1) := by decide +kernel
theorem d27_99 : decode prog_13_method_3_code 99 = .ok (.getfield 20, 3) := by decide +kernel
theorem d27_102 : decode prog_13_method_3_code 102 = .ok (.iload_n 3, 1) := by decide +kernel
theorem d27_103 : decode prog_13_method_3_code 103 = .ok (.iaload, 1) := by decide +kernel
theorem d27_104 : decode prog_13_method_3_code 104 = .ok (.aload_n 0, 1) := by decide +kernel
theorem d27_105 : decode prog_13_method_3_code 105 = .ok (.getfield 24, 3) := by decide +kernel
theorem d27_108 : decode prog_13_method_3_code 108 = .ok (.iload_n 3, 1) := by decide +kernel
theorem d27_109 : decode prog_13_method_3_code 109 = .ok (.aaload, 1) := by decide +kernel
theorem d27_110 : decode prog_13_method_3_code 110 = .ok (.arraylength, 1) := by decide +kernel
theorem d27_111 : decode prog_13_method_3_code 111 = .ok (.if_icmp .ne 26, 3) := by decide +kernel
theorem d27_114 : decode prog_13_method_3_code 114 = .ok (.aload_n 0, 1) := by decide +kernel
theorem d27_115 : decode prog_13_method_3_code 115 = .ok (.getfield 24, 3) := by decide +kernel
theorem d27_118 : decode prog_13_method_3_code 118 = .ok (.iload_n 3, 1) := by decide +kernel
theorem d27_119 : decode prog_13_method_3_code 119 = .ok (.aload_n 0, 1) := by decide +kernel
theorem d27_120 : decode prog_13_method_3_code 120 = .ok (.getfield 24, 3) := by decide +kernel
theorem d27_123 : decode prog_13_method_3_code 123 = .ok (.iload_n 3, 1) := by decide +kernel
theorem d27_124 : decode prog_13_method_3_code 124 = .ok (.aaload, 1) := by decide +kernel
theorem d27_125 : decode prog_13_method_3_code 125 = .ok (.aload_n 0, 1) := by decide +kernel
theorem d27_126 : decode prog_13_method_3_code 126 = .ok (.getfield 20, 3) := by decide +kernel
theorem d27_129 : decode prog_13_method_3_code 129 = .ok (.iload_n 3, 1) := by decide +kernel
theorem d27_130 : decode prog_13_method_3_code 130 = .ok (.iaload, 1) := by decide +kernel
theorem d27_131 : decode prog_13_method_3_code 131 = .ok (.iconst 2, 1) := by decide +kernel
theorem d27_132 : decode prog_13_method_3_code 132 = .ok (.imul, 1) := by decide +kernel
theorem d27_133 : decode prog_13_method_3_code 133 = .ok (.invokestatic 83, 3) := by decide +kernel
theorem d27_136 : decode prog_13_method_3_code 136 = .ok (.aastore, 1) := by decide +kernel
theorem d27_137 : decode prog_13_method_3_code 137 = .ok (.aload_n 0, 1) := by decide +kernel
theorem d27_138 : decode prog_13_method_3_code 138 = .ok (.getfield 24, 3) := by decide +kernel
theorem d27_141 : decode prog_13_method_3_code 141 = .ok (.iload_n 3, 1) := by decide +kernel
theorem d27_142 : decode prog_13_method_3_code 142 = .ok (.aaload, 1) := by decide +kernel
theorem d27_143 : decode prog_13_method_3_code 143 = .ok (.aload_n 0, 1) := by decide +kernel
theorem d27_144 : decode prog_13_method_3_code 144 = .ok (.getfield 20, 3) := by decide +kernel
theorem d27_147 : decode prog_13_method_3_code 147 = .ok (.iload_n 3, 1) := by decide +kernel
theorem d27_148 : decode prog_13_method_3_code 148 = .ok (.dup2, 1) := by decide +kernel
theorem d27_149 : decode prog_13_method_3_code 149 = .ok (.iaload, 1) := by decide +kernel
theorem d27_150 : decode prog_13_method_3_code 150 = .ok (.dup_x2, 1) := by decide +kernel
theorem d27_151 : decode prog_13_method_3_code 151 = .ok (.iconst 1, 1) := by decide +kernel
theorem d27_152 : decode prog_13_method_3_code 152 = .ok (.iadd, 1) := by decide +kernel
theorem d27_153 : decode prog_13_method_3_code 153 = .ok (.iastore, 1) := by decide +kernel
theorem d27_154 : decode prog_13_method_3_code 154 = .ok (.iload_n 1, 1) := by decide +kernel
theorem d27_155 : decode prog_13_method_3_code 155 = .ok (.iastore, 1) := by decide +kernel
theorem d27_156 : decode prog_13_method_3_code 156 = .ok (.return_, 1) := by decide +kernel
theorem d28_0 : decode prog_13_method_18_code 0 = .ok (.iconst 0, 1) := by decide +kernel
theorem d28_1 : decode prog_13_method_18_code 1 = .ok (.istore_n 3, 1) := by decide +kernel
theorem d28_2 : decode prog_13_method_18_code 2 = .ok (.iload_n 3, 1) := by decide +kernel
theorem d28_3 : decode prog_13_method_18_code 3 = .ok (.aload_n 0, 1) := by decide +kernel
theorem d28_4 : decode prog_13_method_18_code 4 = .ok (.getfield 39, 3) := by decide +kernel
theorem d28_7 : decode prog_13_method_18_code 7 = .ok (.arraylength, 1) := by decide +kernel
theorem d28_8 : decode prog_13_method_18_code 8 = .ok (.if_icmp .ge 26, 3) := by decide +kernel
theorem d28_11 : decode prog_13_method_18_code 11 = .ok (.aload_n 2, 1) := by decide +kernel
theorem d28_12 : decode prog_13_method_18_code 12 = .ok (.iload_n 3, 1) := by decide +kernel
theorem d28_13 : decode prog_13_method_18_code 13 = .ok (.aload_n 0, 1) := by decide +kernel
theorem d28_14 : decode prog_13_method_18_code 14 = .ok (.getfield 31, 3) := by decide +kernel
theorem d28_17 : decode prog_13_method_18_code 17 = .ok (.iload_n 1, 1) := by decide +kernel
theorem d28_18 : decode prog_13_method_18_code 18 = .ok (.aload_n 0, 1) := by decide +kernel
theorem d28_19 : decode prog_13_method_18_code 19 = .ok (.getfield 39, 3) := by decide +kernel
theorem d28_22 : decode prog_13_method_18_code 22 = .ok (.iload_n 3, 1) := by decide +kernel
theorem d28_23 : decode prog_13_method_18_code 23 = .ok (.iaload, 1) := by decide +kernel
theorem d28_24 : decode prog_13_method_18_code 24 = .ok (.invokevirtual 128, 3) := by decide +kernel
theorem d28_27 : decode prog_13_method_18_code 27 = .ok (.iastore, 1) := by decide +kernel
theorem d28_28 : decode prog_13_method_18_code 28 = .ok (.iinc 3 1, 3) := by decide +kernel
theorem d28_31 : decode prog_13_method_18_code 31 = .ok (.goto (-29), 3) := by decide +kernel
theorem d28_34 : decode prog_13_method_18_code 34 = .ok (.return_, 1) := by decide +kernel
theorem d29_0 : decode prog_55_method_4_code 0 = .ok (.aload_n 0, 1) := by decide +kernel
theorem d29_1 : decode prog_55_method_4_code 1 = .ok (.getfield 30, 3) := by decide +kernel
theorem d29_4 : decode prog_55_method_4_code 4 = .ok (.iload_n 1, 1) := by decide +kernel
theorem d29_5 : decode prog_55_method_4_code 5 = .ok (.aload_n 0, 1) := by decide +kernel
theorem d29_6 : decode prog_55_method_4_code 6 = .ok (.getfield 20, 3) := by decide +kernel
theorem d29_9 : decode prog_55_method_4_code 9 = .ok (.imul, 1) := by decide +kernel
theorem d29_10 : decode prog_55_method_4_code 10 = .ok (.iload_n 2, 1) := by decide +kernel
theorem d29_11 : decode prog_55_method_4_code 11 = .ok (.iadd, 1) := by decide +kernel
theorem d29_12 : decode prog_55_method_4_code 12 = .ok (.iaload, 1) := by decide +kernel
theorem d29_13 : decode prog_55_method_4_code 13 = .ok (.ireturn, 1) := by decide +kernel
theorem d30_0 : decode prog_13_method_9_code 0 = .ok (.aload_n 1, 1) := by decide +kernel
theorem d30_1 : decode prog_13_method_9_code 1 = .ok (.iload_n 2, 1) := by decide +kernel
theorem d30_2 : decode prog_13_method_9_code 2 = .ok (.aload_n 0, 1) := by decide +kernel
theorem d30_3 : decode prog_13_method_9_code 3 = .ok (.getfield 39, 3) := by decide +kernel
theorem d30_6 : decode prog_13_method_9_code 6 = .ok (.arraylength, 1) := by decide +kernel
theorem d30_7 : decode prog_13_method_9_code 7 = .ok (.invokestatic 97, 3) := by decide +kernel
theorem d30_10 : decode prog_13_method_9_code 10 = .ok (.ireturn, 1) := by decide +kernel
theorem d31_0 : decode prog_13_method_20_code 0 = .ok (.ldc 131, 2) := by decide +kernel
theorem d31_2 : decode prog_13_method_20_code 2 = .ok (.istore_n 3, 1) := by decide +kernel
theorem d31_3 : decode prog_13_method_20_code 3 = .ok (.iload_n 1, 1) := by decide +kernel
theorem d31_4 : decode prog_13_method_20_code 4 = .ok (.istore 4, 2) := by decide +kernel
theorem d31_6 : decode prog_13_method_20_code 6 = .ok (.iload 4, 2) := by decide +kernel
theorem d31_8 : decode prog_13_method_20_code 8 = .ok (.iload_n 1, 1) := by decide +kernel
theorem d31_9 : decode prog_13_method_20_code 9 = .ok (.iload_n 2, 1) := by decide +kernel
theorem d31_10 : decode prog_13_method_20_code 10 = .ok (.iadd, 1) := by decide +kernel
theorem d31_11 : decode prog_13_method_20_code 11 = .ok (.if_icmp .ge 19, 3) := by decide +kernel
theorem d31_14 : decode prog_13_method_20_code 14 = .ok (.iload_n 3, 1) := by decide +kernel
theorem d31_15 : decode prog_13_method_20_code 15 = .ok (.aload_n 0, 1) := by decide +kernel
theorem d31_16 : decode prog_13_method_20_code 16 = .ok (.iload 4, 2) := by decide +kernel
theorem d31_18 : decode prog_13_method_20_code 18 = .ok (.iaload, 1) := by decide +kernel
theorem d31_19 : decode prog_13_method_20_code 19 = .ok (.ixor, 1) := by decide +kernel
theorem d31_20 : decode prog_13_method_20_code 20 = .ok (.ldc 132, 2) := by decide +kernel
theorem d31_22 : decode prog_13_method_20_code 22 = .ok (.imul, 1) := by decide +kernel
theorem d31_23 : decode prog_13_method_20_code 23 = .ok (.istore_n 3, 1) := by decide +kernel
theorem d31_24 : decode prog_13_method_20_code 24 = .ok (.iinc 4 1, 3) := by decide +kernel
theorem d31_27 : decode prog_13_method_20_code 27 = .ok (.goto (-21), 3) := by decide +kernel
theorem d31_30 : decode prog_13_method_20_code 30 = .ok (.iload_n 3, 1) := by decide +kernel
theorem d31_31 : decode prog_13_method_20_code 31 = .ok (.iload_n 3, 1) := by decide +kernel
theorem d31_32 : decode prog_13_method_20_code 32 = .ok (.bipush 16, 2) := by decide +kernel
theorem d31_34 : decode prog_13_method_20_code 34 = .ok (.iushr, 1) := by decide +kernel
theorem d31_35 : decode prog_13_method_20_code 35 = .ok (.ixor, 1) := by decide +kernel
theorem d31_36 : decode prog_13_method_20_code 36 = .ok (.istore_n 3, 1) := by decide +kernel
theorem d31_37 : decode prog_13_method_20_code 37 = .ok (.iload_n 3, 1) := by decide +kernel
theorem d31_38 : decode prog_13_method_20_code 38 = .ok (.ldc 133, 2) := by decide +kernel
theorem d31_40 : decode prog_13_method_20_code 40 = .ok (.imul, 1) := by decide +kernel
theorem d31_41 : decode prog_13_method_20_code 41 = .ok (.istore_n 3, 1) := by decide +kernel
theorem d31_42 : decode prog_13_method_20_code 42 = .ok (.iload_n 3, 1) := by decide +kernel
theorem d31_43 : decode prog_13_method_20_code 43 = .ok (.iload_n 3, 1) := by decide +kernel
theorem d31_44 : decode prog_13_method_20_code 44 = .ok (.bipush 13, 2) := by decide +kernel
theorem d31_46 : decode prog_13_method_20_code 46 = .ok (.iushr, 1) := by decide +kernel
theorem d31_47 : decode prog_13_method_20_code 47 = .ok (.ixor, 1) := by decide +kernel
theorem d31_48 : decode prog_13_method_20_code 48 = .ok (.istore_n 3, 1) := by decide +kernel
theorem d31_49 : decode prog_13_method_20_code 49 = .ok (.iload_n 3, 1) := by decide +kernel
theorem d31_50 : decode prog_13_method_20_code 50 = .ok (.ireturn, 1) := by decide +kernel
theorem d32_0 : decode prog_13_method_14_code 0 = .ok (.iload_n 3, 1) := by decide +kernel
theorem d32_1 : decode prog_13_method_14_code 1 = .ok (.aload_n 0, 1) := by decide +kernel
theorem d32_2 : decode prog_13_method_14_code 2 = .ok (.getfield 7, 3) := by decide +kernel
theorem d32_5 : decode prog_13_method_14_code 5 = .ok (.iand, 1) := by decide +kernel
theorem d32_6 : decode prog_13_method_14_code 6 = .ok (.istore 4, 2) := by decide +kernel
theorem d32_8 : decode prog_13_method_14_code 8 = .ok (.iload 4, 2) := by decide +kernel
theorem d32_10 : decode prog_13_method_14_code 10 = .ok (.aload_n 0, 1) := by decide +kernel
theorem d32_11 : decode prog_13_method_14_code 11 = .ok (.getfield 45, 3) := by decide +kernel
theorem d32_14 : decode prog_13_method_14_code 14 = .ok (.imul, 1) := by decide +kernel
theorem d32_15 : decode prog_13_method_14_code 15 = .ok (.istore 5, 2) := by decide +kernel
theorem d32_17 : decode prog_13_method_14_code 17 = .ok (.aload_n 0, 1) := by decide +kernel
theorem d32_18 : decode prog_13_method_14_code 18 = .ok (.getfield 48, 3) := by decide +kernel
theorem d32_21 : decode prog_13_method_14_code 21 = .ok (.iload 5, 2) := by decide +kernel
theorem d32_23 : decode prog_13_method_14_code 23 = .ok (.iaload, 1) := by decide +kernel
theorem d32_24 : decode prog_13_method_14_code 24 = .ok (.ifCond .eq 14, 3) := by decide +kernel
theorem d32_27 : decode prog_13_method_14_code 27 = .ok (.aload_n 0, 1) := by decide +kernel
theorem d32_28 : decode prog_13_method_14_code 28 = .ok (.iload 5, 2) := by decide +kernel
theorem d32_30 : decode prog_13_method_14_code 30 = .ok (.aload_n 1, 1) := by decide +kernel
theorem d32_31 : decode prog_13_method_14_code 31 = .ok (.iload_n 2, 1) := by decide +kernel
theorem d32_32 : decode prog_13_method_14_code 32 = .ok (.invokevirtual 107, 3) := by decide +kernel
theorem d32_35 : decode prog_13_method_14_code 35 = .ok (.ifCond .eq 6, 3) := by decide +kernel
theorem d32_38 : decode prog_13_method_14_code 38 = .ok (.iload 5, 2) := by decide +kernel
theorem d32_40 : decode prog_13_method_14_code 40 = .ok (.ireturn, 1) := by decide +kernel
theorem d32_41 : decode prog_13_method_14_code 41 = .ok (.iload 4, 2) := by decide +kernel
theorem d32_43 : decode prog_13_method_14_code 43 = .ok (.iconst 1, 1) := by decide +kernel
theorem d32_44 : decode prog_13_method_14_code 44 = .ok (.iadd, 1) := by decide +kernel
theorem d32_45 : decode prog_13_method_14_code 45 = .ok (.aload_n 0, 1) := by decide +kernel
theorem d32_46 : decode prog_13_method_14_code 46 = .ok (.getfield 7, 3) := by decide +kernel
theorem d32_49 : decode prog_13_method_14_code 49 = .ok (.iand, 1) := by decide +kernel
theorem d32_50 : decode prog_13_method_14_code 50 = .ok (.istore 4, 2) := by decide +kernel
theorem d32_52 : decode prog_13_method_14_code 52 = .ok (.goto (-44), 3) := by decide +kernel
theorem d33_0 : decode prog_13_method_16_code 0 = .ok (.aload_n 0, 1) := by decide +kernel
theorem d33_1 : decode prog_13_method_16_code 1 = .ok (.getfield 87, 3) := by decide +kernel
theorem d33_4 : decode prog_13_method_16_code 4 = .ok (.istore 5, 2) := by decide +kernel
theorem d33_6 : decode prog_13_method_16_code 6 = .ok (.aload_n 0, 1) := by decide +kernel
theorem d33_7 : decode prog_13_method_16_code 7 = .ok (.getfield 57, 3) := by decide +kernel
theorem d33_10 : decode prog_13_method_16_code 10 = .ok (.ifCond .ne 87, 3) := by decide +kernel
theorem d33_13 : decode prog_13_method_16_code 13 = .ok (.iload 5, 2) := by decide +kernel
theorem d33_15 : decode prog_13_method_16_code 15 = .ok (.aload_n 0, 1) := by decide +kernel
theorem d33_16 : decode prog_13_method_16_code 16 = .ok (.getfield 16, 3) := by decide +kernel
theorem d33_19 : decode prog_13_method_16_code 19 = .ok (.arraylength, 1) := by decide +kernel
theorem d33_20 : decode prog_13_method_16_code 20 = .ok (.if_icmp .ne 51, 3) := by decide +kernel
theorem d33_23 : decode prog_13_method_16_code 23 = .ok (.aload_n 0, 1) := by decide +kernel
theorem d33_24 : decode prog_13_method_16_code 24 = .ok (.aload_n 0, 1) := by decide +kernel
theorem d33_25 : decode prog_13_method_16_code 25 = .ok (.getfield 16, 3) := by decide +kernel
theorem d33_28 : decode prog_13_method_16_code 28 = .ok (.iload 5, 2) := by decide +kernel
theorem d33_30 : decode prog_13_method_16_code 30 = .ok (.iconst 2, 1) := by decide +kernel
theorem d33_31 : decode prog_13_method_16_code 31 = .ok (.imul, 1) := by decide +kernel
theorem d33_32 : decode prog_13_method_16_code 32 = .ok (.invokestatic 83, 3) := by decide +kernel
theorem d33_35 : decode prog_13_method_16_code 35 = .ok (.putfield 16, 3) := by decide +kernel
theorem d33_38 : decode prog_13_method_16_code 38 = .ok (.aload_n 0, 1) := by decide +kernel
theorem d33_39 : decode prog_13_method_16_code 39 = .ok (.aload_n 0, 1) := by decide +kernel
theorem d33_40 : decode prog_13_method_16_code 40 = .ok (.getfield 20, 3) := by decide +kernel
theorem d33_43 : decode prog_13_method_16_code 43 = .ok (.iload 5, 2) := by decide +kernel
theorem d33_45 : decode prog_13_method_16_code 45 = .ok (.iconst 2, 1) := by decide +kernel
theorem d33_46 : decode prog_13_method_16_code 46 = .ok (.imul, 1) := by decide +kernel
theorem d33_47 : decode prog_13_method_16_code 47 = .ok (.invokestatic 83, 3) := by decide +kernel
theorem d33_50 : decode prog_13_method_16_code 50 = .ok (.putfield 20, 3) := by decide +kernel
theorem d33_53 : decode prog_13_method_16_code 53 = .ok (.aload_n 0, 1) := by decide +kernel
theorem d33_54 : decode prog_13_method_16_code 54 = .ok (.aload_n 0, 1) := by decide +kernel
theorem d33_55 : decode prog_13_method_16_code 55 = .ok (.getfield 24, 3) := by decide +kernel
theorem d33_58 : decode prog_13_method_16_code 58 = .ok (.iload 5, 2) := by decide +kernel
theorem d33_60 : decode prog_13_method_16_code 60 = .ok (.iconst 2, 1) := by decide +kernel
theorem d33_61 : decode prog_13_method_16_code 61 = .ok (.imul, 1) := by decide +kernel
theorem d33_71 : decode prog_13_method_16_code 71 = .ok (.aload_n 0, 1) := by decide +kernel
theorem d33_72 : decode prog_13_method_16_code 72 = .ok (.getfield 16, 3) := by decide +kernel
theorem d33_75 : decode prog_13_method_16_code 75 = .ok (.iload 5, 2) := by decide +kernel
theorem d33_77 : decode prog_13_method_16_code 77 = .ok (.iload_n 2, 1) := by decide +kernel
theorem d33_78 : decode prog_13_method_16_code 78 = .ok (.iastore, 1) := by decide +kernel
theorem d33_79 : decode prog_13_method_16_code 79 = .ok (.aload_n 0, 1) := by decide +kernel
theorem d33_80 : decode prog_13_method_16_code 80 = .ok (.getfield 20, 3) := by decide +kernel
theorem d33_83 : decode prog_13_method_16_code 83 = .ok (.iload 5, 2) := by decide +kernel
theorem d33_85 : decode prog_13_method_16_code 85 = .ok (.iconst 1, 1) := by decide +kernel
theorem d33_86 : decode prog_13_method_16_code 86 = .ok (.iastore, 1) := by decide +kernel
theorem d33_87 : decode prog_13_method_16_code 87 = .ok (.aload_n 0, 1) := by decide +kernel
theorem d33_88 : decode prog_13_method_16_code 88 = .ok (.getfield 24, 3) := by decide +kernel
theorem d33_91 : decode prog_13_method_16_code 91 = .ok (.iload 5, 2) := by decide +kernel
theorem d33_93 : decode prog_13_method_16_code 93 = .ok (.getstatic 115, 3) := by decide +kernel
theorem d33_96 : decode prog_13_method_16_code 96 = .ok (.aastore, 1) := by decide +kernel
theorem d33_97 : decode prog_13_method_16_code 97 = .ok (.aload_n 0, 1) := by decide +kernel
theorem d33_98 : decode prog_13_method_16_code 98 = .ok (.dup, 1) := by decide +kernel
theorem d33_99 : decode prog_13_method_16_code 99 = .ok (.getfield 87, 3) := by decide +kernel
theorem d33_102 : decode prog_13_method_16_code 102 = .ok (.iconst 1, 1) := by decide +kernel
theorem d33_103 : decode prog_13_method_16_code 103 = .ok (.iadd, 1) := by decide +kernel
theorem d33_104 : decode prog_13_method_16_code 104 = .ok (.putfield 87, 3) := by decide +kernel
theorem d33_107 : decode prog_13_method_16_code 107 = .ok (.aload_n 0, 1) := by decide +kernel
theorem d33_108 : decode prog_13_method_16_code 108 = .ok (.getfield 48, 3) := by decide +kernel
theorem d33_111 : decode prog_13_method_16_code 111 = .ok (.iload_n 1, 1) := by decide +kernel
theorem d33_112 : decode prog_13_method_16_code 112 = .ok (.iload 5, 2) := by decide +kernel
theorem d33_114 : decode prog_13_method_16_code 114 = .ok (.iconst 1, 1) := by decide +kernel
theorem d33_115 : decode prog_13_method_16_code 115 = .ok (.iadd, 1) := by decide +kernel
theorem d33_116 : decode prog_13_method_16_code 116 = .ok (.iastore, 1) := by decide +kernel
theorem d33_117 : decode prog_13_method_16_code 117 = .ok (.aload_n 3, 1) := by decide +kernel
theorem d33_118 : decode prog_13_method_16_code 118 = .ok (.iload 4, 2) := by decide +kernel
theorem d33_120 : decode prog_13_method_16_code 120 = .ok (.aload_n 0, 1) := by decide +kernel
theorem d33_121 : decode prog_13_method_16_code 121 = .ok (.getfield 48, 3) := by decide +kernel
theorem d33_124 : decode prog_13_method_16_code 124 = .ok (.iload_n 1, 1) := by decide +kernel
theorem d33_125 : decode prog_13_method_16_code 125 = .ok (.iconst 1, 1) := by decide +kernel
theorem d33_126 : decode prog_13_method_16_code 126 = .ok (.iadd, 1) := by decide +kernel
theorem d33_127 : decode prog_13_method_16_code 127 = .ok (.aload_n 0, 1) := by decide +kernel
theorem d33_128 : decode prog_13_method_16_code 128 = .ok (.getfield 39, 3) := by decide +kernel
theorem d33_131 : decode prog_13_method_16_code 131 = .ok (.arraylength, 1) := by decide +kernel
theorem d33_132 : decode prog_13_method_16_code 132 = .ok (.invokestatic 118, 3) := by decide +kernel
theorem d33_135 : decode prog_13_method_16_code 135 = .ok (.aload_n 0, 1) := by decide +kernel
theorem d33_136 : decode prog_13_method_16_code 136 = .ok (.getfield 87, 3) := by decide +kernel
theorem d33_139 : decode prog_13_method_16_code 139 = .ok (.aload_n 0, 1) := by decide +kernel
theorem d33_140 : decode prog_13_method_16_code 140 = .ok (.getfield 13, 3) := by decide +kernel
theorem d33_143 : decode prog_13_method_16_code 143 = .ok (.if_icmp .le 15, 3) := by decide +kernel
theorem d33_146 : decode prog_13_method_16_code 146 = .ok (.aload_n 0, 1) := by decide +kernel
theorem d33_147 : decode prog_13_method_16_code 147 = .ok (.aload_n 0, 1) := by decide +kernel
theorem d33_148 : decode prog_13_method_16_code 148 = .ok (.getfield 7, 3) := by decide +kernel
theorem d33_151 : decode prog_13_method_16_code 151 = .ok (.iconst 1, 1) := by decide +kernel
theorem d33_152 : decode prog_13_method_16_code 152 = .ok (.iadd, 1) := by decide +kernel
theorem d33_153 : decode prog_13_method_16_code 153 = .ok (.iconst 2, 1) := by decide +kernel
theorem d33_154 : decode prog_13_method_16_code 154 = .ok (.imul, 1) := by decide +kernel
theorem d33_158 : decode prog_13_method_16_code 158 = .ok (.return_, 1) := by decide +kernel
theorem d34_0 : decode prog_13_method_15_code 0 = .ok (.iconst 0, 1) := by decide +kernel
theorem d34_1 : decode prog_13_method_15_code 1 = .ok (.istore 4, 2) := by decide +kernel
theorem d34_3 : decode prog_13_method_15_code 3 = .ok (.iload 4, 2) := by decide +kernel
theorem d34_5 : decode prog_13_method_15_code 5 = .ok (.aload_n 0, 1) := by decide +kernel
theorem d34_6 : decode prog_13_method_15_code 6 = .ok (.getfield 39, 3) := by decide +kernel
theorem d34_9 : decode prog_13_method_15_code 9 = .ok (.arraylength, 1) := by decide +kernel
theorem d34_10 : decode prog_13_method_15_code 10 = .ok (.if_icmp .ge 31, 3) := by decide +kernel
theorem d34_13 : decode prog_13_method_15_code 13 = .ok (.aload_n 0, 1) := by decide +kernel
theorem d34_14 : decode prog_13_method_15_code 14 = .ok (.getfield 48, 3) := by decide +kernel
theorem d34_17 : decode prog_13_method_15_code 17 = .ok (.iload_n 1, 1) := by decide +kernel
theorem d34_18 : decode prog_13_method_15_code 18 = .ok (.iconst 1, 1) := by decide +kernel
theorem d34_19 : decode prog_13_method_15_code 19 = .ok (.iadd, 1) := by decide +kernel
theorem d34_20 : decode prog_13_method_15_code 20 = .ok (.iload 4, 2) := by decide +kernel
theorem d34_22 : decode prog_13_method_15_code 22 = .ok (.iadd, 1) := by decide +kernel
theorem d34_23 : decode prog_13_method_15_code 23 = .ok (.iaload, 1) := by decide +kernel
theorem d34_24 : decode prog_13_method_15_code 24 = .ok (.aload_n 2, 1) := by decide +kernel
theorem d34_25 : decode prog_13_method_15_code 25 = .ok (.iload_n 3, 1) := by decide +kernel
theorem d34_26 : decode prog_13_method_15_code 26 = .ok (.iload 4, 2) := by decide +kernel
theorem d34_28 : decode prog_13_method_15_code 28 = .ok (.iadd, 1) := by decide +kernel
theorem d34_29 : decode prog_13_method_15_code 29 = .ok (.iaload, 1) := by decide +kernel
theorem d34_30 : decode prog_13_method_15_code 30 = .ok (.if_icmp .eq 5, 3) := by decide +kernel
theorem d34_33 : decode prog_13_method_15_code 33 = .ok (.iconst 0, 1) := by decide +kernel
theorem d34_34 : decode prog_13_method_15_code 34 = .ok (.ireturn, 1) := by decide +kernel
theorem d34_35 : decode prog_13_method_15_code 35 = .ok (.iinc 4 1, 3) := by decide +kernel
theorem d34_38 : decode prog_13_method_15_code 38 = .ok (.goto (-35), 3) := by decide +kernel
theorem d34_41 : decode prog_13_method_15_code 41 = .ok (.iconst 1, 1) := by decide +kernel
theorem d34_42 : decode prog_13_method_15_code 42 = .ok (.ireturn, 1) := by decide +kernel
theorem d35_0 : decode prog_13_method_8_code 0 = .ok (.aload_n 0, 1) := by decide +kernel
theorem d35_1 : decode prog_13_method_8_code 1 = .ok (.getfield 48, 3) := by decide +kernel
theorem d35_4 : decode prog_13_method_8_code 4 = .ok (.aload_n 0, 1) := by decide +kernel
theorem d35_5 : decode prog_13_method_8_code 5 = .ok (.aload_n 1, 1) := by decide +kernel
theorem d35_6 : decode prog_13_method_8_code 6 = .ok (.iconst 0, 1) := by decide +kernel
theorem d35_7 : decode prog_13_method_8_code 7 = .ok (.aload_n 0, 1) := by decide +kernel
theorem d35_8 : decode prog_13_method_8_code 8 = .ok (.aload_n 1, 1) := by decide +kernel
theorem d35_9 : decode prog_13_method_8_code 9 = .ok (.iconst 0, 1) := by decide +kernel
theorem d35_10 : decode prog_13_method_8_code 10 = .ok (.invokevirtual 71, 3) := by decide +kernel
theorem d35_13 : decode prog_13_method_8_code 13 = .ok (.invokevirtual 75, 3) := by decide +kernel
theorem d35_16 : decode prog_13_method_8_code 16 = .ok (.iaload, 1) := by decide +kernel
theorem d35_17 : decode prog_13_method_8_code 17 = .ok (.iconst 1, 1) := by decide +kernel
theorem d35_18 : decode prog_13_method_8_code 18 = .ok (.isub, 1) := by decide +kernel
theorem d35_19 : decode prog_13_method_8_code 19 = .ok (.ireturn, 1) := by decide +kernel
theorem d36_0 : decode prog_13_method_12_code 0 = .ok (.aload_n 0, 1) := by decide +kernel
theorem d36_1 : decode prog_13_method_12_code 1 = .ok (.getfield 57, 3) := by decide +kernel
theorem d36_4 : decode prog_13_method_12_code 4 = .ok (.ifCond .eq 8, 3) := by decide +kernel
theorem d36_7 : decode prog_13_method_12_code 7 = .ok (.iload_n 1, 1) := by decide +kernel
theorem d36_8 : decode prog_13_method_12_code 8 = .ok (.istore_n 3, 1) := by decide +kernel
theorem d36_9 : decode prog_13_method_12_code 9 = .ok (.goto 32, 3) := by decide +kernel
theorem d36_12 : decode prog_13_method_12_code 12 = .ok (.aload_n 0, 1) := by decide +kernel
theorem d36_13 : decode prog_13_method_12_code 13 = .ok (.getfield 20, 3) := by decide +kernel
theorem d36_16 : decode prog_13_method_12_code 16 = .ok (.iload_n 1, 1) := by decide +kernel
theorem d36_17 : decode prog_13_method_12_code 17 = .ok (.iaload, 1) := by decide +kernel
theorem d36_18 : decode prog_13_method_12_code 18 = .ok (.iconst 1, 1) := by decide +kernel
theorem d36_19 : decode prog_13_method_12_code 19 = .ok (.if_icmp .ne 13, 3) := by decide +kernel
theorem d36_22 : decode prog_13_method_12_code 22 = .ok (.aload_n 0, 1) := by decide +kernel
theorem d36_23 : decode prog_13_method_12_code 23 = .ok (.getfield 16, 3) := by decide +kernel
theorem d36_26 : decode prog_13_method_12_code 26 = .ok (.iload_n 1, 1) := by decide +kernel
theorem d36_27 : decode prog_13_method_12_code 27 = .ok (.iaload, 1) := by decide +kernel
theorem d36_28 : decode prog_13_method_12_code 28 = .ok (.istore_n 3, 1) := by decide +kernel
theorem d36_29 : decode prog_13_method_12_code 29 = .ok (.goto 12, 3) := by decide +kernel
theorem d36_32 : decode prog_13_method_12_code 32 = .ok (.aload_n 0, 1) := by decide +kernel
theorem d36_33 : decode prog_13_method_12_code 33 = .ok (.getfield 24, 3) := by decide +kernel
theorem d36_36 : decode prog_13_method_12_code 36 = .ok (.iload_n 1, 1) := by decide +kernel
theorem d36_37 : decode prog_13_method_12_code 37 = .ok (.aaload, 1) := by decide +kernel
theorem d36_38 : decode prog_13_method_12_code 38 = .ok (.iload_n 2, 1) := by decide +kernel
theorem d36_39 : decode prog_13_method_12_code 39 = .ok (.iaload, 1) := by decide +kernel
theorem d36_40 : decode prog_13_method_12_code 40 = .ok (.istore_n 3, 1) := by decide +kernel
theorem d36_41 : decode prog_13_method_12_code 41 = .ok (.iload_n 3, 1) := by decide +kernel
theorem d36_42 : decode prog_13_method_12_code 42 = .ok (.ireturn, 1) := by decide +kernel
theorem d37_0 : decode method_5_code 0 = .ok (.iload_n 0, 1) := by decide +kernel
theorem d37_1 : decode method_5_code 1 = .ok (.istore 6, 2) := by decide +kernel
theorem d37_3 : decode method_5_code 3 = .ok (.iload_n 1, 1) := by decide +kernel
theorem d37_4 : decode method_5_code 4 = .ok (.ifCond .eq 13, 3) := by decide +kernel
theorem d37_7 : decode method_5_code 7 = .ok (.iload 6, 2) := by decide +kernel
theorem d37_9 : decode method_5_code 9 = .ok (.ifCond .ne 5, 3) := by decide +kernel
theorem d37_12 : decode method_5_code 12 = .ok (.iconst 0, 1) := by decide +kernel
theorem d37_13 : decode method_5_code 13 = .ok (.ireturn, 1) := by decide +kernel
theorem d37_14 : decode method_5_code 14 = .ok (.iinc 6 (-1), 3) := by decide +kernel
theorem d37_17 : decode method_5_code 17 = .ok (.iload_n 2, 1) := by decide +kernel
theorem d37_18 : decode method_5_code 18 = .ok (.ifCond .eq 13, 3) := by decide +kernel
theorem d37_21 : decode method_5_code 21 = .ok (.iload 6, 2) := by decide +kernel
theorem d37_23 : decode method_5_code 23 = .ok (.ifCond .ne 5, 3) := by decide +kernel
theorem d37_26 : decode method_5_code 26 = .ok (.iconst 1, 1) := by decide +kernel
theorem d37_27 : decode method_5_code 27 = .ok (.ireturn, 1) := by decide +kernel
theorem d37_28 : decode method_5_code 28 = .ok (.iinc 6 (-1), 3) := by decide +kernel
theorem d37_31 : decode method_5_code 31 = .ok (.iload_n 3, 1) := by decide +kernel
theorem d37_32 : decode method_5_code 32 = .ok (.ifCond .eq 13, 3) := by decide +kernel
theorem d37_35 : decode method_5_code 35 = .ok (.iload 6, 2) := by decide +kernel
theorem d37_37 : decode method_5_code 37 = .ok (.ifCond .ne 5, 3) := by decide +kernel
theorem d37_40 : decode method_5_code 40 = .ok (.iconst 2, 1) := by decide +kernel
theorem d37_41 : decode method_5_code 41 = .ok (.ireturn, 1) := by decide +kernel
theorem d37_42 : decode method_5_code 42 = .ok (.iinc 6 (-1), 3) := by decide +kernel
theorem d37_45 : decode method_5_code 45 = .ok (.iload 4, 2) := by decide +kernel
theorem d37_47 : decode method_5_code 47 = .ok (.ifCond .eq 13, 3) := by decide +kernel
theorem d37_50 : decode method_5_code 50 = .ok (.iload 6, 2) := by decide +kernel
theorem d37_52 : decode method_5_code 52 = .ok (.ifCond .ne 5, 3) := by decide +kernel
theorem d37_55 : decode method_5_code 55 = .ok (.iconst 3, 1) := by decide +kernel
theorem d37_56 : decode method_5_code 56 = .ok (.ireturn, 1) := by decide +kernel
theorem d37_57 : decode method_5_code 57 = .ok (.iinc 6 (-1), 3) := by decide +kernel
theorem d37_60 : decode method_5_code 60 = .ok (.iload 5, 2) := by decide +kernel
theorem d37_62 : decode method_5_code 62 = .ok (.ifCond .eq 10, 3) := by decide +kernel
theorem d37_65 : decode method_5_code 65 = .ok (.iload 6, 2) := by decide +kernel
theorem d37_67 : decode method_5_code 67 = .ok (.ifCond .ne 5, 3) := by decide +kernel
theorem d37_70 : decode method_5_code 70 = .ok (.iconst 4, 1) := by decide +kernel
theorem d37_71 : decode method_5_code 71 = .ok (.ireturn, 1) := by decide +kernel
theorem d37_72 : decode method_5_code 72 = .ok (.iconst (-1), 1) := by decide +kernel
theorem d37_73 : decode method_5_code 73 = .ok (.ireturn, 1) := by decide +kernel
theorem d38_0 : decode jdk_65_method_123_code 0 = .ok (.iload_n 1, 1) := by decide +kernel
theorem d38_1 : decode jdk_65_method_123_code 1 = .ok (.aload_n 0, 1) := by decide +kernel
theorem d38_2 : decode jdk_65_method_123_code 2 = .ok (.arraylength, 1) := by decide +kernel
theorem d38_3 : decode jdk_65_method_123_code 3 = .ok (.if_icmp .ne 11, 3) := by decide +kernel
theorem d38_6 : decode jdk_65_method_123_code 6 = .ok (.aload_n 0, 1) := by decide +kernel
theorem d38_14 : decode jdk_65_method_123_code 14 = .ok (.iload_n 1, 1) := by decide +kernel
theorem d38_15 : decode jdk_65_method_123_code 15 = .ok (.newarray .int, 2) := by decide +kernel
theorem d38_17 : decode jdk_65_method_123_code 17 = .ok (.astore_n 2, 1) := by decide +kernel
theorem d38_18 : decode jdk_65_method_123_code 18 = .ok (.aload_n 0, 1) := by decide +kernel
theorem d38_19 : decode jdk_65_method_123_code 19 = .ok (.iconst 0, 1) := by decide +kernel
theorem d38_20 : decode jdk_65_method_123_code 20 = .ok (.aload_n 2, 1) := by decide +kernel
theorem d38_21 : decode jdk_65_method_123_code 21 = .ok (.iconst 0, 1) := by decide +kernel
theorem d38_22 : decode jdk_65_method_123_code 22 = .ok (.aload_n 0, 1) := by decide +kernel
theorem d38_23 : decode jdk_65_method_123_code 23 = .ok (.arraylength, 1) := by decide +kernel
theorem d38_24 : decode jdk_65_method_123_code 24 = .ok (.iload_n 1, 1) := by decide +kernel
theorem d38_25 : decode jdk_65_method_123_code 25 = .ok (.invokestatic 304, 3) := by decide +kernel
theorem d38_28 : decode jdk_65_method_123_code 28 = .ok (.invokestatic 150, 3) := by decide +kernel
theorem d38_31 : decode jdk_65_method_123_code 31 = .ok (.aload_n 2, 1) := by decide +kernel
theorem d38_32 : decode jdk_65_method_123_code 32 = .ok (.areturn, 1) := by decide +kernel
theorem d39_0 : decode jdk_29_method_69_code 0 = .ok (.iload_n 0, 1) := by decide +kernel
theorem d39_1 : decode jdk_29_method_69_code 1 = .ok (.iload_n 1, 1) := by decide +kernel
theorem d39_2 : decode jdk_29_method_69_code 2 = .ok (.if_icmp .gt 7, 3) := by decide +kernel
theorem d39_5 : decode jdk_29_method_69_code 5 = .ok (.iload_n 0, 1) := by decide +kernel
theorem d39_6 : decode jdk_29_method_69_code 6 = .ok (.goto 4, 3) := by decide +kernel
theorem d39_9 : decode jdk_29_method_69_code 9 = .ok (.iload_n 1, 1) := by decide +kernel
theorem d39_10 : decode jdk_29_method_69_code 10 = .ok (.ireturn, 1) := by decide +kernel
theorem pd_0 : parseMethodDescriptor "(IIIII)I" = some ⟨[.int, .int, .int, .int, .int], some .int⟩ := by decide +kernel
theorem pd_1 : parseMethodDescriptor "([III[I)V" = some ⟨[(.array .int), .int, .int, (.array .int)], none⟩ := by decide +kernel
theorem pd_2 : parseMethodDescriptor "(I)V" = some ⟨[.int], none⟩ := by decide +kernel
theorem pd_3 : parseMethodDescriptor "([II)V" = some ⟨[(.array .int), .int], none⟩ := by decide +kernel
theorem pd_4 : parseMethodDescriptor "([I)Lcom/example/predicat/predicat/kernel/Index;" = some ⟨[(.array .int)], some (.object "com/example/predicat/predicat/kernel/Index")⟩ := by decide +kernel
theorem pd_5 : parseMethodDescriptor "([I)I" = some ⟨[(.array .int)], some .int⟩ := by decide +kernel
theorem pd_6 : parseMethodDescriptor "(II)I" = some ⟨[.int, .int], some .int⟩ := by decide +kernel
theorem pd_7 : parseMethodDescriptor "(IZZZZZ)I" = some ⟨[.int, .boolean, .boolean, .boolean, .boolean, .boolean], some .int⟩ := by decide +kernel
theorem pd_8 : parseMethodDescriptor "()V" = some ⟨[], none⟩ := by decide +kernel
theorem pd_9 : parseMethodDescriptor "(ILcom/example/predicat/predicat/kernel/Index;)V" = some ⟨[.int, (.object "com/example/predicat/predicat/kernel/Index")], none⟩ := by decide +kernel
theorem pd_10 : parseMethodDescriptor "([II)[I" = some ⟨[(.array .int), .int], some (.array .int)⟩ := by decide +kernel
theorem pd_11 : parseMethodDescriptor "()I" = some ⟨[], some .int⟩ := by decide +kernel
theorem pd_12 : parseMethodDescriptor "(I)Ljava/lang/Object;" = some ⟨[.int], some (.object "java/lang/Object")⟩ := by decide +kernel
theorem pd_13 : parseMethodDescriptor "()Ljava/util/Iterator;" = some ⟨[], some (.object "java/util/Iterator")⟩ := by decide +kernel
theorem pd_14 : parseMethodDescriptor "()Z" = some ⟨[], some .boolean⟩ := by decide +kernel
theorem pd_15 : parseMethodDescriptor "(Lcom/example/predicat/predicat/kernel/Relation;[I)V" = some ⟨[(.object "com/example/predicat/predicat/kernel/Relation"), (.array .int)], none⟩ := by decide +kernel
theorem pd_16 : parseMethodDescriptor "(Ljava/lang/Object;)Z" = some ⟨[(.object "java/lang/Object")], some .boolean⟩ := by decide +kernel
theorem pd_17 : parseMethodDescriptor "(Ljava/util/ArrayList;)V" = some ⟨[(.object "java/util/ArrayList")], none⟩ := by decide +kernel
theorem pd_18 : parseMethodDescriptor "(I[I)V" = some ⟨[.int, (.array .int)], none⟩ := by decide +kernel
theorem pd_19 : parseMethodDescriptor "([II)I" = some ⟨[(.array .int), .int], some .int⟩ := by decide +kernel
theorem pd_20 : parseMethodDescriptor "([III)I" = some ⟨[(.array .int), .int, .int], some .int⟩ := by decide +kernel
theorem pd_21 : parseMethodDescriptor "(II[II)V" = some ⟨[.int, .int, (.array .int), .int], none⟩ := by decide +kernel
theorem pd_22 : parseMethodDescriptor "(Ljava/lang/Object;[Ljava/lang/Object;I)V" = some ⟨[(.object "java/lang/Object"), (.array (.object "java/lang/Object")), .int], none⟩ := by decide +kernel
theorem pd_23 : parseMethodDescriptor "()[Ljava/lang/Object;" = some ⟨[], some (.array (.object "java/lang/Object"))⟩ := by decide +kernel
theorem pd_24 : parseMethodDescriptor "(I)[Ljava/lang/Object;" = some ⟨[.int], some (.array (.object "java/lang/Object"))⟩ := by decide +kernel
theorem pd_25 : parseMethodDescriptor "(IILjava/util/function/BiFunction;)I" = some ⟨[.int, .int, (.object "java/util/function/BiFunction")], some .int⟩ := by decide +kernel
theorem pd_26 : parseMethodDescriptor "(I[II)Z" = some ⟨[.int, (.array .int), .int], some .boolean⟩ := by decide +kernel
def CT : Jvm.MV.Tab := [(.array .int, 1, []), (.array .byte, 1, []), (.array .long, 1, []), (.array .boolean, 1, []), (.array .char, 1, []), (.object "com/example/predicat/predicat/kernel/Relation", 11, [("com/example/predicat/predicat/kernel/Relation", "indexes", "Ljava/util/List;", (.object "java/util/List")), ("com/example/predicat/predicat/kernel/Relation", "fresh", "[Z", (.array .boolean)), ("com/example/predicat/predicat/kernel/Relation", "arity", "I", .int), ("com/example/predicat/predicat/kernel/Relation", "columns", "[I", (.array .int)), ("com/example/predicat/predicat/kernel/Relation", "everyColumn", "[I", (.array .int)), ("com/example/predicat/predicat/kernel/Relation", "size", "I", .int), ("com/example/predicat/predicat/kernel/Relation", "pairs", "Lcom/example/predicat/predicat/kernel/PairSet;", (.object "com/example/predicat/predicat/kernel/PairSet"))]), (.object "java/util/ArrayList", 3, [("java/util/AbstractList", "modCount", "I", .int), ("java/util/ArrayList", "elementData", "[Ljava/lang/Object;", (.array (.object "java/lang/Object"))), ("java/util/ArrayList", "size", "I", .int)]), (.object "java/util/ArrayList$Itr", 4, [("java/util/ArrayList$Itr", "this$0", "Ljava/util/ArrayList;", (.object "java/util/ArrayList")), ("java/util/ArrayList$Itr", "lastRet", "I", .int), ("java/util/ArrayList$Itr", "expectedModCount", "I", .int), ("java/util/ArrayList$Itr", "cursor", "I", .int)]), (.object "com/example/predicat/predicat/kernel/Index", 14, [("com/example/predicat/predicat/kernel/Index", "mask", "I", .int), ("com/example/predicat/predicat/kernel/Index", "limit", "I", .int), ("com/example/predicat/predicat/kernel/Index", "firstTuples", "[I", (.array .int)), ("com/example/predicat/predicat/kernel/Index", "counts", "[I", (.array .int)), ("com/example/predicat/predicat/kernel/Index", "tuples", "[[I", (.array (.array .int))), ("com/example/predicat/predicat/kernel/Index", "hashes", "[I", (.array .int)), ("com/example/predicat/predicat/kernel/Index", "relation", "Lcom/example/predicat/predicat/kernel/Relation;", (.object "com/example/predicat/predicat/kernel/Relation")), ("com/example/predicat/predicat/kernel/Index", "columns", "[I", (.array .int)), ("com/example/predicat/predicat/kernel/Index", "scratch", "[I", (.array .int)), ("com/example/predicat/predicat/kernel/Index", "stride", "I", .int), ("com/example/predicat/predicat/kernel/Index", "slots", "[I", (.array .int)), ("com/example/predicat/predicat/kernel/Index", "unique", "Z", .boolean), ("com/example/predicat/predicat/kernel/Index", "keys", "I", .int)]), (.array (.array .int), 1, []), (.array (.object "java/lang/Object"), 1, []), (.array (.object "java/lang/Object"), 0, [])]
abbrev M0 : Jvm.MV.MI := (x, code, maxLocals, ret, 6, 120)
abbrev M1 : Jvm.MV.MI := ((⟨"com/example/predicat/predicat/kernel/IndexTuplePinLaw", "pick", "(IIIII)I"⟩ : MethodName), method_3_code, 6, some .int, 0, 0)
abbrev M2 : Jvm.MV.MI := ((⟨"com/example/predicat/predicat/kernel/IndexTuplePinLaw", "put", "([III[I)V"⟩ : MethodName), method_4_code, 5, none, 0, 0)
abbrev M3 : Jvm.MV.MI := ((⟨"com/example/predicat/predicat/kernel/Relation", "<init>", "(I)V"⟩ : MethodName), prog_55_method_1_code, 3, none, 4, 50)
abbrev M4 : Jvm.MV.MI := ((⟨"java/util/ArrayList", "<init>", "()V"⟩ : MethodName), jdk_38_method_2_code, 1, none, 3, 36)
abbrev M5 : Jvm.MV.MI := ((⟨"java/util/AbstractList", "<init>", "()V"⟩ : MethodName), jdk_39_method_1_code, 1, none, 2, 24)
abbrev M6 : Jvm.MV.MI := ((⟨"java/util/AbstractCollection", "<init>", "()V"⟩ : MethodName), jdk_22_method_1_code, 1, none, 1, 12)
abbrev M7 : Jvm.MV.MI := ((⟨"java/lang/Math", "max", "(II)I"⟩ : MethodName), jdk_29_method_65_code, 2, some .int, 0, 0)
abbrev M8 : Jvm.MV.MI := ((⟨"com/example/predicat/predicat/kernel/Relation", "addNew", "([II)V"⟩ : MethodName), prog_55_method_7_code, 5, none, 5, 104)
abbrev M9 : Jvm.MV.MI := ((⟨"com/example/predicat/predicat/kernel/Relation", "makeRoom", "(I)V"⟩ : MethodName), prog_55_method_9_code, 3, none, 2, 55)
abbrev M10 : Jvm.MV.MI := ((⟨"com/example/predicat/predicat/kernel/Relation", "fileInIndexes", "(ILcom/example/predicat/predicat/kernel/Index;)V"⟩ : MethodName), prog_55_method_10_code, 6, none, 4, 87)
abbrev M11 : Jvm.MV.MI := ((⟨"java/util/ArrayList", "size", "()I"⟩ : MethodName), jdk_38_method_8_code, 1, some .int, 0, 0)
abbrev M12 : Jvm.MV.MI := ((⟨"com/example/predicat/predicat/kernel/Relation", "index", "([I)Lcom/example/predicat/predicat/kernel/Index;"⟩ : MethodName), prog_55_method_12_code, 4, some (.object "com/example/predicat/predicat/kernel/Index"), 5, 89)
abbrev M13 : Jvm.MV.MI := ((⟨"java/util/ArrayList", "iterator", "()Ljava/util/Iterator;"⟩ : MethodName), jdk_38_method_55_code, 1, some (.object "java/util/Iterator"), 2, 26)
abbrev M14 : Jvm.MV.MI := ((⟨"java/util/ArrayList$Itr", "<init>", "(Ljava/util/ArrayList;)V"⟩ : MethodName), jdk_49_method_1_code, 2, none, 1, 12)
abbrev M15 : Jvm.MV.MI := ((⟨"java/util/ArrayList$Itr", "hasNext", "()Z"⟩ : MethodName), jdk_49_method_2_code, 1, some .boolean, 0, 0)
abbrev M16 : Jvm.MV.MI := ((⟨"com/example/predicat/predicat/kernel/Index", "<init>", "(Lcom/example/predicat/predicat/kernel/Relation;[I)V"⟩ : MethodName), prog_13_method_1_code, 9, none, 1, 41)
abbrev M17 : Jvm.MV.MI := ((⟨"com/example/predicat/predicat/kernel/Relation", "arity", "()I"⟩ : MethodName), prog_55_method_2_code, 1, some .int, 0, 0)
abbrev M18 : Jvm.MV.MI := ((⟨"com/example/predicat/predicat/kernel/Index", "fill", "(I)V"⟩ : MethodName), prog_13_method_4_code, 6, none, 3, 72)
abbrev M19 : Jvm.MV.MI := ((⟨"java/util/ArrayList", "add", "(Ljava/lang/Object;)Z"⟩ : MethodName), jdk_38_method_25_code, 2, some .boolean, 4, 56)
abbrev M20 : Jvm.MV.MI := ((⟨"java/util/ArrayList", "add", "(Ljava/lang/Object;[Ljava/lang/Object;I)V"⟩ : MethodName), jdk_38_method_24_code, 4, none, 3, 41)
abbrev M21 : Jvm.MV.MI := ((⟨"java/util/ArrayList", "grow", "()[Ljava/lang/Object;"⟩ : MethodName), jdk_38_method_7_code, 1, some (.array (.object "java/lang/Object")), 2, 29)
abbrev M22 : Jvm.MV.MI := ((⟨"java/util/ArrayList", "grow", "(I)[Ljava/lang/Object;"⟩ : MethodName), jdk_38_method_6_code, 4, some (.array (.object "java/lang/Object")), 1, 14)
abbrev M23 : Jvm.MV.MI := ((⟨"java/util/ArrayList", "get", "(I)Ljava/lang/Object;"⟩ : MethodName), jdk_38_method_20_code, 2, some (.object "java/lang/Object"), 2, 27)
abbrev M24 : Jvm.MV.MI := ((⟨"java/util/Objects", "checkIndex", "(II)I"⟩ : MethodName), jdk_31_method_17_code, 2, some .int, 1, 14)
abbrev M25 : Jvm.MV.MI := ((⟨"jdk/internal/util/Preconditions", "checkIndex", "(IILjava/util/function/BiFunction;)I"⟩ : MethodName), jdk_41_method_11_code, 3, some .int, 0, 0)
abbrev M26 : Jvm.MV.MI := ((⟨"java/util/ArrayList", "elementData", "(I)Ljava/lang/Object;"⟩ : MethodName), jdk_38_method_18_code, 2, some (.object "java/lang/Object"), 0, 0)
abbrev M27 : Jvm.MV.MI := ((⟨"com/example/predicat/predicat/kernel/Index", "add", "(I)V"⟩ : MethodName), prog_13_method_3_code, 4, none, 3, 72)
abbrev M28 : Jvm.MV.MI := ((⟨"com/example/predicat/predicat/kernel/Index", "keyOf", "(I[I)V"⟩ : MethodName), prog_13_method_18_code, 4, none, 1, 16)
abbrev M29 : Jvm.MV.MI := ((⟨"com/example/predicat/predicat/kernel/Relation", "get", "(II)I"⟩ : MethodName), prog_55_method_4_code, 3, some .int, 0, 0)
abbrev M30 : Jvm.MV.MI := ((⟨"com/example/predicat/predicat/kernel/Index", "hash", "([II)I"⟩ : MethodName), prog_13_method_9_code, 3, some .int, 1, 16)
abbrev M31 : Jvm.MV.MI := ((⟨"com/example/predicat/predicat/kernel/Index", "hash", "([III)I"⟩ : MethodName), prog_13_method_20_code, 5, some .int, 0, 0)
abbrev M32 : Jvm.MV.MI := ((⟨"com/example/predicat/predicat/kernel/Index", "slotOf", "([III)I"⟩ : MethodName), prog_13_method_14_code, 6, some .int, 1, 16)
abbrev M33 : Jvm.MV.MI := ((⟨"com/example/predicat/predicat/kernel/Index", "addKey", "(II[II)V"⟩ : MethodName), prog_13_method_16_code, 6, none, 2, 55)
abbrev M34 : Jvm.MV.MI := ((⟨"com/example/predicat/predicat/kernel/Index", "holds", "(I[II)Z"⟩ : MethodName), prog_13_method_15_code, 5, some .boolean, 0, 0)
abbrev M35 : Jvm.MV.MI := ((⟨"com/example/predicat/predicat/kernel/Index", "find", "([I)I"⟩ : MethodName), prog_13_method_8_code, 2, some .int, 2, 34)
abbrev M36 : Jvm.MV.MI := ((⟨"com/example/predicat/predicat/kernel/Index", "tuple", "(II)I"⟩ : MethodName), prog_13_method_12_code, 4, some .int, 0, 0)
abbrev M37 : Jvm.MV.MI := ((⟨"com/example/predicat/predicat/kernel/IndexTuplePinLaw", "nth", "(IZZZZZ)I"⟩ : MethodName), method_5_code, 7, some .int, 0, 0)
abbrev M38 : Jvm.MV.MI := ((⟨"java/util/Arrays", "copyOf", "([II)[I"⟩ : MethodName), jdk_65_method_123_code, 3, some (.array .int), 1, 40)
abbrev M39 : Jvm.MV.MI := ((⟨"java/lang/Math", "min", "(II)I"⟩ : MethodName), jdk_29_method_69_code, 2, some .int, 0, 0)
def MT : List Jvm.MV.MI := [M0, M1, M2, M3, M4, M5, M6, M7, M8, M9, M10, M11, M12, M13, M14, M15, M16, M17, M18, M19, M20, M21, M22, M23, M24, M25, M26, M27, M28, M29, M30, M31, M32, M33, M34, M35, M36, M37, M38, M39]
def c0 : List (Nat × Jvm.MV.MOp) := [(0, lift (pIld 3 1)),
  (1, lift (pInt (0) 2)),
  (2, lift (pIld 0 3)),
  (3, lift (pIld 1 4)),
  (4, lift (pIld 2 5)),
  (5, oCall 1 5 0 8),
  (8, lift (pIst 6 10)),
  (10, lift (pIld 3 11)),
  (11, lift (pInt (2) 12)),
  (12, lift (pIld 0 13)),
  (13, lift (pIld 1 14)),
  (14, lift (pIld 2 15)),
  (15, oCall 1 5 0 18),
  (18, lift (pIst 7 20)),
  (20, lift (pIld 3 21)),
  (21, lift (pInt (4) 22)),
  (22, lift (pIld 0 23)),
  (23, lift (pIld 1 24)),
  (24, lift (pIld 2 25)),
  (25, oCall 1 5 0 28),
  (28, lift (pIst 8 30)),
  (30, lift (pIld 3 31)),
  (31, lift (pInt (6) 33)),
  (33, lift (pIld 0 34)),
  (34, lift (pIld 1 35)),
  (35, lift (pIld 2 36)),
  (36, oCall 1 5 0 39),
  (39, lift (pIst 9 41)),
  (41, lift (pIld 3 42)),
  (42, lift (pInt (8) 44)),
  (44, lift (pIld 0 45)),
  (45, lift (pIld 1 46)),
  (46, lift (pIld 2 47)),
  (47, oCall 1 5 0 50),
  (50, lift (pIst 10 52)),
  (52, lift (pIld 3 53)),
  (53, lift (pInt (10) 55)),
  (55, lift (pBin XT.ushr 56)),
  (56, lift (pInt (1) 57)),
  (57, lift (pBin (· &&& ·) 58)),
  (58, lift (pIf .eq 65 61)),
  (61, lift (pInt (1) 62)),
  (62, lift (pGoto 66)),
  (65, lift (pInt (0) 66)),
  (66, lift (pIst 11 68)),
  (68, lift (pIld 3 69)),
  (69, lift (pInt (12) 71)),
  (71, lift (pBin XT.ushr 72)),
  (72, lift (pInt (7) 74)),
  (74, lift (pBin (· &&& ·) 75)),
  (75, lift (pInt (6) 77)),
  (77, lift (pRem 78)),
  (78, lift (pIst 12 80)),
  (80, lift (pInt (5) 81)),
  (81, oNewA 0 (.int 0) 83),
  (83, lift (pDup 84)),
  (84, lift (pInt (0) 85)),
  (85, lift (pIld 6 87)),
  (87, oASt 2 0 .int 88),
  (88, lift (pDup 89)),
  (89, lift (pInt (1) 90)),
  (90, lift (pIld 7 92)),
  (92, oASt 2 0 .int 93),
  (93, lift (pDup 94)),
  (94, lift (pInt (2) 95)),
  (95, lift (pIld 8 97)),
  (97, oASt 2 0 .int 98),
  (98, lift (pDup 99)),
  (99, lift (pInt (3) 100)),
  (100, lift (pIld 9 102)),
  (102, oASt 2 0 .int 103),
  (103, lift (pDup 104)),
  (104, lift (pInt (4) 105)),
  (105, lift (pIld 10 107)),
  (107, oASt 2 0 .int 108),
  (108, lift (pAst 13 110)),
  (110, lift (pInt (10) 112)),
  (112, oNewA 0 (.int 0) 114),
  (114, lift (pDup 115)),
  (115, lift (pInt (0) 116)),
  (116, lift (pIld 6 118)),
  (118, oASt 2 0 .int 119),
  (119, lift (pDup 120)),
  (120, lift (pInt (1) 121)),
  (121, lift (pInt (0) 122)),
  (122, oASt 2 0 .int 123),
  (123, lift (pDup 124)),
  (124, lift (pInt (2) 125)),
  (125, lift (pIld 7 127)),
  (127, oASt 2 0 .int 128),
  (128, lift (pDup 129)),
  (129, lift (pInt (3) 130)),
  (130, lift (pInt (1) 131)),
  (131, oASt 2 0 .int 132),
  (132, lift (pDup 133)),
  (133, lift (pInt (4) 134)),
  (134, lift (pIld 8 136)),
  (136, oASt 2 0 .int 137),
  (137, lift (pDup 138)),
  (138, lift (pInt (5) 139)),
  (139, lift (pInt (2) 140)),
  (140, oASt 2 0 .int 141),
  (141, lift (pDup 142)),
  (142, lift (pInt (6) 144)),
  (144, lift (pIld 9 146)),
  (146, oASt 2 0 .int 147),
  (147, lift (pDup 148)),
  (148, lift (pInt (7) 150)),
  (150, lift (pInt (3) 151)),
  (151, oASt 2 0 .int 152),
  (152, lift (pDup 153)),
  (153, lift (pInt (8) 155)),
  (155, lift (pIld 10 157)),
  (157, oASt 2 0 .int 158),
  (158, lift (pDup 159)),
  (159, lift (pInt (9) 161)),
  (161, lift (pInt (4) 162)),
  (162, oASt 2 0 .int 163),
  (163, lift (pAst 14 165)),
  (165, lift (pInt (10) 167)),
  (167, oNewA 0 (.int 0) 169),
  (169, lift (pAst 15 171)),
  (171, lift (pAld 15 173)),
  (173, lift (pInt (0) 174)),
  (174, lift (pIld 12 176)),
  (176, lift (pAld 13 178)),
  (178, oCall 2 4 0 181),
  (181, lift (pAld 15 183)),
  (183, lift (pInt (1) 184)),
  (184, lift (pIld 12 186)),
  (186, lift (pAld 13 188)),
  (188, oCall 2 4 0 191),
  (191, lift (pAld 15 193)),
  (193, lift (pInt (2) 194)),
  (194, lift (pIld 12 196)),
  (196, lift (pAld 13 198)),
  (198, oCall 2 4 0 201),
  (201, lift (pAld 15 203)),
  (203, lift (pInt (3) 204)),
  (204, lift (pIld 12 206)),
  (206, lift (pAld 13 208)),
  (208, oCall 2 4 0 211),
  (211, lift (pAld 15 213)),
  (213, lift (pInt (4) 214)),
  (214, lift (pIld 12 216)),
  (216, lift (pAld 13 218)),
  (218, oCall 2 4 0 221),
  (221, lift (pIld 4 223)),
  (223, lift (pInt (2147483647) 225)),
  (225, lift (pBin (· &&& ·) 226)),
  (226, lift (pInt (5) 227)),
  (227, lift (pRem 228)),
  (228, lift (pIst 16 230)),
  (230, lift (pIld 11 232)),
  (232, lift (pIf .eq 249 235)),
  (235, lift (pInt (2) 236)),
  (236, oNewA 0 (.int 0) 238),
  (238, lift (pDup 239)),
  (239, lift (pInt (0) 240)),
  (240, lift (pInt (0) 241)),
  (241, oASt 2 0 .int 242),
  (242, lift (pDup 243)),
  (243, lift (pInt (1) 244)),
  (244, lift (pInt (1) 245)),
  (245, oASt 2 0 .int 246),
  (246, lift (pGoto 256)),
  (249, lift (pInt (1) 250)),
  (250, oNewA 0 (.int 0) 252),
  (252, lift (pDup 253)),
  (253, lift (pInt (0) 254)),
  (254, lift (pInt (0) 255)),
  (255, oASt 2 0 .int 256),
  (256, lift (pAst 17 258)),
  (258, lift (pIld 11 260)),
  (260, lift (pIf .eq 282 263)),
  (263, lift (pInt (2) 264)),
  (264, oNewA 0 (.int 0) 266),
  (266, lift (pDup 267)),
  (267, lift (pInt (0) 268)),
  (268, lift (pAld 13 270)),
  (270, lift (pIld 16 272)),
  (272, oALd 0 273),
  (273, oASt 2 0 .int 274),
  (274, lift (pDup 275)),
  (275, lift (pInt (1) 276)),
  (276, lift (pIld 16 278)),
  (278, oASt 2 0 .int 279),
  (279, lift (pGoto 293)),
  (282, lift (pInt (1) 283)),
  (283, oNewA 0 (.int 0) 285),
  (285, lift (pDup 286)),
  (286, lift (pInt (0) 287)),
  (287, lift (pAld 13 289)),
  (289, lift (pIld 16 291)),
  (291, oALd 0 292),
  (292, oASt 2 0 .int 293),
  (293, lift (pAst 18 295)),
  (295, oNew 5 [.null, .null, .int 0, .null, .null, .int 0, .null] 298),
  (298, lift (pDup 299)),
  (299, lift (pInt (2) 300)),
  (300, oCallR 5 3 1 1 303),
  (303, lift (pAst 19 305)),
  (305, lift (pAld 19 307)),
  (307, lift (pAld 14 309)),
  (309, lift (pIld 12 311)),
  (311, oCallR 5 8 2 0 314),
  (314, lift (pAld 19 316)),
  (316, lift (pAld 17 318)),
  (318, oCallR 5 12 1 0 321),
  (321, lift (pAst 20 323)),
  (323, lift (pAld 19 325)),
  (325, lift (pAld 15 327)),
  (327, lift (pInt (5) 328)),
  (328, lift (pIld 12 330)),
  (330, lift (pBin (· - ·) 331)),
  (331, oCallR 5 8 2 0 334),
  (334, lift (pAld 20 336)),
  (336, lift (pAld 18 338)),
  (338, oCallR 8 35 1 0 341),
  (341, lift (pIst 21 343)),
  (343, lift (pIld 21 345)),
  (345, lift (pIf .ge 350 348)),
  (348, lift (pInt (0) 349)),
  (349, oRetI .boolean),
  (350, lift (pIld 11 352)),
  (352, lift (pIf .eq 374 355)),
  (355, lift (pAld 20 357)),
  (357, lift (pIld 21 359)),
  (359, lift (pInt (0) 360)),
  (360, oCallR 8 36 2 0 363),
  (363, lift (pIld 16 365)),
  (365, lift (pIcmp .ne 372 368)),
  (368, lift (pInt (1) 369)),
  (369, lift (pGoto 373)),
  (372, lift (pInt (0) 373)),
  (373, oRetI .boolean),
  (374, lift (pAld 13 376)),
  (376, lift (pIld 16 378)),
  (378, oALd 0 379),
  (379, lift (pIst 22 381)),
  (381, lift (pIld 6 383)),
  (383, lift (pIld 22 385)),
  (385, lift (pIcmp .ne 392 388)),
  (388, lift (pInt (1) 389)),
  (389, lift (pGoto 393)),
  (392, lift (pInt (0) 393)),
  (393, lift (pIst 23 395)),
  (395, lift (pIld 7 397)),
  (397, lift (pIld 22 399)),
  (399, lift (pIcmp .ne 406 402)),
  (402, lift (pInt (1) 403)),
  (403, lift (pGoto 407)),
  (406, lift (pInt (0) 407)),
  (407, lift (pIst 24 409)),
  (409, lift (pIld 8 411)),
  (411, lift (pIld 22 413)),
  (413, lift (pIcmp .ne 420 416)),
  (416, lift (pInt (1) 417)),
  (417, lift (pGoto 421)),
  (420, lift (pInt (0) 421)),
  (421, lift (pIst 25 423)),
  (423, lift (pIld 9 425)),
  (425, lift (pIld 22 427)),
  (427, lift (pIcmp .ne 434 430)),
  (430, lift (pInt (1) 431)),
  (431, lift (pGoto 435)),
  (434, lift (pInt (0) 435)),
  (435, lift (pIst 26 437)),
  (437, lift (pIld 10 439)),
  (439, lift (pIld 22 441)),
  (441, lift (pIcmp .ne 448 444)),
  (444, lift (pInt (1) 445)),
  (445, lift (pGoto 449)),
  (448, lift (pInt (0) 449)),
  (449, lift (pIst 27 451)),
  (451, lift (pIld 23 453)),
  (453, lift (pIf .eq 460 456)),
  (456, lift (pInt (1) 457)),
  (457, lift (pGoto 461)),
  (460, lift (pInt (0) 461)),
  (461, lift (pIld 24 463)),
  (463, lift (pIf .eq 470 466)),
  (466, lift (pInt (1) 467)),
  (467, lift (pGoto 471)),
  (470, lift (pInt (0) 471)),
  (471, lift (pBin (· + ·) 472)),
  (472, lift (pIld 25 474)),
  (474, lift (pIf .eq 481 477)),
  (477, lift (pInt (1) 478)),
  (478, lift (pGoto 482)),
  (481, lift (pInt (0) 482)),
  (482, lift (pBin (· + ·) 483)),
  (483, lift (pIld 26 485)),
  (485, lift (pIf .eq 492 488)),
  (488, lift (pInt (1) 489)),
  (489, lift (pGoto 493)),
  (492, lift (pInt (0) 493)),
  (493, lift (pBin (· + ·) 494)),
  (494, lift (pIld 27 496)),
  (496, lift (pIf .eq 503 499)),
  (499, lift (pInt (1) 500)),
  (500, lift (pGoto 504)),
  (503, lift (pInt (0) 504)),
  (504, lift (pBin (· + ·) 505)),
  (505, lift (pIst 28 507)),
  (507, lift (pIld 5 509)),
  (509, lift (pInt (2147483647) 511)),
  (511, lift (pBin (· &&& ·) 512)),
  (512, lift (pIld 28 514)),
  (514, lift (pRem 515)),
  (515, lift (pIst 29 517)),
  (517, lift (pAld 20 519)),
  (519, lift (pIld 21 521)),
  (521, lift (pIld 29 523)),
  (523, oCallR 8 36 2 0 526),
  (526, lift (pIld 29 528)),
  (528, lift (pIld 23 530)),
  (530, lift (pIld 24 532)),
  (532, lift (pIld 25 534)),
  (534, lift (pIld 26 536)),
  (536, lift (pIld 27 538)),
  (538, oCall 37 6 1 541),
  (541, lift (pIcmp .ne 548 544)),
  (544, lift (pInt (1) 545)),
  (545, lift (pGoto 549)),
  (548, lift (pInt (0) 549)),
  (549, oRetI .boolean)]
def c1 : List (Nat × Jvm.MV.MOp) := [(0, lift (pIld 0 1)),
  (1, lift (pIld 1 2)),
  (2, lift (pBin XT.ushr 3)),
  (3, lift (pInt (3) 4)),
  (4, lift (pBin (· &&& ·) 5)),
  (5, lift (pIst 5 7)),
  (7, lift (pIld 5 9)),
  (9, lift (pInt (1) 10)),
  (10, lift (pIcmp .ne 15 13)),
  (13, lift (pIld 3 14)),
  (14, oRetI .int),
  (15, lift (pIld 5 17)),
  (17, lift (pInt (2) 18)),
  (18, lift (pIcmp .ne 24 21)),
  (21, lift (pIld 4 23)),
  (23, oRetI .int),
  (24, lift (pIld 2 25)),
  (25, oRetI .int)]
def c2 : List (Nat × Jvm.MV.MOp) := [(0, lift (pIld 2 1)),
  (1, lift (pIld 1 2)),
  (2, lift (pBin (· + ·) 3)),
  (3, lift (pIst 4 5)),
  (5, lift (pIld 4 7)),
  (7, lift (pInt (5) 8)),
  (8, lift (pIcmp .ge 29 11)),
  (11, lift (pAld 0 12)),
  (12, lift (pInt (2) 13)),
  (13, lift (pIld 1 14)),
  (14, lift (pBin (· * ·) 15)),
  (15, lift (pAld 3 16)),
  (16, lift (pIld 4 18)),
  (18, oALd 0 19),
  (19, oASt 2 0 .int 20),
  (20, lift (pAld 0 21)),
  (21, lift (pInt (2) 22)),
  (22, lift (pIld 1 23)),
  (23, lift (pBin (· * ·) 24)),
  (24, lift (pInt (1) 25)),
  (25, lift (pBin (· + ·) 26)),
  (26, lift (pIld 4 28)),
  (28, oASt 2 0 .int 29),
  (29, oRet)]
def c3 : List (Nat × Jvm.MV.MOp) := [(0, lift (pAld 0 1)),
  (1, oInit0 0 4),
  (4, lift (pAld 0 5)),
  (5, oNew 6 [.int 0, .null, .int 0] 8),
  (8, lift (pDup 9)),
  (9, oCallR 6 4 0 2 12),
  (12, oPutF 2 5 0 (.object "java/util/List") 15),
  (15, lift (pAld 0 16)),
  (16, lift (pInt (0) 17)),
  (17, oNewA 3 (.int 0) 19),
  (19, oPutF 2 5 1 (.array .boolean) 22),
  (22, lift (pAld 0 23)),
  (23, lift (pIld 1 24)),
  (24, oPutF 2 5 2 .int 27),
  (27, lift (pAld 0 28)),
  (28, lift (pInt (16) 30)),
  (30, lift (pIld 1 31)),
  (31, lift (pInt (16) 33)),
  (33, lift (pBin (· * ·) 34)),
  (34, oCall 7 2 1 37),
  (37, oNewA 0 (.int 0) 39),
  (39, oPutF 2 5 3 (.array .int) 42),
  (42, lift (pAld 0 43)),
  (43, lift (pIld 1 44)),
  (44, oNewA 0 (.int 0) 46),
  (46, oPutF 2 5 4 (.array .int) 49),
  (49, lift (pInt (0) 50)),
  (50, lift (pIst 2 51)),
  (51, lift (pIld 2 52)),
  (52, lift (pIld 1 53)),
  (53, lift (pIcmp .ge 69 56)),
  (56, lift (pAld 0 57)),
  (57, oGetF 5 4 60),
  (60, lift (pIld 2 61)),
  (61, lift (pIld 2 62)),
  (62, oASt 2 0 .int 63),
  (63, lift (pInc 2 (1) 66)),
  (66, lift (pGoto 51)),
  (69, oRet)]
def c4 : List (Nat × Jvm.MV.MOp) := [(0, lift (pAld 0 1)),
  (1, oCallR 6 5 0 0 4),
  (4, lift (pAld 0 5)),
  (5, oGetS (.ref 1) 8),
  (8, oPutF 2 6 1 (.array (.object "java/lang/Object")) 11),
  (11, oRet)]
def c5 : List (Nat × Jvm.MV.MOp) := [(0, lift (pAld 0 1)),
  (1, oCallR 6 6 0 0 4),
  (4, lift (pAld 0 5)),
  (5, lift (pInt (0) 6)),
  (6, oPutF 2 6 0 .int 9),
  (9, oRet)]
def c6 : List (Nat × Jvm.MV.MOp) := [(0, lift (pAld 0 1)),
  (1, oInit0 0 4),
  (4, oRet)]
def c7 : List (Nat × Jvm.MV.MOp) := [(0, lift (pIld 0 1)),
  (1, lift (pIld 1 2)),
  (2, lift (pIcmp .lt 9 5)),
  (5, lift (pIld 0 6)),
  (6, lift (pGoto 10)),
  (9, lift (pIld 1 10)),
  (10, oRetI .int)]
def c8 : List (Nat × Jvm.MV.MOp) := [(0, lift (pAld 0 1)),
  (1, lift (pIld 2 2)),
  (2, oCallR 5 9 1 0 5),
  (5, lift (pAld 0 6)),
  (6, oGetF 5 5 9),
  (9, lift (pIst 3 10)),
  (10, lift (pAld 1 11)),
  (11, lift (pInt (0) 12)),
  (12, lift (pAld 0 13)),
  (13, oGetF 5 3 16),
  (16, lift (pIld 3 17)),
  (17, lift (pAld 0 18)),
  (18, oGetF 5 2 21),
  (21, lift (pBin (· * ·) 22)),
  (22, lift (pIld 2 23)),
  (23, lift (pAld 0 24)),
  (24, oGetF 5 2 27),
  (27, lift (pBin (· * ·) 28)),
  (28, oCopy 2 0 .int 0 31),
  (31, lift (pAld 0 32)),
  (32, lift (pDup 33)),
  (33, oGetF 5 5 36),
  (36, lift (pIld 2 37)),
  (37, lift (pBin (· + ·) 38)),
  (38, oPutF 2 5 5 .int 41),
  (41, lift (pAld 0 42)),
  (42, oGetF 5 6 45),
  (45, lift (pNullYes 88 48)),
  (48, lift (pIld 3 49)),
  (49, lift (pIst 4 51)),
  (51, lift (pIld 4 53)),
  (53, lift (pAld 0 54)),
  (54, oGetF 5 5 57),
  (57, lift (pIcmp .ge 88 60)),
  (60, lift (pAld 0 61)),
  (61, oGetF 5 6 64),
  (64, lift (pAld 0 65)),
  (65, lift (pIld 4 67)),
  (67, lift (pInt (0) 68)),
  (68, oCallR 5 29 2 1 71),
  (71, lift (pAld 0 72)),
  (72, lift (pIld 4 74)),
  (74, lift (pInt (1) 75)),
  (75, oCallR 5 29 2 2 78),
  (88, lift (pAld 0 89)),
  (89, lift (pIld 3 90)),
  (90, lift (pNull 91)),
  (91, oCallR 5 10 2 0 94),
  (94, oRet)]
def c9 : List (Nat × Jvm.MV.MOp) := [(0, lift (pAld 0 1)),
  (1, oGetF 5 5 4),
  (4, lift (pIld 1 5)),
  (5, lift (pBin (· + ·) 6)),
  (6, lift (pAld 0 7)),
  (7, oGetF 5 2 10),
  (10, lift (pBin (· * ·) 11)),
  (11, lift (pIst 2 12)),
  (12, lift (pIld 2 13)),
  (13, lift (pAld 0 14)),
  (14, oGetF 5 3 17),
  (17, oALen 0 18),
  (18, lift (pIcmp .le 43 21)),
  (21, lift (pAld 0 22)),
  (22, lift (pAld 0 23)),
  (23, oGetF 5 3 26),
  (26, lift (pAld 0 27)),
  (27, oGetF 5 3 30),
  (30, oALen 0 31),
  (31, lift (pInt (2) 32)),
  (32, lift (pBin (· * ·) 33)),
  (33, lift (pIld 2 34)),
  (34, oCall 7 2 2 37),
  (37, oCall 38 2 1 40),
  (40, oPutF 2 5 3 (.array .int) 43),
  (43, oRet)]
def c10 : List (Nat × Jvm.MV.MOp) := [(0, lift (pInt (0) 1)),
  (1, lift (pIst 3 2)),
  (2, lift (pIld 3 3)),
  (3, lift (pAld 0 4)),
  (4, oGetF 5 0 7),
  (7, oCallR 6 11 0 1 12),
  (12, lift (pIcmp .ge 67 15)),
  (15, lift (pAld 0 16)),
  (16, oGetF 5 0 19),
  (19, lift (pIld 3 20)),
  (20, oCallR 6 23 1 0 25),
  (25, oCast 8 28),
  (28, lift (pAst 4 30)),
  (30, lift (pIld 1 31)),
  (31, lift (pIst 5 33)),
  (33, lift (pAld 4 35)),
  (35, lift (pAld 2 36)),
  (36, lift (pAcmp 2 61 39)),
  (39, lift (pIld 5 41)),
  (41, lift (pAld 0 42)),
  (42, oGetF 5 5 45),
  (45, lift (pIcmp .ge 61 48)),
  (48, lift (pAld 4 50)),
  (50, lift (pIld 5 52)),
  (52, oCallR 8 27 1 0 55),
  (55, lift (pInc 5 (1) 58)),
  (58, lift (pGoto 33)),
  (61, lift (pInc 3 (1) 64)),
  (64, lift (pGoto 2)),
  (67, oRet)]
def c11 : List (Nat × Jvm.MV.MOp) := [(0, lift (pAld 0 1)),
  (1, oGetF 6 2 4),
  (4, oRetI .int)]
def c12 : List (Nat × Jvm.MV.MOp) := [(0, lift (pAld 0 1)),
  (1, oGetF 5 0 4),
  (4, oCallR 6 13 0 0 9),
  (9, lift (pAst 2 10)),
  (10, lift (pAld 2 11)),
  (11, oCallR 7 15 0 0 16),
  (16, lift (pIf .eq 42 19)),
  (19, lift (pAld 2 20)),
  (42, oNew 8 [.int 0, .int 0, .null, .null, .null, .null, .null, .null, .null, .int 0, .null, .int 0, .int 0] 45),
  (45, lift (pDup 46)),
  (46, lift (pAld 0 47)),
  (47, lift (pAld 1 48)),
  (48, oCallR 8 16 2 1 51),
  (51, lift (pAst 2 52)),
  (52, lift (pAld 2 53)),
  (53, lift (pAld 0 54)),
  (54, oGetF 5 5 57),
  (57, oCallR 8 18 1 0 60),
  (60, lift (pAld 0 61)),
  (61, oGetF 5 0 64),
  (64, lift (pAld 2 65)),
  (65, oCallR 6 19 1 0 70),
  (70, lift (pPop 71)),
  (71, lift (pAld 2 72)),
  (72, oRetA)]
def c13 : List (Nat × Jvm.MV.MOp) := [(0, oNew 7 [.null, .int 0, .int 0, .int 0] 3),
  (3, lift (pDup 4)),
  (4, lift (pAld 0 5)),
  (5, oCallR 7 14 1 1 8),
  (8, oRetA)]
def c14 : List (Nat × Jvm.MV.MOp) := [(0, lift (pAld 0 1)),
  (1, lift (pAld 1 2)),
  (2, oPutF 2 7 0 (.object "java/util/ArrayList") 5),
  (5, lift (pAld 0 6)),
  (6, oInit0 0 9),
  (9, lift (pAld 0 10)),
  (10, lift (pInt (-1) 11)),
  (11, oPutF 2 7 1 .int 14),
  (14, lift (pAld 0 15)),
  (15, lift (pAld 0 16)),
  (16, oGetF 7 0 19),
  (19, oGetF 6 0 22),
  (22, oPutF 2 7 2 .int 25),
  (25, oRet)]
def c15 : List (Nat × Jvm.MV.MOp) := [(0, lift (pAld 0 1)),
  (1, oGetF 7 3 4),
  (4, lift (pAld 0 5)),
  (5, oGetF 7 0 8),
  (8, oGetF 6 2 11),
  (11, lift (pIcmp .eq 18 14)),
  (14, lift (pInt (1) 15)),
  (15, lift (pGoto 19)),
  (18, lift (pInt (0) 19)),
  (19, oRetI .boolean)]
def c16 : List (Nat × Jvm.MV.MOp) := [(0, lift (pAld 0 1)),
  (1, oInit0 0 4),
  (4, lift (pAld 0 5)),
  (5, lift (pInt (15) 7)),
  (7, oPutF 2 8 0 .int 10),
  (10, lift (pAld 0 11)),
  (11, lift (pInt (12) 13)),
  (13, oPutF 2 8 1 .int 16),
  (16, lift (pAld 0 17)),
  (17, lift (pInt (8) 19)),
  (19, oNewA 0 (.int 0) 21),
  (21, oPutF 2 8 2 (.array .int) 24),
  (24, lift (pAld 0 25)),
  (25, lift (pInt (8) 27)),
  (27, oNewA 0 (.int 0) 29),
  (29, oPutF 2 8 3 (.array .int) 32),
  (32, lift (pAld 0 33)),
  (33, lift (pInt (8) 35)),
  (35, oNewA 9 .null 38),
  (38, oPutF 2 8 4 (.array (.array .int)) 41),
  (41, lift (pAld 0 42)),
  (42, lift (pInt (0) 43)),
  (43, oNewA 0 (.int 0) 45),
  (45, oPutF 2 8 5 (.array .int) 48),
  (48, lift (pAld 0 49)),
  (49, lift (pAld 1 50)),
  (50, oPutF 2 8 6 (.object "com/example/predicat/predicat/kernel/Relation") 53),
  (53, lift (pAld 0 54)),
  (54, lift (pAld 2 55)),
  (55, oClone 0 .int 1 58),
  (58, oCast 0 61),
  (61, oPutF 2 8 7 (.array .int) 64),
  (64, lift (pAld 0 65)),
  (65, lift (pAld 2 66)),
  (66, oALen 0 67),
  (67, oNewA 0 (.int 0) 69),
  (69, oPutF 2 8 8 (.array .int) 72),
  (72, lift (pAld 0 73)),
  (73, lift (pAld 2 74)),
  (74, oALen 0 75),
  (75, lift (pInt (1) 76)),
  (76, lift (pBin (· + ·) 77)),
  (77, oPutF 2 8 9 .int 80),
  (80, lift (pAld 0 81)),
  (81, lift (pInt (16) 83)),
  (83, lift (pAld 0 84)),
  (84, oGetF 8 9 87),
  (87, lift (pBin (· * ·) 88)),
  (88, oNewA 0 (.int 0) 90),
  (90, oPutF 2 8 10 (.array .int) 93),
  (93, lift (pAld 1 94)),
  (94, oCallR 5 17 0 0 97),
  (97, oNewA 3 (.int 0) 99),
  (99, lift (pAst 3 100)),
  (100, lift (pInt (0) 101)),
  (101, lift (pIst 4 103)),
  (103, lift (pAld 2 104)),
  (104, lift (pAst 5 106)),
  (106, lift (pAld 5 108)),
  (108, oALen 0 109),
  (109, lift (pIst 6 111)),
  (111, lift (pInt (0) 112)),
  (112, lift (pIst 7 114)),
  (114, lift (pIld 7 116)),
  (116, lift (pIld 6 118)),
  (118, lift (pIcmp .ge 149 121)),
  (121, lift (pAld 5 123)),
  (123, lift (pIld 7 125)),
  (125, oALd 0 126),
  (126, lift (pIst 8 128)),
  (128, lift (pAld 3 129)),
  (129, lift (pIld 8 131)),
  (131, oALd 3 132),
  (132, lift (pIf .ne 143 135)),
  (135, lift (pAld 3 136)),
  (136, lift (pIld 8 138)),
  (138, lift (pInt (1) 139)),
  (139, oASt 2 3 .boolean 140),
  (140, lift (pInc 4 (1) 143)),
  (143, lift (pInc 7 (1) 146)),
  (146, lift (pGoto 114)),
  (149, lift (pAld 0 150)),
  (150, lift (pIld 4 152)),
  (152, lift (pAld 1 153)),
  (153, oCallR 5 17 0 2 156),
  (156, lift (pIcmp .ne 163 159)),
  (159, lift (pInt (1) 160)),
  (160, lift (pGoto 164)),
  (163, lift (pInt (0) 164)),
  (164, oPutF 2 8 11 .boolean 167),
  (167, oRet)]
def c17 : List (Nat × Jvm.MV.MOp) := [(0, lift (pAld 0 1)),
  (1, oGetF 5 2 4),
  (4, oRetI .int)]
def c18 : List (Nat × Jvm.MV.MOp) := [(0, lift (pIld 1 1)),
  (1, oNewA 0 (.int 0) 3),
  (3, lift (pAst 2 4)),
  (4, lift (pInt (0) 5)),
  (5, lift (pIst 3 6)),
  (6, lift (pIld 3 7)),
  (7, lift (pIld 1 8)),
  (8, lift (pIcmp .ge 99 11)),
  (11, lift (pAld 0 12)),
  (12, lift (pIld 3 13)),
  (13, lift (pAld 0 14)),
  (14, oGetF 8 8 17),
  (17, oCallR 8 28 2 0 20),
  (20, lift (pAld 0 21)),
  (21, lift (pAld 0 22)),
  (22, oGetF 8 8 25),
  (25, lift (pInt (0) 26)),
  (26, lift (pAld 0 27)),
  (27, lift (pAld 0 28)),
  (28, oGetF 8 8 31),
  (31, lift (pInt (0) 32)),
  (32, oCallR 8 30 2 3 35),
  (35, oCallR 8 32 3 0 38),
  (38, lift (pIst 4 40)),
  (40, lift (pAld 0 41)),
  (41, oGetF 8 10 44),
  (44, lift (pIld 4 46)),
  (46, oALd 0 47),
  (47, lift (pInt (1) 48)),
  (48, lift (pBin (· - ·) 49)),
  (49, lift (pIst 5 51)),
  (51, lift (pIld 5 53)),
  (53, lift (pIf .ge 77 56)),
  (56, lift (pAld 0 57)),
  (57, oGetF 8 12 60),
  (60, lift (pIst 5 62)),
  (62, lift (pAld 0 63)),
  (63, lift (pIld 4 65)),
  (65, lift (pIld 3 66)),
  (66, lift (pAld 0 67)),
  (67, oGetF 8 8 70),
  (70, lift (pInt (0) 71)),
  (71, oCallR 8 33 4 0 74),
  (74, lift (pGoto 88)),
  (77, lift (pAld 0 78)),
  (78, oGetF 8 3 81),
  (81, lift (pIld 5 83)),
  (83, lift (pDup2 84)),
  (84, oALd 0 85),
  (85, lift (pInt (1) 86)),
  (86, lift (pBin (· + ·) 87)),
  (87, oASt 2 0 .int 88),
  (88, lift (pAld 2 89)),
  (89, lift (pIld 3 90)),
  (90, lift (pIld 5 92)),
  (92, oASt 2 0 .int 93),
  (93, lift (pInc 3 (1) 96)),
  (96, lift (pGoto 6)),
  (99, lift (pAld 0 100)),
  (100, oGetF 8 11 103),
  (103, lift (pIf .eq 107 106)),
  (106, oRet),
  (107, lift (pAld 0 108)),
  (108, oGetF 8 12 111),
  (111, oNewA 0 (.int 0) 113),
  (113, lift (pAst 3 114)),
  (114, lift (pInt (0) 115)),
  (115, lift (pIst 4 117)),
  (117, lift (pIld 4 119)),
  (119, lift (pIld 1 120)),
  (120, lift (pIcmp .ge 188 123)),
  (123, lift (pAld 2 124)),
  (124, lift (pIld 4 126)),
  (126, oALd 0 127),
  (127, lift (pIst 5 129)),
  (129, lift (pAld 0 130)),
  (130, oGetF 8 3 133),
  (133, lift (pIld 5 135)),
  (135, oALd 0 136),
  (136, lift (pInt (1) 137)),
  (137, lift (pIcmp .le 182 140)),
  (140, lift (pAld 3 141)),
  (141, lift (pIld 5 143)),
  (143, oALd 0 144),
  (144, lift (pIf .ne 163 147)),
  (147, lift (pAld 0 148)),
  (148, oGetF 8 4 151),
  (151, lift (pIld 5 153)),
  (153, lift (pAld 0 154)),
  (154, oGetF 8 3 157),
  (157, lift (pIld 5 159)),
  (159, oALd 0 160),
  (160, oNewA 0 (.int 0) 162),
  (162, oAStR 2 9 0 163),
  (163, lift (pAld 0 164)),
  (164, oGetF 8 4 167),
  (167, lift (pIld 5 169)),
  (169, oALd 9 170),
  (170, lift (pAld 3 171)),
  (171, lift (pIld 5 173)),
  (173, lift (pDup2 174)),
  (174, oALd 0 175),
  (175, lift (pDupX2 176)),
  (176, lift (pInt (1) 177)),
  (177, lift (pBin (· + ·) 178)),
  (178, oASt 2 0 .int 179),
  (179, lift (pIld 4 181)),
  (181, oASt 2 0 .int 182),
  (182, lift (pInc 4 (1) 185)),
  (185, lift (pGoto 117)),
  (188, oRet)]
def c19 : List (Nat × Jvm.MV.MOp) := [(0, lift (pAld 0 1)),
  (1, lift (pDup 2)),
  (2, oGetF 6 0 5),
  (5, lift (pInt (1) 6)),
  (6, lift (pBin (· + ·) 7)),
  (7, oPutF 2 6 0 .int 10),
  (10, lift (pAld 0 11)),
  (11, lift (pAld 1 12)),
  (12, lift (pAld 0 13)),
  (13, oGetF 6 1 16),
  (16, lift (pAld 0 17)),
  (17, oGetF 6 2 20),
  (20, oCallR 6 20 3 0 23),
  (23, lift (pInt (1) 24)),
  (24, oRetI .boolean)]
def c20 : List (Nat × Jvm.MV.MOp) := [(0, lift (pIld 3 1)),
  (1, lift (pAld 2 2)),
  (2, oALen 11 3),
  (3, lift (pIcmp .ne 11 6)),
  (6, lift (pAld 0 7)),
  (7, oCallR 6 21 0 0 10),
  (10, lift (pAst 2 11)),
  (11, lift (pAld 2 12)),
  (12, lift (pIld 3 13)),
  (13, lift (pAld 1 14)),
  (14, oAStR 2 10 8 15),
  (15, lift (pAld 0 16)),
  (16, lift (pIld 3 17)),
  (17, lift (pInt (1) 18)),
  (18, lift (pBin (· + ·) 19)),
  (19, oPutF 2 6 2 .int 22),
  (22, oRet)]
def c21 : List (Nat × Jvm.MV.MOp) := [(0, lift (pAld 0 1)),
  (1, lift (pAld 0 2)),
  (2, oGetF 6 2 5),
  (5, lift (pInt (1) 6)),
  (6, lift (pBin (· + ·) 7)),
  (7, oCallR 6 22 1 0 10),
  (10, oRetA)]
def c22 : List (Nat × Jvm.MV.MOp) := [(0, lift (pAld 0 1)),
  (1, oGetF 6 1 4),
  (4, oALen 11 5),
  (5, lift (pIst 2 6)),
  (6, lift (pIld 2 7)),
  (7, lift (pIf .gt 20 10)),
  (10, lift (pAld 0 11)),
  (11, oGetF 6 1 14),
  (14, oGetS (.ref 1) 17),
  (17, lift (pAcmp 2 45 20)),
  (20, lift (pIld 2 21)),
  (21, lift (pIld 1 22)),
  (22, lift (pIld 2 23)),
  (23, lift (pBin (· - ·) 24)),
  (24, lift (pIld 2 25)),
  (25, lift (pInt (1) 26)),
  (26, lift (pBin (fun x y => x >>> (y &&& 31)) 27)),
  (45, lift (pAld 0 46)),
  (46, lift (pInt (10) 48)),
  (48, lift (pIld 1 49)),
  (49, oCall 7 2 1 52),
  (52, oNewA 10 .null 55),
  (55, lift (pDupX1 56)),
  (56, oPutF 2 6 1 (.array (.object "java/lang/Object")) 59),
  (59, oRetA)]
def c23 : List (Nat × Jvm.MV.MOp) := [(0, lift (pIld 1 1)),
  (1, lift (pAld 0 2)),
  (2, oGetF 6 2 5),
  (5, oCall 24 2 0 8),
  (8, lift (pPop 9)),
  (9, lift (pAld 0 10)),
  (10, lift (pIld 1 11)),
  (11, oCallR 6 26 1 0 14),
  (14, oRetA)]
def c24 : List (Nat × Jvm.MV.MOp) := [(0, lift (pIld 0 1)),
  (1, lift (pIld 1 2)),
  (2, lift (pNull 3)),
  (3, oCall 25 3 0 6),
  (6, oRetI .int)]
def c25 : List (Nat × Jvm.MV.MOp) := [(0, lift (pIld 0 1)),
  (1, lift (pIf .lt 9 4)),
  (4, lift (pIld 0 5)),
  (5, lift (pIld 1 6)),
  (6, lift (pIcmp .lt 16 9)),
  (9, lift (pAld 2 10)),
  (10, lift (pIld 0 11)),
  (11, lift (pIld 1 12)),
  (16, lift (pIld 0 17)),
  (17, oRetI .int)]
def c26 : List (Nat × Jvm.MV.MOp) := [(0, lift (pAld 0 1)),
  (1, oGetF 6 1 4),
  (4, lift (pIld 1 5)),
  (5, oALd 10 6),
  (6, oRetA)]
def c27 : List (Nat × Jvm.MV.MOp) := [(0, lift (pAld 0 1)),
  (1, lift (pIld 1 2)),
  (2, lift (pAld 0 3)),
  (3, oGetF 8 8 6),
  (6, oCallR 8 28 2 0 9),
  (9, lift (pAld 0 10)),
  (10, lift (pAld 0 11)),
  (11, oGetF 8 8 14),
  (14, lift (pInt (0) 15)),
  (15, lift (pAld 0 16)),
  (16, lift (pAld 0 17)),
  (17, oGetF 8 8 20),
  (20, lift (pInt (0) 21)),
  (21, oCallR 8 30 2 3 24),
  (24, oCallR 8 32 3 0 27),
  (27, lift (pIst 2 28)),
  (28, lift (pAld 0 29)),
  (29, oGetF 8 10 32),
  (32, lift (pIld 2 33)),
  (33, oALd 0 34),
  (34, lift (pInt (1) 35)),
  (35, lift (pBin (· - ·) 36)),
  (36, lift (pIst 3 37)),
  (37, lift (pIld 3 38)),
  (38, lift (pIf .ge 55 41)),
  (41, lift (pAld 0 42)),
  (42, lift (pIld 2 43)),
  (43, lift (pIld 1 44)),
  (44, lift (pAld 0 45)),
  (45, oGetF 8 8 48),
  (48, lift (pInt (0) 49)),
  (49, oCallR 8 33 4 0 52),
  (52, lift (pGoto 156)),
  (55, lift (pAld 0 56)),
  (56, oGetF 8 3 59),
  (59, lift (pIld 3 60)),
  (60, oALd 0 61),
  (61, lift (pInt (1) 62)),
  (62, lift (pIcmp .ne 98 65)),
  (65, lift (pAld 0 66)),
  (66, oGetF 8 4 69),
  (69, lift (pIld 3 70)),
  (70, lift (pInt (4) 71)),
  (71, oNewA 0 (.int 0) 73),
  (73, lift (pDup 74)),
  (74, lift (pInt (0) 75)),
  (75, lift (pAld 0 76)),
  (76, oGetF 8 2 79),
  (79, lift (pIld 3 80)),
  (80, oALd 0 81),
  (81, oASt 2 0 .int 82),
  (82, lift (pDup 83)),
  (83, lift (pInt (1) 84)),
  (84, lift (pInt (0) 85)),
  (85, oASt 2 0 .int 86),
  (86, lift (pDup 87)),
  (87, lift (pInt (2) 88)),
  (88, lift (pInt (0) 89)),
  (89, oASt 2 0 .int 90),
  (90, lift (pDup 91)),
  (91, lift (pInt (3) 92)),
  (92, lift (pInt (0) 93)),
  (93, oASt 2 0 .int 94),
  (94, oAStR 2 9 0 95),
  (95, lift (pGoto 137)),
  (98, lift (pAld 0 99)),
  (99, oGetF 8 3 102),
  (102, lift (pIld 3 103)),
  (103, oALd 0 104),
  (104, lift (pAld 0 105)),
  (105, oGetF 8 4 108),
  (108, lift (pIld 3 109)),
  (109, oALd 9 110),
  (110, oALen 0 111),
  (111, lift (pIcmp .ne 137 114)),
  (114, lift (pAld 0 115)),
  (115, oGetF 8 4 118),
  (118, lift (pIld 3 119)),
  (119, lift (pAld 0 120)),
  (120, oGetF 8 4 123),
  (123, lift (pIld 3 124)),
  (124, oALd 9 125),
  (125, lift (pAld 0 126)),
  (126, oGetF 8 3 129),
  (129, lift (pIld 3 130)),
  (130, oALd 0 131),
  (131, lift (pInt (2) 132)),
  (132, lift (pBin (· * ·) 133)),
  (133, oCall 38 2 2 136),
  (136, oAStR 2 9 0 137),
  (137, lift (pAld 0 138)),
  (138, oGetF 8 4 141),
  (141, lift (pIld 3 142)),
  (142, oALd 9 143),
  (143, lift (pAld 0 144)),
  (144, oGetF 8 3 147),
  (147, lift (pIld 3 148)),
  (148, lift (pDup2 149)),
  (149, oALd 0 150),
  (150, lift (pDupX2 151)),
  (151, lift (pInt (1) 152)),
  (152, lift (pBin (· + ·) 153)),
  (153, oASt 2 0 .int 154),
  (154, lift (pIld 1 155)),
  (155, oASt 2 0 .int 156),
  (156, oRet)]
def c28 : List (Nat × Jvm.MV.MOp) := [(0, lift (pInt (0) 1)),
  (1, lift (pIst 3 2)),
  (2, lift (pIld 3 3)),
  (3, lift (pAld 0 4)),
  (4, oGetF 8 7 7),
  (7, oALen 0 8),
  (8, lift (pIcmp .ge 34 11)),
  (11, lift (pAld 2 12)),
  (12, lift (pIld 3 13)),
  (13, lift (pAld 0 14)),
  (14, oGetF 8 6 17),
  (17, lift (pIld 1 18)),
  (18, lift (pAld 0 19)),
  (19, oGetF 8 7 22),
  (22, lift (pIld 3 23)),
  (23, oALd 0 24),
  (24, oCallR 5 29 2 2 27),
  (27, oASt 2 0 .int 28),
  (28, lift (pInc 3 (1) 31)),
  (31, lift (pGoto 2)),
  (34, oRet)]
def c29 : List (Nat × Jvm.MV.MOp) := [(0, lift (pAld 0 1)),
  (1, oGetF 5 3 4),
  (4, lift (pIld 1 5)),
  (5, lift (pAld 0 6)),
  (6, oGetF 5 2 9),
  (9, lift (pBin (· * ·) 10)),
  (10, lift (pIld 2 11)),
  (11, lift (pBin (· + ·) 12)),
  (12, oALd 0 13),
  (13, oRetI .int)]
def c30 : List (Nat × Jvm.MV.MOp) := [(0, lift (pAld 1 1)),
  (1, lift (pIld 2 2)),
  (2, lift (pAld 0 3)),
  (3, oGetF 8 7 6),
  (6, oALen 0 7),
  (7, oCall 31 3 0 10),
  (10, oRetI .int)]
def c31 : List (Nat × Jvm.MV.MOp) := [(0, lift (pInt (-2128831035) 2)),
  (2, lift (pIst 3 3)),
  (3, lift (pIld 1 4)),
  (4, lift (pIst 4 6)),
  (6, lift (pIld 4 8)),
  (8, lift (pIld 1 9)),
  (9, lift (pIld 2 10)),
  (10, lift (pBin (· + ·) 11)),
  (11, lift (pIcmp .ge 30 14)),
  (14, lift (pIld 3 15)),
  (15, lift (pAld 0 16)),
  (16, lift (pIld 4 18)),
  (18, oALd 0 19),
  (19, lift (pBin (· ^^^ ·) 20)),
  (20, lift (pInt (16777619) 22)),
  (22, lift (pBin (· * ·) 23)),
  (23, lift (pIst 3 24)),
  (24, lift (pInc 4 (1) 27)),
  (27, lift (pGoto 6)),
  (30, lift (pIld 3 31)),
  (31, lift (pIld 3 32)),
  (32, lift (pInt (16) 34)),
  (34, lift (pBin XT.ushr 35)),
  (35, lift (pBin (· ^^^ ·) 36)),
  (36, lift (pIst 3 37)),
  (37, lift (pIld 3 38)),
  (38, lift (pInt (-2048144789) 40)),
  (40, lift (pBin (· * ·) 41)),
  (41, lift (pIst 3 42)),
  (42, lift (pIld 3 43)),
  (43, lift (pIld 3 44)),
  (44, lift (pInt (13) 46)),
  (46, lift (pBin XT.ushr 47)),
  (47, lift (pBin (· ^^^ ·) 48)),
  (48, lift (pIst 3 49)),
  (49, lift (pIld 3 50)),
  (50, oRetI .int)]
def c32 : List (Nat × Jvm.MV.MOp) := [(0, lift (pIld 3 1)),
  (1, lift (pAld 0 2)),
  (2, oGetF 8 0 5),
  (5, lift (pBin (· &&& ·) 6)),
  (6, lift (pIst 4 8)),
  (8, lift (pIld 4 10)),
  (10, lift (pAld 0 11)),
  (11, oGetF 8 9 14),
  (14, lift (pBin (· * ·) 15)),
  (15, lift (pIst 5 17)),
  (17, lift (pAld 0 18)),
  (18, oGetF 8 10 21),
  (21, lift (pIld 5 23)),
  (23, oALd 0 24),
  (24, lift (pIf .eq 38 27)),
  (27, lift (pAld 0 28)),
  (28, lift (pIld 5 30)),
  (30, lift (pAld 1 31)),
  (31, lift (pIld 2 32)),
  (32, oCallR 8 34 3 0 35),
  (35, lift (pIf .eq 41 38)),
  (38, lift (pIld 5 40)),
  (40, oRetI .int),
  (41, lift (pIld 4 43)),
  (43, lift (pInt (1) 44)),
  (44, lift (pBin (· + ·) 45)),
  (45, lift (pAld 0 46)),
  (46, oGetF 8 0 49),
  (49, lift (pBin (· &&& ·) 50)),
  (50, lift (pIst 4 52)),
  (52, lift (pGoto 8))]
def c33 : List (Nat × Jvm.MV.MOp) := [(0, lift (pAld 0 1)),
  (1, oGetF 8 12 4),
  (4, lift (pIst 5 6)),
  (6, lift (pAld 0 7)),
  (7, oGetF 8 11 10),
  (10, lift (pIf .ne 97 13)),
  (13, lift (pIld 5 15)),
  (15, lift (pAld 0 16)),
  (16, oGetF 8 2 19),
  (19, oALen 0 20),
  (20, lift (pIcmp .ne 71 23)),
  (23, lift (pAld 0 24)),
  (24, lift (pAld 0 25)),
  (25, oGetF 8 2 28),
  (28, lift (pIld 5 30)),
  (30, lift (pInt (2) 31)),
  (31, lift (pBin (· * ·) 32)),
  (32, oCall 38 2 1 35),
  (35, oPutF 2 8 2 (.array .int) 38),
  (38, lift (pAld 0 39)),
  (39, lift (pAld 0 40)),
  (40, oGetF 8 3 43),
  (43, lift (pIld 5 45)),
  (45, lift (pInt (2) 46)),
  (46, lift (pBin (· * ·) 47)),
  (47, oCall 38 2 1 50),
  (50, oPutF 2 8 3 (.array .int) 53),
  (53, lift (pAld 0 54)),
  (54, lift (pAld 0 55)),
  (55, oGetF 8 4 58),
  (58, lift (pIld 5 60)),
  (60, lift (pInt (2) 61)),
  (61, lift (pBin (· * ·) 62)),
  (71, lift (pAld 0 72)),
  (72, oGetF 8 2 75),
  (75, lift (pIld 5 77)),
  (77, lift (pIld 2 78)),
  (78, oASt 2 0 .int 79),
  (79, lift (pAld 0 80)),
  (80, oGetF 8 3 83),
  (83, lift (pIld 5 85)),
  (85, lift (pInt (1) 86)),
  (86, oASt 2 0 .int 87),
  (87, lift (pAld 0 88)),
  (88, oGetF 8 4 91),
  (91, lift (pIld 5 93)),
  (93, oGetS (.ref 0) 96),
  (96, oAStR 2 9 0 97),
  (97, lift (pAld 0 98)),
  (98, lift (pDup 99)),
  (99, oGetF 8 12 102),
  (102, lift (pInt (1) 103)),
  (103, lift (pBin (· + ·) 104)),
  (104, oPutF 2 8 12 .int 107),
  (107, lift (pAld 0 108)),
  (108, oGetF 8 10 111),
  (111, lift (pIld 1 112)),
  (112, lift (pIld 5 114)),
  (114, lift (pInt (1) 115)),
  (115, lift (pBin (· + ·) 116)),
  (116, oASt 2 0 .int 117),
  (117, lift (pAld 3 118)),
  (118, lift (pIld 4 120)),
  (120, lift (pAld 0 121)),
  (121, oGetF 8 10 124),
  (124, lift (pIld 1 125)),
  (125, lift (pInt (1) 126)),
  (126, lift (pBin (· + ·) 127)),
  (127, lift (pAld 0 128)),
  (128, oGetF 8 7 131),
  (131, oALen 0 132),
  (132, oCopy 2 0 .int 0 135),
  (135, lift (pAld 0 136)),
  (136, oGetF 8 12 139),
  (139, lift (pAld 0 140)),
  (140, oGetF 8 1 143),
  (143, lift (pIcmp .le 158 146)),
  (146, lift (pAld 0 147)),
  (147, lift (pAld 0 148)),
  (148, oGetF 8 0 151),
  (151, lift (pInt (1) 152)),
  (152, lift (pBin (· + ·) 153)),
  (153, lift (pInt (2) 154)),
  (154, lift (pBin (· * ·) 155)),
  (158, oRet)]
def c34 : List (Nat × Jvm.MV.MOp) := [(0, lift (pInt (0) 1)),
  (1, lift (pIst 4 3)),
  (3, lift (pIld 4 5)),
  (5, lift (pAld 0 6)),
  (6, oGetF 8 7 9),
  (9, oALen 0 10),
  (10, lift (pIcmp .ge 41 13)),
  (13, lift (pAld 0 14)),
  (14, oGetF 8 10 17),
  (17, lift (pIld 1 18)),
  (18, lift (pInt (1) 19)),
  (19, lift (pBin (· + ·) 20)),
  (20, lift (pIld 4 22)),
  (22, lift (pBin (· + ·) 23)),
  (23, oALd 0 24),
  (24, lift (pAld 2 25)),
  (25, lift (pIld 3 26)),
  (26, lift (pIld 4 28)),
  (28, lift (pBin (· + ·) 29)),
  (29, oALd 0 30),
  (30, lift (pIcmp .eq 35 33)),
  (33, lift (pInt (0) 34)),
  (34, oRetI .boolean),
  (35, lift (pInc 4 (1) 38)),
  (38, lift (pGoto 3)),
  (41, lift (pInt (1) 42)),
  (42, oRetI .boolean)]
def c35 : List (Nat × Jvm.MV.MOp) := [(0, lift (pAld 0 1)),
  (1, oGetF 8 10 4),
  (4, lift (pAld 0 5)),
  (5, lift (pAld 1 6)),
  (6, lift (pInt (0) 7)),
  (7, lift (pAld 0 8)),
  (8, lift (pAld 1 9)),
  (9, lift (pInt (0) 10)),
  (10, oCallR 8 30 2 4 13),
  (13, oCallR 8 32 3 1 16),
  (16, oALd 0 17),
  (17, lift (pInt (1) 18)),
  (18, lift (pBin (· - ·) 19)),
  (19, oRetI .int)]
def c36 : List (Nat × Jvm.MV.MOp) := [(0, lift (pAld 0 1)),
  (1, oGetF 8 11 4),
  (4, lift (pIf .eq 12 7)),
  (7, lift (pIld 1 8)),
  (8, lift (pIst 3 9)),
  (9, lift (pGoto 41)),
  (12, lift (pAld 0 13)),
  (13, oGetF 8 3 16),
  (16, lift (pIld 1 17)),
  (17, oALd 0 18),
  (18, lift (pInt (1) 19)),
  (19, lift (pIcmp .ne 32 22)),
  (22, lift (pAld 0 23)),
  (23, oGetF 8 2 26),
  (26, lift (pIld 1 27)),
  (27, oALd 0 28),
  (28, lift (pIst 3 29)),
  (29, lift (pGoto 41)),
  (32, lift (pAld 0 33)),
  (33, oGetF 8 4 36),
  (36, lift (pIld 1 37)),
  (37, oALd 9 38),
  (38, lift (pIld 2 39)),
  (39, oALd 0 40),
  (40, lift (pIst 3 41)),
  (41, lift (pIld 3 42)),
  (42, oRetI .int)]
def c37 : List (Nat × Jvm.MV.MOp) := [(0, lift (pIld 0 1)),
  (1, lift (pIst 6 3)),
  (3, lift (pIld 1 4)),
  (4, lift (pIf .eq 17 7)),
  (7, lift (pIld 6 9)),
  (9, lift (pIf .ne 14 12)),
  (12, lift (pInt (0) 13)),
  (13, oRetI .int),
  (14, lift (pInc 6 (-1) 17)),
  (17, lift (pIld 2 18)),
  (18, lift (pIf .eq 31 21)),
  (21, lift (pIld 6 23)),
  (23, lift (pIf .ne 28 26)),
  (26, lift (pInt (1) 27)),
  (27, oRetI .int),
  (28, lift (pInc 6 (-1) 31)),
  (31, lift (pIld 3 32)),
  (32, lift (pIf .eq 45 35)),
  (35, lift (pIld 6 37)),
  (37, lift (pIf .ne 42 40)),
  (40, lift (pInt (2) 41)),
  (41, oRetI .int),
  (42, lift (pInc 6 (-1) 45)),
  (45, lift (pIld 4 47)),
  (47, lift (pIf .eq 60 50)),
  (50, lift (pIld 6 52)),
  (52, lift (pIf .ne 57 55)),
  (55, lift (pInt (3) 56)),
  (56, oRetI .int),
  (57, lift (pInc 6 (-1) 60)),
  (60, lift (pIld 5 62)),
  (62, lift (pIf .eq 72 65)),
  (65, lift (pIld 6 67)),
  (67, lift (pIf .ne 72 70)),
  (70, lift (pInt (4) 71)),
  (71, oRetI .int),
  (72, lift (pInt (-1) 73)),
  (73, oRetI .int)]
def c38 : List (Nat × Jvm.MV.MOp) := [(0, lift (pIld 1 1)),
  (1, lift (pAld 0 2)),
  (2, oALen 0 3),
  (3, lift (pIcmp .ne 14 6)),
  (6, lift (pAld 0 7)),
  (14, lift (pIld 1 15)),
  (15, oNewA 0 (.int 0) 17),
  (17, lift (pAst 2 18)),
  (18, lift (pAld 0 19)),
  (19, lift (pInt (0) 20)),
  (20, lift (pAld 2 21)),
  (21, lift (pInt (0) 22)),
  (22, lift (pAld 0 23)),
  (23, oALen 0 24),
  (24, lift (pIld 1 25)),
  (25, oCall 39 2 4 28),
  (28, oCopy 2 0 .int 0 31),
  (31, lift (pAld 2 32)),
  (32, oRetA)]
def c39 : List (Nat × Jvm.MV.MOp) := [(0, lift (pIld 0 1)),
  (1, lift (pIld 1 2)),
  (2, lift (pIcmp .gt 9 5)),
  (5, lift (pIld 0 6)),
  (6, lift (pGoto 10)),
  (9, lift (pIld 1 10)),
  (10, oRetI .int)]
def D : Jvm.MV.Meths := [(30, c0), (6, c1), (5, c2), (3, c3), (1, c4), (1, c5), (1, c6), (2, c7), (5, c8), (3, c9), (6, c10), (1, c11), (4, c12), (1, c13), (2, c14), (1, c15), (9, c16), (1, c17), (6, c18), (2, c19), (4, c20), (1, c21), (4, c22), (2, c23), (2, c24), (3, c25), (2, c26), (4, c27), (4, c28), (3, c29), (3, c30), (5, c31), (6, c32), (6, c33), (5, c34), (2, c35), (4, c36), (7, c37), (3, c38), (2, c39)]
section Snd
theorem lay5 (a0 : Array Value) (Z : State) (hw : ∀ d ∈ tables_1, d.before a0 Z = true) : LayIn Z a0 "com/example/predicat/predicat/kernel/Relation" [("com/example/predicat/predicat/kernel/Relation", "indexes", "Ljava/util/List;", (.object "java/util/List")), ("com/example/predicat/predicat/kernel/Relation", "fresh", "[Z", (.array .boolean)), ("com/example/predicat/predicat/kernel/Relation", "arity", "I", .int), ("com/example/predicat/predicat/kernel/Relation", "columns", "[I", (.array .int)), ("com/example/predicat/predicat/kernel/Relation", "everyColumn", "[I", (.array .int)), ("com/example/predicat/predicat/kernel/Relation", "size", "I", .int), ("com/example/predicat/predicat/kernel/Relation", "pairs", "Lcom/example/predicat/predicat/kernel/PairSet;", (.object "com/example/predicat/predicat/kernel/PairSet"))] := ⟨⟨Or.inr (hw _ (List.mem_of_getElem? (i := 43) rfl)), by decide +kernel⟩, ⟨Or.inl (hw _ (List.mem_of_getElem? (i := 46) rfl)), by decide +kernel⟩, ⟨Or.inr (hw _ (List.mem_of_getElem? (i := 48) rfl)), by decide +kernel⟩, ⟨Or.inl (hw _ (List.mem_of_getElem? (i := 54) rfl)), by decide +kernel⟩, ⟨Or.inr (hw _ (List.mem_of_getElem? (i := 56) rfl)), by decide +kernel⟩, ⟨Or.inl (hw _ (List.mem_of_getElem? (i := 67) rfl)), by decide +kernel⟩, ⟨Or.inl (hw _ (List.mem_of_getElem? (i := 73) rfl)), by decide +kernel⟩, trivial⟩
theorem nd5 : (([("com/example/predicat/predicat/kernel/Relation", "indexes", "Ljava/util/List;", (.object "java/util/List")), ("com/example/predicat/predicat/kernel/Relation", "fresh", "[Z", (.array .boolean)), ("com/example/predicat/predicat/kernel/Relation", "arity", "I", .int), ("com/example/predicat/predicat/kernel/Relation", "columns", "[I", (.array .int)), ("com/example/predicat/predicat/kernel/Relation", "everyColumn", "[I", (.array .int)), ("com/example/predicat/predicat/kernel/Relation", "size", "I", .int), ("com/example/predicat/predicat/kernel/Relation", "pairs", "Lcom/example/predicat/predicat/kernel/PairSet;", (.object "com/example/predicat/predicat/kernel/PairSet"))] : List (String × String × String × FieldType)).map (fun f => f.2.1)).Nodup := by decide +kernel
theorem lay6 (a0 : Array Value) (Z : State) (hw : ∀ d ∈ tables_1, d.before a0 Z = true) : LayIn Z a0 "java/util/ArrayList" [("java/util/AbstractList", "modCount", "I", .int), ("java/util/ArrayList", "elementData", "[Ljava/lang/Object;", (.array (.object "java/lang/Object"))), ("java/util/ArrayList", "size", "I", .int)] := ⟨⟨Or.inl (hw _ (List.mem_of_getElem? (i := 38) rfl)), by decide +kernel⟩, ⟨Or.inl (hw _ (List.mem_of_getElem? (i := 41) rfl)), by decide +kernel⟩, ⟨Or.inl (hw _ (List.mem_of_getElem? (i := 88) rfl)), by decide +kernel⟩, trivial⟩
theorem nd6 : (([("java/util/AbstractList", "modCount", "I", .int), ("java/util/ArrayList", "elementData", "[Ljava/lang/Object;", (.array (.object "java/lang/Object"))), ("java/util/ArrayList", "size", "I", .int)] : List (String × String × String × FieldType)).map (fun f => f.2.1)).Nodup := by decide +kernel
theorem lay7 (a0 : Array Value) (Z : State) (hw : ∀ d ∈ tables_1, d.before a0 Z = true) : LayIn Z a0 "java/util/ArrayList$Itr" [("java/util/ArrayList$Itr", "this$0", "Ljava/util/ArrayList;", (.object "java/util/ArrayList")), ("java/util/ArrayList$Itr", "lastRet", "I", .int), ("java/util/ArrayList$Itr", "expectedModCount", "I", .int), ("java/util/ArrayList$Itr", "cursor", "I", .int)] := ⟨⟨Or.inr (hw _ (List.mem_of_getElem? (i := 110) rfl)), by decide +kernel⟩, ⟨Or.inl (hw _ (List.mem_of_getElem? (i := 113) rfl)), by decide +kernel⟩, ⟨Or.inl (hw _ (List.mem_of_getElem? (i := 117) rfl)), by decide +kernel⟩, ⟨Or.inl (hw _ (List.mem_of_getElem? (i := 128) rfl)), by decide +kernel⟩, trivial⟩
theorem nd7 : (([("java/util/ArrayList$Itr", "this$0", "Ljava/util/ArrayList;", (.object "java/util/ArrayList")), ("java/util/ArrayList$Itr", "lastRet", "I", .int), ("java/util/ArrayList$Itr", "expectedModCount", "I", .int), ("java/util/ArrayList$Itr", "cursor", "I", .int)] : List (String × String × String × FieldType)).map (fun f => f.2.1)).Nodup := by decide +kernel
theorem lay8 (a0 : Array Value) (Z : State) (hw : ∀ d ∈ tables_1, d.before a0 Z = true) : LayIn Z a0 "com/example/predicat/predicat/kernel/Index" [("com/example/predicat/predicat/kernel/Index", "mask", "I", .int), ("com/example/predicat/predicat/kernel/Index", "limit", "I", .int), ("com/example/predicat/predicat/kernel/Index", "firstTuples", "[I", (.array .int)), ("com/example/predicat/predicat/kernel/Index", "counts", "[I", (.array .int)), ("com/example/predicat/predicat/kernel/Index", "tuples", "[[I", (.array (.array .int))), ("com/example/predicat/predicat/kernel/Index", "hashes", "[I", (.array .int)), ("com/example/predicat/predicat/kernel/Index", "relation", "Lcom/example/predicat/predicat/kernel/Relation;", (.object "com/example/predicat/predicat/kernel/Relation")), ("com/example/predicat/predicat/kernel/Index", "columns", "[I", (.array .int)), ("com/example/predicat/predicat/kernel/Index", "scratch", "[I", (.array .int)), ("com/example/predicat/predicat/kernel/Index", "stride", "I", .int), ("com/example/predicat/predicat/kernel/Index", "slots", "[I", (.array .int)), ("com/example/predicat/predicat/kernel/Index", "unique", "Z", .boolean), ("com/example/predicat/predicat/kernel/Index", "keys", "I", .int)] := ⟨⟨Or.inl (hw _ (List.mem_of_getElem? (i := 138) rfl)), by decide +kernel⟩, ⟨Or.inl (hw _ (List.mem_of_getElem? (i := 140) rfl)), by decide +kernel⟩, ⟨Or.inl (hw _ (List.mem_of_getElem? (i := 142) rfl)), by decide +kernel⟩, ⟨Or.inl (hw _ (List.mem_of_getElem? (i := 144) rfl)), by decide +kernel⟩, ⟨Or.inl (hw _ (List.mem_of_getElem? (i := 148) rfl)), by decide +kernel⟩, ⟨Or.inl (hw _ (List.mem_of_getElem? (i := 150) rfl)), by decide +kernel⟩, ⟨Or.inr (hw _ (List.mem_of_getElem? (i := 152) rfl)), by decide +kernel⟩, ⟨Or.inr (hw _ (List.mem_of_getElem? (i := 162) rfl)), by decide +kernel⟩, ⟨Or.inr (hw _ (List.mem_of_getElem? (i := 164) rfl)), by decide +kernel⟩, ⟨Or.inr (hw _ (List.mem_of_getElem? (i := 166) rfl)), by decide +kernel⟩, ⟨Or.inl (hw _ (List.mem_of_getElem? (i := 168) rfl)), by decide +kernel⟩, ⟨Or.inr (hw _ (List.mem_of_getElem? (i := 175) rfl)), by decide +kernel⟩, ⟨Or.inl (hw _ (List.mem_of_getElem? (i := 182) rfl)), by decide +kernel⟩, trivial⟩
theorem nd8 : (([("com/example/predicat/predicat/kernel/Index", "mask", "I", .int), ("com/example/predicat/predicat/kernel/Index", "limit", "I", .int), ("com/example/predicat/predicat/kernel/Index", "firstTuples", "[I", (.array .int)), ("com/example/predicat/predicat/kernel/Index", "counts", "[I", (.array .int)), ("com/example/predicat/predicat/kernel/Index", "tuples", "[[I", (.array (.array .int))), ("com/example/predicat/predicat/kernel/Index", "hashes", "[I", (.array .int)), ("com/example/predicat/predicat/kernel/Index", "relation", "Lcom/example/predicat/predicat/kernel/Relation;", (.object "com/example/predicat/predicat/kernel/Relation")), ("com/example/predicat/predicat/kernel/Index", "columns", "[I", (.array .int)), ("com/example/predicat/predicat/kernel/Index", "scratch", "[I", (.array .int)), ("com/example/predicat/predicat/kernel/Index", "stride", "I", .int), ("com/example/predicat/predicat/kernel/Index", "slots", "[I", (.array .int)), ("com/example/predicat/predicat/kernel/Index", "unique", "Z", .boolean), ("com/example/predicat/predicat/kernel/Index", "keys", "I", .int)] : List (String × String × String × FieldType)).map (fun f => f.2.1)).Nodup := by decide +kernel
set_option maxRecDepth 65536 in
set_option maxHeartbeats 4000000 in
theorem snd0 (l : Launch) (a0 : Array Value) (Z : State) (hw : ∀ d ∈ tables_1, d.before a0 Z = true) (aN aD : Addr) (hXX : ∀ a ∈ [aN, aD], a < Z.heap.size) (sN : Sta Z Z.heap "com/example/predicat/predicat/kernel/Index" "NO_TUPLES" "[I" (.ref aN)) (sD : Sta Z Z.heap "java/util/ArrayList" "DEFAULTCAPACITY_EMPTY_ELEMENTDATA" "[Ljava/lang/Object;" (.ref aD)): ∀ q ∈ c0, Sound Z [aN, aD] CT l MT M0 q.1 q.2 := by
  have hX : ∀ a ∈ ([aN, aD] : List Addr), a < Z.heap.size := hXX
  have hxl : ∀ i j, i ≠ j → (2 ≤ i ∨ 2 ≤ j) → ph Z [aN, aD] i ≠ ph Z [aN, aD] j := fun i j hij hi => ph_ne hX hij hi
  refine allC_mem (P := Sound Z [aN, aD] CT l MT M0) ?_
  unfold c0
  refine allC_cons (s_iloadN at_0 rfl) ?_
  refine allC_cons (s_iconst at_1 rfl) ?_
  refine allC_cons (s_iloadN at_2 rfl) ?_
  refine allC_cons (s_iloadN at_3 rfl) ?_
  refine allC_cons (s_iloadN at_4 rfl) ?_
  refine allC_cons (s_callS (Mc := M1) at_5 rfl (hw _ (List.mem_of_getElem? (i := 0) rfl)) (hw _ (List.mem_of_getElem? (i := 1) rfl)) (hw _ (List.mem_of_getElem? (i := 2) rfl)) (hw _ (List.mem_of_getElem? (i := 3) rfl)) pd_0 rfl (by decide) (by decide) (by decide)) ?_
  refine allC_cons (s_istore at_8) ?_
  refine allC_cons (s_iloadN at_10 rfl) ?_
  refine allC_cons (s_iconst at_11 rfl) ?_
  refine allC_cons (s_iloadN at_12 rfl) ?_
  refine allC_cons (s_iloadN at_13 rfl) ?_
  refine allC_cons (s_iloadN at_14 rfl) ?_
  refine allC_cons (s_callS (Mc := M1) at_15 rfl (hw _ (List.mem_of_getElem? (i := 0) rfl)) (hw _ (List.mem_of_getElem? (i := 1) rfl)) (hw _ (List.mem_of_getElem? (i := 2) rfl)) (hw _ (List.mem_of_getElem? (i := 3) rfl)) pd_0 rfl (by decide) (by decide) (by decide)) ?_
  refine allC_cons (s_istore at_18) ?_
  refine allC_cons (s_iloadN at_20 rfl) ?_
  refine allC_cons (s_iconst at_21 rfl) ?_
  refine allC_cons (s_iloadN at_22 rfl) ?_
  refine allC_cons (s_iloadN at_23 rfl) ?_
  refine allC_cons (s_iloadN at_24 rfl) ?_
  refine allC_cons (s_callS (Mc := M1) at_25 rfl (hw _ (List.mem_of_getElem? (i := 0) rfl)) (hw _ (List.mem_of_getElem? (i := 1) rfl)) (hw _ (List.mem_of_getElem? (i := 2) rfl)) (hw _ (List.mem_of_getElem? (i := 3) rfl)) pd_0 rfl (by decide) (by decide) (by decide)) ?_
  refine allC_cons (s_istore at_28) ?_
  refine allC_cons (s_iloadN at_30 rfl) ?_
  refine allC_cons (s_bipush at_31 rfl) ?_
  refine allC_cons (s_iloadN at_33 rfl) ?_
  refine allC_cons (s_iloadN at_34 rfl) ?_
  refine allC_cons (s_iloadN at_35 rfl) ?_
  refine allC_cons (s_callS (Mc := M1) at_36 rfl (hw _ (List.mem_of_getElem? (i := 0) rfl)) (hw _ (List.mem_of_getElem? (i := 1) rfl)) (hw _ (List.mem_of_getElem? (i := 2) rfl)) (hw _ (List.mem_of_getElem? (i := 3) rfl)) pd_0 rfl (by decide) (by decide) (by decide)) ?_
  refine allC_cons (s_istore at_39) ?_
  refine allC_cons (s_iloadN at_41 rfl) ?_
  refine allC_cons (s_bipush at_42 rfl) ?_
  refine allC_cons (s_iloadN at_44 rfl) ?_
  refine allC_cons (s_iloadN at_45 rfl) ?_
  refine allC_cons (s_iloadN at_46 rfl) ?_
  refine allC_cons (s_callS (Mc := M1) at_47 rfl (hw _ (List.mem_of_getElem? (i := 0) rfl)) (hw _ (List.mem_of_getElem? (i := 1) rfl)) (hw _ (List.mem_of_getElem? (i := 2) rfl)) (hw _ (List.mem_of_getElem? (i := 3) rfl)) pd_0 rfl (by decide) (by decide) (by decide)) ?_
  refine allC_cons (s_istore at_50) ?_
  refine allC_cons (s_iloadN at_52 rfl) ?_
  refine allC_cons (s_bipush at_53 rfl) ?_
  refine allC_cons (s_iushr at_55) ?_
  refine allC_cons (s_iconst at_56 rfl) ?_
  refine allC_cons (s_iand at_57) ?_
  refine allC_cons (s_if at_58 (by decide) (by decide)) ?_
  refine allC_cons (s_iconst at_61 rfl) ?_
  refine allC_cons (s_goto at_62 (by decide) (by decide)) ?_
  refine allC_cons (s_iconst at_65 rfl) ?_
  refine allC_cons (s_istore at_66) ?_
  refine allC_cons (s_iloadN at_68 rfl) ?_
  refine allC_cons (s_bipush at_69 rfl) ?_
  refine allC_cons (s_iushr at_71) ?_
  refine allC_cons (s_bipush at_72 rfl) ?_
  refine allC_cons (s_iand at_74) ?_
  refine allC_cons (s_bipush at_75 rfl) ?_
  refine allC_cons (s_irem at_77) ?_
  refine allC_cons (s_istore at_78) ?_
  refine allC_cons (s_iconst at_80 rfl) ?_
  refine allC_cons (s_newA (k := 0) at_81 (hw _ (List.mem_of_getElem? (i := 4) rfl)) rfl rfl) ?_
  refine allC_cons (s_dup at_83) ?_
  refine allC_cons (s_iconst at_84 rfl) ?_
  refine allC_cons (s_iload at_85) ?_
  refine allC_cons (s_iastore (k := 0) hX at_87 rfl) ?_
  refine allC_cons (s_dup at_88) ?_
  refine allC_cons (s_iconst at_89 rfl) ?_
  refine allC_cons (s_iload at_90) ?_
  refine allC_cons (s_iastore (k := 0) hX at_92 rfl) ?_
  refine allC_cons (s_dup at_93) ?_
  refine allC_cons (s_iconst at_94 rfl) ?_
  refine allC_cons (s_iload at_95) ?_
  refine allC_cons (s_iastore (k := 0) hX at_97 rfl) ?_
  refine allC_cons (s_dup at_98) ?_
  refine allC_cons (s_iconst at_99 rfl) ?_
  refine allC_cons (s_iload at_100) ?_
  refine allC_cons (s_iastore (k := 0) hX at_102 rfl) ?_
  refine allC_cons (s_dup at_103) ?_
  refine allC_cons (s_iconst at_104 rfl) ?_
  refine allC_cons (s_iload at_105) ?_
  refine allC_cons (s_iastore (k := 0) hX at_107 rfl) ?_
  refine allC_cons (s_astore at_108) ?_
  refine allC_cons (s_bipush at_110 rfl) ?_
  refine allC_cons (s_newA (k := 0) at_112 (hw _ (List.mem_of_getElem? (i := 4) rfl)) rfl rfl) ?_
  refine allC_cons (s_dup at_114) ?_
  refine allC_cons (s_iconst at_115 rfl) ?_
  refine allC_cons (s_iload at_116) ?_
  refine allC_cons (s_iastore (k := 0) hX at_118 rfl) ?_
  refine allC_cons (s_dup at_119) ?_
  refine allC_cons (s_iconst at_120 rfl) ?_
  refine allC_cons (s_iconst at_121 rfl) ?_
  refine allC_cons (s_iastore (k := 0) hX at_122 rfl) ?_
  refine allC_cons (s_dup at_123) ?_
  refine allC_cons (s_iconst at_124 rfl) ?_
  refine allC_cons (s_iload at_125) ?_
  refine allC_cons (s_iastore (k := 0) hX at_127 rfl) ?_
  refine allC_cons (s_dup at_128) ?_
  refine allC_cons (s_iconst at_129 rfl) ?_
  refine allC_cons (s_iconst at_130 rfl) ?_
  refine allC_cons (s_iastore (k := 0) hX at_131 rfl) ?_
  refine allC_cons (s_dup at_132) ?_
  refine allC_cons (s_iconst at_133 rfl) ?_
  refine allC_cons (s_iload at_134) ?_
  refine allC_cons (s_iastore (k := 0) hX at_136 rfl) ?_
  refine allC_cons (s_dup at_137) ?_
  refine allC_cons (s_iconst at_138 rfl) ?_
  refine allC_cons (s_iconst at_139 rfl) ?_
  refine allC_cons (s_iastore (k := 0) hX at_140 rfl) ?_
  refine allC_cons (s_dup at_141) ?_
  refine allC_cons (s_bipush at_142 rfl) ?_
  refine allC_cons (s_iload at_144) ?_
  refine allC_cons (s_iastore (k := 0) hX at_146 rfl) ?_
  refine allC_cons (s_dup at_147) ?_
  refine allC_cons (s_bipush at_148 rfl) ?_
  refine allC_cons (s_iconst at_150 rfl) ?_
  refine allC_cons (s_iastore (k := 0) hX at_151 rfl) ?_
  refine allC_cons (s_dup at_152) ?_
  refine allC_cons (s_bipush at_153 rfl) ?_
  refine allC_cons (s_iload at_155) ?_
  refine allC_cons (s_iastore (k := 0) hX at_157 rfl) ?_
  refine allC_cons (s_dup at_158) ?_
  refine allC_cons (s_bipush at_159 rfl) ?_
  refine allC_cons (s_iconst at_161 rfl) ?_
  refine allC_cons (s_iastore (k := 0) hX at_162 rfl) ?_
  refine allC_cons (s_astore at_163) ?_
  refine allC_cons (s_bipush at_165 rfl) ?_
  refine allC_cons (s_newA (k := 0) at_167 (hw _ (List.mem_of_getElem? (i := 4) rfl)) rfl rfl) ?_
  refine allC_cons (s_astore at_169) ?_
  refine allC_cons (s_aload at_171) ?_
  refine allC_cons (s_iconst at_173 rfl) ?_
  refine allC_cons (s_iload at_174) ?_
  refine allC_cons (s_aload at_176) ?_
  refine allC_cons (s_callS (Mc := M2) at_178 rfl (hw _ (List.mem_of_getElem? (i := 5) rfl)) (hw _ (List.mem_of_getElem? (i := 6) rfl)) (hw _ (List.mem_of_getElem? (i := 2) rfl)) (hw _ (List.mem_of_getElem? (i := 7) rfl)) pd_1 rfl (by decide) (by decide) (by decide)) ?_
  refine allC_cons (s_aload at_181) ?_
  refine allC_cons (s_iconst at_183 rfl) ?_
  refine allC_cons (s_iload at_184) ?_
  refine allC_cons (s_aload at_186) ?_
  refine allC_cons (s_callS (Mc := M2) at_188 rfl (hw _ (List.mem_of_getElem? (i := 5) rfl)) (hw _ (List.mem_of_getElem? (i := 6) rfl)) (hw _ (List.mem_of_getElem? (i := 2) rfl)) (hw _ (List.mem_of_getElem? (i := 7) rfl)) pd_1 rfl (by decide) (by decide) (by decide)) ?_
  refine allC_cons (s_aload at_191) ?_
  refine allC_cons (s_iconst at_193 rfl) ?_
  refine allC_cons (s_iload at_194) ?_
  refine allC_cons (s_aload at_196) ?_
  refine allC_cons (s_callS (Mc := M2) at_198 rfl (hw _ (List.mem_of_getElem? (i := 5) rfl)) (hw _ (List.mem_of_getElem? (i := 6) rfl)) (hw _ (List.mem_of_getElem? (i := 2) rfl)) (hw _ (List.mem_of_getElem? (i := 7) rfl)) pd_1 rfl (by decide) (by decide) (by decide)) ?_
  refine allC_cons (s_aload at_201) ?_
  refine allC_cons (s_iconst at_203 rfl) ?_
  refine allC_cons (s_iload at_204) ?_
  refine allC_cons (s_aload at_206) ?_
  refine allC_cons (s_callS (Mc := M2) at_208 rfl (hw _ (List.mem_of_getElem? (i := 5) rfl)) (hw _ (List.mem_of_getElem? (i := 6) rfl)) (hw _ (List.mem_of_getElem? (i := 2) rfl)) (hw _ (List.mem_of_getElem? (i := 7) rfl)) pd_1 rfl (by decide) (by decide) (by decide)) ?_
  refine allC_cons (s_aload at_211) ?_
  refine allC_cons (s_iconst at_213 rfl) ?_
  refine allC_cons (s_iload at_214) ?_
  refine allC_cons (s_aload at_216) ?_
  refine allC_cons (s_callS (Mc := M2) at_218 rfl (hw _ (List.mem_of_getElem? (i := 5) rfl)) (hw _ (List.mem_of_getElem? (i := 6) rfl)) (hw _ (List.mem_of_getElem? (i := 2) rfl)) (hw _ (List.mem_of_getElem? (i := 7) rfl)) pd_1 rfl (by decide) (by decide) (by decide)) ?_
  refine allC_cons (s_iload at_221) ?_
  refine allC_cons (s_ldcInt at_223 (hw _ (List.mem_of_getElem? (i := 8) rfl))) ?_
  refine allC_cons (s_iand at_225) ?_
  refine allC_cons (s_iconst at_226 rfl) ?_
  refine allC_cons (s_irem at_227) ?_
  refine allC_cons (s_istore at_228) ?_
  refine allC_cons (s_iload at_230) ?_
  refine allC_cons (s_if at_232 (by decide) (by decide)) ?_
  refine allC_cons (s_iconst at_235 rfl) ?_
  refine allC_cons (s_newA (k := 0) at_236 (hw _ (List.mem_of_getElem? (i := 4) rfl)) rfl rfl) ?_
  refine allC_cons (s_dup at_238) ?_
  refine allC_cons (s_iconst at_239 rfl) ?_
  refine allC_cons (s_iconst at_240 rfl) ?_
  refine allC_cons (s_iastore (k := 0) hX at_241 rfl) ?_
  refine allC_cons (s_dup at_242) ?_
  refine allC_cons (s_iconst at_243 rfl) ?_
  refine allC_cons (s_iconst at_244 rfl) ?_
  refine allC_cons (s_iastore (k := 0) hX at_245 rfl) ?_
  refine allC_cons (s_goto at_246 (by decide) (by decide)) ?_
  refine allC_cons (s_iconst at_249 rfl) ?_
  refine allC_cons (s_newA (k := 0) at_250 (hw _ (List.mem_of_getElem? (i := 4) rfl)) rfl rfl) ?_
  refine allC_cons (s_dup at_252) ?_
  refine allC_cons (s_iconst at_253 rfl) ?_
  refine allC_cons (s_iconst at_254 rfl) ?_
  refine allC_cons (s_iastore (k := 0) hX at_255 rfl) ?_
  refine allC_cons (s_astore at_256) ?_
  refine allC_cons (s_iload at_258) ?_
  refine allC_cons (s_if at_260 (by decide) (by decide)) ?_
  refine allC_cons (s_iconst at_263 rfl) ?_
  refine allC_cons (s_newA (k := 0) at_264 (hw _ (List.mem_of_getElem? (i := 4) rfl)) rfl rfl) ?_
  refine allC_cons (s_dup at_266) ?_
  refine allC_cons (s_iconst at_267 rfl) ?_
  refine allC_cons (s_aload at_268) ?_
  refine allC_cons (s_iload at_270) ?_
  refine allC_cons (s_iaload (k := 0) at_272 rfl) ?_
  refine allC_cons (s_iastore (k := 0) hX at_273 rfl) ?_
  refine allC_cons (s_dup at_274) ?_
  refine allC_cons (s_iconst at_275 rfl) ?_
  refine allC_cons (s_iload at_276) ?_
  refine allC_cons (s_iastore (k := 0) hX at_278 rfl) ?_
  refine allC_cons (s_goto at_279 (by decide) (by decide)) ?_
  refine allC_cons (s_iconst at_282 rfl) ?_
  refine allC_cons (s_newA (k := 0) at_283 (hw _ (List.mem_of_getElem? (i := 4) rfl)) rfl rfl) ?_
  refine allC_cons (s_dup at_285) ?_
  refine allC_cons (s_iconst at_286 rfl) ?_
  refine allC_cons (s_aload at_287) ?_
  refine allC_cons (s_iload at_289) ?_
  refine allC_cons (s_iaload (k := 0) at_291 rfl) ?_
  refine allC_cons (s_iastore (k := 0) hX at_292 rfl) ?_
  refine allC_cons (s_astore at_293) ?_
  refine allC_cons (s_new (k := 5) at_295 (hw _ (List.mem_of_getElem? (i := 9) rfl)) (hw _ (List.mem_of_getElem? (i := 10) rfl)) (hw _ (List.mem_of_getElem? (i := 11) rfl)) rfl (lay5 a0 Z hw) rfl) ?_
  refine allC_cons (s_dup at_298) ?_
  refine allC_cons (s_iconst at_299 rfl) ?_
  refine allC_cons (s_special (Mc := M3) at_300 rfl rfl rfl (hw _ (List.mem_of_getElem? (i := 12) rfl)) (hw _ (List.mem_of_getElem? (i := 13) rfl)) (hw _ (List.mem_of_getElem? (i := 11) rfl)) (hw _ (List.mem_of_getElem? (i := 14) rfl)) pd_2 rfl (by decide) (by decide) (by decide)) ?_
  refine allC_cons (s_astore at_303) ?_
  refine allC_cons (s_aload at_305) ?_
  refine allC_cons (s_aload at_307) ?_
  refine allC_cons (s_iload at_309) ?_
  refine allC_cons (s_virtual (Mc := M8) (k := 5) at_311 rfl rfl (hw _ (List.mem_of_getElem? (i := 57) rfl)) (hw _ (List.mem_of_getElem? (i := 58) rfl)) (hw _ (List.mem_of_getElem? (i := 60) rfl)) (fun s hZ => notFace_of_selects (args := #[]) (mvT hZ (hw _ (List.mem_of_getElem? (i := 60) rfl)))) (hw _ (List.mem_of_getElem? (i := 59) rfl)) (hw _ (List.mem_of_getElem? (i := 11) rfl)) (hw _ (List.mem_of_getElem? (i := 61) rfl)) pd_3 rfl (by decide) (by decide) (by decide)) ?_
  refine allC_cons (s_aload at_314) ?_
  refine allC_cons (s_aload at_316) ?_
  refine allC_cons (s_virtual (Mc := M12) (k := 5) at_318 rfl rfl (hw _ (List.mem_of_getElem? (i := 89) rfl)) (hw _ (List.mem_of_getElem? (i := 90) rfl)) (hw _ (List.mem_of_getElem? (i := 92) rfl)) (fun s hZ => notFace_of_selects (args := #[]) (mvT hZ (hw _ (List.mem_of_getElem? (i := 92) rfl)))) (hw _ (List.mem_of_getElem? (i := 91) rfl)) (hw _ (List.mem_of_getElem? (i := 11) rfl)) (hw _ (List.mem_of_getElem? (i := 93) rfl)) pd_4 rfl (by decide) (by decide) (by decide)) ?_
  refine allC_cons (s_astore at_321) ?_
  refine allC_cons (s_aload at_323) ?_
  refine allC_cons (s_aload at_325) ?_
  refine allC_cons (s_iconst at_327 rfl) ?_
  refine allC_cons (s_iload at_328) ?_
  refine allC_cons (s_isub at_330) ?_
  refine allC_cons (s_virtual (Mc := M8) (k := 5) at_331 rfl rfl (hw _ (List.mem_of_getElem? (i := 57) rfl)) (hw _ (List.mem_of_getElem? (i := 58) rfl)) (hw _ (List.mem_of_getElem? (i := 60) rfl)) (fun s hZ => notFace_of_selects (args := #[]) (mvT hZ (hw _ (List.mem_of_getElem? (i := 60) rfl)))) (hw _ (List.mem_of_getElem? (i := 59) rfl)) (hw _ (List.mem_of_getElem? (i := 11) rfl)) (hw _ (List.mem_of_getElem? (i := 61) rfl)) pd_3 rfl (by decide) (by decide) (by decide)) ?_
  refine allC_cons (s_aload at_334) ?_
  refine allC_cons (s_aload at_336) ?_
  refine allC_cons (s_virtual (Mc := M35) (k := 8) at_338 rfl rfl (hw _ (List.mem_of_getElem? (i := 273) rfl)) (hw _ (List.mem_of_getElem? (i := 274) rfl)) (hw _ (List.mem_of_getElem? (i := 276) rfl)) (fun s hZ => notFace_of_selects (args := #[]) (mvT hZ (hw _ (List.mem_of_getElem? (i := 276) rfl)))) (hw _ (List.mem_of_getElem? (i := 275) rfl)) (hw _ (List.mem_of_getElem? (i := 132) rfl)) (hw _ (List.mem_of_getElem? (i := 277) rfl)) pd_5 rfl (by decide) (by decide) (by decide)) ?_
  refine allC_cons (s_istore at_341) ?_
  refine allC_cons (s_iload at_343) ?_
  refine allC_cons (s_if at_345 (by decide) (by decide)) ?_
  refine allC_cons (s_iconst at_348 rfl) ?_
  refine allC_cons (s_retI at_349 rfl (by simp)) ?_
  refine allC_cons (s_iload at_350) ?_
  refine allC_cons (s_if at_352 (by decide) (by decide)) ?_
  refine allC_cons (s_aload at_355) ?_
  refine allC_cons (s_iload at_357) ?_
  refine allC_cons (s_iconst at_359 rfl) ?_
  refine allC_cons (s_virtual (Mc := M36) (k := 8) at_360 rfl rfl (hw _ (List.mem_of_getElem? (i := 278) rfl)) (hw _ (List.mem_of_getElem? (i := 279) rfl)) (hw _ (List.mem_of_getElem? (i := 281) rfl)) (fun s hZ => notFace_of_selects (args := #[]) (mvT hZ (hw _ (List.mem_of_getElem? (i := 281) rfl)))) (hw _ (List.mem_of_getElem? (i := 280) rfl)) (hw _ (List.mem_of_getElem? (i := 132) rfl)) (hw _ (List.mem_of_getElem? (i := 282) rfl)) pd_6 rfl (by decide) (by decide) (by decide)) ?_
  refine allC_cons (s_iload at_363) ?_
  refine allC_cons (s_icmp at_365 (by decide) (by decide)) ?_
  refine allC_cons (s_iconst at_368 rfl) ?_
  refine allC_cons (s_goto at_369 (by decide) (by decide)) ?_
  refine allC_cons (s_iconst at_372 rfl) ?_
  refine allC_cons (s_retI at_373 rfl (by simp)) ?_
  refine allC_cons (s_aload at_374) ?_
  refine allC_cons (s_iload at_376) ?_
  refine allC_cons (s_iaload (k := 0) at_378 rfl) ?_
  refine allC_cons (s_istore at_379) ?_
  refine allC_cons (s_iload at_381) ?_
  refine allC_cons (s_iload at_383) ?_
  refine allC_cons (s_icmp at_385 (by decide) (by decide)) ?_
  refine allC_cons (s_iconst at_388 rfl) ?_
  refine allC_cons (s_goto at_389 (by decide) (by decide)) ?_
  refine allC_cons (s_iconst at_392 rfl) ?_
  refine allC_cons (s_istore at_393) ?_
  refine allC_cons (s_iload at_395) ?_
  refine allC_cons (s_iload at_397) ?_
  refine allC_cons (s_icmp at_399 (by decide) (by decide)) ?_
  refine allC_cons (s_iconst at_402 rfl) ?_
  refine allC_cons (s_goto at_403 (by decide) (by decide)) ?_
  refine allC_cons (s_iconst at_406 rfl) ?_
  refine allC_cons (s_istore at_407) ?_
  refine allC_cons (s_iload at_409) ?_
  refine allC_cons (s_iload at_411) ?_
  refine allC_cons (s_icmp at_413 (by decide) (by decide)) ?_
  refine allC_cons (s_iconst at_416 rfl) ?_
  refine allC_cons (s_goto at_417 (by decide) (by decide)) ?_
  refine allC_cons (s_iconst at_420 rfl) ?_
  refine allC_cons (s_istore at_421) ?_
  refine allC_cons (s_iload at_423) ?_
  refine allC_cons (s_iload at_425) ?_
  refine allC_cons (s_icmp at_427 (by decide) (by decide)) ?_
  refine allC_cons (s_iconst at_430 rfl) ?_
  refine allC_cons (s_goto at_431 (by decide) (by decide)) ?_
  refine allC_cons (s_iconst at_434 rfl) ?_
  refine allC_cons (s_istore at_435) ?_
  refine allC_cons (s_iload at_437) ?_
  refine allC_cons (s_iload at_439) ?_
  refine allC_cons (s_icmp at_441 (by decide) (by decide)) ?_
  refine allC_cons (s_iconst at_444 rfl) ?_
  refine allC_cons (s_goto at_445 (by decide) (by decide)) ?_
  refine allC_cons (s_iconst at_448 rfl) ?_
  refine allC_cons (s_istore at_449) ?_
  refine allC_cons (s_iload at_451) ?_
  refine allC_cons (s_if at_453 (by decide) (by decide)) ?_
  refine allC_cons (s_iconst at_456 rfl) ?_
  refine allC_cons (s_goto at_457 (by decide) (by decide)) ?_
  refine allC_cons (s_iconst at_460 rfl) ?_
  refine allC_cons (s_iload at_461) ?_
  refine allC_cons (s_if at_463 (by decide) (by decide)) ?_
  refine allC_cons (s_iconst at_466 rfl) ?_
  refine allC_cons (s_goto at_467 (by decide) (by decide)) ?_
  refine allC_cons (s_iconst at_470 rfl) ?_
  refine allC_cons (s_iadd at_471) ?_
  refine allC_cons (s_iload at_472) ?_
  refine allC_cons (s_if at_474 (by decide) (by decide)) ?_
  refine allC_cons (s_iconst at_477 rfl) ?_
  refine allC_cons (s_goto at_478 (by decide) (by decide)) ?_
  refine allC_cons (s_iconst at_481 rfl) ?_
  refine allC_cons (s_iadd at_482) ?_
  refine allC_cons (s_iload at_483) ?_
  refine allC_cons (s_if at_485 (by decide) (by decide)) ?_
  refine allC_cons (s_iconst at_488 rfl) ?_
  refine allC_cons (s_goto at_489 (by decide) (by decide)) ?_
  refine allC_cons (s_iconst at_492 rfl) ?_
  refine allC_cons (s_iadd at_493) ?_
  refine allC_cons (s_iload at_494) ?_
  refine allC_cons (s_if at_496 (by decide) (by decide)) ?_
  refine allC_cons (s_iconst at_499 rfl) ?_
  refine allC_cons (s_goto at_500 (by decide) (by decide)) ?_
  refine allC_cons (s_iconst at_503 rfl) ?_
  refine allC_cons (s_iadd at_504) ?_
  refine allC_cons (s_istore at_505) ?_
  refine allC_cons (s_iload at_507) ?_
  refine allC_cons (s_ldcInt at_509 (hw _ (List.mem_of_getElem? (i := 8) rfl))) ?_
  refine allC_cons (s_iand at_511) ?_
  refine allC_cons (s_iload at_512) ?_
  refine allC_cons (s_irem at_514) ?_
  refine allC_cons (s_istore at_515) ?_
  refine allC_cons (s_aload at_517) ?_
  refine allC_cons (s_iload at_519) ?_
  refine allC_cons (s_iload at_521) ?_
  refine allC_cons (s_virtual (Mc := M36) (k := 8) at_523 rfl rfl (hw _ (List.mem_of_getElem? (i := 278) rfl)) (hw _ (List.mem_of_getElem? (i := 279) rfl)) (hw _ (List.mem_of_getElem? (i := 281) rfl)) (fun s hZ => notFace_of_selects (args := #[]) (mvT hZ (hw _ (List.mem_of_getElem? (i := 281) rfl)))) (hw _ (List.mem_of_getElem? (i := 280) rfl)) (hw _ (List.mem_of_getElem? (i := 132) rfl)) (hw _ (List.mem_of_getElem? (i := 282) rfl)) pd_6 rfl (by decide) (by decide) (by decide)) ?_
  refine allC_cons (s_iload at_526) ?_
  refine allC_cons (s_iload at_528) ?_
  refine allC_cons (s_iload at_530) ?_
  refine allC_cons (s_iload at_532) ?_
  refine allC_cons (s_iload at_534) ?_
  refine allC_cons (s_iload at_536) ?_
  refine allC_cons (s_callS (Mc := M37) at_538 rfl (hw _ (List.mem_of_getElem? (i := 283) rfl)) (hw _ (List.mem_of_getElem? (i := 284) rfl)) (hw _ (List.mem_of_getElem? (i := 2) rfl)) (hw _ (List.mem_of_getElem? (i := 285) rfl)) pd_7 rfl (by decide) (by decide) (by decide)) ?_
  refine allC_cons (s_icmp at_541 (by decide) (by decide)) ?_
  refine allC_cons (s_iconst at_544 rfl) ?_
  refine allC_cons (s_goto at_545 (by decide) (by decide)) ?_
  refine allC_cons (s_iconst at_548 rfl) ?_
  refine allC_cons (s_retI at_549 rfl (by simp)) ?_
  exact allC_nil
theorem pl0 : plainFor M0.1 = true := by first | exact plainFor_of_name (by first | (simp [M0, x, plainName, overriddenIn]; done) | decide +kernel) | decide +kernel
set_option maxRecDepth 65536 in
set_option maxHeartbeats 4000000 in
theorem snd1 (l : Launch) (a0 : Array Value) (Z : State) (hw : ∀ d ∈ tables_1, d.before a0 Z = true) (aN aD : Addr) (hXX : ∀ a ∈ [aN, aD], a < Z.heap.size) (sN : Sta Z Z.heap "com/example/predicat/predicat/kernel/Index" "NO_TUPLES" "[I" (.ref aN)) (sD : Sta Z Z.heap "java/util/ArrayList" "DEFAULTCAPACITY_EMPTY_ELEMENTDATA" "[Ljava/lang/Object;" (.ref aD)): ∀ q ∈ c1, Sound Z [aN, aD] CT l MT M1 q.1 q.2 := by
  have hX : ∀ a ∈ ([aN, aD] : List Addr), a < Z.heap.size := hXX
  have hxl : ∀ i j, i ≠ j → (2 ≤ i ∨ 2 ≤ j) → ph Z [aN, aD] i ≠ ph Z [aN, aD] j := fun i j hij hi => ph_ne hX hij hi
  refine allC_mem (P := Sound Z [aN, aD] CT l MT M1) ?_
  unfold c1
  refine allC_cons (s_iloadN d1_0 rfl) ?_
  refine allC_cons (s_iloadN d1_1 rfl) ?_
  refine allC_cons (s_iushr d1_2) ?_
  refine allC_cons (s_iconst d1_3 rfl) ?_
  refine allC_cons (s_iand d1_4) ?_
  refine allC_cons (s_istore d1_5) ?_
  refine allC_cons (s_iload d1_7) ?_
  refine allC_cons (s_iconst d1_9 rfl) ?_
  refine allC_cons (s_icmp d1_10 (by decide) (by decide)) ?_
  refine allC_cons (s_iloadN d1_13 rfl) ?_
  refine allC_cons (s_retI d1_14 rfl (by simp)) ?_
  refine allC_cons (s_iload d1_15) ?_
  refine allC_cons (s_iconst d1_17 rfl) ?_
  refine allC_cons (s_icmp d1_18 (by decide) (by decide)) ?_
  refine allC_cons (s_iload d1_21) ?_
  refine allC_cons (s_retI d1_23 rfl (by simp)) ?_
  refine allC_cons (s_iloadN d1_24 rfl) ?_
  refine allC_cons (s_retI d1_25 rfl (by simp)) ?_
  exact allC_nil
theorem pl1 : plainFor M1.1 = true := by first | exact plainFor_of_name (by first | (simp [M1, x, plainName, overriddenIn]; done) | decide +kernel) | decide +kernel
set_option maxRecDepth 65536 in
set_option maxHeartbeats 4000000 in
theorem snd2 (l : Launch) (a0 : Array Value) (Z : State) (hw : ∀ d ∈ tables_1, d.before a0 Z = true) (aN aD : Addr) (hXX : ∀ a ∈ [aN, aD], a < Z.heap.size) (sN : Sta Z Z.heap "com/example/predicat/predicat/kernel/Index" "NO_TUPLES" "[I" (.ref aN)) (sD : Sta Z Z.heap "java/util/ArrayList" "DEFAULTCAPACITY_EMPTY_ELEMENTDATA" "[Ljava/lang/Object;" (.ref aD)): ∀ q ∈ c2, Sound Z [aN, aD] CT l MT M2 q.1 q.2 := by
  have hX : ∀ a ∈ ([aN, aD] : List Addr), a < Z.heap.size := hXX
  have hxl : ∀ i j, i ≠ j → (2 ≤ i ∨ 2 ≤ j) → ph Z [aN, aD] i ≠ ph Z [aN, aD] j := fun i j hij hi => ph_ne hX hij hi
  refine allC_mem (P := Sound Z [aN, aD] CT l MT M2) ?_
  unfold c2
  refine allC_cons (s_iloadN d2_0 rfl) ?_
  refine allC_cons (s_iloadN d2_1 rfl) ?_
  refine allC_cons (s_iadd d2_2) ?_
  refine allC_cons (s_istore d2_3) ?_
  refine allC_cons (s_iload d2_5) ?_
  refine allC_cons (s_iconst d2_7 rfl) ?_
  refine allC_cons (s_icmp d2_8 (by decide) (by decide)) ?_
  refine allC_cons (s_aloadN d2_11 rfl) ?_
  refine allC_cons (s_iconst d2_12 rfl) ?_
  refine allC_cons (s_iloadN d2_13 rfl) ?_
  refine allC_cons (s_imul d2_14) ?_
  refine allC_cons (s_aloadN d2_15 rfl) ?_
  refine allC_cons (s_iload d2_16) ?_
  refine allC_cons (s_iaload (k := 0) d2_18 rfl) ?_
  refine allC_cons (s_iastore (k := 0) hX d2_19 rfl) ?_
  refine allC_cons (s_aloadN d2_20 rfl) ?_
  refine allC_cons (s_iconst d2_21 rfl) ?_
  refine allC_cons (s_iloadN d2_22 rfl) ?_
  refine allC_cons (s_imul d2_23) ?_
  refine allC_cons (s_iconst d2_24 rfl) ?_
  refine allC_cons (s_iadd d2_25) ?_
  refine allC_cons (s_iload d2_26) ?_
  refine allC_cons (s_iastore (k := 0) hX d2_28 rfl) ?_
  refine allC_cons (s_ret d2_29 rfl) ?_
  exact allC_nil
theorem pl2 : plainFor M2.1 = true := by first | exact plainFor_of_name (by first | (simp [M2, x, plainName, overriddenIn]; done) | decide +kernel) | decide +kernel
set_option maxRecDepth 65536 in
set_option maxHeartbeats 4000000 in
theorem snd3 (l : Launch) (a0 : Array Value) (Z : State) (hw : ∀ d ∈ tables_1, d.before a0 Z = true) (aN aD : Addr) (hXX : ∀ a ∈ [aN, aD], a < Z.heap.size) (sN : Sta Z Z.heap "com/example/predicat/predicat/kernel/Index" "NO_TUPLES" "[I" (.ref aN)) (sD : Sta Z Z.heap "java/util/ArrayList" "DEFAULTCAPACITY_EMPTY_ELEMENTDATA" "[Ljava/lang/Object;" (.ref aD)): ∀ q ∈ c3, Sound Z [aN, aD] CT l MT M3 q.1 q.2 := by
  have hX : ∀ a ∈ ([aN, aD] : List Addr), a < Z.heap.size := hXX
  have hxl : ∀ i j, i ≠ j → (2 ≤ i ∨ 2 ≤ j) → ph Z [aN, aD] i ≠ ph Z [aN, aD] j := fun i j hij hi => ph_ne hX hij hi
  refine allC_mem (P := Sound Z [aN, aD] CT l MT M3) ?_
  unfold c3
  refine allC_cons (s_aloadN d3_0 rfl) ?_
  refine allC_cons (s_init0 d3_1 (hw _ (List.mem_of_getElem? (i := 15) rfl)) (hw _ (List.mem_of_getElem? (i := 16) rfl)) (hw _ (List.mem_of_getElem? (i := 17) rfl)) (by decide) (by decide)) ?_
  refine allC_cons (s_aloadN d3_4 rfl) ?_
  refine allC_cons (s_new (k := 6) d3_5 (hw _ (List.mem_of_getElem? (i := 18) rfl)) (hw _ (List.mem_of_getElem? (i := 19) rfl)) (hw _ (List.mem_of_getElem? (i := 20) rfl)) rfl (lay6 a0 Z hw) rfl) ?_
  refine allC_cons (s_dup d3_8) ?_
  refine allC_cons (s_special (Mc := M4) d3_9 rfl rfl rfl (hw _ (List.mem_of_getElem? (i := 21) rfl)) (hw _ (List.mem_of_getElem? (i := 22) rfl)) (hw _ (List.mem_of_getElem? (i := 20) rfl)) (hw _ (List.mem_of_getElem? (i := 23) rfl)) pd_8 rfl (by decide) (by decide) (by decide)) ?_
  refine allC_cons (s_putF (k := 5) (pos := 0) hX d3_12 (hw _ (List.mem_of_getElem? (i := 42) rfl)) Via.refl rfl rfl (lay5 a0 Z hw) nd5 (hw _ (List.mem_of_getElem? (i := 10) rfl)) (Or.inr ⟨(hw _ (List.mem_of_getElem? (i := 43) rfl)), rfl, rfl⟩)) ?_
  refine allC_cons (s_aloadN d3_15 rfl) ?_
  refine allC_cons (s_iconst d3_16 rfl) ?_
  refine allC_cons (s_newA (k := 3) d3_17 (hw _ (List.mem_of_getElem? (i := 44) rfl)) rfl rfl) ?_
  refine allC_cons (s_putF (k := 5) (pos := 1) hX d3_19 (hw _ (List.mem_of_getElem? (i := 45) rfl)) Via.refl rfl rfl (lay5 a0 Z hw) nd5 (hw _ (List.mem_of_getElem? (i := 10) rfl)) (Or.inl (hw _ (List.mem_of_getElem? (i := 46) rfl)))) ?_
  refine allC_cons (s_aloadN d3_22 rfl) ?_
  refine allC_cons (s_iloadN d3_23 rfl) ?_
  refine allC_cons (s_putF (k := 5) (pos := 2) hX d3_24 (hw _ (List.mem_of_getElem? (i := 47) rfl)) Via.refl rfl rfl (lay5 a0 Z hw) nd5 (hw _ (List.mem_of_getElem? (i := 10) rfl)) (Or.inr ⟨(hw _ (List.mem_of_getElem? (i := 48) rfl)), rfl, rfl⟩)) ?_
  refine allC_cons (s_aloadN d3_27 rfl) ?_
  refine allC_cons (s_bipush d3_28 rfl) ?_
  refine allC_cons (s_iloadN d3_30 rfl) ?_
  refine allC_cons (s_bipush d3_31 rfl) ?_
  refine allC_cons (s_imul d3_33) ?_
  refine allC_cons (s_callS (Mc := M7) d3_34 rfl (hw _ (List.mem_of_getElem? (i := 49) rfl)) (hw _ (List.mem_of_getElem? (i := 50) rfl)) (hw _ (List.mem_of_getElem? (i := 51) rfl)) (hw _ (List.mem_of_getElem? (i := 52) rfl)) pd_6 rfl (by decide) (by decide) (by decide)) ?_
  refine allC_cons (s_newA (k := 0) d3_37 (hw _ (List.mem_of_getElem? (i := 4) rfl)) rfl rfl) ?_
  refine allC_cons (s_putF (k := 5) (pos := 3) hX d3_39 (hw _ (List.mem_of_getElem? (i := 53) rfl)) Via.refl rfl rfl (lay5 a0 Z hw) nd5 (hw _ (List.mem_of_getElem? (i := 10) rfl)) (Or.inl (hw _ (List.mem_of_getElem? (i := 54) rfl)))) ?_
  refine allC_cons (s_aloadN d3_42 rfl) ?_
  refine allC_cons (s_iloadN d3_43 rfl) ?_
  refine allC_cons (s_newA (k := 0) d3_44 (hw _ (List.mem_of_getElem? (i := 4) rfl)) rfl rfl) ?_
  refine allC_cons (s_putF (k := 5) (pos := 4) hX d3_46 (hw _ (List.mem_of_getElem? (i := 55) rfl)) Via.refl rfl rfl (lay5 a0 Z hw) nd5 (hw _ (List.mem_of_getElem? (i := 10) rfl)) (Or.inr ⟨(hw _ (List.mem_of_getElem? (i := 56) rfl)), rfl, rfl⟩)) ?_
  refine allC_cons (s_iconst d3_49 rfl) ?_
  refine allC_cons (s_istoreN d3_50 rfl) ?_
  refine allC_cons (s_iloadN d3_51 rfl) ?_
  refine allC_cons (s_iloadN d3_52 rfl) ?_
  refine allC_cons (s_icmp d3_53 (by decide) (by decide)) ?_
  refine allC_cons (s_aloadN d3_56 rfl) ?_
  refine allC_cons (s_getF (k := 5) (pos := 4) d3_57 (host := "") (Or.inl (hw _ (List.mem_of_getElem? (i := 55) rfl))) Via.refl rfl rfl) ?_
  refine allC_cons (s_iloadN d3_60 rfl) ?_
  refine allC_cons (s_iloadN d3_61 rfl) ?_
  refine allC_cons (s_iastore (k := 0) hX d3_62 rfl) ?_
  refine allC_cons (s_iinc d3_63 rfl) ?_
  refine allC_cons (s_goto d3_66 (by decide) (by decide)) ?_
  refine allC_cons (s_ret d3_69 rfl) ?_
  exact allC_nil
theorem pl3 : plainFor M3.1 = true := by first | exact plainFor_of_name (by first | (simp [M3, x, plainName, overriddenIn]; done) | decide +kernel) | decide +kernel
set_option maxRecDepth 65536 in
set_option maxHeartbeats 4000000 in
theorem snd4 (l : Launch) (a0 : Array Value) (Z : State) (hw : ∀ d ∈ tables_1, d.before a0 Z = true) (aN aD : Addr) (hXX : ∀ a ∈ [aN, aD], a < Z.heap.size) (sN : Sta Z Z.heap "com/example/predicat/predicat/kernel/Index" "NO_TUPLES" "[I" (.ref aN)) (sD : Sta Z Z.heap "java/util/ArrayList" "DEFAULTCAPACITY_EMPTY_ELEMENTDATA" "[Ljava/lang/Object;" (.ref aD)): ∀ q ∈ c4, Sound Z [aN, aD] CT l MT M4 q.1 q.2 := by
  have hX : ∀ a ∈ ([aN, aD] : List Addr), a < Z.heap.size := hXX
  have hxl : ∀ i j, i ≠ j → (2 ≤ i ∨ 2 ≤ j) → ph Z [aN, aD] i ≠ ph Z [aN, aD] j := fun i j hij hi => ph_ne hX hij hi
  refine allC_mem (P := Sound Z [aN, aD] CT l MT M4) ?_
  unfold c4
  refine allC_cons (s_aloadN d4_0 rfl) ?_
  refine allC_cons (s_special (Mc := M5) d4_1 rfl rfl rfl (hw _ (List.mem_of_getElem? (i := 24) rfl)) (hw _ (List.mem_of_getElem? (i := 25) rfl)) (hw _ (List.mem_of_getElem? (i := 28) rfl)) (hw _ (List.mem_of_getElem? (i := 29) rfl)) pd_8 rfl (by decide) (by decide) (by decide)) ?_
  refine allC_cons (s_aloadN d4_4 rfl) ?_
  refine allC_cons (s_getS d4_5 (host := "") (Or.inl (hw _ (List.mem_of_getElem? (i := 39) rfl))) Via.refl sD) ?_
  refine allC_cons (s_putF (k := 6) (pos := 1) hX d4_8 (hw _ (List.mem_of_getElem? (i := 40) rfl)) Via.refl rfl rfl (lay6 a0 Z hw) nd6 (hw _ (List.mem_of_getElem? (i := 19) rfl)) (Or.inl (hw _ (List.mem_of_getElem? (i := 41) rfl)))) ?_
  refine allC_cons (s_ret d4_11 rfl) ?_
  exact allC_nil
theorem pl4 : plainFor M4.1 = true := by first | exact plainFor_of_name (by first | (simp [M4, x, plainName, overriddenIn]; done) | decide +kernel) | decide +kernel
set_option maxRecDepth 65536 in
set_option maxHeartbeats 4000000 in
theorem snd5 (l : Launch) (a0 : Array Value) (Z : State) (hw : ∀ d ∈ tables_1, d.before a0 Z = true) (aN aD : Addr) (hXX : ∀ a ∈ [aN, aD], a < Z.heap.size) (sN : Sta Z Z.heap "com/example/predicat/predicat/kernel/Index" "NO_TUPLES" "[I" (.ref aN)) (sD : Sta Z Z.heap "java/util/ArrayList" "DEFAULTCAPACITY_EMPTY_ELEMENTDATA" "[Ljava/lang/Object;" (.ref aD)): ∀ q ∈ c5, Sound Z [aN, aD] CT l MT M5 q.1 q.2 := by
  have hX : ∀ a ∈ ([aN, aD] : List Addr), a < Z.heap.size := hXX
  have hxl : ∀ i j, i ≠ j → (2 ≤ i ∨ 2 ≤ j) → ph Z [aN, aD] i ≠ ph Z [aN, aD] j := fun i j hij hi => ph_ne hX hij hi
  refine allC_mem (P := Sound Z [aN, aD] CT l MT M5) ?_
  unfold c5
  refine allC_cons (s_aloadN d5_0 rfl) ?_
  refine allC_cons (s_special (Mc := M6) d5_1 rfl rfl rfl (hw _ (List.mem_of_getElem? (i := 30) rfl)) (hw _ (List.mem_of_getElem? (i := 31) rfl)) (hw _ (List.mem_of_getElem? (i := 34) rfl)) (hw _ (List.mem_of_getElem? (i := 35) rfl)) pd_8 rfl (by decide) (by decide) (by decide)) ?_
  refine allC_cons (s_aloadN d5_4 rfl) ?_
  refine allC_cons (s_iconst d5_5 rfl) ?_
  refine allC_cons (s_putF (k := 6) (pos := 0) hX d5_6 (hw _ (List.mem_of_getElem? (i := 37) rfl)) Via.refl rfl rfl (lay6 a0 Z hw) nd6 (hw _ (List.mem_of_getElem? (i := 19) rfl)) (Or.inl (hw _ (List.mem_of_getElem? (i := 38) rfl)))) ?_
  refine allC_cons (s_ret d5_9 rfl) ?_
  exact allC_nil
theorem pl5 : plainFor M5.1 = true := by first | exact plainFor_of_name (by first | (simp [M5, x, plainName, overriddenIn]; done) | decide +kernel) | decide +kernel
set_option maxRecDepth 65536 in
set_option maxHeartbeats 4000000 in
theorem snd6 (l : Launch) (a0 : Array Value) (Z : State) (hw : ∀ d ∈ tables_1, d.before a0 Z = true) (aN aD : Addr) (hXX : ∀ a ∈ [aN, aD], a < Z.heap.size) (sN : Sta Z Z.heap "com/example/predicat/predicat/kernel/Index" "NO_TUPLES" "[I" (.ref aN)) (sD : Sta Z Z.heap "java/util/ArrayList" "DEFAULTCAPACITY_EMPTY_ELEMENTDATA" "[Ljava/lang/Object;" (.ref aD)): ∀ q ∈ c6, Sound Z [aN, aD] CT l MT M6 q.1 q.2 := by
  have hX : ∀ a ∈ ([aN, aD] : List Addr), a < Z.heap.size := hXX
  have hxl : ∀ i j, i ≠ j → (2 ≤ i ∨ 2 ≤ j) → ph Z [aN, aD] i ≠ ph Z [aN, aD] j := fun i j hij hi => ph_ne hX hij hi
  refine allC_mem (P := Sound Z [aN, aD] CT l MT M6) ?_
  unfold c6
  refine allC_cons (s_aloadN d6_0 rfl) ?_
  refine allC_cons (s_init0 d6_1 (hw _ (List.mem_of_getElem? (i := 36) rfl)) (hw _ (List.mem_of_getElem? (i := 16) rfl)) (hw _ (List.mem_of_getElem? (i := 17) rfl)) (by decide) (by decide)) ?_
  refine allC_cons (s_ret d6_4 rfl) ?_
  exact allC_nil
theorem pl6 : plainFor M6.1 = true := by first | exact plainFor_of_name (by first | (simp [M6, x, plainName, overriddenIn]; done) | decide +kernel) | decide +kernel
set_option maxRecDepth 65536 in
set_option maxHeartbeats 4000000 in
theorem snd7 (l : Launch) (a0 : Array Value) (Z : State) (hw : ∀ d ∈ tables_1, d.before a0 Z = true) (aN aD : Addr) (hXX : ∀ a ∈ [aN, aD], a < Z.heap.size) (sN : Sta Z Z.heap "com/example/predicat/predicat/kernel/Index" "NO_TUPLES" "[I" (.ref aN)) (sD : Sta Z Z.heap "java/util/ArrayList" "DEFAULTCAPACITY_EMPTY_ELEMENTDATA" "[Ljava/lang/Object;" (.ref aD)): ∀ q ∈ c7, Sound Z [aN, aD] CT l MT M7 q.1 q.2 := by
  have hX : ∀ a ∈ ([aN, aD] : List Addr), a < Z.heap.size := hXX
  have hxl : ∀ i j, i ≠ j → (2 ≤ i ∨ 2 ≤ j) → ph Z [aN, aD] i ≠ ph Z [aN, aD] j := fun i j hij hi => ph_ne hX hij hi
  refine allC_mem (P := Sound Z [aN, aD] CT l MT M7) ?_
  unfold c7
  refine allC_cons (s_iloadN d7_0 rfl) ?_
  refine allC_cons (s_iloadN d7_1 rfl) ?_
  refine allC_cons (s_icmp d7_2 (by decide) (by decide)) ?_
  refine allC_cons (s_iloadN d7_5 rfl) ?_
  refine allC_cons (s_goto d7_6 (by decide) (by decide)) ?_
  refine allC_cons (s_iloadN d7_9 rfl) ?_
  refine allC_cons (s_retI d7_10 rfl (by simp)) ?_
  exact allC_nil
theorem pl7 : plainFor M7.1 = true := by first | exact plainFor_of_name (by first | (simp [M7, x, plainName, overriddenIn]; done) | decide +kernel) | decide +kernel
set_option maxRecDepth 65536 in
set_option maxHeartbeats 4000000 in
theorem snd8 (l : Launch) (a0 : Array Value) (Z : State) (hw : ∀ d ∈ tables_1, d.before a0 Z = true) (aN aD : Addr) (hXX : ∀ a ∈ [aN, aD], a < Z.heap.size) (sN : Sta Z Z.heap "com/example/predicat/predicat/kernel/Index" "NO_TUPLES" "[I" (.ref aN)) (sD : Sta Z Z.heap "java/util/ArrayList" "DEFAULTCAPACITY_EMPTY_ELEMENTDATA" "[Ljava/lang/Object;" (.ref aD)): ∀ q ∈ c8, Sound Z [aN, aD] CT l MT M8 q.1 q.2 := by
  have hX : ∀ a ∈ ([aN, aD] : List Addr), a < Z.heap.size := hXX
  have hxl : ∀ i j, i ≠ j → (2 ≤ i ∨ 2 ≤ j) → ph Z [aN, aD] i ≠ ph Z [aN, aD] j := fun i j hij hi => ph_ne hX hij hi
  refine allC_mem (P := Sound Z [aN, aD] CT l MT M8) ?_
  unfold c8
  refine allC_cons (s_aloadN d8_0 rfl) ?_
  refine allC_cons (s_iloadN d8_1 rfl) ?_
  refine allC_cons (s_private2 (Mc := M9) (k := 5) d8_2 rfl rfl (hw _ (List.mem_of_getElem? (i := 62) rfl)) (hw _ (List.mem_of_getElem? (i := 63) rfl)) (hw _ (List.mem_of_getElem? (i := 10) rfl)) (hw _ (List.mem_of_getElem? (i := 64) rfl)) (hw _ (List.mem_of_getElem? (i := 11) rfl)) (hw _ (List.mem_of_getElem? (i := 65) rfl)) pd_2 rfl (by decide) (by decide) (by decide)) ?_
  refine allC_cons (s_aloadN d8_5 rfl) ?_
  refine allC_cons (s_getF (k := 5) (pos := 5) d8_6 (host := "") (Or.inl (hw _ (List.mem_of_getElem? (i := 66) rfl))) Via.refl rfl rfl) ?_
  refine allC_cons (s_istoreN d8_9 rfl) ?_
  refine allC_cons (s_aloadN d8_10 rfl) ?_
  refine allC_cons (s_iconst d8_11 rfl) ?_
  refine allC_cons (s_aloadN d8_12 rfl) ?_
  refine allC_cons (s_getF (k := 5) (pos := 3) d8_13 (host := "") (Or.inl (hw _ (List.mem_of_getElem? (i := 53) rfl))) Via.refl rfl rfl) ?_
  refine allC_cons (s_iloadN d8_16 rfl) ?_
  refine allC_cons (s_aloadN d8_17 rfl) ?_
  refine allC_cons (s_getF (k := 5) (pos := 2) d8_18 (host := "") (Or.inl (hw _ (List.mem_of_getElem? (i := 47) rfl))) Via.refl rfl rfl) ?_
  refine allC_cons (s_imul d8_21) ?_
  refine allC_cons (s_iloadN d8_22 rfl) ?_
  refine allC_cons (s_aloadN d8_23 rfl) ?_
  refine allC_cons (s_getF (k := 5) (pos := 2) d8_24 (host := "") (Or.inl (hw _ (List.mem_of_getElem? (i := 47) rfl))) Via.refl rfl rfl) ?_
  refine allC_cons (s_imul d8_27) ?_
  refine allC_cons (s_copy (k := 0) hX d8_28 rfl rfl (hw _ (List.mem_of_getElem? (i := 68) rfl)) (hw _ (List.mem_of_getElem? (i := 71) rfl)) (hw _ (List.mem_of_getElem? (i := 69) rfl)) (hw _ (List.mem_of_getElem? (i := 70) rfl)) (by decide) (by decide)) ?_
  refine allC_cons (s_aloadN d8_31 rfl) ?_
  refine allC_cons (s_dup d8_32) ?_
  refine allC_cons (s_getF (k := 5) (pos := 5) d8_33 (host := "") (Or.inl (hw _ (List.mem_of_getElem? (i := 66) rfl))) Via.refl rfl rfl) ?_
  refine allC_cons (s_iloadN d8_36 rfl) ?_
  refine allC_cons (s_iadd d8_37) ?_
  refine allC_cons (s_putF (k := 5) (pos := 5) hX d8_38 (hw _ (List.mem_of_getElem? (i := 66) rfl)) Via.refl rfl rfl (lay5 a0 Z hw) nd5 (hw _ (List.mem_of_getElem? (i := 10) rfl)) (Or.inl (hw _ (List.mem_of_getElem? (i := 67) rfl)))) ?_
  refine allC_cons (s_aloadN d8_41 rfl) ?_
  refine allC_cons (s_getF (k := 5) (pos := 6) d8_42 (host := "") (Or.inl (hw _ (List.mem_of_getElem? (i := 72) rfl))) Via.refl rfl rfl) ?_
  refine allC_cons (s_ifnull d8_45 (by decide) (by decide)) ?_
  refine allC_cons (s_iloadN d8_48 rfl) ?_
  refine allC_cons (s_istore d8_49) ?_
  refine allC_cons (s_iload d8_51) ?_
  refine allC_cons (s_aloadN d8_53 rfl) ?_
  refine allC_cons (s_getF (k := 5) (pos := 5) d8_54 (host := "") (Or.inl (hw _ (List.mem_of_getElem? (i := 66) rfl))) Via.refl rfl rfl) ?_
  refine allC_cons (s_icmp d8_57 (by decide) (by decide)) ?_
  refine allC_cons (s_aloadN d8_60 rfl) ?_
  refine allC_cons (s_getF (k := 5) (pos := 6) d8_61 (host := "") (Or.inl (hw _ (List.mem_of_getElem? (i := 72) rfl))) Via.refl rfl rfl) ?_
  refine allC_cons (s_aloadN d8_64 rfl) ?_
  refine allC_cons (s_iload d8_65) ?_
  refine allC_cons (s_iconst d8_67 rfl) ?_
  refine allC_cons (s_virtual (Mc := M29) (k := 5) d8_68 rfl rfl (hw _ (List.mem_of_getElem? (i := 294) rfl)) (hw _ (List.mem_of_getElem? (i := 243) rfl)) (hw _ (List.mem_of_getElem? (i := 245) rfl)) (fun s hZ => notFace_of_selects (args := #[]) (mvT hZ (hw _ (List.mem_of_getElem? (i := 245) rfl)))) (hw _ (List.mem_of_getElem? (i := 244) rfl)) (hw _ (List.mem_of_getElem? (i := 11) rfl)) (hw _ (List.mem_of_getElem? (i := 246) rfl)) pd_6 rfl (by decide) (by decide) (by decide)) ?_
  refine allC_cons (s_aloadN d8_71 rfl) ?_
  refine allC_cons (s_iload d8_72) ?_
  refine allC_cons (s_iconst d8_74 rfl) ?_
  refine allC_cons (s_virtual (Mc := M29) (k := 5) d8_75 rfl rfl (hw _ (List.mem_of_getElem? (i := 294) rfl)) (hw _ (List.mem_of_getElem? (i := 243) rfl)) (hw _ (List.mem_of_getElem? (i := 245) rfl)) (fun s hZ => notFace_of_selects (args := #[]) (mvT hZ (hw _ (List.mem_of_getElem? (i := 245) rfl)))) (hw _ (List.mem_of_getElem? (i := 244) rfl)) (hw _ (List.mem_of_getElem? (i := 11) rfl)) (hw _ (List.mem_of_getElem? (i := 246) rfl)) pd_6 rfl (by decide) (by decide) (by decide)) ?_
  refine allC_cons (s_aloadN d8_88 rfl) ?_
  refine allC_cons (s_iloadN d8_89 rfl) ?_
  refine allC_cons (s_null d8_90) ?_
  refine allC_cons (s_private2 (Mc := M10) (k := 5) d8_91 rfl rfl (hw _ (List.mem_of_getElem? (i := 74) rfl)) (hw _ (List.mem_of_getElem? (i := 75) rfl)) (hw _ (List.mem_of_getElem? (i := 10) rfl)) (hw _ (List.mem_of_getElem? (i := 76) rfl)) (hw _ (List.mem_of_getElem? (i := 11) rfl)) (hw _ (List.mem_of_getElem? (i := 77) rfl)) pd_9 rfl (by decide) (by decide) (by decide)) ?_
  refine allC_cons (s_ret d8_94 rfl) ?_
  exact allC_nil
theorem pl8 : plainFor M8.1 = true := by first | exact plainFor_of_name (by first | (simp [M8, x, plainName, overriddenIn]; done) | decide +kernel) | decide +kernel
set_option maxRecDepth 65536 in
set_option maxHeartbeats 4000000 in
theorem snd9 (l : Launch) (a0 : Array Value) (Z : State) (hw : ∀ d ∈ tables_1, d.before a0 Z = true) (aN aD : Addr) (hXX : ∀ a ∈ [aN, aD], a < Z.heap.size) (sN : Sta Z Z.heap "com/example/predicat/predicat/kernel/Index" "NO_TUPLES" "[I" (.ref aN)) (sD : Sta Z Z.heap "java/util/ArrayList" "DEFAULTCAPACITY_EMPTY_ELEMENTDATA" "[Ljava/lang/Object;" (.ref aD)): ∀ q ∈ c9, Sound Z [aN, aD] CT l MT M9 q.1 q.2 := by
  have hX : ∀ a ∈ ([aN, aD] : List Addr), a < Z.heap.size := hXX
  have hxl : ∀ i j, i ≠ j → (2 ≤ i ∨ 2 ≤ j) → ph Z [aN, aD] i ≠ ph Z [aN, aD] j := fun i j hij hi => ph_ne hX hij hi
  refine allC_mem (P := Sound Z [aN, aD] CT l MT M9) ?_
  unfold c9
  refine allC_cons (s_aloadN d9_0 rfl) ?_
  refine allC_cons (s_getF (k := 5) (pos := 5) d9_1 (host := "") (Or.inl (hw _ (List.mem_of_getElem? (i := 66) rfl))) Via.refl rfl rfl) ?_
  refine allC_cons (s_iloadN d9_4 rfl) ?_
  refine allC_cons (s_iadd d9_5) ?_
  refine allC_cons (s_aloadN d9_6 rfl) ?_
  refine allC_cons (s_getF (k := 5) (pos := 2) d9_7 (host := "") (Or.inl (hw _ (List.mem_of_getElem? (i := 47) rfl))) Via.refl rfl rfl) ?_
  refine allC_cons (s_imul d9_10) ?_
  refine allC_cons (s_istoreN d9_11 rfl) ?_
  refine allC_cons (s_iloadN d9_12 rfl) ?_
  refine allC_cons (s_aloadN d9_13 rfl) ?_
  refine allC_cons (s_getF (k := 5) (pos := 3) d9_14 (host := "") (Or.inl (hw _ (List.mem_of_getElem? (i := 53) rfl))) Via.refl rfl rfl) ?_
  refine allC_cons (s_alen (k := 0) d9_17 rfl) ?_
  refine allC_cons (s_icmp d9_18 (by decide) (by decide)) ?_
  refine allC_cons (s_aloadN d9_21 rfl) ?_
  refine allC_cons (s_aloadN d9_22 rfl) ?_
  refine allC_cons (s_getF (k := 5) (pos := 3) d9_23 (host := "") (Or.inl (hw _ (List.mem_of_getElem? (i := 53) rfl))) Via.refl rfl rfl) ?_
  refine allC_cons (s_aloadN d9_26 rfl) ?_
  refine allC_cons (s_getF (k := 5) (pos := 3) d9_27 (host := "") (Or.inl (hw _ (List.mem_of_getElem? (i := 53) rfl))) Via.refl rfl rfl) ?_
  refine allC_cons (s_alen (k := 0) d9_30 rfl) ?_
  refine allC_cons (s_iconst d9_31 rfl) ?_
  refine allC_cons (s_imul d9_32) ?_
  refine allC_cons (s_iloadN d9_33 rfl) ?_
  refine allC_cons (s_callS (Mc := M7) d9_34 rfl (hw _ (List.mem_of_getElem? (i := 49) rfl)) (hw _ (List.mem_of_getElem? (i := 50) rfl)) (hw _ (List.mem_of_getElem? (i := 51) rfl)) (hw _ (List.mem_of_getElem? (i := 52) rfl)) pd_6 rfl (by decide) (by decide) (by decide)) ?_
  refine allC_cons (s_callS (Mc := M38) d9_37 rfl (hw _ (List.mem_of_getElem? (i := 295) rfl)) (hw _ (List.mem_of_getElem? (i := 287) rfl)) (hw _ (List.mem_of_getElem? (i := 288) rfl)) (hw _ (List.mem_of_getElem? (i := 289) rfl)) pd_10 rfl (by decide) (by decide) (by decide)) ?_
  refine allC_cons (s_putF (k := 5) (pos := 3) hX d9_40 (hw _ (List.mem_of_getElem? (i := 53) rfl)) Via.refl rfl rfl (lay5 a0 Z hw) nd5 (hw _ (List.mem_of_getElem? (i := 10) rfl)) (Or.inl (hw _ (List.mem_of_getElem? (i := 54) rfl)))) ?_
  refine allC_cons (s_ret d9_43 rfl) ?_
  exact allC_nil
theorem pl9 : plainFor M9.1 = true := by first | exact plainFor_of_name (by first | (simp [M9, x, plainName, overriddenIn]; done) | decide +kernel) | decide +kernel
set_option maxRecDepth 65536 in
set_option maxHeartbeats 4000000 in
theorem snd10 (l : Launch) (a0 : Array Value) (Z : State) (hw : ∀ d ∈ tables_1, d.before a0 Z = true) (aN aD : Addr) (hXX : ∀ a ∈ [aN, aD], a < Z.heap.size) (sN : Sta Z Z.heap "com/example/predicat/predicat/kernel/Index" "NO_TUPLES" "[I" (.ref aN)) (sD : Sta Z Z.heap "java/util/ArrayList" "DEFAULTCAPACITY_EMPTY_ELEMENTDATA" "[Ljava/lang/Object;" (.ref aD)): ∀ q ∈ c10, Sound Z [aN, aD] CT l MT M10 q.1 q.2 := by
  have hX : ∀ a ∈ ([aN, aD] : List Addr), a < Z.heap.size := hXX
  have hxl : ∀ i j, i ≠ j → (2 ≤ i ∨ 2 ≤ j) → ph Z [aN, aD] i ≠ ph Z [aN, aD] j := fun i j hij hi => ph_ne hX hij hi
  refine allC_mem (P := Sound Z [aN, aD] CT l MT M10) ?_
  unfold c10
  refine allC_cons (s_iconst d10_0 rfl) ?_
  refine allC_cons (s_istoreN d10_1 rfl) ?_
  refine allC_cons (s_iloadN d10_2 rfl) ?_
  refine allC_cons (s_aloadN d10_3 rfl) ?_
  refine allC_cons (s_getF (k := 5) (pos := 0) d10_4 (host := "") (Or.inl (hw _ (List.mem_of_getElem? (i := 42) rfl))) Via.refl rfl rfl) ?_
  refine allC_cons (s_iface (Mc := M11) (k := 6) (y := (⟨"java/util/List", "size", "()I"⟩ : MethodName)) d10_7 rfl rfl (hw _ (List.mem_of_getElem? (i := 78) rfl)) (hw _ (List.mem_of_getElem? (i := 79) rfl)) (hw _ (List.mem_of_getElem? (i := 80) rfl)) (by decide) (hw _ (List.mem_of_getElem? (i := 81) rfl)) (hw _ (List.mem_of_getElem? (i := 82) rfl)) (hw _ (List.mem_of_getElem? (i := 83) rfl)) (hw _ (List.mem_of_getElem? (i := 84) rfl)) (hw _ (List.mem_of_getElem? (i := 85) rfl)) (hw _ (List.mem_of_getElem? (i := 20) rfl)) (hw _ (List.mem_of_getElem? (i := 86) rfl)) pd_11 rfl (by decide) (by decide) (by decide)) ?_
  refine allC_cons (s_icmp d10_12 (by decide) (by decide)) ?_
  refine allC_cons (s_aloadN d10_15 rfl) ?_
  refine allC_cons (s_getF (k := 5) (pos := 0) d10_16 (host := "") (Or.inl (hw _ (List.mem_of_getElem? (i := 42) rfl))) Via.refl rfl rfl) ?_
  refine allC_cons (s_iloadN d10_19 rfl) ?_
  refine allC_cons (s_iface (Mc := M23) (k := 6) (y := (⟨"java/util/List", "get", "(I)Ljava/lang/Object;"⟩ : MethodName)) d10_20 rfl rfl (hw _ (List.mem_of_getElem? (i := 211) rfl)) (hw _ (List.mem_of_getElem? (i := 212) rfl)) (hw _ (List.mem_of_getElem? (i := 213) rfl)) (by decide) (hw _ (List.mem_of_getElem? (i := 214) rfl)) (hw _ (List.mem_of_getElem? (i := 215) rfl)) (hw _ (List.mem_of_getElem? (i := 216) rfl)) (hw _ (List.mem_of_getElem? (i := 217) rfl)) (hw _ (List.mem_of_getElem? (i := 85) rfl)) (hw _ (List.mem_of_getElem? (i := 20) rfl)) (hw _ (List.mem_of_getElem? (i := 218) rfl)) pd_12 rfl (by decide) (by decide) (by decide)) ?_
  refine allC_cons (s_cast (k := 8) d10_25 (hw _ (List.mem_of_getElem? (i := 130) rfl)) (fun hh a vs q => Ins.self q.1)) ?_
  refine allC_cons (s_astore d10_28) ?_
  refine allC_cons (s_iloadN d10_30 rfl) ?_
  refine allC_cons (s_istore d10_31) ?_
  refine allC_cons (s_aload d10_33) ?_
  refine allC_cons (s_aloadN d10_35 rfl) ?_
  refine allC_cons (s_acmpeq hxl d10_36 (by decide) (by decide)) ?_
  refine allC_cons (s_iload d10_39) ?_
  refine allC_cons (s_aloadN d10_41 rfl) ?_
  refine allC_cons (s_getF (k := 5) (pos := 5) d10_42 (host := "") (Or.inl (hw _ (List.mem_of_getElem? (i := 66) rfl))) Via.refl rfl rfl) ?_
  refine allC_cons (s_icmp d10_45 (by decide) (by decide)) ?_
  refine allC_cons (s_aload d10_48) ?_
  refine allC_cons (s_iload d10_50) ?_
  refine allC_cons (s_virtual (Mc := M27) (k := 8) d10_52 rfl rfl (hw _ (List.mem_of_getElem? (i := 233) rfl)) (hw _ (List.mem_of_getElem? (i := 234) rfl)) (hw _ (List.mem_of_getElem? (i := 236) rfl)) (fun s hZ => notFace_of_selects (args := #[]) (mvT hZ (hw _ (List.mem_of_getElem? (i := 236) rfl)))) (hw _ (List.mem_of_getElem? (i := 235) rfl)) (hw _ (List.mem_of_getElem? (i := 132) rfl)) (hw _ (List.mem_of_getElem? (i := 237) rfl)) pd_2 rfl (by decide) (by decide) (by decide)) ?_
  refine allC_cons (s_iinc d10_55 rfl) ?_
  refine allC_cons (s_goto d10_58 (by decide) (by decide)) ?_
  refine allC_cons (s_iinc d10_61 rfl) ?_
  refine allC_cons (s_goto d10_64 (by decide) (by decide)) ?_
  refine allC_cons (s_ret d10_67 rfl) ?_
  exact allC_nil
theorem pl10 : plainFor M10.1 = true := by first | exact plainFor_of_name (by first | (simp [M10, x, plainName, overriddenIn]; done) | decide +kernel) | decide +kernel
set_option maxRecDepth 65536 in
set_option maxHeartbeats 4000000 in
theorem snd11 (l : Launch) (a0 : Array Value) (Z : State) (hw : ∀ d ∈ tables_1, d.before a0 Z = true) (aN aD : Addr) (hXX : ∀ a ∈ [aN, aD], a < Z.heap.size) (sN : Sta Z Z.heap "com/example/predicat/predicat/kernel/Index" "NO_TUPLES" "[I" (.ref aN)) (sD : Sta Z Z.heap "java/util/ArrayList" "DEFAULTCAPACITY_EMPTY_ELEMENTDATA" "[Ljava/lang/Object;" (.ref aD)): ∀ q ∈ c11, Sound Z [aN, aD] CT l MT M11 q.1 q.2 := by
  have hX : ∀ a ∈ ([aN, aD] : List Addr), a < Z.heap.size := hXX
  have hxl : ∀ i j, i ≠ j → (2 ≤ i ∨ 2 ≤ j) → ph Z [aN, aD] i ≠ ph Z [aN, aD] j := fun i j hij hi => ph_ne hX hij hi
  refine allC_mem (P := Sound Z [aN, aD] CT l MT M11) ?_
  unfold c11
  refine allC_cons (s_aloadN d11_0 rfl) ?_
  refine allC_cons (s_getF (k := 6) (pos := 2) d11_1 (host := "") (Or.inl (hw _ (List.mem_of_getElem? (i := 87) rfl))) Via.refl rfl rfl) ?_
  refine allC_cons (s_retI d11_4 rfl (by simp)) ?_
  exact allC_nil
theorem pl11 : plainFor M11.1 = true := by first | exact plainFor_of_name (by first | (simp [M11, x, plainName, overriddenIn]; done) | decide +kernel) | decide +kernel
set_option maxRecDepth 65536 in
set_option maxHeartbeats 4000000 in
theorem snd12 (l : Launch) (a0 : Array Value) (Z : State) (hw : ∀ d ∈ tables_1, d.before a0 Z = true) (aN aD : Addr) (hXX : ∀ a ∈ [aN, aD], a < Z.heap.size) (sN : Sta Z Z.heap "com/example/predicat/predicat/kernel/Index" "NO_TUPLES" "[I" (.ref aN)) (sD : Sta Z Z.heap "java/util/ArrayList" "DEFAULTCAPACITY_EMPTY_ELEMENTDATA" "[Ljava/lang/Object;" (.ref aD)): ∀ q ∈ c12, Sound Z [aN, aD] CT l MT M12 q.1 q.2 := by
  have hX : ∀ a ∈ ([aN, aD] : List Addr), a < Z.heap.size := hXX
  have hxl : ∀ i j, i ≠ j → (2 ≤ i ∨ 2 ≤ j) → ph Z [aN, aD] i ≠ ph Z [aN, aD] j := fun i j hij hi => ph_ne hX hij hi
  refine allC_mem (P := Sound Z [aN, aD] CT l MT M12) ?_
  unfold c12
  refine allC_cons (s_aloadN d12_0 rfl) ?_
  refine allC_cons (s_getF (k := 5) (pos := 0) d12_1 (host := "") (Or.inl (hw _ (List.mem_of_getElem? (i := 42) rfl))) Via.refl rfl rfl) ?_
  refine allC_cons (s_iface (Mc := M13) (k := 6) (y := (⟨"java/util/List", "iterator", "()Ljava/util/Iterator;"⟩ : MethodName)) d12_4 rfl rfl (hw _ (List.mem_of_getElem? (i := 94) rfl)) (hw _ (List.mem_of_getElem? (i := 95) rfl)) (hw _ (List.mem_of_getElem? (i := 96) rfl)) (by decide) (hw _ (List.mem_of_getElem? (i := 97) rfl)) (hw _ (List.mem_of_getElem? (i := 98) rfl)) (hw _ (List.mem_of_getElem? (i := 99) rfl)) (hw _ (List.mem_of_getElem? (i := 100) rfl)) (hw _ (List.mem_of_getElem? (i := 85) rfl)) (hw _ (List.mem_of_getElem? (i := 20) rfl)) (hw _ (List.mem_of_getElem? (i := 101) rfl)) pd_13 rfl (by decide) (by decide) (by decide)) ?_
  refine allC_cons (s_astoreN d12_9 rfl) ?_
  refine allC_cons (s_aloadN d12_10 rfl) ?_
  refine allC_cons (s_iface (Mc := M15) (k := 7) (y := (⟨"java/util/Iterator", "hasNext", "()Z"⟩ : MethodName)) d12_11 rfl rfl (hw _ (List.mem_of_getElem? (i := 118) rfl)) (hw _ (List.mem_of_getElem? (i := 119) rfl)) (hw _ (List.mem_of_getElem? (i := 120) rfl)) (by decide) (hw _ (List.mem_of_getElem? (i := 121) rfl)) (hw _ (List.mem_of_getElem? (i := 122) rfl)) (hw _ (List.mem_of_getElem? (i := 123) rfl)) (hw _ (List.mem_of_getElem? (i := 124) rfl)) (hw _ (List.mem_of_getElem? (i := 125) rfl)) (hw _ (List.mem_of_getElem? (i := 104) rfl)) (hw _ (List.mem_of_getElem? (i := 126) rfl)) pd_14 rfl (by decide) (by decide) (by decide)) ?_
  refine allC_cons (s_if d12_16 (by decide) (by decide)) ?_
  refine allC_cons (s_aloadN d12_19 rfl) ?_
  refine allC_cons (s_new (k := 8) d12_42 (hw _ (List.mem_of_getElem? (i := 130) rfl)) (hw _ (List.mem_of_getElem? (i := 131) rfl)) (hw _ (List.mem_of_getElem? (i := 132) rfl)) rfl (lay8 a0 Z hw) rfl) ?_
  refine allC_cons (s_dup d12_45) ?_
  refine allC_cons (s_aloadN d12_46 rfl) ?_
  refine allC_cons (s_aloadN d12_47 rfl) ?_
  refine allC_cons (s_special (Mc := M16) d12_48 rfl rfl rfl (hw _ (List.mem_of_getElem? (i := 133) rfl)) (hw _ (List.mem_of_getElem? (i := 134) rfl)) (hw _ (List.mem_of_getElem? (i := 132) rfl)) (hw _ (List.mem_of_getElem? (i := 135) rfl)) pd_15 rfl (by decide) (by decide) (by decide)) ?_
  refine allC_cons (s_astoreN d12_51 rfl) ?_
  refine allC_cons (s_aloadN d12_52 rfl) ?_
  refine allC_cons (s_aloadN d12_53 rfl) ?_
  refine allC_cons (s_getF (k := 5) (pos := 5) d12_54 (host := "") (Or.inl (hw _ (List.mem_of_getElem? (i := 66) rfl))) Via.refl rfl rfl) ?_
  refine allC_cons (s_virtual (Mc := M18) (k := 8) d12_57 rfl rfl (hw _ (List.mem_of_getElem? (i := 176) rfl)) (hw _ (List.mem_of_getElem? (i := 177) rfl)) (hw _ (List.mem_of_getElem? (i := 179) rfl)) (fun s hZ => notFace_of_selects (args := #[]) (mvT hZ (hw _ (List.mem_of_getElem? (i := 179) rfl)))) (hw _ (List.mem_of_getElem? (i := 178) rfl)) (hw _ (List.mem_of_getElem? (i := 132) rfl)) (hw _ (List.mem_of_getElem? (i := 180) rfl)) pd_2 rfl (by decide) (by decide) (by decide)) ?_
  refine allC_cons (s_aloadN d12_60 rfl) ?_
  refine allC_cons (s_getF (k := 5) (pos := 0) d12_61 (host := "") (Or.inl (hw _ (List.mem_of_getElem? (i := 42) rfl))) Via.refl rfl rfl) ?_
  refine allC_cons (s_aloadN d12_64 rfl) ?_
  refine allC_cons (s_iface (Mc := M19) (k := 6) (y := (⟨"java/util/List", "add", "(Ljava/lang/Object;)Z"⟩ : MethodName)) d12_65 rfl rfl (hw _ (List.mem_of_getElem? (i := 183) rfl)) (hw _ (List.mem_of_getElem? (i := 184) rfl)) (hw _ (List.mem_of_getElem? (i := 185) rfl)) (by decide) (hw _ (List.mem_of_getElem? (i := 186) rfl)) (hw _ (List.mem_of_getElem? (i := 187) rfl)) (hw _ (List.mem_of_getElem? (i := 188) rfl)) (hw _ (List.mem_of_getElem? (i := 189) rfl)) (hw _ (List.mem_of_getElem? (i := 85) rfl)) (hw _ (List.mem_of_getElem? (i := 20) rfl)) (hw _ (List.mem_of_getElem? (i := 190) rfl)) pd_16 rfl (by decide) (by decide) (by decide)) ?_
  refine allC_cons (s_pop d12_70) ?_
  refine allC_cons (s_aloadN d12_71 rfl) ?_
  refine allC_cons (s_retA d12_72 rfl rfl) ?_
  exact allC_nil
theorem pl12 : plainFor M12.1 = true := by first | exact plainFor_of_name (by first | (simp [M12, x, plainName, overriddenIn]; done) | decide +kernel) | decide +kernel
set_option maxRecDepth 65536 in
set_option maxHeartbeats 4000000 in
theorem snd13 (l : Launch) (a0 : Array Value) (Z : State) (hw : ∀ d ∈ tables_1, d.before a0 Z = true) (aN aD : Addr) (hXX : ∀ a ∈ [aN, aD], a < Z.heap.size) (sN : Sta Z Z.heap "com/example/predicat/predicat/kernel/Index" "NO_TUPLES" "[I" (.ref aN)) (sD : Sta Z Z.heap "java/util/ArrayList" "DEFAULTCAPACITY_EMPTY_ELEMENTDATA" "[Ljava/lang/Object;" (.ref aD)): ∀ q ∈ c13, Sound Z [aN, aD] CT l MT M13 q.1 q.2 := by
  have hX : ∀ a ∈ ([aN, aD] : List Addr), a < Z.heap.size := hXX
  have hxl : ∀ i j, i ≠ j → (2 ≤ i ∨ 2 ≤ j) → ph Z [aN, aD] i ≠ ph Z [aN, aD] j := fun i j hij hi => ph_ne hX hij hi
  refine allC_mem (P := Sound Z [aN, aD] CT l MT M13) ?_
  unfold c13
  refine allC_cons (s_new (k := 7) d13_0 (hw _ (List.mem_of_getElem? (i := 102) rfl)) (hw _ (List.mem_of_getElem? (i := 103) rfl)) (hw _ (List.mem_of_getElem? (i := 104) rfl)) rfl (lay7 a0 Z hw) rfl) ?_
  refine allC_cons (s_dup d13_3) ?_
  refine allC_cons (s_aloadN d13_4 rfl) ?_
  refine allC_cons (s_special (Mc := M14) d13_5 rfl rfl rfl (hw _ (List.mem_of_getElem? (i := 105) rfl)) (hw _ (List.mem_of_getElem? (i := 106) rfl)) (hw _ (List.mem_of_getElem? (i := 104) rfl)) (hw _ (List.mem_of_getElem? (i := 108) rfl)) pd_17 rfl (by decide) (by decide) (by decide)) ?_
  refine allC_cons (s_retA d13_8 rfl rfl) ?_
  exact allC_nil
theorem pl13 : plainFor M13.1 = true := by first | exact plainFor_of_name (by first | (simp [M13, x, plainName, overriddenIn]; done) | decide +kernel) | decide +kernel
set_option maxRecDepth 65536 in
set_option maxHeartbeats 4000000 in
theorem snd14 (l : Launch) (a0 : Array Value) (Z : State) (hw : ∀ d ∈ tables_1, d.before a0 Z = true) (aN aD : Addr) (hXX : ∀ a ∈ [aN, aD], a < Z.heap.size) (sN : Sta Z Z.heap "com/example/predicat/predicat/kernel/Index" "NO_TUPLES" "[I" (.ref aN)) (sD : Sta Z Z.heap "java/util/ArrayList" "DEFAULTCAPACITY_EMPTY_ELEMENTDATA" "[Ljava/lang/Object;" (.ref aD)): ∀ q ∈ c14, Sound Z [aN, aD] CT l MT M14 q.1 q.2 := by
  have hX : ∀ a ∈ ([aN, aD] : List Addr), a < Z.heap.size := hXX
  have hxl : ∀ i j, i ≠ j → (2 ≤ i ∨ 2 ≤ j) → ph Z [aN, aD] i ≠ ph Z [aN, aD] j := fun i j hij hi => ph_ne hX hij hi
  refine allC_mem (P := Sound Z [aN, aD] CT l MT M14) ?_
  unfold c14
  refine allC_cons (s_aloadN d14_0 rfl) ?_
  refine allC_cons (s_aloadN d14_1 rfl) ?_
  refine allC_cons (s_putF (k := 7) (pos := 0) hX d14_2 (hw _ (List.mem_of_getElem? (i := 109) rfl)) Via.refl rfl rfl (lay7 a0 Z hw) nd7 (hw _ (List.mem_of_getElem? (i := 103) rfl)) (Or.inr ⟨(hw _ (List.mem_of_getElem? (i := 110) rfl)), rfl, rfl⟩)) ?_
  refine allC_cons (s_aloadN d14_5 rfl) ?_
  refine allC_cons (s_init0 d14_6 (hw _ (List.mem_of_getElem? (i := 111) rfl)) (hw _ (List.mem_of_getElem? (i := 16) rfl)) (hw _ (List.mem_of_getElem? (i := 17) rfl)) (by decide) (by decide)) ?_
  refine allC_cons (s_aloadN d14_9 rfl) ?_
  refine allC_cons (s_iconst d14_10 rfl) ?_
  refine allC_cons (s_putF (k := 7) (pos := 1) hX d14_11 (hw _ (List.mem_of_getElem? (i := 112) rfl)) Via.refl rfl rfl (lay7 a0 Z hw) nd7 (hw _ (List.mem_of_getElem? (i := 103) rfl)) (Or.inl (hw _ (List.mem_of_getElem? (i := 113) rfl)))) ?_
  refine allC_cons (s_aloadN d14_14 rfl) ?_
  refine allC_cons (s_aloadN d14_15 rfl) ?_
  refine allC_cons (s_getF (k := 7) (pos := 0) d14_16 (host := "") (Or.inl (hw _ (List.mem_of_getElem? (i := 109) rfl))) Via.refl rfl rfl) ?_
  refine allC_cons (s_getF (k := 6) (pos := 0) d14_19 (host := "") (Or.inl (hw _ (List.mem_of_getElem? (i := 114) rfl))) (Via.of (hw _ (List.mem_of_getElem? (i := 115) rfl))) rfl rfl) ?_
  refine allC_cons (s_putF (k := 7) (pos := 2) hX d14_22 (hw _ (List.mem_of_getElem? (i := 116) rfl)) Via.refl rfl rfl (lay7 a0 Z hw) nd7 (hw _ (List.mem_of_getElem? (i := 103) rfl)) (Or.inl (hw _ (List.mem_of_getElem? (i := 117) rfl)))) ?_
  refine allC_cons (s_ret d14_25 rfl) ?_
  exact allC_nil
theorem pl14 : plainFor M14.1 = true := by first | exact plainFor_of_name (by first | (simp [M14, x, plainName, overriddenIn]; done) | decide +kernel) | decide +kernel
set_option maxRecDepth 65536 in
set_option maxHeartbeats 4000000 in
theorem snd15 (l : Launch) (a0 : Array Value) (Z : State) (hw : ∀ d ∈ tables_1, d.before a0 Z = true) (aN aD : Addr) (hXX : ∀ a ∈ [aN, aD], a < Z.heap.size) (sN : Sta Z Z.heap "com/example/predicat/predicat/kernel/Index" "NO_TUPLES" "[I" (.ref aN)) (sD : Sta Z Z.heap "java/util/ArrayList" "DEFAULTCAPACITY_EMPTY_ELEMENTDATA" "[Ljava/lang/Object;" (.ref aD)): ∀ q ∈ c15, Sound Z [aN, aD] CT l MT M15 q.1 q.2 := by
  have hX : ∀ a ∈ ([aN, aD] : List Addr), a < Z.heap.size := hXX
  have hxl : ∀ i j, i ≠ j → (2 ≤ i ∨ 2 ≤ j) → ph Z [aN, aD] i ≠ ph Z [aN, aD] j := fun i j hij hi => ph_ne hX hij hi
  refine allC_mem (P := Sound Z [aN, aD] CT l MT M15) ?_
  unfold c15
  refine allC_cons (s_aloadN d15_0 rfl) ?_
  refine allC_cons (s_getF (k := 7) (pos := 3) d15_1 (host := "") (Or.inl (hw _ (List.mem_of_getElem? (i := 127) rfl))) Via.refl rfl rfl) ?_
  refine allC_cons (s_aloadN d15_4 rfl) ?_
  refine allC_cons (s_getF (k := 7) (pos := 0) d15_5 (host := "") (Or.inl (hw _ (List.mem_of_getElem? (i := 109) rfl))) Via.refl rfl rfl) ?_
  refine allC_cons (s_getF (k := 6) (pos := 2) d15_8 (Or.inr (hw _ (List.mem_of_getElem? (i := 129) rfl))) Via.refl rfl rfl) ?_
  refine allC_cons (s_icmp d15_11 (by decide) (by decide)) ?_
  refine allC_cons (s_iconst d15_14 rfl) ?_
  refine allC_cons (s_goto d15_15 (by decide) (by decide)) ?_
  refine allC_cons (s_iconst d15_18 rfl) ?_
  refine allC_cons (s_retI d15_19 rfl (by simp)) ?_
  exact allC_nil
theorem pl15 : plainFor M15.1 = true := by first | exact plainFor_of_name (by first | (simp [M15, x, plainName, overriddenIn]; done) | decide +kernel) | decide +kernel
set_option maxRecDepth 65536 in
set_option maxHeartbeats 4000000 in
theorem snd16 (l : Launch) (a0 : Array Value) (Z : State) (hw : ∀ d ∈ tables_1, d.before a0 Z = true) (aN aD : Addr) (hXX : ∀ a ∈ [aN, aD], a < Z.heap.size) (sN : Sta Z Z.heap "com/example/predicat/predicat/kernel/Index" "NO_TUPLES" "[I" (.ref aN)) (sD : Sta Z Z.heap "java/util/ArrayList" "DEFAULTCAPACITY_EMPTY_ELEMENTDATA" "[Ljava/lang/Object;" (.ref aD)): ∀ q ∈ c16, Sound Z [aN, aD] CT l MT M16 q.1 q.2 := by
  have hX : ∀ a ∈ ([aN, aD] : List Addr), a < Z.heap.size := hXX
  have hxl : ∀ i j, i ≠ j → (2 ≤ i ∨ 2 ≤ j) → ph Z [aN, aD] i ≠ ph Z [aN, aD] j := fun i j hij hi => ph_ne hX hij hi
  refine allC_mem (P := Sound Z [aN, aD] CT l MT M16) ?_
  unfold c16
  refine allC_cons (s_aloadN d16_0 rfl) ?_
  refine allC_cons (s_init0 d16_1 (hw _ (List.mem_of_getElem? (i := 136) rfl)) (hw _ (List.mem_of_getElem? (i := 16) rfl)) (hw _ (List.mem_of_getElem? (i := 17) rfl)) (by decide) (by decide)) ?_
  refine allC_cons (s_aloadN d16_4 rfl) ?_
  refine allC_cons (s_bipush d16_5 rfl) ?_
  refine allC_cons (s_putF (k := 8) (pos := 0) hX d16_7 (hw _ (List.mem_of_getElem? (i := 137) rfl)) Via.refl rfl rfl (lay8 a0 Z hw) nd8 (hw _ (List.mem_of_getElem? (i := 131) rfl)) (Or.inl (hw _ (List.mem_of_getElem? (i := 138) rfl)))) ?_
  refine allC_cons (s_aloadN d16_10 rfl) ?_
  refine allC_cons (s_bipush d16_11 rfl) ?_
  refine allC_cons (s_putF (k := 8) (pos := 1) hX d16_13 (hw _ (List.mem_of_getElem? (i := 139) rfl)) Via.refl rfl rfl (lay8 a0 Z hw) nd8 (hw _ (List.mem_of_getElem? (i := 131) rfl)) (Or.inl (hw _ (List.mem_of_getElem? (i := 140) rfl)))) ?_
  refine allC_cons (s_aloadN d16_16 rfl) ?_
  refine allC_cons (s_bipush d16_17 rfl) ?_
  refine allC_cons (s_newA (k := 0) d16_19 (hw _ (List.mem_of_getElem? (i := 4) rfl)) rfl rfl) ?_
  refine allC_cons (s_putF (k := 8) (pos := 2) hX d16_21 (hw _ (List.mem_of_getElem? (i := 141) rfl)) Via.refl rfl rfl (lay8 a0 Z hw) nd8 (hw _ (List.mem_of_getElem? (i := 131) rfl)) (Or.inl (hw _ (List.mem_of_getElem? (i := 142) rfl)))) ?_
  refine allC_cons (s_aloadN d16_24 rfl) ?_
  refine allC_cons (s_bipush d16_25 rfl) ?_
  refine allC_cons (s_newA (k := 0) d16_27 (hw _ (List.mem_of_getElem? (i := 4) rfl)) rfl rfl) ?_
  refine allC_cons (s_putF (k := 8) (pos := 3) hX d16_29 (hw _ (List.mem_of_getElem? (i := 143) rfl)) Via.refl rfl rfl (lay8 a0 Z hw) nd8 (hw _ (List.mem_of_getElem? (i := 131) rfl)) (Or.inl (hw _ (List.mem_of_getElem? (i := 144) rfl)))) ?_
  refine allC_cons (s_aloadN d16_32 rfl) ?_
  refine allC_cons (s_bipush d16_33 rfl) ?_
  refine allC_cons (s_anewA (k := 9) (ty := .int) d16_35 rfl rfl (hw _ (List.mem_of_getElem? (i := 145) rfl)) (hw _ (List.mem_of_getElem? (i := 146) rfl))) ?_
  refine allC_cons (s_putF (k := 8) (pos := 4) hX d16_38 (hw _ (List.mem_of_getElem? (i := 147) rfl)) Via.refl rfl rfl (lay8 a0 Z hw) nd8 (hw _ (List.mem_of_getElem? (i := 131) rfl)) (Or.inl (hw _ (List.mem_of_getElem? (i := 148) rfl)))) ?_
  refine allC_cons (s_aloadN d16_41 rfl) ?_
  refine allC_cons (s_iconst d16_42 rfl) ?_
  refine allC_cons (s_newA (k := 0) d16_43 (hw _ (List.mem_of_getElem? (i := 4) rfl)) rfl rfl) ?_
  refine allC_cons (s_putF (k := 8) (pos := 5) hX d16_45 (hw _ (List.mem_of_getElem? (i := 149) rfl)) Via.refl rfl rfl (lay8 a0 Z hw) nd8 (hw _ (List.mem_of_getElem? (i := 131) rfl)) (Or.inl (hw _ (List.mem_of_getElem? (i := 150) rfl)))) ?_
  refine allC_cons (s_aloadN d16_48 rfl) ?_
  refine allC_cons (s_aloadN d16_49 rfl) ?_
  refine allC_cons (s_putF (k := 8) (pos := 6) hX d16_50 (hw _ (List.mem_of_getElem? (i := 151) rfl)) Via.refl rfl rfl (lay8 a0 Z hw) nd8 (hw _ (List.mem_of_getElem? (i := 131) rfl)) (Or.inr ⟨(hw _ (List.mem_of_getElem? (i := 152) rfl)), rfl, rfl⟩)) ?_
  refine allC_cons (s_aloadN d16_53 rfl) ?_
  refine allC_cons (s_aloadN d16_54 rfl) ?_
  refine allC_cons (s_clone (k := 0) (ad := "[I") d16_55 rfl (by decide) (by simp) (by simp) (hw _ (List.mem_of_getElem? (i := 153) rfl)) (hw _ (List.mem_of_getElem? (i := 154) rfl)) (hw _ (List.mem_of_getElem? (i := 158) rfl)) (hw _ (List.mem_of_getElem? (i := 156) rfl)) (hw _ (List.mem_of_getElem? (i := 157) rfl)) (hw _ (List.mem_of_getElem? (i := 159) rfl)) (by decide) (by decide)) ?_
  refine allC_cons (s_cast (k := 0) d16_58 (hw _ (List.mem_of_getElem? (i := 145) rfl)) (fun hh a vs q => by obtain ⟨c, A, s, q1, q2⟩ := q; exact Ins.self (q1 rfl))) ?_
  refine allC_cons (s_putF (k := 8) (pos := 7) hX d16_61 (hw _ (List.mem_of_getElem? (i := 161) rfl)) Via.refl rfl rfl (lay8 a0 Z hw) nd8 (hw _ (List.mem_of_getElem? (i := 131) rfl)) (Or.inr ⟨(hw _ (List.mem_of_getElem? (i := 162) rfl)), rfl, rfl⟩)) ?_
  refine allC_cons (s_aloadN d16_64 rfl) ?_
  refine allC_cons (s_aloadN d16_65 rfl) ?_
  refine allC_cons (s_alen (k := 0) d16_66 rfl) ?_
  refine allC_cons (s_newA (k := 0) d16_67 (hw _ (List.mem_of_getElem? (i := 4) rfl)) rfl rfl) ?_
  refine allC_cons (s_putF (k := 8) (pos := 8) hX d16_69 (hw _ (List.mem_of_getElem? (i := 163) rfl)) Via.refl rfl rfl (lay8 a0 Z hw) nd8 (hw _ (List.mem_of_getElem? (i := 131) rfl)) (Or.inr ⟨(hw _ (List.mem_of_getElem? (i := 164) rfl)), rfl, rfl⟩)) ?_
  refine allC_cons (s_aloadN d16_72 rfl) ?_
  refine allC_cons (s_aloadN d16_73 rfl) ?_
  refine allC_cons (s_alen (k := 0) d16_74 rfl) ?_
  refine allC_cons (s_iconst d16_75 rfl) ?_
  refine allC_cons (s_iadd d16_76) ?_
  refine allC_cons (s_putF (k := 8) (pos := 9) hX d16_77 (hw _ (List.mem_of_getElem? (i := 165) rfl)) Via.refl rfl rfl (lay8 a0 Z hw) nd8 (hw _ (List.mem_of_getElem? (i := 131) rfl)) (Or.inr ⟨(hw _ (List.mem_of_getElem? (i := 166) rfl)), rfl, rfl⟩)) ?_
  refine allC_cons (s_aloadN d16_80 rfl) ?_
  refine allC_cons (s_bipush d16_81 rfl) ?_
  refine allC_cons (s_aloadN d16_83 rfl) ?_
  refine allC_cons (s_getF (k := 8) (pos := 9) d16_84 (host := "") (Or.inl (hw _ (List.mem_of_getElem? (i := 165) rfl))) Via.refl rfl rfl) ?_
  refine allC_cons (s_imul d16_87) ?_
  refine allC_cons (s_newA (k := 0) d16_88 (hw _ (List.mem_of_getElem? (i := 4) rfl)) rfl rfl) ?_
  refine allC_cons (s_putF (k := 8) (pos := 10) hX d16_90 (hw _ (List.mem_of_getElem? (i := 167) rfl)) Via.refl rfl rfl (lay8 a0 Z hw) nd8 (hw _ (List.mem_of_getElem? (i := 131) rfl)) (Or.inl (hw _ (List.mem_of_getElem? (i := 168) rfl)))) ?_
  refine allC_cons (s_aloadN d16_93 rfl) ?_
  refine allC_cons (s_virtual (Mc := M17) (k := 5) d16_94 rfl rfl (hw _ (List.mem_of_getElem? (i := 169) rfl)) (hw _ (List.mem_of_getElem? (i := 170) rfl)) (hw _ (List.mem_of_getElem? (i := 172) rfl)) (fun s hZ => notFace_of_selects (args := #[]) (mvT hZ (hw _ (List.mem_of_getElem? (i := 172) rfl)))) (hw _ (List.mem_of_getElem? (i := 171) rfl)) (hw _ (List.mem_of_getElem? (i := 11) rfl)) (hw _ (List.mem_of_getElem? (i := 173) rfl)) pd_11 rfl (by decide) (by decide) (by decide)) ?_
  refine allC_cons (s_newA (k := 3) d16_97 (hw _ (List.mem_of_getElem? (i := 44) rfl)) rfl rfl) ?_
  refine allC_cons (s_astoreN d16_99 rfl) ?_
  refine allC_cons (s_iconst d16_100 rfl) ?_
  refine allC_cons (s_istore d16_101) ?_
  refine allC_cons (s_aloadN d16_103 rfl) ?_
  refine allC_cons (s_astore d16_104) ?_
  refine allC_cons (s_aload d16_106) ?_
  refine allC_cons (s_alen (k := 0) d16_108 rfl) ?_
  refine allC_cons (s_istore d16_109) ?_
  refine allC_cons (s_iconst d16_111 rfl) ?_
  refine allC_cons (s_istore d16_112) ?_
  refine allC_cons (s_iload d16_114) ?_
  refine allC_cons (s_iload d16_116) ?_
  refine allC_cons (s_icmp d16_118 (by decide) (by decide)) ?_
  refine allC_cons (s_aload d16_121) ?_
  refine allC_cons (s_iload d16_123) ?_
  refine allC_cons (s_iaload (k := 0) d16_125 rfl) ?_
  refine allC_cons (s_istore d16_126) ?_
  refine allC_cons (s_aloadN d16_128 rfl) ?_
  refine allC_cons (s_iload d16_129) ?_
  refine allC_cons (s_zaload (k := 3) d16_131 rfl) ?_
  refine allC_cons (s_if d16_132 (by decide) (by decide)) ?_
  refine allC_cons (s_aloadN d16_135 rfl) ?_
  refine allC_cons (s_iload d16_136) ?_
  refine allC_cons (s_iconst d16_138 rfl) ?_
  refine allC_cons (s_zastore (k := 3) hX d16_139 rfl) ?_
  refine allC_cons (s_iinc d16_140 rfl) ?_
  refine allC_cons (s_iinc d16_143 rfl) ?_
  refine allC_cons (s_goto d16_146 (by decide) (by decide)) ?_
  refine allC_cons (s_aloadN d16_149 rfl) ?_
  refine allC_cons (s_iload d16_150) ?_
  refine allC_cons (s_aloadN d16_152 rfl) ?_
  refine allC_cons (s_virtual (Mc := M17) (k := 5) d16_153 rfl rfl (hw _ (List.mem_of_getElem? (i := 169) rfl)) (hw _ (List.mem_of_getElem? (i := 170) rfl)) (hw _ (List.mem_of_getElem? (i := 172) rfl)) (fun s hZ => notFace_of_selects (args := #[]) (mvT hZ (hw _ (List.mem_of_getElem? (i := 172) rfl)))) (hw _ (List.mem_of_getElem? (i := 171) rfl)) (hw _ (List.mem_of_getElem? (i := 11) rfl)) (hw _ (List.mem_of_getElem? (i := 173) rfl)) pd_11 rfl (by decide) (by decide) (by decide)) ?_
  refine allC_cons (s_icmp d16_156 (by decide) (by decide)) ?_
  refine allC_cons (s_iconst d16_159 rfl) ?_
  refine allC_cons (s_goto d16_160 (by decide) (by decide)) ?_
  refine allC_cons (s_iconst d16_163 rfl) ?_
  refine allC_cons (s_putF (k := 8) (pos := 11) hX d16_164 (hw _ (List.mem_of_getElem? (i := 174) rfl)) Via.refl rfl rfl (lay8 a0 Z hw) nd8 (hw _ (List.mem_of_getElem? (i := 131) rfl)) (Or.inr ⟨(hw _ (List.mem_of_getElem? (i := 175) rfl)), rfl, rfl⟩)) ?_
  refine allC_cons (s_ret d16_167 rfl) ?_
  exact allC_nil
theorem pl16 : plainFor M16.1 = true := by first | exact plainFor_of_name (by first | (simp [M16, x, plainName, overriddenIn]; done) | decide +kernel) | decide +kernel
set_option maxRecDepth 65536 in
set_option maxHeartbeats 4000000 in
theorem snd17 (l : Launch) (a0 : Array Value) (Z : State) (hw : ∀ d ∈ tables_1, d.before a0 Z = true) (aN aD : Addr) (hXX : ∀ a ∈ [aN, aD], a < Z.heap.size) (sN : Sta Z Z.heap "com/example/predicat/predicat/kernel/Index" "NO_TUPLES" "[I" (.ref aN)) (sD : Sta Z Z.heap "java/util/ArrayList" "DEFAULTCAPACITY_EMPTY_ELEMENTDATA" "[Ljava/lang/Object;" (.ref aD)): ∀ q ∈ c17, Sound Z [aN, aD] CT l MT M17 q.1 q.2 := by
  have hX : ∀ a ∈ ([aN, aD] : List Addr), a < Z.heap.size := hXX
  have hxl : ∀ i j, i ≠ j → (2 ≤ i ∨ 2 ≤ j) → ph Z [aN, aD] i ≠ ph Z [aN, aD] j := fun i j hij hi => ph_ne hX hij hi
  refine allC_mem (P := Sound Z [aN, aD] CT l MT M17) ?_
  unfold c17
  refine allC_cons (s_aloadN d17_0 rfl) ?_
  refine allC_cons (s_getF (k := 5) (pos := 2) d17_1 (host := "") (Or.inl (hw _ (List.mem_of_getElem? (i := 47) rfl))) Via.refl rfl rfl) ?_
  refine allC_cons (s_retI d17_4 rfl (by simp)) ?_
  exact allC_nil
theorem pl17 : plainFor M17.1 = true := by first | exact plainFor_of_name (by first | (simp [M17, x, plainName, overriddenIn]; done) | decide +kernel) | decide +kernel
set_option maxRecDepth 65536 in
set_option maxHeartbeats 4000000 in
theorem snd18 (l : Launch) (a0 : Array Value) (Z : State) (hw : ∀ d ∈ tables_1, d.before a0 Z = true) (aN aD : Addr) (hXX : ∀ a ∈ [aN, aD], a < Z.heap.size) (sN : Sta Z Z.heap "com/example/predicat/predicat/kernel/Index" "NO_TUPLES" "[I" (.ref aN)) (sD : Sta Z Z.heap "java/util/ArrayList" "DEFAULTCAPACITY_EMPTY_ELEMENTDATA" "[Ljava/lang/Object;" (.ref aD)): ∀ q ∈ c18, Sound Z [aN, aD] CT l MT M18 q.1 q.2 := by
  have hX : ∀ a ∈ ([aN, aD] : List Addr), a < Z.heap.size := hXX
  have hxl : ∀ i j, i ≠ j → (2 ≤ i ∨ 2 ≤ j) → ph Z [aN, aD] i ≠ ph Z [aN, aD] j := fun i j hij hi => ph_ne hX hij hi
  refine allC_mem (P := Sound Z [aN, aD] CT l MT M18) ?_
  unfold c18
  refine allC_cons (s_iloadN d18_0 rfl) ?_
  refine allC_cons (s_newA (k := 0) d18_1 (hw _ (List.mem_of_getElem? (i := 4) rfl)) rfl rfl) ?_
  refine allC_cons (s_astoreN d18_3 rfl) ?_
  refine allC_cons (s_iconst d18_4 rfl) ?_
  refine allC_cons (s_istoreN d18_5 rfl) ?_
  refine allC_cons (s_iloadN d18_6 rfl) ?_
  refine allC_cons (s_iloadN d18_7 rfl) ?_
  refine allC_cons (s_icmp d18_8 (by decide) (by decide)) ?_
  refine allC_cons (s_aloadN d18_11 rfl) ?_
  refine allC_cons (s_iloadN d18_12 rfl) ?_
  refine allC_cons (s_aloadN d18_13 rfl) ?_
  refine allC_cons (s_getF (k := 8) (pos := 8) d18_14 (host := "") (Or.inl (hw _ (List.mem_of_getElem? (i := 163) rfl))) Via.refl rfl rfl) ?_
  refine allC_cons (s_private2 (Mc := M28) (k := 8) d18_17 rfl rfl (hw _ (List.mem_of_getElem? (i := 238) rfl)) (hw _ (List.mem_of_getElem? (i := 239) rfl)) (hw _ (List.mem_of_getElem? (i := 131) rfl)) (hw _ (List.mem_of_getElem? (i := 240) rfl)) (hw _ (List.mem_of_getElem? (i := 132) rfl)) (hw _ (List.mem_of_getElem? (i := 241) rfl)) pd_18 rfl (by decide) (by decide) (by decide)) ?_
  refine allC_cons (s_aloadN d18_20 rfl) ?_
  refine allC_cons (s_aloadN d18_21 rfl) ?_
  refine allC_cons (s_getF (k := 8) (pos := 8) d18_22 (host := "") (Or.inl (hw _ (List.mem_of_getElem? (i := 163) rfl))) Via.refl rfl rfl) ?_
  refine allC_cons (s_iconst d18_25 rfl) ?_
  refine allC_cons (s_aloadN d18_26 rfl) ?_
  refine allC_cons (s_aloadN d18_27 rfl) ?_
  refine allC_cons (s_getF (k := 8) (pos := 8) d18_28 (host := "") (Or.inl (hw _ (List.mem_of_getElem? (i := 163) rfl))) Via.refl rfl rfl) ?_
  refine allC_cons (s_iconst d18_31 rfl) ?_
  refine allC_cons (s_virtual (Mc := M30) (k := 8) d18_32 rfl rfl (hw _ (List.mem_of_getElem? (i := 247) rfl)) (hw _ (List.mem_of_getElem? (i := 248) rfl)) (hw _ (List.mem_of_getElem? (i := 250) rfl)) (fun s hZ => notFace_of_selects (args := #[]) (mvT hZ (hw _ (List.mem_of_getElem? (i := 250) rfl)))) (hw _ (List.mem_of_getElem? (i := 249) rfl)) (hw _ (List.mem_of_getElem? (i := 132) rfl)) (hw _ (List.mem_of_getElem? (i := 251) rfl)) pd_19 rfl (by decide) (by decide) (by decide)) ?_
  refine allC_cons (s_private2 (Mc := M32) (k := 8) d18_35 rfl rfl (hw _ (List.mem_of_getElem? (i := 258) rfl)) (hw _ (List.mem_of_getElem? (i := 259) rfl)) (hw _ (List.mem_of_getElem? (i := 131) rfl)) (hw _ (List.mem_of_getElem? (i := 260) rfl)) (hw _ (List.mem_of_getElem? (i := 132) rfl)) (hw _ (List.mem_of_getElem? (i := 261) rfl)) pd_20 rfl (by decide) (by decide) (by decide)) ?_
  refine allC_cons (s_istore d18_38) ?_
  refine allC_cons (s_aloadN d18_40 rfl) ?_
  refine allC_cons (s_getF (k := 8) (pos := 10) d18_41 (host := "") (Or.inl (hw _ (List.mem_of_getElem? (i := 167) rfl))) Via.refl rfl rfl) ?_
  refine allC_cons (s_iload d18_44) ?_
  refine allC_cons (s_iaload (k := 0) d18_46 rfl) ?_
  refine allC_cons (s_iconst d18_47 rfl) ?_
  refine allC_cons (s_isub d18_48) ?_
  refine allC_cons (s_istore d18_49) ?_
  refine allC_cons (s_iload d18_51) ?_
  refine allC_cons (s_if d18_53 (by decide) (by decide)) ?_
  refine allC_cons (s_aloadN d18_56 rfl) ?_
  refine allC_cons (s_getF (k := 8) (pos := 12) d18_57 (host := "") (Or.inl (hw _ (List.mem_of_getElem? (i := 181) rfl))) Via.refl rfl rfl) ?_
  refine allC_cons (s_istore d18_60) ?_
  refine allC_cons (s_aloadN d18_62 rfl) ?_
  refine allC_cons (s_iload d18_63) ?_
  refine allC_cons (s_iloadN d18_65 rfl) ?_
  refine allC_cons (s_aloadN d18_66 rfl) ?_
  refine allC_cons (s_getF (k := 8) (pos := 8) d18_67 (host := "") (Or.inl (hw _ (List.mem_of_getElem? (i := 163) rfl))) Via.refl rfl rfl) ?_
  refine allC_cons (s_iconst d18_70 rfl) ?_
  refine allC_cons (s_private2 (Mc := M33) (k := 8) d18_71 rfl rfl (hw _ (List.mem_of_getElem? (i := 262) rfl)) (hw _ (List.mem_of_getElem? (i := 263) rfl)) (hw _ (List.mem_of_getElem? (i := 131) rfl)) (hw _ (List.mem_of_getElem? (i := 264) rfl)) (hw _ (List.mem_of_getElem? (i := 132) rfl)) (hw _ (List.mem_of_getElem? (i := 265) rfl)) pd_21 rfl (by decide) (by decide) (by decide)) ?_
  refine allC_cons (s_goto d18_74 (by decide) (by decide)) ?_
  refine allC_cons (s_aloadN d18_77 rfl) ?_
  refine allC_cons (s_getF (k := 8) (pos := 3) d18_78 (host := "") (Or.inl (hw _ (List.mem_of_getElem? (i := 143) rfl))) Via.refl rfl rfl) ?_
  refine allC_cons (s_iload d18_81) ?_
  refine allC_cons (s_dup2 d18_83) ?_
  refine allC_cons (s_iaload (k := 0) d18_84 rfl) ?_
  refine allC_cons (s_iconst d18_85 rfl) ?_
  refine allC_cons (s_iadd d18_86) ?_
  refine allC_cons (s_iastore (k := 0) hX d18_87 rfl) ?_
  refine allC_cons (s_aloadN d18_88 rfl) ?_
  refine allC_cons (s_iloadN d18_89 rfl) ?_
  refine allC_cons (s_iload d18_90) ?_
  refine allC_cons (s_iastore (k := 0) hX d18_92 rfl) ?_
  refine allC_cons (s_iinc d18_93 rfl) ?_
  refine allC_cons (s_goto d18_96 (by decide) (by decide)) ?_
  refine allC_cons (s_aloadN d18_99 rfl) ?_
  refine allC_cons (s_getF (k := 8) (pos := 11) d18_100 (host := "") (Or.inl (hw _ (List.mem_of_getElem? (i := 174) rfl))) Via.refl rfl rfl) ?_
  refine allC_cons (s_if d18_103 (by decide) (by decide)) ?_
  refine allC_cons (s_ret d18_106 rfl) ?_
  refine allC_cons (s_aloadN d18_107 rfl) ?_
  refine allC_cons (s_getF (k := 8) (pos := 12) d18_108 (host := "") (Or.inl (hw _ (List.mem_of_getElem? (i := 181) rfl))) Via.refl rfl rfl) ?_
  refine allC_cons (s_newA (k := 0) d18_111 (hw _ (List.mem_of_getElem? (i := 4) rfl)) rfl rfl) ?_
  refine allC_cons (s_astoreN d18_113 rfl) ?_
  refine allC_cons (s_iconst d18_114 rfl) ?_
  refine allC_cons (s_istore d18_115) ?_
  refine allC_cons (s_iload d18_117) ?_
  refine allC_cons (s_iloadN d18_119 rfl) ?_
  refine allC_cons (s_icmp d18_120 (by decide) (by decide)) ?_
  refine allC_cons (s_aloadN d18_123 rfl) ?_
  refine allC_cons (s_iload d18_124) ?_
  refine allC_cons (s_iaload (k := 0) d18_126 rfl) ?_
  refine allC_cons (s_istore d18_127) ?_
  refine allC_cons (s_aloadN d18_129 rfl) ?_
  refine allC_cons (s_getF (k := 8) (pos := 3) d18_130 (host := "") (Or.inl (hw _ (List.mem_of_getElem? (i := 143) rfl))) Via.refl rfl rfl) ?_
  refine allC_cons (s_iload d18_133) ?_
  refine allC_cons (s_iaload (k := 0) d18_135 rfl) ?_
  refine allC_cons (s_iconst d18_136 rfl) ?_
  refine allC_cons (s_icmp d18_137 (by decide) (by decide)) ?_
  refine allC_cons (s_aloadN d18_140 rfl) ?_
  refine allC_cons (s_iload d18_141) ?_
  refine allC_cons (s_iaload (k := 0) d18_143 rfl) ?_
  refine allC_cons (s_if d18_144 (by decide) (by decide)) ?_
  refine allC_cons (s_aloadN d18_147 rfl) ?_
  refine allC_cons (s_getF (k := 8) (pos := 4) d18_148 (host := "") (Or.inl (hw _ (List.mem_of_getElem? (i := 147) rfl))) Via.refl rfl rfl) ?_
  refine allC_cons (s_iload d18_151) ?_
  refine allC_cons (s_aloadN d18_153 rfl) ?_
  refine allC_cons (s_getF (k := 8) (pos := 3) d18_154 (host := "") (Or.inl (hw _ (List.mem_of_getElem? (i := 143) rfl))) Via.refl rfl rfl) ?_
  refine allC_cons (s_iload d18_157) ?_
  refine allC_cons (s_iaload (k := 0) d18_159 rfl) ?_
  refine allC_cons (s_newA (k := 0) d18_160 (hw _ (List.mem_of_getElem? (i := 4) rfl)) rfl rfl) ?_
  refine allC_cons (s_aastore (k := 9) (vk := 0) hX d18_162 rfl rfl (fun hh a y cl us A O q => by obtain ⟨c, A', s, q1, q2⟩ := q; exact Sto.ofVA A rfl (O.2 _ rfl) (Ins.self (q1 rfl)))) ?_
  refine allC_cons (s_aloadN d18_163 rfl) ?_
  refine allC_cons (s_getF (k := 8) (pos := 4) d18_164 (host := "") (Or.inl (hw _ (List.mem_of_getElem? (i := 147) rfl))) Via.refl rfl rfl) ?_
  refine allC_cons (s_iload d18_167) ?_
  refine allC_cons (s_aaload (k := 9) d18_169 rfl rfl) ?_
  refine allC_cons (s_aloadN d18_170 rfl) ?_
  refine allC_cons (s_iload d18_171) ?_
  refine allC_cons (s_dup2 d18_173) ?_
  refine allC_cons (s_iaload (k := 0) d18_174 rfl) ?_
  refine allC_cons (s_dupX2 d18_175) ?_
  refine allC_cons (s_iconst d18_176 rfl) ?_
  refine allC_cons (s_iadd d18_177) ?_
  refine allC_cons (s_iastore (k := 0) hX d18_178 rfl) ?_
  refine allC_cons (s_iload d18_179) ?_
  refine allC_cons (s_iastore (k := 0) hX d18_181 rfl) ?_
  refine allC_cons (s_iinc d18_182 rfl) ?_
  refine allC_cons (s_goto d18_185 (by decide) (by decide)) ?_
  refine allC_cons (s_ret d18_188 rfl) ?_
  exact allC_nil
theorem pl18 : plainFor M18.1 = true := by first | exact plainFor_of_name (by first | (simp [M18, x, plainName, overriddenIn]; done) | decide +kernel) | decide +kernel
set_option maxRecDepth 65536 in
set_option maxHeartbeats 4000000 in
theorem snd19 (l : Launch) (a0 : Array Value) (Z : State) (hw : ∀ d ∈ tables_1, d.before a0 Z = true) (aN aD : Addr) (hXX : ∀ a ∈ [aN, aD], a < Z.heap.size) (sN : Sta Z Z.heap "com/example/predicat/predicat/kernel/Index" "NO_TUPLES" "[I" (.ref aN)) (sD : Sta Z Z.heap "java/util/ArrayList" "DEFAULTCAPACITY_EMPTY_ELEMENTDATA" "[Ljava/lang/Object;" (.ref aD)): ∀ q ∈ c19, Sound Z [aN, aD] CT l MT M19 q.1 q.2 := by
  have hX : ∀ a ∈ ([aN, aD] : List Addr), a < Z.heap.size := hXX
  have hxl : ∀ i j, i ≠ j → (2 ≤ i ∨ 2 ≤ j) → ph Z [aN, aD] i ≠ ph Z [aN, aD] j := fun i j hij hi => ph_ne hX hij hi
  refine allC_mem (P := Sound Z [aN, aD] CT l MT M19) ?_
  unfold c19
  refine allC_cons (s_aloadN d19_0 rfl) ?_
  refine allC_cons (s_dup d19_1) ?_
  refine allC_cons (s_getF (k := 6) (pos := 0) d19_2 (host := "") (Or.inl (hw _ (List.mem_of_getElem? (i := 191) rfl))) (Via.of (hw _ (List.mem_of_getElem? (i := 115) rfl))) rfl rfl) ?_
  refine allC_cons (s_iconst d19_5 rfl) ?_
  refine allC_cons (s_iadd d19_6) ?_
  refine allC_cons (s_putF (k := 6) (pos := 0) hX d19_7 (hw _ (List.mem_of_getElem? (i := 191) rfl)) (Via.of (hw _ (List.mem_of_getElem? (i := 115) rfl))) rfl rfl (lay6 a0 Z hw) nd6 (hw _ (List.mem_of_getElem? (i := 19) rfl)) (Or.inl (hw _ (List.mem_of_getElem? (i := 38) rfl)))) ?_
  refine allC_cons (s_aloadN d19_10 rfl) ?_
  refine allC_cons (s_aloadN d19_11 rfl) ?_
  refine allC_cons (s_aloadN d19_12 rfl) ?_
  refine allC_cons (s_getF (k := 6) (pos := 1) d19_13 (host := "") (Or.inl (hw _ (List.mem_of_getElem? (i := 40) rfl))) Via.refl rfl rfl) ?_
  refine allC_cons (s_aloadN d19_16 rfl) ?_
  refine allC_cons (s_getF (k := 6) (pos := 2) d19_17 (host := "") (Or.inl (hw _ (List.mem_of_getElem? (i := 87) rfl))) Via.refl rfl rfl) ?_
  refine allC_cons (s_private2 (Mc := M20) (k := 6) d19_20 rfl rfl (hw _ (List.mem_of_getElem? (i := 192) rfl)) (hw _ (List.mem_of_getElem? (i := 193) rfl)) (hw _ (List.mem_of_getElem? (i := 19) rfl)) (hw _ (List.mem_of_getElem? (i := 194) rfl)) (hw _ (List.mem_of_getElem? (i := 20) rfl)) (hw _ (List.mem_of_getElem? (i := 196) rfl)) pd_22 rfl (by decide) (by decide) (by decide)) ?_
  refine allC_cons (s_iconst d19_23 rfl) ?_
  refine allC_cons (s_retI d19_24 rfl (by simp)) ?_
  exact allC_nil
theorem pl19 : plainFor M19.1 = true := by first | exact plainFor_of_name (by first | (simp [M19, x, plainName, overriddenIn]; done) | decide +kernel) | decide +kernel
set_option maxRecDepth 65536 in
set_option maxHeartbeats 4000000 in
theorem snd20 (l : Launch) (a0 : Array Value) (Z : State) (hw : ∀ d ∈ tables_1, d.before a0 Z = true) (aN aD : Addr) (hXX : ∀ a ∈ [aN, aD], a < Z.heap.size) (sN : Sta Z Z.heap "com/example/predicat/predicat/kernel/Index" "NO_TUPLES" "[I" (.ref aN)) (sD : Sta Z Z.heap "java/util/ArrayList" "DEFAULTCAPACITY_EMPTY_ELEMENTDATA" "[Ljava/lang/Object;" (.ref aD)): ∀ q ∈ c20, Sound Z [aN, aD] CT l MT M20 q.1 q.2 := by
  have hX : ∀ a ∈ ([aN, aD] : List Addr), a < Z.heap.size := hXX
  have hxl : ∀ i j, i ≠ j → (2 ≤ i ∨ 2 ≤ j) → ph Z [aN, aD] i ≠ ph Z [aN, aD] j := fun i j hij hi => ph_ne hX hij hi
  refine allC_mem (P := Sound Z [aN, aD] CT l MT M20) ?_
  unfold c20
  refine allC_cons (s_iloadN d20_0 rfl) ?_
  refine allC_cons (s_aloadN d20_1 rfl) ?_
  refine allC_cons (s_alen (k := 11) d20_2 rfl) ?_
  refine allC_cons (s_icmp d20_3 (by decide) (by decide)) ?_
  refine allC_cons (s_aloadN d20_6 rfl) ?_
  refine allC_cons (s_private2 (Mc := M21) (k := 6) d20_7 rfl rfl (hw _ (List.mem_of_getElem? (i := 197) rfl)) (hw _ (List.mem_of_getElem? (i := 198) rfl)) (hw _ (List.mem_of_getElem? (i := 19) rfl)) (hw _ (List.mem_of_getElem? (i := 199) rfl)) (hw _ (List.mem_of_getElem? (i := 20) rfl)) (hw _ (List.mem_of_getElem? (i := 201) rfl)) pd_23 rfl (by decide) (by decide) (by decide)) ?_
  refine allC_cons (s_astoreN d20_10 rfl) ?_
  refine allC_cons (s_aloadN d20_11 rfl) ?_
  refine allC_cons (s_iloadN d20_12 rfl) ?_
  refine allC_cons (s_aloadN d20_13 rfl) ?_
  refine allC_cons (s_aastore (k := 10) (vk := 8) hX d20_14 rfl rfl (fun hh a y cl us A O q => Sto.of A (O.1 _ rfl) (Ins.of_exa q.1 (hw _ (List.mem_of_getElem? (i := 210) rfl))))) ?_
  refine allC_cons (s_aloadN d20_15 rfl) ?_
  refine allC_cons (s_iloadN d20_16 rfl) ?_
  refine allC_cons (s_iconst d20_17 rfl) ?_
  refine allC_cons (s_iadd d20_18) ?_
  refine allC_cons (s_putF (k := 6) (pos := 2) hX d20_19 (hw _ (List.mem_of_getElem? (i := 87) rfl)) Via.refl rfl rfl (lay6 a0 Z hw) nd6 (hw _ (List.mem_of_getElem? (i := 19) rfl)) (Or.inl (hw _ (List.mem_of_getElem? (i := 88) rfl)))) ?_
  refine allC_cons (s_ret d20_22 rfl) ?_
  exact allC_nil
theorem pl20 : plainFor M20.1 = true := by first | exact plainFor_of_name (by first | (simp [M20, x, plainName, overriddenIn]; done) | decide +kernel) | decide +kernel
set_option maxRecDepth 65536 in
set_option maxHeartbeats 4000000 in
theorem snd21 (l : Launch) (a0 : Array Value) (Z : State) (hw : ∀ d ∈ tables_1, d.before a0 Z = true) (aN aD : Addr) (hXX : ∀ a ∈ [aN, aD], a < Z.heap.size) (sN : Sta Z Z.heap "com/example/predicat/predicat/kernel/Index" "NO_TUPLES" "[I" (.ref aN)) (sD : Sta Z Z.heap "java/util/ArrayList" "DEFAULTCAPACITY_EMPTY_ELEMENTDATA" "[Ljava/lang/Object;" (.ref aD)): ∀ q ∈ c21, Sound Z [aN, aD] CT l MT M21 q.1 q.2 := by
  have hX : ∀ a ∈ ([aN, aD] : List Addr), a < Z.heap.size := hXX
  have hxl : ∀ i j, i ≠ j → (2 ≤ i ∨ 2 ≤ j) → ph Z [aN, aD] i ≠ ph Z [aN, aD] j := fun i j hij hi => ph_ne hX hij hi
  refine allC_mem (P := Sound Z [aN, aD] CT l MT M21) ?_
  unfold c21
  refine allC_cons (s_aloadN d21_0 rfl) ?_
  refine allC_cons (s_aloadN d21_1 rfl) ?_
  refine allC_cons (s_getF (k := 6) (pos := 2) d21_2 (host := "") (Or.inl (hw _ (List.mem_of_getElem? (i := 87) rfl))) Via.refl rfl rfl) ?_
  refine allC_cons (s_iconst d21_5 rfl) ?_
  refine allC_cons (s_iadd d21_6) ?_
  refine allC_cons (s_private2 (Mc := M22) (k := 6) d21_7 rfl rfl (hw _ (List.mem_of_getElem? (i := 202) rfl)) (hw _ (List.mem_of_getElem? (i := 203) rfl)) (hw _ (List.mem_of_getElem? (i := 19) rfl)) (hw _ (List.mem_of_getElem? (i := 204) rfl)) (hw _ (List.mem_of_getElem? (i := 20) rfl)) (hw _ (List.mem_of_getElem? (i := 206) rfl)) pd_24 rfl (by decide) (by decide) (by decide)) ?_
  refine allC_cons (s_retA d21_10 rfl rfl) ?_
  exact allC_nil
theorem pl21 : plainFor M21.1 = true := by first | exact plainFor_of_name (by first | (simp [M21, x, plainName, overriddenIn]; done) | decide +kernel) | decide +kernel
set_option maxRecDepth 65536 in
set_option maxHeartbeats 4000000 in
theorem snd22 (l : Launch) (a0 : Array Value) (Z : State) (hw : ∀ d ∈ tables_1, d.before a0 Z = true) (aN aD : Addr) (hXX : ∀ a ∈ [aN, aD], a < Z.heap.size) (sN : Sta Z Z.heap "com/example/predicat/predicat/kernel/Index" "NO_TUPLES" "[I" (.ref aN)) (sD : Sta Z Z.heap "java/util/ArrayList" "DEFAULTCAPACITY_EMPTY_ELEMENTDATA" "[Ljava/lang/Object;" (.ref aD)): ∀ q ∈ c22, Sound Z [aN, aD] CT l MT M22 q.1 q.2 := by
  have hX : ∀ a ∈ ([aN, aD] : List Addr), a < Z.heap.size := hXX
  have hxl : ∀ i j, i ≠ j → (2 ≤ i ∨ 2 ≤ j) → ph Z [aN, aD] i ≠ ph Z [aN, aD] j := fun i j hij hi => ph_ne hX hij hi
  refine allC_mem (P := Sound Z [aN, aD] CT l MT M22) ?_
  unfold c22
  refine allC_cons (s_aloadN d22_0 rfl) ?_
  refine allC_cons (s_getF (k := 6) (pos := 1) d22_1 (host := "") (Or.inl (hw _ (List.mem_of_getElem? (i := 40) rfl))) Via.refl rfl rfl) ?_
  refine allC_cons (s_alen (k := 11) d22_4 rfl) ?_
  refine allC_cons (s_istoreN d22_5 rfl) ?_
  refine allC_cons (s_iloadN d22_6 rfl) ?_
  refine allC_cons (s_if d22_7 (by decide) (by decide)) ?_
  refine allC_cons (s_aloadN d22_10 rfl) ?_
  refine allC_cons (s_getF (k := 6) (pos := 1) d22_11 (host := "") (Or.inl (hw _ (List.mem_of_getElem? (i := 40) rfl))) Via.refl rfl rfl) ?_
  refine allC_cons (s_getS d22_14 (host := "") (Or.inl (hw _ (List.mem_of_getElem? (i := 39) rfl))) Via.refl sD) ?_
  refine allC_cons (s_acmpeq hxl d22_17 (by decide) (by decide)) ?_
  refine allC_cons (s_iloadN d22_20 rfl) ?_
  refine allC_cons (s_iloadN d22_21 rfl) ?_
  refine allC_cons (s_iloadN d22_22 rfl) ?_
  refine allC_cons (s_isub d22_23) ?_
  refine allC_cons (s_iloadN d22_24 rfl) ?_
  refine allC_cons (s_iconst d22_25 rfl) ?_
  refine allC_cons (s_ishr d22_26) ?_
  refine allC_cons (s_aloadN d22_45 rfl) ?_
  refine allC_cons (s_bipush d22_46 rfl) ?_
  refine allC_cons (s_iloadN d22_48 rfl) ?_
  refine allC_cons (s_callS (Mc := M7) d22_49 rfl (hw _ (List.mem_of_getElem? (i := 207) rfl)) (hw _ (List.mem_of_getElem? (i := 50) rfl)) (hw _ (List.mem_of_getElem? (i := 51) rfl)) (hw _ (List.mem_of_getElem? (i := 52) rfl)) pd_6 rfl (by decide) (by decide) (by decide)) ?_
  refine allC_cons (s_anewO (k := 10) (C := "java/lang/Object") d22_52 rfl (hw _ (List.mem_of_getElem? (i := 208) rfl)) (hw _ (List.mem_of_getElem? (i := 209) rfl))) ?_
  refine allC_cons (s_dupX1 d22_55) ?_
  refine allC_cons (s_putF (k := 6) (pos := 1) hX d22_56 (hw _ (List.mem_of_getElem? (i := 40) rfl)) Via.refl rfl rfl (lay6 a0 Z hw) nd6 (hw _ (List.mem_of_getElem? (i := 19) rfl)) (Or.inl (hw _ (List.mem_of_getElem? (i := 41) rfl)))) ?_
  refine allC_cons (s_retA d22_59 rfl rfl) ?_
  exact allC_nil
theorem pl22 : plainFor M22.1 = true := by first | exact plainFor_of_name (by first | (simp [M22, x, plainName, overriddenIn]; done) | decide +kernel) | decide +kernel
set_option maxRecDepth 65536 in
set_option maxHeartbeats 4000000 in
theorem snd23 (l : Launch) (a0 : Array Value) (Z : State) (hw : ∀ d ∈ tables_1, d.before a0 Z = true) (aN aD : Addr) (hXX : ∀ a ∈ [aN, aD], a < Z.heap.size) (sN : Sta Z Z.heap "com/example/predicat/predicat/kernel/Index" "NO_TUPLES" "[I" (.ref aN)) (sD : Sta Z Z.heap "java/util/ArrayList" "DEFAULTCAPACITY_EMPTY_ELEMENTDATA" "[Ljava/lang/Object;" (.ref aD)): ∀ q ∈ c23, Sound Z [aN, aD] CT l MT M23 q.1 q.2 := by
  have hX : ∀ a ∈ ([aN, aD] : List Addr), a < Z.heap.size := hXX
  have hxl : ∀ i j, i ≠ j → (2 ≤ i ∨ 2 ≤ j) → ph Z [aN, aD] i ≠ ph Z [aN, aD] j := fun i j hij hi => ph_ne hX hij hi
  refine allC_mem (P := Sound Z [aN, aD] CT l MT M23) ?_
  unfold c23
  refine allC_cons (s_iloadN d23_0 rfl) ?_
  refine allC_cons (s_aloadN d23_1 rfl) ?_
  refine allC_cons (s_getF (k := 6) (pos := 2) d23_2 (host := "") (Or.inl (hw _ (List.mem_of_getElem? (i := 87) rfl))) Via.refl rfl rfl) ?_
  refine allC_cons (s_callS (Mc := M24) d23_5 rfl (hw _ (List.mem_of_getElem? (i := 219) rfl)) (hw _ (List.mem_of_getElem? (i := 220) rfl)) (hw _ (List.mem_of_getElem? (i := 221) rfl)) (hw _ (List.mem_of_getElem? (i := 222) rfl)) pd_6 rfl (by decide) (by decide) (by decide)) ?_
  refine allC_cons (s_pop d23_8) ?_
  refine allC_cons (s_aloadN d23_9 rfl) ?_
  refine allC_cons (s_iloadN d23_10 rfl) ?_
  refine allC_cons (s_virtual (Mc := M26) (k := 6) d23_11 rfl rfl (hw _ (List.mem_of_getElem? (i := 227) rfl)) (hw _ (List.mem_of_getElem? (i := 228) rfl)) (hw _ (List.mem_of_getElem? (i := 230) rfl)) (fun s hZ => notFace_of_selects (args := #[]) (mvT hZ (hw _ (List.mem_of_getElem? (i := 230) rfl)))) (hw _ (List.mem_of_getElem? (i := 229) rfl)) (hw _ (List.mem_of_getElem? (i := 20) rfl)) (hw _ (List.mem_of_getElem? (i := 231) rfl)) pd_12 rfl (by decide) (by decide) (by decide)) ?_
  refine allC_cons (s_retA d23_14 rfl rfl) ?_
  exact allC_nil
theorem pl23 : plainFor M23.1 = true := by first | exact plainFor_of_name (by first | (simp [M23, x, plainName, overriddenIn]; done) | decide +kernel) | decide +kernel
set_option maxRecDepth 65536 in
set_option maxHeartbeats 4000000 in
theorem snd24 (l : Launch) (a0 : Array Value) (Z : State) (hw : ∀ d ∈ tables_1, d.before a0 Z = true) (aN aD : Addr) (hXX : ∀ a ∈ [aN, aD], a < Z.heap.size) (sN : Sta Z Z.heap "com/example/predicat/predicat/kernel/Index" "NO_TUPLES" "[I" (.ref aN)) (sD : Sta Z Z.heap "java/util/ArrayList" "DEFAULTCAPACITY_EMPTY_ELEMENTDATA" "[Ljava/lang/Object;" (.ref aD)): ∀ q ∈ c24, Sound Z [aN, aD] CT l MT M24 q.1 q.2 := by
  have hX : ∀ a ∈ ([aN, aD] : List Addr), a < Z.heap.size := hXX
  have hxl : ∀ i j, i ≠ j → (2 ≤ i ∨ 2 ≤ j) → ph Z [aN, aD] i ≠ ph Z [aN, aD] j := fun i j hij hi => ph_ne hX hij hi
  refine allC_mem (P := Sound Z [aN, aD] CT l MT M24) ?_
  unfold c24
  refine allC_cons (s_iloadN d24_0 rfl) ?_
  refine allC_cons (s_iloadN d24_1 rfl) ?_
  refine allC_cons (s_null d24_2) ?_
  refine allC_cons (s_callS (Mc := M25) d24_3 rfl (hw _ (List.mem_of_getElem? (i := 223) rfl)) (hw _ (List.mem_of_getElem? (i := 224) rfl)) (hw _ (List.mem_of_getElem? (i := 225) rfl)) (hw _ (List.mem_of_getElem? (i := 226) rfl)) pd_25 rfl (by decide) (by decide) (by decide)) ?_
  refine allC_cons (s_retI d24_6 rfl (by simp)) ?_
  exact allC_nil
theorem pl24 : plainFor M24.1 = true := by first | exact plainFor_of_name (by first | (simp [M24, x, plainName, overriddenIn]; done) | decide +kernel) | decide +kernel
set_option maxRecDepth 65536 in
set_option maxHeartbeats 4000000 in
theorem snd25 (l : Launch) (a0 : Array Value) (Z : State) (hw : ∀ d ∈ tables_1, d.before a0 Z = true) (aN aD : Addr) (hXX : ∀ a ∈ [aN, aD], a < Z.heap.size) (sN : Sta Z Z.heap "com/example/predicat/predicat/kernel/Index" "NO_TUPLES" "[I" (.ref aN)) (sD : Sta Z Z.heap "java/util/ArrayList" "DEFAULTCAPACITY_EMPTY_ELEMENTDATA" "[Ljava/lang/Object;" (.ref aD)): ∀ q ∈ c25, Sound Z [aN, aD] CT l MT M25 q.1 q.2 := by
  have hX : ∀ a ∈ ([aN, aD] : List Addr), a < Z.heap.size := hXX
  have hxl : ∀ i j, i ≠ j → (2 ≤ i ∨ 2 ≤ j) → ph Z [aN, aD] i ≠ ph Z [aN, aD] j := fun i j hij hi => ph_ne hX hij hi
  refine allC_mem (P := Sound Z [aN, aD] CT l MT M25) ?_
  unfold c25
  refine allC_cons (s_iloadN d25_0 rfl) ?_
  refine allC_cons (s_if d25_1 (by decide) (by decide)) ?_
  refine allC_cons (s_iloadN d25_4 rfl) ?_
  refine allC_cons (s_iloadN d25_5 rfl) ?_
  refine allC_cons (s_icmp d25_6 (by decide) (by decide)) ?_
  refine allC_cons (s_aloadN d25_9 rfl) ?_
  refine allC_cons (s_iloadN d25_10 rfl) ?_
  refine allC_cons (s_iloadN d25_11 rfl) ?_
  refine allC_cons (s_iloadN d25_16 rfl) ?_
  refine allC_cons (s_retI d25_17 rfl (by simp)) ?_
  exact allC_nil
theorem pl25 : plainFor M25.1 = true := by first | exact plainFor_of_name (by first | (simp [M25, x, plainName, overriddenIn]; done) | decide +kernel) | decide +kernel
set_option maxRecDepth 65536 in
set_option maxHeartbeats 4000000 in
theorem snd26 (l : Launch) (a0 : Array Value) (Z : State) (hw : ∀ d ∈ tables_1, d.before a0 Z = true) (aN aD : Addr) (hXX : ∀ a ∈ [aN, aD], a < Z.heap.size) (sN : Sta Z Z.heap "com/example/predicat/predicat/kernel/Index" "NO_TUPLES" "[I" (.ref aN)) (sD : Sta Z Z.heap "java/util/ArrayList" "DEFAULTCAPACITY_EMPTY_ELEMENTDATA" "[Ljava/lang/Object;" (.ref aD)): ∀ q ∈ c26, Sound Z [aN, aD] CT l MT M26 q.1 q.2 := by
  have hX : ∀ a ∈ ([aN, aD] : List Addr), a < Z.heap.size := hXX
  have hxl : ∀ i j, i ≠ j → (2 ≤ i ∨ 2 ≤ j) → ph Z [aN, aD] i ≠ ph Z [aN, aD] j := fun i j hij hi => ph_ne hX hij hi
  refine allC_mem (P := Sound Z [aN, aD] CT l MT M26) ?_
  unfold c26
  refine allC_cons (s_aloadN d26_0 rfl) ?_
  refine allC_cons (s_getF (k := 6) (pos := 1) d26_1 (host := "") (Or.inl (hw _ (List.mem_of_getElem? (i := 40) rfl))) Via.refl rfl rfl) ?_
  refine allC_cons (s_iloadN d26_4 rfl) ?_
  refine allC_cons (s_aaload (k := 10) d26_5 rfl rfl) ?_
  refine allC_cons (s_retA d26_6 rfl rfl) ?_
  exact allC_nil
theorem pl26 : plainFor M26.1 = true := by first | exact plainFor_of_name (by first | (simp [M26, x, plainName, overriddenIn]; done) | decide +kernel) | decide +kernel
set_option maxRecDepth 65536 in
set_option maxHeartbeats 4000000 in
theorem snd27 (l : Launch) (a0 : Array Value) (Z : State) (hw : ∀ d ∈ tables_1, d.before a0 Z = true) (aN aD : Addr) (hXX : ∀ a ∈ [aN, aD], a < Z.heap.size) (sN : Sta Z Z.heap "com/example/predicat/predicat/kernel/Index" "NO_TUPLES" "[I" (.ref aN)) (sD : Sta Z Z.heap "java/util/ArrayList" "DEFAULTCAPACITY_EMPTY_ELEMENTDATA" "[Ljava/lang/Object;" (.ref aD)): ∀ q ∈ c27, Sound Z [aN, aD] CT l MT M27 q.1 q.2 := by
  have hX : ∀ a ∈ ([aN, aD] : List Addr), a < Z.heap.size := hXX
  have hxl : ∀ i j, i ≠ j → (2 ≤ i ∨ 2 ≤ j) → ph Z [aN, aD] i ≠ ph Z [aN, aD] j := fun i j hij hi => ph_ne hX hij hi
  refine allC_mem (P := Sound Z [aN, aD] CT l MT M27) ?_
  unfold c27
  refine allC_cons (s_aloadN d27_0 rfl) ?_
  refine allC_cons (s_iloadN d27_1 rfl) ?_
  refine allC_cons (s_aloadN d27_2 rfl) ?_
  refine allC_cons (s_getF (k := 8) (pos := 8) d27_3 (host := "") (Or.inl (hw _ (List.mem_of_getElem? (i := 163) rfl))) Via.refl rfl rfl) ?_
  refine allC_cons (s_private2 (Mc := M28) (k := 8) d27_6 rfl rfl (hw _ (List.mem_of_getElem? (i := 238) rfl)) (hw _ (List.mem_of_getElem? (i := 239) rfl)) (hw _ (List.mem_of_getElem? (i := 131) rfl)) (hw _ (List.mem_of_getElem? (i := 240) rfl)) (hw _ (List.mem_of_getElem? (i := 132) rfl)) (hw _ (List.mem_of_getElem? (i := 241) rfl)) pd_18 rfl (by decide) (by decide) (by decide)) ?_
  refine allC_cons (s_aloadN d27_9 rfl) ?_
  refine allC_cons (s_aloadN d27_10 rfl) ?_
  refine allC_cons (s_getF (k := 8) (pos := 8) d27_11 (host := "") (Or.inl (hw _ (List.mem_of_getElem? (i := 163) rfl))) Via.refl rfl rfl) ?_
  refine allC_cons (s_iconst d27_14 rfl) ?_
  refine allC_cons (s_aloadN d27_15 rfl) ?_
  refine allC_cons (s_aloadN d27_16 rfl) ?_
  refine allC_cons (s_getF (k := 8) (pos := 8) d27_17 (host := "") (Or.inl (hw _ (List.mem_of_getElem? (i := 163) rfl))) Via.refl rfl rfl) ?_
  refine allC_cons (s_iconst d27_20 rfl) ?_
  refine allC_cons (s_virtual (Mc := M30) (k := 8) d27_21 rfl rfl (hw _ (List.mem_of_getElem? (i := 247) rfl)) (hw _ (List.mem_of_getElem? (i := 248) rfl)) (hw _ (List.mem_of_getElem? (i := 250) rfl)) (fun s hZ => notFace_of_selects (args := #[]) (mvT hZ (hw _ (List.mem_of_getElem? (i := 250) rfl)))) (hw _ (List.mem_of_getElem? (i := 249) rfl)) (hw _ (List.mem_of_getElem? (i := 132) rfl)) (hw _ (List.mem_of_getElem? (i := 251) rfl)) pd_19 rfl (by decide) (by decide) (by decide)) ?_
  refine allC_cons (s_private2 (Mc := M32) (k := 8) d27_24 rfl rfl (hw _ (List.mem_of_getElem? (i := 258) rfl)) (hw _ (List.mem_of_getElem? (i := 259) rfl)) (hw _ (List.mem_of_getElem? (i := 131) rfl)) (hw _ (List.mem_of_getElem? (i := 260) rfl)) (hw _ (List.mem_of_getElem? (i := 132) rfl)) (hw _ (List.mem_of_getElem? (i := 261) rfl)) pd_20 rfl (by decide) (by decide) (by decide)) ?_
  refine allC_cons (s_istoreN d27_27 rfl) ?_
  refine allC_cons (s_aloadN d27_28 rfl) ?_
  refine allC_cons (s_getF (k := 8) (pos := 10) d27_29 (host := "") (Or.inl (hw _ (List.mem_of_getElem? (i := 167) rfl))) Via.refl rfl rfl) ?_
  refine allC_cons (s_iloadN d27_32 rfl) ?_
  refine allC_cons (s_iaload (k := 0) d27_33 rfl) ?_
  refine allC_cons (s_iconst d27_34 rfl) ?_
  refine allC_cons (s_isub d27_35) ?_
  refine allC_cons (s_istoreN d27_36 rfl) ?_
  refine allC_cons (s_iloadN d27_37 rfl) ?_
  refine allC_cons (s_if d27_38 (by decide) (by decide)) ?_
  refine allC_cons (s_aloadN d27_41 rfl) ?_
  refine allC_cons (s_iloadN d27_42 rfl) ?_
  refine allC_cons (s_iloadN d27_43 rfl) ?_
  refine allC_cons (s_aloadN d27_44 rfl) ?_
  refine allC_cons (s_getF (k := 8) (pos := 8) d27_45 (host := "") (Or.inl (hw _ (List.mem_of_getElem? (i := 163) rfl))) Via.refl rfl rfl) ?_
  refine allC_cons (s_iconst d27_48 rfl) ?_
  refine allC_cons (s_private2 (Mc := M33) (k := 8) d27_49 rfl rfl (hw _ (List.mem_of_getElem? (i := 262) rfl)) (hw _ (List.mem_of_getElem? (i := 263) rfl)) (hw _ (List.mem_of_getElem? (i := 131) rfl)) (hw _ (List.mem_of_getElem? (i := 264) rfl)) (hw _ (List.mem_of_getElem? (i := 132) rfl)) (hw _ (List.mem_of_getElem? (i := 265) rfl)) pd_21 rfl (by decide) (by decide) (by decide)) ?_
  refine allC_cons (s_goto d27_52 (by decide) (by decide)) ?_
  refine allC_cons (s_aloadN d27_55 rfl) ?_
  refine allC_cons (s_getF (k := 8) (pos := 3) d27_56 (host := "") (Or.inl (hw _ (List.mem_of_getElem? (i := 143) rfl))) Via.refl rfl rfl) ?_
  refine allC_cons (s_iloadN d27_59 rfl) ?_
  refine allC_cons (s_iaload (k := 0) d27_60 rfl) ?_
  refine allC_cons (s_iconst d27_61 rfl) ?_
  refine allC_cons (s_icmp d27_62 (by decide) (by decide)) ?_
  refine allC_cons (s_aloadN d27_65 rfl) ?_
  refine allC_cons (s_getF (k := 8) (pos := 4) d27_66 (host := "") (Or.inl (hw _ (List.mem_of_getElem? (i := 147) rfl))) Via.refl rfl rfl) ?_
  refine allC_cons (s_iloadN d27_69 rfl) ?_
  refine allC_cons (s_iconst d27_70 rfl) ?_
  refine allC_cons (s_newA (k := 0) d27_71 (hw _ (List.mem_of_getElem? (i := 4) rfl)) rfl rfl) ?_
  refine allC_cons (s_dup d27_73) ?_
  refine allC_cons (s_iconst d27_74 rfl) ?_
  refine allC_cons (s_aloadN d27_75 rfl) ?_
  refine allC_cons (s_getF (k := 8) (pos := 2) d27_76 (host := "") (Or.inl (hw _ (List.mem_of_getElem? (i := 141) rfl))) Via.refl rfl rfl) ?_
  refine allC_cons (s_iloadN d27_79 rfl) ?_
  refine allC_cons (s_iaload (k := 0) d27_80 rfl) ?_
  refine allC_cons (s_iastore (k := 0) hX d27_81 rfl) ?_
  refine allC_cons (s_dup d27_82) ?_
  refine allC_cons (s_iconst d27_83 rfl) ?_
  refine allC_cons (s_iconst d27_84 rfl) ?_
  refine allC_cons (s_iastore (k := 0) hX d27_85 rfl) ?_
  refine allC_cons (s_dup d27_86) ?_
  refine allC_cons (s_iconst d27_87 rfl) ?_
  refine allC_cons (s_iconst d27_88 rfl) ?_
  refine allC_cons (s_iastore (k := 0) hX d27_89 rfl) ?_
  refine allC_cons (s_dup d27_90) ?_
  refine allC_cons (s_iconst d27_91 rfl) ?_
  refine allC_cons (s_iconst d27_92 rfl) ?_
  refine allC_cons (s_iastore (k := 0) hX d27_93 rfl) ?_
  refine allC_cons (s_aastore (k := 9) (vk := 0) hX d27_94 rfl rfl (fun hh a y cl us A O q => by obtain ⟨c, A', s, q1, q2⟩ := q; exact Sto.ofVA A rfl (O.2 _ rfl) (Ins.self (q1 rfl)))) ?_
  refine allC_cons (s_goto d27_95 (by decide) (by decide)) ?_
  refine allC_cons (s_aloadN d27_98 rfl) ?_
  refine allC_cons (s_getF (k := 8) (pos := 3) d27_99 (host := "") (Or.inl (hw _ (List.mem_of_getElem? (i := 143) rfl))) Via.refl rfl rfl) ?_
  refine allC_cons (s_iloadN d27_102 rfl) ?_
  refine allC_cons (s_iaload (k := 0) d27_103 rfl) ?_
  refine allC_cons (s_aloadN d27_104 rfl) ?_
  refine allC_cons (s_getF (k := 8) (pos := 4) d27_105 (host := "") (Or.inl (hw _ (List.mem_of_getElem? (i := 147) rfl))) Via.refl rfl rfl) ?_
  refine allC_cons (s_iloadN d27_108 rfl) ?_
  refine allC_cons (s_aaload (k := 9) d27_109 rfl rfl) ?_
  refine allC_cons (s_alen (k := 0) d27_110 rfl) ?_
  refine allC_cons (s_icmp d27_111 (by decide) (by decide)) ?_
  refine allC_cons (s_aloadN d27_114 rfl) ?_
  refine allC_cons (s_getF (k := 8) (pos := 4) d27_115 (host := "") (Or.inl (hw _ (List.mem_of_getElem? (i := 147) rfl))) Via.refl rfl rfl) ?_
  refine allC_cons (s_iloadN d27_118 rfl) ?_
  refine allC_cons (s_aloadN d27_119 rfl) ?_
  refine allC_cons (s_getF (k := 8) (pos := 4) d27_120 (host := "") (Or.inl (hw _ (List.mem_of_getElem? (i := 147) rfl))) Via.refl rfl rfl) ?_
  refine allC_cons (s_iloadN d27_123 rfl) ?_
  refine allC_cons (s_aaload (k := 9) d27_124 rfl rfl) ?_
  refine allC_cons (s_aloadN d27_125 rfl) ?_
  refine allC_cons (s_getF (k := 8) (pos := 3) d27_126 (host := "") (Or.inl (hw _ (List.mem_of_getElem? (i := 143) rfl))) Via.refl rfl rfl) ?_
  refine allC_cons (s_iloadN d27_129 rfl) ?_
  refine allC_cons (s_iaload (k := 0) d27_130 rfl) ?_
  refine allC_cons (s_iconst d27_131 rfl) ?_
  refine allC_cons (s_imul d27_132) ?_
  refine allC_cons (s_callS (Mc := M38) d27_133 rfl (hw _ (List.mem_of_getElem? (i := 286) rfl)) (hw _ (List.mem_of_getElem? (i := 287) rfl)) (hw _ (List.mem_of_getElem? (i := 288) rfl)) (hw _ (List.mem_of_getElem? (i := 289) rfl)) pd_10 rfl (by decide) (by decide) (by decide)) ?_
  refine allC_cons (s_aastore (k := 9) (vk := 0) hX d27_136 rfl rfl (fun hh a y cl us A O q => by obtain ⟨c, A', s, q1, q2⟩ := q; exact Sto.ofVA A rfl (O.2 _ rfl) (Ins.self (q1 rfl)))) ?_
  refine allC_cons (s_aloadN d27_137 rfl) ?_
  refine allC_cons (s_getF (k := 8) (pos := 4) d27_138 (host := "") (Or.inl (hw _ (List.mem_of_getElem? (i := 147) rfl))) Via.refl rfl rfl) ?_
  refine allC_cons (s_iloadN d27_141 rfl) ?_
  refine allC_cons (s_aaload (k := 9) d27_142 rfl rfl) ?_
  refine allC_cons (s_aloadN d27_143 rfl) ?_
  refine allC_cons (s_getF (k := 8) (pos := 3) d27_144 (host := "") (Or.inl (hw _ (List.mem_of_getElem? (i := 143) rfl))) Via.refl rfl rfl) ?_
  refine allC_cons (s_iloadN d27_147 rfl) ?_
  refine allC_cons (s_dup2 d27_148) ?_
  refine allC_cons (s_iaload (k := 0) d27_149 rfl) ?_
  refine allC_cons (s_dupX2 d27_150) ?_
  refine allC_cons (s_iconst d27_151 rfl) ?_
  refine allC_cons (s_iadd d27_152) ?_
  refine allC_cons (s_iastore (k := 0) hX d27_153 rfl) ?_
  refine allC_cons (s_iloadN d27_154 rfl) ?_
  refine allC_cons (s_iastore (k := 0) hX d27_155 rfl) ?_
  refine allC_cons (s_ret d27_156 rfl) ?_
  exact allC_nil
theorem pl27 : plainFor M27.1 = true := by first | exact plainFor_of_name (by first | (simp [M27, x, plainName, overriddenIn]; done) | decide +kernel) | decide +kernel
set_option maxRecDepth 65536 in
set_option maxHeartbeats 4000000 in
theorem snd28 (l : Launch) (a0 : Array Value) (Z : State) (hw : ∀ d ∈ tables_1, d.before a0 Z = true) (aN aD : Addr) (hXX : ∀ a ∈ [aN, aD], a < Z.heap.size) (sN : Sta Z Z.heap "com/example/predicat/predicat/kernel/Index" "NO_TUPLES" "[I" (.ref aN)) (sD : Sta Z Z.heap "java/util/ArrayList" "DEFAULTCAPACITY_EMPTY_ELEMENTDATA" "[Ljava/lang/Object;" (.ref aD)): ∀ q ∈ c28, Sound Z [aN, aD] CT l MT M28 q.1 q.2 := by
  have hX : ∀ a ∈ ([aN, aD] : List Addr), a < Z.heap.size := hXX
  have hxl : ∀ i j, i ≠ j → (2 ≤ i ∨ 2 ≤ j) → ph Z [aN, aD] i ≠ ph Z [aN, aD] j := fun i j hij hi => ph_ne hX hij hi
  refine allC_mem (P := Sound Z [aN, aD] CT l MT M28) ?_
  unfold c28
  refine allC_cons (s_iconst d28_0 rfl) ?_
  refine allC_cons (s_istoreN d28_1 rfl) ?_
  refine allC_cons (s_iloadN d28_2 rfl) ?_
  refine allC_cons (s_aloadN d28_3 rfl) ?_
  refine allC_cons (s_getF (k := 8) (pos := 7) d28_4 (host := "") (Or.inl (hw _ (List.mem_of_getElem? (i := 161) rfl))) Via.refl rfl rfl) ?_
  refine allC_cons (s_alen (k := 0) d28_7 rfl) ?_
  refine allC_cons (s_icmp d28_8 (by decide) (by decide)) ?_
  refine allC_cons (s_aloadN d28_11 rfl) ?_
  refine allC_cons (s_iloadN d28_12 rfl) ?_
  refine allC_cons (s_aloadN d28_13 rfl) ?_
  refine allC_cons (s_getF (k := 8) (pos := 6) d28_14 (host := "") (Or.inl (hw _ (List.mem_of_getElem? (i := 151) rfl))) Via.refl rfl rfl) ?_
  refine allC_cons (s_iloadN d28_17 rfl) ?_
  refine allC_cons (s_aloadN d28_18 rfl) ?_
  refine allC_cons (s_getF (k := 8) (pos := 7) d28_19 (host := "") (Or.inl (hw _ (List.mem_of_getElem? (i := 161) rfl))) Via.refl rfl rfl) ?_
  refine allC_cons (s_iloadN d28_22 rfl) ?_
  refine allC_cons (s_iaload (k := 0) d28_23 rfl) ?_
  refine allC_cons (s_virtual (Mc := M29) (k := 5) d28_24 rfl rfl (hw _ (List.mem_of_getElem? (i := 242) rfl)) (hw _ (List.mem_of_getElem? (i := 243) rfl)) (hw _ (List.mem_of_getElem? (i := 245) rfl)) (fun s hZ => notFace_of_selects (args := #[]) (mvT hZ (hw _ (List.mem_of_getElem? (i := 245) rfl)))) (hw _ (List.mem_of_getElem? (i := 244) rfl)) (hw _ (List.mem_of_getElem? (i := 11) rfl)) (hw _ (List.mem_of_getElem? (i := 246) rfl)) pd_6 rfl (by decide) (by decide) (by decide)) ?_
  refine allC_cons (s_iastore (k := 0) hX d28_27 rfl) ?_
  refine allC_cons (s_iinc d28_28 rfl) ?_
  refine allC_cons (s_goto d28_31 (by decide) (by decide)) ?_
  refine allC_cons (s_ret d28_34 rfl) ?_
  exact allC_nil
theorem pl28 : plainFor M28.1 = true := by first | exact plainFor_of_name (by first | (simp [M28, x, plainName, overriddenIn]; done) | decide +kernel) | decide +kernel
set_option maxRecDepth 65536 in
set_option maxHeartbeats 4000000 in
theorem snd29 (l : Launch) (a0 : Array Value) (Z : State) (hw : ∀ d ∈ tables_1, d.before a0 Z = true) (aN aD : Addr) (hXX : ∀ a ∈ [aN, aD], a < Z.heap.size) (sN : Sta Z Z.heap "com/example/predicat/predicat/kernel/Index" "NO_TUPLES" "[I" (.ref aN)) (sD : Sta Z Z.heap "java/util/ArrayList" "DEFAULTCAPACITY_EMPTY_ELEMENTDATA" "[Ljava/lang/Object;" (.ref aD)): ∀ q ∈ c29, Sound Z [aN, aD] CT l MT M29 q.1 q.2 := by
  have hX : ∀ a ∈ ([aN, aD] : List Addr), a < Z.heap.size := hXX
  have hxl : ∀ i j, i ≠ j → (2 ≤ i ∨ 2 ≤ j) → ph Z [aN, aD] i ≠ ph Z [aN, aD] j := fun i j hij hi => ph_ne hX hij hi
  refine allC_mem (P := Sound Z [aN, aD] CT l MT M29) ?_
  unfold c29
  refine allC_cons (s_aloadN d29_0 rfl) ?_
  refine allC_cons (s_getF (k := 5) (pos := 3) d29_1 (host := "") (Or.inl (hw _ (List.mem_of_getElem? (i := 53) rfl))) Via.refl rfl rfl) ?_
  refine allC_cons (s_iloadN d29_4 rfl) ?_
  refine allC_cons (s_aloadN d29_5 rfl) ?_
  refine allC_cons (s_getF (k := 5) (pos := 2) d29_6 (host := "") (Or.inl (hw _ (List.mem_of_getElem? (i := 47) rfl))) Via.refl rfl rfl) ?_
  refine allC_cons (s_imul d29_9) ?_
  refine allC_cons (s_iloadN d29_10 rfl) ?_
  refine allC_cons (s_iadd d29_11) ?_
  refine allC_cons (s_iaload (k := 0) d29_12 rfl) ?_
  refine allC_cons (s_retI d29_13 rfl (by simp)) ?_
  exact allC_nil
theorem pl29 : plainFor M29.1 = true := by first | exact plainFor_of_name (by first | (simp [M29, x, plainName, overriddenIn]; done) | decide +kernel) | decide +kernel
set_option maxRecDepth 65536 in
set_option maxHeartbeats 4000000 in
theorem snd30 (l : Launch) (a0 : Array Value) (Z : State) (hw : ∀ d ∈ tables_1, d.before a0 Z = true) (aN aD : Addr) (hXX : ∀ a ∈ [aN, aD], a < Z.heap.size) (sN : Sta Z Z.heap "com/example/predicat/predicat/kernel/Index" "NO_TUPLES" "[I" (.ref aN)) (sD : Sta Z Z.heap "java/util/ArrayList" "DEFAULTCAPACITY_EMPTY_ELEMENTDATA" "[Ljava/lang/Object;" (.ref aD)): ∀ q ∈ c30, Sound Z [aN, aD] CT l MT M30 q.1 q.2 := by
  have hX : ∀ a ∈ ([aN, aD] : List Addr), a < Z.heap.size := hXX
  have hxl : ∀ i j, i ≠ j → (2 ≤ i ∨ 2 ≤ j) → ph Z [aN, aD] i ≠ ph Z [aN, aD] j := fun i j hij hi => ph_ne hX hij hi
  refine allC_mem (P := Sound Z [aN, aD] CT l MT M30) ?_
  unfold c30
  refine allC_cons (s_aloadN d30_0 rfl) ?_
  refine allC_cons (s_iloadN d30_1 rfl) ?_
  refine allC_cons (s_aloadN d30_2 rfl) ?_
  refine allC_cons (s_getF (k := 8) (pos := 7) d30_3 (host := "") (Or.inl (hw _ (List.mem_of_getElem? (i := 161) rfl))) Via.refl rfl rfl) ?_
  refine allC_cons (s_alen (k := 0) d30_6 rfl) ?_
  refine allC_cons (s_callS (Mc := M31) d30_7 rfl (hw _ (List.mem_of_getElem? (i := 252) rfl)) (hw _ (List.mem_of_getElem? (i := 253) rfl)) (hw _ (List.mem_of_getElem? (i := 132) rfl)) (hw _ (List.mem_of_getElem? (i := 254) rfl)) pd_20 rfl (by decide) (by decide) (by decide)) ?_
  refine allC_cons (s_retI d30_10 rfl (by simp)) ?_
  exact allC_nil
theorem pl30 : plainFor M30.1 = true := by first | exact plainFor_of_name (by first | (simp [M30, x, plainName, overriddenIn]; done) | decide +kernel) | decide +kernel
set_option maxRecDepth 65536 in
set_option maxHeartbeats 4000000 in
theorem snd31 (l : Launch) (a0 : Array Value) (Z : State) (hw : ∀ d ∈ tables_1, d.before a0 Z = true) (aN aD : Addr) (hXX : ∀ a ∈ [aN, aD], a < Z.heap.size) (sN : Sta Z Z.heap "com/example/predicat/predicat/kernel/Index" "NO_TUPLES" "[I" (.ref aN)) (sD : Sta Z Z.heap "java/util/ArrayList" "DEFAULTCAPACITY_EMPTY_ELEMENTDATA" "[Ljava/lang/Object;" (.ref aD)): ∀ q ∈ c31, Sound Z [aN, aD] CT l MT M31 q.1 q.2 := by
  have hX : ∀ a ∈ ([aN, aD] : List Addr), a < Z.heap.size := hXX
  have hxl : ∀ i j, i ≠ j → (2 ≤ i ∨ 2 ≤ j) → ph Z [aN, aD] i ≠ ph Z [aN, aD] j := fun i j hij hi => ph_ne hX hij hi
  refine allC_mem (P := Sound Z [aN, aD] CT l MT M31) ?_
  unfold c31
  refine allC_cons (s_ldcInt d31_0 (hw _ (List.mem_of_getElem? (i := 255) rfl))) ?_
  refine allC_cons (s_istoreN d31_2 rfl) ?_
  refine allC_cons (s_iloadN d31_3 rfl) ?_
  refine allC_cons (s_istore d31_4) ?_
  refine allC_cons (s_iload d31_6) ?_
  refine allC_cons (s_iloadN d31_8 rfl) ?_
  refine allC_cons (s_iloadN d31_9 rfl) ?_
  refine allC_cons (s_iadd d31_10) ?_
  refine allC_cons (s_icmp d31_11 (by decide) (by decide)) ?_
  refine allC_cons (s_iloadN d31_14 rfl) ?_
  refine allC_cons (s_aloadN d31_15 rfl) ?_
  refine allC_cons (s_iload d31_16) ?_
  refine allC_cons (s_iaload (k := 0) d31_18 rfl) ?_
  refine allC_cons (s_ixor d31_19) ?_
  refine allC_cons (s_ldcInt d31_20 (hw _ (List.mem_of_getElem? (i := 256) rfl))) ?_
  refine allC_cons (s_imul d31_22) ?_
  refine allC_cons (s_istoreN d31_23 rfl) ?_
  refine allC_cons (s_iinc d31_24 rfl) ?_
  refine allC_cons (s_goto d31_27 (by decide) (by decide)) ?_
  refine allC_cons (s_iloadN d31_30 rfl) ?_
  refine allC_cons (s_iloadN d31_31 rfl) ?_
  refine allC_cons (s_bipush d31_32 rfl) ?_
  refine allC_cons (s_iushr d31_34) ?_
  refine allC_cons (s_ixor d31_35) ?_
  refine allC_cons (s_istoreN d31_36 rfl) ?_
  refine allC_cons (s_iloadN d31_37 rfl) ?_
  refine allC_cons (s_ldcInt d31_38 (hw _ (List.mem_of_getElem? (i := 257) rfl))) ?_
  refine allC_cons (s_imul d31_40) ?_
  refine allC_cons (s_istoreN d31_41 rfl) ?_
  refine allC_cons (s_iloadN d31_42 rfl) ?_
  refine allC_cons (s_iloadN d31_43 rfl) ?_
  refine allC_cons (s_bipush d31_44 rfl) ?_
  refine allC_cons (s_iushr d31_46) ?_
  refine allC_cons (s_ixor d31_47) ?_
  refine allC_cons (s_istoreN d31_48 rfl) ?_
  refine allC_cons (s_iloadN d31_49 rfl) ?_
  refine allC_cons (s_retI d31_50 rfl (by simp)) ?_
  exact allC_nil
theorem pl31 : plainFor M31.1 = true := by first | exact plainFor_of_name (by first | (simp [M31, x, plainName, overriddenIn]; done) | decide +kernel) | decide +kernel
set_option maxRecDepth 65536 in
set_option maxHeartbeats 4000000 in
theorem snd32 (l : Launch) (a0 : Array Value) (Z : State) (hw : ∀ d ∈ tables_1, d.before a0 Z = true) (aN aD : Addr) (hXX : ∀ a ∈ [aN, aD], a < Z.heap.size) (sN : Sta Z Z.heap "com/example/predicat/predicat/kernel/Index" "NO_TUPLES" "[I" (.ref aN)) (sD : Sta Z Z.heap "java/util/ArrayList" "DEFAULTCAPACITY_EMPTY_ELEMENTDATA" "[Ljava/lang/Object;" (.ref aD)): ∀ q ∈ c32, Sound Z [aN, aD] CT l MT M32 q.1 q.2 := by
  have hX : ∀ a ∈ ([aN, aD] : List Addr), a < Z.heap.size := hXX
  have hxl : ∀ i j, i ≠ j → (2 ≤ i ∨ 2 ≤ j) → ph Z [aN, aD] i ≠ ph Z [aN, aD] j := fun i j hij hi => ph_ne hX hij hi
  refine allC_mem (P := Sound Z [aN, aD] CT l MT M32) ?_
  unfold c32
  refine allC_cons (s_iloadN d32_0 rfl) ?_
  refine allC_cons (s_aloadN d32_1 rfl) ?_
  refine allC_cons (s_getF (k := 8) (pos := 0) d32_2 (host := "") (Or.inl (hw _ (List.mem_of_getElem? (i := 137) rfl))) Via.refl rfl rfl) ?_
  refine allC_cons (s_iand d32_5) ?_
  refine allC_cons (s_istore d32_6) ?_
  refine allC_cons (s_iload d32_8) ?_
  refine allC_cons (s_aloadN d32_10 rfl) ?_
  refine allC_cons (s_getF (k := 8) (pos := 9) d32_11 (host := "") (Or.inl (hw _ (List.mem_of_getElem? (i := 165) rfl))) Via.refl rfl rfl) ?_
  refine allC_cons (s_imul d32_14) ?_
  refine allC_cons (s_istore d32_15) ?_
  refine allC_cons (s_aloadN d32_17 rfl) ?_
  refine allC_cons (s_getF (k := 8) (pos := 10) d32_18 (host := "") (Or.inl (hw _ (List.mem_of_getElem? (i := 167) rfl))) Via.refl rfl rfl) ?_
  refine allC_cons (s_iload d32_21) ?_
  refine allC_cons (s_iaload (k := 0) d32_23 rfl) ?_
  refine allC_cons (s_if d32_24 (by decide) (by decide)) ?_
  refine allC_cons (s_aloadN d32_27 rfl) ?_
  refine allC_cons (s_iload d32_28) ?_
  refine allC_cons (s_aloadN d32_30 rfl) ?_
  refine allC_cons (s_iloadN d32_31 rfl) ?_
  refine allC_cons (s_private2 (Mc := M34) (k := 8) d32_32 rfl rfl (hw _ (List.mem_of_getElem? (i := 269) rfl)) (hw _ (List.mem_of_getElem? (i := 270) rfl)) (hw _ (List.mem_of_getElem? (i := 131) rfl)) (hw _ (List.mem_of_getElem? (i := 271) rfl)) (hw _ (List.mem_of_getElem? (i := 132) rfl)) (hw _ (List.mem_of_getElem? (i := 272) rfl)) pd_26 rfl (by decide) (by decide) (by decide)) ?_
  refine allC_cons (s_if d32_35 (by decide) (by decide)) ?_
  refine allC_cons (s_iload d32_38) ?_
  refine allC_cons (s_retI d32_40 rfl (by simp)) ?_
  refine allC_cons (s_iload d32_41) ?_
  refine allC_cons (s_iconst d32_43 rfl) ?_
  refine allC_cons (s_iadd d32_44) ?_
  refine allC_cons (s_aloadN d32_45 rfl) ?_
  refine allC_cons (s_getF (k := 8) (pos := 0) d32_46 (host := "") (Or.inl (hw _ (List.mem_of_getElem? (i := 137) rfl))) Via.refl rfl rfl) ?_
  refine allC_cons (s_iand d32_49) ?_
  refine allC_cons (s_istore d32_50) ?_
  refine allC_cons (s_goto d32_52 (by decide) (by decide)) ?_
  exact allC_nil
theorem pl32 : plainFor M32.1 = true := by first | exact plainFor_of_name (by first | (simp [M32, x, plainName, overriddenIn]; done) | decide +kernel) | decide +kernel
set_option maxRecDepth 65536 in
set_option maxHeartbeats 4000000 in
theorem snd33 (l : Launch) (a0 : Array Value) (Z : State) (hw : ∀ d ∈ tables_1, d.before a0 Z = true) (aN aD : Addr) (hXX : ∀ a ∈ [aN, aD], a < Z.heap.size) (sN : Sta Z Z.heap "com/example/predicat/predicat/kernel/Index" "NO_TUPLES" "[I" (.ref aN)) (sD : Sta Z Z.heap "java/util/ArrayList" "DEFAULTCAPACITY_EMPTY_ELEMENTDATA" "[Ljava/lang/Object;" (.ref aD)): ∀ q ∈ c33, Sound Z [aN, aD] CT l MT M33 q.1 q.2 := by
  have hX : ∀ a ∈ ([aN, aD] : List Addr), a < Z.heap.size := hXX
  have hxl : ∀ i j, i ≠ j → (2 ≤ i ∨ 2 ≤ j) → ph Z [aN, aD] i ≠ ph Z [aN, aD] j := fun i j hij hi => ph_ne hX hij hi
  refine allC_mem (P := Sound Z [aN, aD] CT l MT M33) ?_
  unfold c33
  refine allC_cons (s_aloadN d33_0 rfl) ?_
  refine allC_cons (s_getF (k := 8) (pos := 12) d33_1 (host := "") (Or.inl (hw _ (List.mem_of_getElem? (i := 181) rfl))) Via.refl rfl rfl) ?_
  refine allC_cons (s_istore d33_4) ?_
  refine allC_cons (s_aloadN d33_6 rfl) ?_
  refine allC_cons (s_getF (k := 8) (pos := 11) d33_7 (host := "") (Or.inl (hw _ (List.mem_of_getElem? (i := 174) rfl))) Via.refl rfl rfl) ?_
  refine allC_cons (s_if d33_10 (by decide) (by decide)) ?_
  refine allC_cons (s_iload d33_13) ?_
  refine allC_cons (s_aloadN d33_15 rfl) ?_
  refine allC_cons (s_getF (k := 8) (pos := 2) d33_16 (host := "") (Or.inl (hw _ (List.mem_of_getElem? (i := 141) rfl))) Via.refl rfl rfl) ?_
  refine allC_cons (s_alen (k := 0) d33_19 rfl) ?_
  refine allC_cons (s_icmp d33_20 (by decide) (by decide)) ?_
  refine allC_cons (s_aloadN d33_23 rfl) ?_
  refine allC_cons (s_aloadN d33_24 rfl) ?_
  refine allC_cons (s_getF (k := 8) (pos := 2) d33_25 (host := "") (Or.inl (hw _ (List.mem_of_getElem? (i := 141) rfl))) Via.refl rfl rfl) ?_
  refine allC_cons (s_iload d33_28) ?_
  refine allC_cons (s_iconst d33_30 rfl) ?_
  refine allC_cons (s_imul d33_31) ?_
  refine allC_cons (s_callS (Mc := M38) d33_32 rfl (hw _ (List.mem_of_getElem? (i := 286) rfl)) (hw _ (List.mem_of_getElem? (i := 287) rfl)) (hw _ (List.mem_of_getElem? (i := 288) rfl)) (hw _ (List.mem_of_getElem? (i := 289) rfl)) pd_10 rfl (by decide) (by decide) (by decide)) ?_
  refine allC_cons (s_putF (k := 8) (pos := 2) hX d33_35 (hw _ (List.mem_of_getElem? (i := 141) rfl)) Via.refl rfl rfl (lay8 a0 Z hw) nd8 (hw _ (List.mem_of_getElem? (i := 131) rfl)) (Or.inl (hw _ (List.mem_of_getElem? (i := 142) rfl)))) ?_
  refine allC_cons (s_aloadN d33_38 rfl) ?_
  refine allC_cons (s_aloadN d33_39 rfl) ?_
  refine allC_cons (s_getF (k := 8) (pos := 3) d33_40 (host := "") (Or.inl (hw _ (List.mem_of_getElem? (i := 143) rfl))) Via.refl rfl rfl) ?_
  refine allC_cons (s_iload d33_43) ?_
  refine allC_cons (s_iconst d33_45 rfl) ?_
  refine allC_cons (s_imul d33_46) ?_
  refine allC_cons (s_callS (Mc := M38) d33_47 rfl (hw _ (List.mem_of_getElem? (i := 286) rfl)) (hw _ (List.mem_of_getElem? (i := 287) rfl)) (hw _ (List.mem_of_getElem? (i := 288) rfl)) (hw _ (List.mem_of_getElem? (i := 289) rfl)) pd_10 rfl (by decide) (by decide) (by decide)) ?_
  refine allC_cons (s_putF (k := 8) (pos := 3) hX d33_50 (hw _ (List.mem_of_getElem? (i := 143) rfl)) Via.refl rfl rfl (lay8 a0 Z hw) nd8 (hw _ (List.mem_of_getElem? (i := 131) rfl)) (Or.inl (hw _ (List.mem_of_getElem? (i := 144) rfl)))) ?_
  refine allC_cons (s_aloadN d33_53 rfl) ?_
  refine allC_cons (s_aloadN d33_54 rfl) ?_
  refine allC_cons (s_getF (k := 8) (pos := 4) d33_55 (host := "") (Or.inl (hw _ (List.mem_of_getElem? (i := 147) rfl))) Via.refl rfl rfl) ?_
  refine allC_cons (s_iload d33_58) ?_
  refine allC_cons (s_iconst d33_60 rfl) ?_
  refine allC_cons (s_imul d33_61) ?_
  refine allC_cons (s_aloadN d33_71 rfl) ?_
  refine allC_cons (s_getF (k := 8) (pos := 2) d33_72 (host := "") (Or.inl (hw _ (List.mem_of_getElem? (i := 141) rfl))) Via.refl rfl rfl) ?_
  refine allC_cons (s_iload d33_75) ?_
  refine allC_cons (s_iloadN d33_77 rfl) ?_
  refine allC_cons (s_iastore (k := 0) hX d33_78 rfl) ?_
  refine allC_cons (s_aloadN d33_79 rfl) ?_
  refine allC_cons (s_getF (k := 8) (pos := 3) d33_80 (host := "") (Or.inl (hw _ (List.mem_of_getElem? (i := 143) rfl))) Via.refl rfl rfl) ?_
  refine allC_cons (s_iload d33_83) ?_
  refine allC_cons (s_iconst d33_85 rfl) ?_
  refine allC_cons (s_iastore (k := 0) hX d33_86 rfl) ?_
  refine allC_cons (s_aloadN d33_87 rfl) ?_
  refine allC_cons (s_getF (k := 8) (pos := 4) d33_88 (host := "") (Or.inl (hw _ (List.mem_of_getElem? (i := 147) rfl))) Via.refl rfl rfl) ?_
  refine allC_cons (s_iload d33_91) ?_
  refine allC_cons (s_getS d33_93 (host := "") (Or.inl (hw _ (List.mem_of_getElem? (i := 266) rfl))) Via.refl sN) ?_
  refine allC_cons (s_aastore (k := 9) (vk := 0) hX d33_96 rfl rfl (fun hh a y cl us A O q => by obtain ⟨c, A', s, q1, q2⟩ := q; exact Sto.ofVA A rfl (O.2 _ rfl) (Ins.self (q1 rfl)))) ?_
  refine allC_cons (s_aloadN d33_97 rfl) ?_
  refine allC_cons (s_dup d33_98) ?_
  refine allC_cons (s_getF (k := 8) (pos := 12) d33_99 (host := "") (Or.inl (hw _ (List.mem_of_getElem? (i := 181) rfl))) Via.refl rfl rfl) ?_
  refine allC_cons (s_iconst d33_102 rfl) ?_
  refine allC_cons (s_iadd d33_103) ?_
  refine allC_cons (s_putF (k := 8) (pos := 12) hX d33_104 (hw _ (List.mem_of_getElem? (i := 181) rfl)) Via.refl rfl rfl (lay8 a0 Z hw) nd8 (hw _ (List.mem_of_getElem? (i := 131) rfl)) (Or.inl (hw _ (List.mem_of_getElem? (i := 182) rfl)))) ?_
  refine allC_cons (s_aloadN d33_107 rfl) ?_
  refine allC_cons (s_getF (k := 8) (pos := 10) d33_108 (host := "") (Or.inl (hw _ (List.mem_of_getElem? (i := 167) rfl))) Via.refl rfl rfl) ?_
  refine allC_cons (s_iloadN d33_111 rfl) ?_
  refine allC_cons (s_iload d33_112) ?_
  refine allC_cons (s_iconst d33_114 rfl) ?_
  refine allC_cons (s_iadd d33_115) ?_
  refine allC_cons (s_iastore (k := 0) hX d33_116 rfl) ?_
  refine allC_cons (s_aloadN d33_117 rfl) ?_
  refine allC_cons (s_iload d33_118) ?_
  refine allC_cons (s_aloadN d33_120 rfl) ?_
  refine allC_cons (s_getF (k := 8) (pos := 10) d33_121 (host := "") (Or.inl (hw _ (List.mem_of_getElem? (i := 167) rfl))) Via.refl rfl rfl) ?_
  refine allC_cons (s_iloadN d33_124 rfl) ?_
  refine allC_cons (s_iconst d33_125 rfl) ?_
  refine allC_cons (s_iadd d33_126) ?_
  refine allC_cons (s_aloadN d33_127 rfl) ?_
  refine allC_cons (s_getF (k := 8) (pos := 7) d33_128 (host := "") (Or.inl (hw _ (List.mem_of_getElem? (i := 161) rfl))) Via.refl rfl rfl) ?_
  refine allC_cons (s_alen (k := 0) d33_131 rfl) ?_
  refine allC_cons (s_copy (k := 0) hX d33_132 rfl rfl (hw _ (List.mem_of_getElem? (i := 268) rfl)) (hw _ (List.mem_of_getElem? (i := 71) rfl)) (hw _ (List.mem_of_getElem? (i := 69) rfl)) (hw _ (List.mem_of_getElem? (i := 70) rfl)) (by decide) (by decide)) ?_
  refine allC_cons (s_aloadN d33_135 rfl) ?_
  refine allC_cons (s_getF (k := 8) (pos := 12) d33_136 (host := "") (Or.inl (hw _ (List.mem_of_getElem? (i := 181) rfl))) Via.refl rfl rfl) ?_
  refine allC_cons (s_aloadN d33_139 rfl) ?_
  refine allC_cons (s_getF (k := 8) (pos := 1) d33_140 (host := "") (Or.inl (hw _ (List.mem_of_getElem? (i := 139) rfl))) Via.refl rfl rfl) ?_
  refine allC_cons (s_icmp d33_143 (by decide) (by decide)) ?_
  refine allC_cons (s_aloadN d33_146 rfl) ?_
  refine allC_cons (s_aloadN d33_147 rfl) ?_
  refine allC_cons (s_getF (k := 8) (pos := 0) d33_148 (host := "") (Or.inl (hw _ (List.mem_of_getElem? (i := 137) rfl))) Via.refl rfl rfl) ?_
  refine allC_cons (s_iconst d33_151 rfl) ?_
  refine allC_cons (s_iadd d33_152) ?_
  refine allC_cons (s_iconst d33_153 rfl) ?_
  refine allC_cons (s_imul d33_154) ?_
  refine allC_cons (s_ret d33_158 rfl) ?_
  exact allC_nil
theorem pl33 : plainFor M33.1 = true := by first | exact plainFor_of_name (by first | (simp [M33, x, plainName, overriddenIn]; done) | decide +kernel) | decide +kernel
set_option maxRecDepth 65536 in
set_option maxHeartbeats 4000000 in
theorem snd34 (l : Launch) (a0 : Array Value) (Z : State) (hw : ∀ d ∈ tables_1, d.before a0 Z = true) (aN aD : Addr) (hXX : ∀ a ∈ [aN, aD], a < Z.heap.size) (sN : Sta Z Z.heap "com/example/predicat/predicat/kernel/Index" "NO_TUPLES" "[I" (.ref aN)) (sD : Sta Z Z.heap "java/util/ArrayList" "DEFAULTCAPACITY_EMPTY_ELEMENTDATA" "[Ljava/lang/Object;" (.ref aD)): ∀ q ∈ c34, Sound Z [aN, aD] CT l MT M34 q.1 q.2 := by
  have hX : ∀ a ∈ ([aN, aD] : List Addr), a < Z.heap.size := hXX
  have hxl : ∀ i j, i ≠ j → (2 ≤ i ∨ 2 ≤ j) → ph Z [aN, aD] i ≠ ph Z [aN, aD] j := fun i j hij hi => ph_ne hX hij hi
  refine allC_mem (P := Sound Z [aN, aD] CT l MT M34) ?_
  unfold c34
  refine allC_cons (s_iconst d34_0 rfl) ?_
  refine allC_cons (s_istore d34_1) ?_
  refine allC_cons (s_iload d34_3) ?_
  refine allC_cons (s_aloadN d34_5 rfl) ?_
  refine allC_cons (s_getF (k := 8) (pos := 7) d34_6 (host := "") (Or.inl (hw _ (List.mem_of_getElem? (i := 161) rfl))) Via.refl rfl rfl) ?_
  refine allC_cons (s_alen (k := 0) d34_9 rfl) ?_
  refine allC_cons (s_icmp d34_10 (by decide) (by decide)) ?_
  refine allC_cons (s_aloadN d34_13 rfl) ?_
  refine allC_cons (s_getF (k := 8) (pos := 10) d34_14 (host := "") (Or.inl (hw _ (List.mem_of_getElem? (i := 167) rfl))) Via.refl rfl rfl) ?_
  refine allC_cons (s_iloadN d34_17 rfl) ?_
  refine allC_cons (s_iconst d34_18 rfl) ?_
  refine allC_cons (s_iadd d34_19) ?_
  refine allC_cons (s_iload d34_20) ?_
  refine allC_cons (s_iadd d34_22) ?_
  refine allC_cons (s_iaload (k := 0) d34_23 rfl) ?_
  refine allC_cons (s_aloadN d34_24 rfl) ?_
  refine allC_cons (s_iloadN d34_25 rfl) ?_
  refine allC_cons (s_iload d34_26) ?_
  refine allC_cons (s_iadd d34_28) ?_
  refine allC_cons (s_iaload (k := 0) d34_29 rfl) ?_
  refine allC_cons (s_icmp d34_30 (by decide) (by decide)) ?_
  refine allC_cons (s_iconst d34_33 rfl) ?_
  refine allC_cons (s_retI d34_34 rfl (by simp)) ?_
  refine allC_cons (s_iinc d34_35 rfl) ?_
  refine allC_cons (s_goto d34_38 (by decide) (by decide)) ?_
  refine allC_cons (s_iconst d34_41 rfl) ?_
  refine allC_cons (s_retI d34_42 rfl (by simp)) ?_
  exact allC_nil
theorem pl34 : plainFor M34.1 = true := by first | exact plainFor_of_name (by first | (simp [M34, x, plainName, overriddenIn]; done) | decide +kernel) | decide +kernel
set_option maxRecDepth 65536 in
set_option maxHeartbeats 4000000 in
theorem snd35 (l : Launch) (a0 : Array Value) (Z : State) (hw : ∀ d ∈ tables_1, d.before a0 Z = true) (aN aD : Addr) (hXX : ∀ a ∈ [aN, aD], a < Z.heap.size) (sN : Sta Z Z.heap "com/example/predicat/predicat/kernel/Index" "NO_TUPLES" "[I" (.ref aN)) (sD : Sta Z Z.heap "java/util/ArrayList" "DEFAULTCAPACITY_EMPTY_ELEMENTDATA" "[Ljava/lang/Object;" (.ref aD)): ∀ q ∈ c35, Sound Z [aN, aD] CT l MT M35 q.1 q.2 := by
  have hX : ∀ a ∈ ([aN, aD] : List Addr), a < Z.heap.size := hXX
  have hxl : ∀ i j, i ≠ j → (2 ≤ i ∨ 2 ≤ j) → ph Z [aN, aD] i ≠ ph Z [aN, aD] j := fun i j hij hi => ph_ne hX hij hi
  refine allC_mem (P := Sound Z [aN, aD] CT l MT M35) ?_
  unfold c35
  refine allC_cons (s_aloadN d35_0 rfl) ?_
  refine allC_cons (s_getF (k := 8) (pos := 10) d35_1 (host := "") (Or.inl (hw _ (List.mem_of_getElem? (i := 167) rfl))) Via.refl rfl rfl) ?_
  refine allC_cons (s_aloadN d35_4 rfl) ?_
  refine allC_cons (s_aloadN d35_5 rfl) ?_
  refine allC_cons (s_iconst d35_6 rfl) ?_
  refine allC_cons (s_aloadN d35_7 rfl) ?_
  refine allC_cons (s_aloadN d35_8 rfl) ?_
  refine allC_cons (s_iconst d35_9 rfl) ?_
  refine allC_cons (s_virtual (Mc := M30) (k := 8) d35_10 rfl rfl (hw _ (List.mem_of_getElem? (i := 247) rfl)) (hw _ (List.mem_of_getElem? (i := 248) rfl)) (hw _ (List.mem_of_getElem? (i := 250) rfl)) (fun s hZ => notFace_of_selects (args := #[]) (mvT hZ (hw _ (List.mem_of_getElem? (i := 250) rfl)))) (hw _ (List.mem_of_getElem? (i := 249) rfl)) (hw _ (List.mem_of_getElem? (i := 132) rfl)) (hw _ (List.mem_of_getElem? (i := 251) rfl)) pd_19 rfl (by decide) (by decide) (by decide)) ?_
  refine allC_cons (s_private2 (Mc := M32) (k := 8) d35_13 rfl rfl (hw _ (List.mem_of_getElem? (i := 258) rfl)) (hw _ (List.mem_of_getElem? (i := 259) rfl)) (hw _ (List.mem_of_getElem? (i := 131) rfl)) (hw _ (List.mem_of_getElem? (i := 260) rfl)) (hw _ (List.mem_of_getElem? (i := 132) rfl)) (hw _ (List.mem_of_getElem? (i := 261) rfl)) pd_20 rfl (by decide) (by decide) (by decide)) ?_
  refine allC_cons (s_iaload (k := 0) d35_16 rfl) ?_
  refine allC_cons (s_iconst d35_17 rfl) ?_
  refine allC_cons (s_isub d35_18) ?_
  refine allC_cons (s_retI d35_19 rfl (by simp)) ?_
  exact allC_nil
theorem pl35 : plainFor M35.1 = true := by first | exact plainFor_of_name (by first | (simp [M35, x, plainName, overriddenIn]; done) | decide +kernel) | decide +kernel
set_option maxRecDepth 65536 in
set_option maxHeartbeats 4000000 in
theorem snd36 (l : Launch) (a0 : Array Value) (Z : State) (hw : ∀ d ∈ tables_1, d.before a0 Z = true) (aN aD : Addr) (hXX : ∀ a ∈ [aN, aD], a < Z.heap.size) (sN : Sta Z Z.heap "com/example/predicat/predicat/kernel/Index" "NO_TUPLES" "[I" (.ref aN)) (sD : Sta Z Z.heap "java/util/ArrayList" "DEFAULTCAPACITY_EMPTY_ELEMENTDATA" "[Ljava/lang/Object;" (.ref aD)): ∀ q ∈ c36, Sound Z [aN, aD] CT l MT M36 q.1 q.2 := by
  have hX : ∀ a ∈ ([aN, aD] : List Addr), a < Z.heap.size := hXX
  have hxl : ∀ i j, i ≠ j → (2 ≤ i ∨ 2 ≤ j) → ph Z [aN, aD] i ≠ ph Z [aN, aD] j := fun i j hij hi => ph_ne hX hij hi
  refine allC_mem (P := Sound Z [aN, aD] CT l MT M36) ?_
  unfold c36
  refine allC_cons (s_aloadN d36_0 rfl) ?_
  refine allC_cons (s_getF (k := 8) (pos := 11) d36_1 (host := "") (Or.inl (hw _ (List.mem_of_getElem? (i := 174) rfl))) Via.refl rfl rfl) ?_
  refine allC_cons (s_if d36_4 (by decide) (by decide)) ?_
  refine allC_cons (s_iloadN d36_7 rfl) ?_
  refine allC_cons (s_istoreN d36_8 rfl) ?_
  refine allC_cons (s_goto d36_9 (by decide) (by decide)) ?_
  refine allC_cons (s_aloadN d36_12 rfl) ?_
  refine allC_cons (s_getF (k := 8) (pos := 3) d36_13 (host := "") (Or.inl (hw _ (List.mem_of_getElem? (i := 143) rfl))) Via.refl rfl rfl) ?_
  refine allC_cons (s_iloadN d36_16 rfl) ?_
  refine allC_cons (s_iaload (k := 0) d36_17 rfl) ?_
  refine allC_cons (s_iconst d36_18 rfl) ?_
  refine allC_cons (s_icmp d36_19 (by decide) (by decide)) ?_
  refine allC_cons (s_aloadN d36_22 rfl) ?_
  refine allC_cons (s_getF (k := 8) (pos := 2) d36_23 (host := "") (Or.inl (hw _ (List.mem_of_getElem? (i := 141) rfl))) Via.refl rfl rfl) ?_
  refine allC_cons (s_iloadN d36_26 rfl) ?_
  refine allC_cons (s_iaload (k := 0) d36_27 rfl) ?_
  refine allC_cons (s_istoreN d36_28 rfl) ?_
  refine allC_cons (s_goto d36_29 (by decide) (by decide)) ?_
  refine allC_cons (s_aloadN d36_32 rfl) ?_
  refine allC_cons (s_getF (k := 8) (pos := 4) d36_33 (host := "") (Or.inl (hw _ (List.mem_of_getElem? (i := 147) rfl))) Via.refl rfl rfl) ?_
  refine allC_cons (s_iloadN d36_36 rfl) ?_
  refine allC_cons (s_aaload (k := 9) d36_37 rfl rfl) ?_
  refine allC_cons (s_iloadN d36_38 rfl) ?_
  refine allC_cons (s_iaload (k := 0) d36_39 rfl) ?_
  refine allC_cons (s_istoreN d36_40 rfl) ?_
  refine allC_cons (s_iloadN d36_41 rfl) ?_
  refine allC_cons (s_retI d36_42 rfl (by simp)) ?_
  exact allC_nil
theorem pl36 : plainFor M36.1 = true := by first | exact plainFor_of_name (by first | (simp [M36, x, plainName, overriddenIn]; done) | decide +kernel) | decide +kernel
set_option maxRecDepth 65536 in
set_option maxHeartbeats 4000000 in
theorem snd37 (l : Launch) (a0 : Array Value) (Z : State) (hw : ∀ d ∈ tables_1, d.before a0 Z = true) (aN aD : Addr) (hXX : ∀ a ∈ [aN, aD], a < Z.heap.size) (sN : Sta Z Z.heap "com/example/predicat/predicat/kernel/Index" "NO_TUPLES" "[I" (.ref aN)) (sD : Sta Z Z.heap "java/util/ArrayList" "DEFAULTCAPACITY_EMPTY_ELEMENTDATA" "[Ljava/lang/Object;" (.ref aD)): ∀ q ∈ c37, Sound Z [aN, aD] CT l MT M37 q.1 q.2 := by
  have hX : ∀ a ∈ ([aN, aD] : List Addr), a < Z.heap.size := hXX
  have hxl : ∀ i j, i ≠ j → (2 ≤ i ∨ 2 ≤ j) → ph Z [aN, aD] i ≠ ph Z [aN, aD] j := fun i j hij hi => ph_ne hX hij hi
  refine allC_mem (P := Sound Z [aN, aD] CT l MT M37) ?_
  unfold c37
  refine allC_cons (s_iloadN d37_0 rfl) ?_
  refine allC_cons (s_istore d37_1) ?_
  refine allC_cons (s_iloadN d37_3 rfl) ?_
  refine allC_cons (s_if d37_4 (by decide) (by decide)) ?_
  refine allC_cons (s_iload d37_7) ?_
  refine allC_cons (s_if d37_9 (by decide) (by decide)) ?_
  refine allC_cons (s_iconst d37_12 rfl) ?_
  refine allC_cons (s_retI d37_13 rfl (by simp)) ?_
  refine allC_cons (s_iinc d37_14 rfl) ?_
  refine allC_cons (s_iloadN d37_17 rfl) ?_
  refine allC_cons (s_if d37_18 (by decide) (by decide)) ?_
  refine allC_cons (s_iload d37_21) ?_
  refine allC_cons (s_if d37_23 (by decide) (by decide)) ?_
  refine allC_cons (s_iconst d37_26 rfl) ?_
  refine allC_cons (s_retI d37_27 rfl (by simp)) ?_
  refine allC_cons (s_iinc d37_28 rfl) ?_
  refine allC_cons (s_iloadN d37_31 rfl) ?_
  refine allC_cons (s_if d37_32 (by decide) (by decide)) ?_
  refine allC_cons (s_iload d37_35) ?_
  refine allC_cons (s_if d37_37 (by decide) (by decide)) ?_
  refine allC_cons (s_iconst d37_40 rfl) ?_
  refine allC_cons (s_retI d37_41 rfl (by simp)) ?_
  refine allC_cons (s_iinc d37_42 rfl) ?_
  refine allC_cons (s_iload d37_45) ?_
  refine allC_cons (s_if d37_47 (by decide) (by decide)) ?_
  refine allC_cons (s_iload d37_50) ?_
  refine allC_cons (s_if d37_52 (by decide) (by decide)) ?_
  refine allC_cons (s_iconst d37_55 rfl) ?_
  refine allC_cons (s_retI d37_56 rfl (by simp)) ?_
  refine allC_cons (s_iinc d37_57 rfl) ?_
  refine allC_cons (s_iload d37_60) ?_
  refine allC_cons (s_if d37_62 (by decide) (by decide)) ?_
  refine allC_cons (s_iload d37_65) ?_
  refine allC_cons (s_if d37_67 (by decide) (by decide)) ?_
  refine allC_cons (s_iconst d37_70 rfl) ?_
  refine allC_cons (s_retI d37_71 rfl (by simp)) ?_
  refine allC_cons (s_iconst d37_72 rfl) ?_
  refine allC_cons (s_retI d37_73 rfl (by simp)) ?_
  exact allC_nil
theorem pl37 : plainFor M37.1 = true := by first | exact plainFor_of_name (by first | (simp [M37, x, plainName, overriddenIn]; done) | decide +kernel) | decide +kernel
set_option maxRecDepth 65536 in
set_option maxHeartbeats 4000000 in
theorem snd38 (l : Launch) (a0 : Array Value) (Z : State) (hw : ∀ d ∈ tables_1, d.before a0 Z = true) (aN aD : Addr) (hXX : ∀ a ∈ [aN, aD], a < Z.heap.size) (sN : Sta Z Z.heap "com/example/predicat/predicat/kernel/Index" "NO_TUPLES" "[I" (.ref aN)) (sD : Sta Z Z.heap "java/util/ArrayList" "DEFAULTCAPACITY_EMPTY_ELEMENTDATA" "[Ljava/lang/Object;" (.ref aD)): ∀ q ∈ c38, Sound Z [aN, aD] CT l MT M38 q.1 q.2 := by
  have hX : ∀ a ∈ ([aN, aD] : List Addr), a < Z.heap.size := hXX
  have hxl : ∀ i j, i ≠ j → (2 ≤ i ∨ 2 ≤ j) → ph Z [aN, aD] i ≠ ph Z [aN, aD] j := fun i j hij hi => ph_ne hX hij hi
  refine allC_mem (P := Sound Z [aN, aD] CT l MT M38) ?_
  unfold c38
  refine allC_cons (s_iloadN d38_0 rfl) ?_
  refine allC_cons (s_aloadN d38_1 rfl) ?_
  refine allC_cons (s_alen (k := 0) d38_2 rfl) ?_
  refine allC_cons (s_icmp d38_3 (by decide) (by decide)) ?_
  refine allC_cons (s_aloadN d38_6 rfl) ?_
  refine allC_cons (s_iloadN d38_14 rfl) ?_
  refine allC_cons (s_newA (k := 0) d38_15 (hw _ (List.mem_of_getElem? (i := 4) rfl)) rfl rfl) ?_
  refine allC_cons (s_astoreN d38_17 rfl) ?_
  refine allC_cons (s_aloadN d38_18 rfl) ?_
  refine allC_cons (s_iconst d38_19 rfl) ?_
  refine allC_cons (s_aloadN d38_20 rfl) ?_
  refine allC_cons (s_iconst d38_21 rfl) ?_
  refine allC_cons (s_aloadN d38_22 rfl) ?_
  refine allC_cons (s_alen (k := 0) d38_23 rfl) ?_
  refine allC_cons (s_iloadN d38_24 rfl) ?_
  refine allC_cons (s_callS (Mc := M39) d38_25 rfl (hw _ (List.mem_of_getElem? (i := 290) rfl)) (hw _ (List.mem_of_getElem? (i := 291) rfl)) (hw _ (List.mem_of_getElem? (i := 51) rfl)) (hw _ (List.mem_of_getElem? (i := 292) rfl)) pd_6 rfl (by decide) (by decide) (by decide)) ?_
  refine allC_cons (s_copy (k := 0) hX d38_28 rfl rfl (hw _ (List.mem_of_getElem? (i := 293) rfl)) (hw _ (List.mem_of_getElem? (i := 71) rfl)) (hw _ (List.mem_of_getElem? (i := 69) rfl)) (hw _ (List.mem_of_getElem? (i := 70) rfl)) (by decide) (by decide)) ?_
  refine allC_cons (s_aloadN d38_31 rfl) ?_
  refine allC_cons (s_retA d38_32 rfl rfl) ?_
  exact allC_nil
theorem pl38 : plainFor M38.1 = true := by first | exact plainFor_of_name (by first | (simp [M38, x, plainName, overriddenIn]; done) | decide +kernel) | decide +kernel
set_option maxRecDepth 65536 in
set_option maxHeartbeats 4000000 in
theorem snd39 (l : Launch) (a0 : Array Value) (Z : State) (hw : ∀ d ∈ tables_1, d.before a0 Z = true) (aN aD : Addr) (hXX : ∀ a ∈ [aN, aD], a < Z.heap.size) (sN : Sta Z Z.heap "com/example/predicat/predicat/kernel/Index" "NO_TUPLES" "[I" (.ref aN)) (sD : Sta Z Z.heap "java/util/ArrayList" "DEFAULTCAPACITY_EMPTY_ELEMENTDATA" "[Ljava/lang/Object;" (.ref aD)): ∀ q ∈ c39, Sound Z [aN, aD] CT l MT M39 q.1 q.2 := by
  have hX : ∀ a ∈ ([aN, aD] : List Addr), a < Z.heap.size := hXX
  have hxl : ∀ i j, i ≠ j → (2 ≤ i ∨ 2 ≤ j) → ph Z [aN, aD] i ≠ ph Z [aN, aD] j := fun i j hij hi => ph_ne hX hij hi
  refine allC_mem (P := Sound Z [aN, aD] CT l MT M39) ?_
  unfold c39
  refine allC_cons (s_iloadN d39_0 rfl) ?_
  refine allC_cons (s_iloadN d39_1 rfl) ?_
  refine allC_cons (s_icmp d39_2 (by decide) (by decide)) ?_
  refine allC_cons (s_iloadN d39_5 rfl) ?_
  refine allC_cons (s_goto d39_6 (by decide) (by decide)) ?_
  refine allC_cons (s_iloadN d39_9 rfl) ?_
  refine allC_cons (s_retI d39_10 rfl (by simp)) ?_
  exact allC_nil
theorem pl39 : plainFor M39.1 = true := by first | exact plainFor_of_name (by first | (simp [M39, x, plainName, overriddenIn]; done) | decide +kernel) | decide +kernel
theorem hlen (l : Launch) (a0 : Array Value) (Z : State) (hw : ∀ d ∈ tables_1, d.before a0 Z = true) (aN aD : Addr) (hXX : ∀ a ∈ [aN, aD], a < Z.heap.size) (sN : Sta Z Z.heap "com/example/predicat/predicat/kernel/Index" "NO_TUPLES" "[I" (.ref aN)) (sD : Sta Z Z.heap "java/util/ArrayList" "DEFAULTCAPACITY_EMPTY_ELEMENTDATA" "[Ljava/lang/Object;" (.ref aD)): ∀ (μ n : Nat) (code : List (Nat × MOp)), D[μ]? = some (n, code) → ∃ M, MT[μ]? = some M ∧ M.2.2.1 = n ∧ plainFor M.1 = true ∧ ∀ q ∈ code, Sound Z [aN, aD] CT l MT M q.1 q.2
  | 0, n, co, h => by
    obtain ⟨rfl, rfl⟩ := Prod.mk.inj (Option.some.inj (show some (30, c0) = some (n, co) from h))
    exact ⟨M0, rfl, rfl, pl0, snd0 l a0 Z hw aN aD hXX sN sD⟩
  | 1, n, co, h => by
    obtain ⟨rfl, rfl⟩ := Prod.mk.inj (Option.some.inj (show some (6, c1) = some (n, co) from h))
    exact ⟨M1, rfl, rfl, pl1, snd1 l a0 Z hw aN aD hXX sN sD⟩
  | 2, n, co, h => by
    obtain ⟨rfl, rfl⟩ := Prod.mk.inj (Option.some.inj (show some (5, c2) = some (n, co) from h))
    exact ⟨M2, rfl, rfl, pl2, snd2 l a0 Z hw aN aD hXX sN sD⟩
  | 3, n, co, h => by
    obtain ⟨rfl, rfl⟩ := Prod.mk.inj (Option.some.inj (show some (3, c3) = some (n, co) from h))
    exact ⟨M3, rfl, rfl, pl3, snd3 l a0 Z hw aN aD hXX sN sD⟩
  | 4, n, co, h => by
    obtain ⟨rfl, rfl⟩ := Prod.mk.inj (Option.some.inj (show some (1, c4) = some (n, co) from h))
    exact ⟨M4, rfl, rfl, pl4, snd4 l a0 Z hw aN aD hXX sN sD⟩
  | 5, n, co, h => by
    obtain ⟨rfl, rfl⟩ := Prod.mk.inj (Option.some.inj (show some (1, c5) = some (n, co) from h))
    exact ⟨M5, rfl, rfl, pl5, snd5 l a0 Z hw aN aD hXX sN sD⟩
  | 6, n, co, h => by
    obtain ⟨rfl, rfl⟩ := Prod.mk.inj (Option.some.inj (show some (1, c6) = some (n, co) from h))
    exact ⟨M6, rfl, rfl, pl6, snd6 l a0 Z hw aN aD hXX sN sD⟩
  | 7, n, co, h => by
    obtain ⟨rfl, rfl⟩ := Prod.mk.inj (Option.some.inj (show some (2, c7) = some (n, co) from h))
    exact ⟨M7, rfl, rfl, pl7, snd7 l a0 Z hw aN aD hXX sN sD⟩
  | 8, n, co, h => by
    obtain ⟨rfl, rfl⟩ := Prod.mk.inj (Option.some.inj (show some (5, c8) = some (n, co) from h))
    exact ⟨M8, rfl, rfl, pl8, snd8 l a0 Z hw aN aD hXX sN sD⟩
  | 9, n, co, h => by
    obtain ⟨rfl, rfl⟩ := Prod.mk.inj (Option.some.inj (show some (3, c9) = some (n, co) from h))
    exact ⟨M9, rfl, rfl, pl9, snd9 l a0 Z hw aN aD hXX sN sD⟩
  | 10, n, co, h => by
    obtain ⟨rfl, rfl⟩ := Prod.mk.inj (Option.some.inj (show some (6, c10) = some (n, co) from h))
    exact ⟨M10, rfl, rfl, pl10, snd10 l a0 Z hw aN aD hXX sN sD⟩
  | 11, n, co, h => by
    obtain ⟨rfl, rfl⟩ := Prod.mk.inj (Option.some.inj (show some (1, c11) = some (n, co) from h))
    exact ⟨M11, rfl, rfl, pl11, snd11 l a0 Z hw aN aD hXX sN sD⟩
  | 12, n, co, h => by
    obtain ⟨rfl, rfl⟩ := Prod.mk.inj (Option.some.inj (show some (4, c12) = some (n, co) from h))
    exact ⟨M12, rfl, rfl, pl12, snd12 l a0 Z hw aN aD hXX sN sD⟩
  | 13, n, co, h => by
    obtain ⟨rfl, rfl⟩ := Prod.mk.inj (Option.some.inj (show some (1, c13) = some (n, co) from h))
    exact ⟨M13, rfl, rfl, pl13, snd13 l a0 Z hw aN aD hXX sN sD⟩
  | 14, n, co, h => by
    obtain ⟨rfl, rfl⟩ := Prod.mk.inj (Option.some.inj (show some (2, c14) = some (n, co) from h))
    exact ⟨M14, rfl, rfl, pl14, snd14 l a0 Z hw aN aD hXX sN sD⟩
  | 15, n, co, h => by
    obtain ⟨rfl, rfl⟩ := Prod.mk.inj (Option.some.inj (show some (1, c15) = some (n, co) from h))
    exact ⟨M15, rfl, rfl, pl15, snd15 l a0 Z hw aN aD hXX sN sD⟩
  | 16, n, co, h => by
    obtain ⟨rfl, rfl⟩ := Prod.mk.inj (Option.some.inj (show some (9, c16) = some (n, co) from h))
    exact ⟨M16, rfl, rfl, pl16, snd16 l a0 Z hw aN aD hXX sN sD⟩
  | 17, n, co, h => by
    obtain ⟨rfl, rfl⟩ := Prod.mk.inj (Option.some.inj (show some (1, c17) = some (n, co) from h))
    exact ⟨M17, rfl, rfl, pl17, snd17 l a0 Z hw aN aD hXX sN sD⟩
  | 18, n, co, h => by
    obtain ⟨rfl, rfl⟩ := Prod.mk.inj (Option.some.inj (show some (6, c18) = some (n, co) from h))
    exact ⟨M18, rfl, rfl, pl18, snd18 l a0 Z hw aN aD hXX sN sD⟩
  | 19, n, co, h => by
    obtain ⟨rfl, rfl⟩ := Prod.mk.inj (Option.some.inj (show some (2, c19) = some (n, co) from h))
    exact ⟨M19, rfl, rfl, pl19, snd19 l a0 Z hw aN aD hXX sN sD⟩
  | 20, n, co, h => by
    obtain ⟨rfl, rfl⟩ := Prod.mk.inj (Option.some.inj (show some (4, c20) = some (n, co) from h))
    exact ⟨M20, rfl, rfl, pl20, snd20 l a0 Z hw aN aD hXX sN sD⟩
  | 21, n, co, h => by
    obtain ⟨rfl, rfl⟩ := Prod.mk.inj (Option.some.inj (show some (1, c21) = some (n, co) from h))
    exact ⟨M21, rfl, rfl, pl21, snd21 l a0 Z hw aN aD hXX sN sD⟩
  | 22, n, co, h => by
    obtain ⟨rfl, rfl⟩ := Prod.mk.inj (Option.some.inj (show some (4, c22) = some (n, co) from h))
    exact ⟨M22, rfl, rfl, pl22, snd22 l a0 Z hw aN aD hXX sN sD⟩
  | 23, n, co, h => by
    obtain ⟨rfl, rfl⟩ := Prod.mk.inj (Option.some.inj (show some (2, c23) = some (n, co) from h))
    exact ⟨M23, rfl, rfl, pl23, snd23 l a0 Z hw aN aD hXX sN sD⟩
  | 24, n, co, h => by
    obtain ⟨rfl, rfl⟩ := Prod.mk.inj (Option.some.inj (show some (2, c24) = some (n, co) from h))
    exact ⟨M24, rfl, rfl, pl24, snd24 l a0 Z hw aN aD hXX sN sD⟩
  | 25, n, co, h => by
    obtain ⟨rfl, rfl⟩ := Prod.mk.inj (Option.some.inj (show some (3, c25) = some (n, co) from h))
    exact ⟨M25, rfl, rfl, pl25, snd25 l a0 Z hw aN aD hXX sN sD⟩
  | 26, n, co, h => by
    obtain ⟨rfl, rfl⟩ := Prod.mk.inj (Option.some.inj (show some (2, c26) = some (n, co) from h))
    exact ⟨M26, rfl, rfl, pl26, snd26 l a0 Z hw aN aD hXX sN sD⟩
  | 27, n, co, h => by
    obtain ⟨rfl, rfl⟩ := Prod.mk.inj (Option.some.inj (show some (4, c27) = some (n, co) from h))
    exact ⟨M27, rfl, rfl, pl27, snd27 l a0 Z hw aN aD hXX sN sD⟩
  | 28, n, co, h => by
    obtain ⟨rfl, rfl⟩ := Prod.mk.inj (Option.some.inj (show some (4, c28) = some (n, co) from h))
    exact ⟨M28, rfl, rfl, pl28, snd28 l a0 Z hw aN aD hXX sN sD⟩
  | 29, n, co, h => by
    obtain ⟨rfl, rfl⟩ := Prod.mk.inj (Option.some.inj (show some (3, c29) = some (n, co) from h))
    exact ⟨M29, rfl, rfl, pl29, snd29 l a0 Z hw aN aD hXX sN sD⟩
  | 30, n, co, h => by
    obtain ⟨rfl, rfl⟩ := Prod.mk.inj (Option.some.inj (show some (3, c30) = some (n, co) from h))
    exact ⟨M30, rfl, rfl, pl30, snd30 l a0 Z hw aN aD hXX sN sD⟩
  | 31, n, co, h => by
    obtain ⟨rfl, rfl⟩ := Prod.mk.inj (Option.some.inj (show some (5, c31) = some (n, co) from h))
    exact ⟨M31, rfl, rfl, pl31, snd31 l a0 Z hw aN aD hXX sN sD⟩
  | 32, n, co, h => by
    obtain ⟨rfl, rfl⟩ := Prod.mk.inj (Option.some.inj (show some (6, c32) = some (n, co) from h))
    exact ⟨M32, rfl, rfl, pl32, snd32 l a0 Z hw aN aD hXX sN sD⟩
  | 33, n, co, h => by
    obtain ⟨rfl, rfl⟩ := Prod.mk.inj (Option.some.inj (show some (6, c33) = some (n, co) from h))
    exact ⟨M33, rfl, rfl, pl33, snd33 l a0 Z hw aN aD hXX sN sD⟩
  | 34, n, co, h => by
    obtain ⟨rfl, rfl⟩ := Prod.mk.inj (Option.some.inj (show some (5, c34) = some (n, co) from h))
    exact ⟨M34, rfl, rfl, pl34, snd34 l a0 Z hw aN aD hXX sN sD⟩
  | 35, n, co, h => by
    obtain ⟨rfl, rfl⟩ := Prod.mk.inj (Option.some.inj (show some (2, c35) = some (n, co) from h))
    exact ⟨M35, rfl, rfl, pl35, snd35 l a0 Z hw aN aD hXX sN sD⟩
  | 36, n, co, h => by
    obtain ⟨rfl, rfl⟩ := Prod.mk.inj (Option.some.inj (show some (4, c36) = some (n, co) from h))
    exact ⟨M36, rfl, rfl, pl36, snd36 l a0 Z hw aN aD hXX sN sD⟩
  | 37, n, co, h => by
    obtain ⟨rfl, rfl⟩ := Prod.mk.inj (Option.some.inj (show some (7, c37) = some (n, co) from h))
    exact ⟨M37, rfl, rfl, pl37, snd37 l a0 Z hw aN aD hXX sN sD⟩
  | 38, n, co, h => by
    obtain ⟨rfl, rfl⟩ := Prod.mk.inj (Option.some.inj (show some (3, c38) = some (n, co) from h))
    exact ⟨M38, rfl, rfl, pl38, snd38 l a0 Z hw aN aD hXX sN sD⟩
  | 39, n, co, h => by
    obtain ⟨rfl, rfl⟩ := Prod.mk.inj (Option.some.inj (show some (2, c39) = some (n, co) from h))
    exact ⟨M39, rfl, rfl, pl39, snd39 l a0 Z hw aN aD hXX sN sD⟩
  | μ + 40, n, co, h => by simp [D] at h
end Snd
set_option maxRecDepth 65536 in
theorem mono0 : ∀ w ∈ c0, Mono w.2 := allC_mem (P := fun _ f => Mono f) ⟨mono_lift _, mono_lift _, mono_lift _, mono_lift _, mono_lift _, mono_call _ _ _ _, mono_lift _, mono_lift _, mono_lift _, mono_lift _, mono_lift _, mono_lift _, mono_call _ _ _ _, mono_lift _, mono_lift _, mono_lift _, mono_lift _, mono_lift _, mono_lift _, mono_call _ _ _ _, mono_lift _, mono_lift _, mono_lift _, mono_lift _, mono_lift _, mono_lift _, mono_call _ _ _ _, mono_lift _, mono_lift _, mono_lift _, mono_lift _, mono_lift _, mono_lift _, mono_call _ _ _ _, mono_lift _, mono_lift _, mono_lift _, mono_lift _, mono_lift _, mono_lift _, mono_lift _, mono_lift _, mono_lift _, mono_lift _, mono_lift _, mono_lift _, mono_lift _, mono_lift _, mono_lift _, mono_lift _, mono_lift _, mono_lift _, mono_lift _, mono_lift _, (fun _ _ _ _ _ _ _ h => h), mono_lift _, mono_lift _, mono_lift _, (fun _ _ _ _ _ _ _ h => h), mono_lift _, mono_lift _, mono_lift _, (fun _ _ _ _ _ _ _ h => h), mono_lift _, mono_lift _, mono_lift _, (fun _ _ _ _ _ _ _ h => h), mono_lift _, mono_lift _, mono_lift _, (fun _ _ _ _ _ _ _ h => h), mono_lift _, mono_lift _, mono_lift _, (fun _ _ _ _ _ _ _ h => h), mono_lift _, mono_lift _, (fun _ _ _ _ _ _ _ h => h), mono_lift _, mono_lift _, mono_lift _, (fun _ _ _ _ _ _ _ h => h), mono_lift _, mono_lift _, mono_lift _, (fun _ _ _ _ _ _ _ h => h), mono_lift _, mono_lift _, mono_lift _, (fun _ _ _ _ _ _ _ h => h), mono_lift _, mono_lift _, mono_lift _, (fun _ _ _ _ _ _ _ h => h), mono_lift _, mono_lift _, mono_lift _, (fun _ _ _ _ _ _ _ h => h), mono_lift _, mono_lift _, mono_lift _, (fun _ _ _ _ _ _ _ h => h), mono_lift _, mono_lift _, mono_lift _, (fun _ _ _ _ _ _ _ h => h), mono_lift _, mono_lift _, mono_lift _, (fun _ _ _ _ _ _ _ h => h), mono_lift _, mono_lift _, mono_lift _, (fun _ _ _ _ _ _ _ h => h), mono_lift _, mono_lift _, mono_lift _, (fun _ _ _ _ _ _ _ h => h), mono_lift _, mono_lift _, (fun _ _ _ _ _ _ _ h => h), mono_lift _, mono_lift _, mono_lift _, mono_lift _, mono_lift _, mono_call _ _ _ _, mono_lift _, mono_lift _, mono_lift _, mono_lift _, mono_call _ _ _ _, mono_lift _, mono_lift _, mono_lift _, mono_lift _, mono_call _ _ _ _, mono_lift _, mono_lift _, mono_lift _, mono_lift _, mono_call _ _ _ _, mono_lift _, mono_lift _, mono_lift _, mono_lift _, mono_call _ _ _ _, mono_lift _, mono_lift _, mono_lift _, mono_lift _, mono_lift _, mono_lift _, mono_lift _, mono_lift _, mono_lift _, (fun _ _ _ _ _ _ _ h => h), mono_lift _, mono_lift _, mono_lift _, (fun _ _ _ _ _ _ _ h => h), mono_lift _, mono_lift _, mono_lift _, (fun _ _ _ _ _ _ _ h => h), mono_lift _, mono_lift _, (fun _ _ _ _ _ _ _ h => h), mono_lift _, mono_lift _, mono_lift _, (fun _ _ _ _ _ _ _ h => h), mono_lift _, mono_lift _, mono_lift _, mono_lift _, (fun _ _ _ _ _ _ _ h => h), mono_lift _, mono_lift _, mono_lift _, mono_lift _, (fun _ _ _ _ _ _ _ h => h), (fun _ _ _ _ _ _ _ h => h), mono_lift _, mono_lift _, mono_lift _, (fun _ _ _ _ _ _ _ h => h), mono_lift _, mono_lift _, (fun _ _ _ _ _ _ _ h => h), mono_lift _, mono_lift _, mono_lift _, mono_lift _, (fun _ _ _ _ _ _ _ h => h), (fun _ _ _ _ _ _ _ h => h), mono_lift _, (fun _ _ _ _ _ _ _ h => h), mono_lift _, mono_lift _, mono_callR _ _ _ _ _, mono_lift _, mono_lift _, mono_lift _, mono_lift _, mono_callR _ _ _ _ _, mono_lift _, mono_lift _, mono_callR _ _ _ _ _, mono_lift _, mono_lift _, mono_lift _, mono_lift _, mono_lift _, mono_lift _, mono_callR _ _ _ _ _, mono_lift _, mono_lift _, mono_callR _ _ _ _ _, mono_lift _, mono_lift _, mono_lift _, mono_lift _, (fun _ _ _ _ _ _ _ h => h), mono_lift _, mono_lift _, mono_lift _, mono_lift _, mono_lift _, mono_callR _ _ _ _ _, mono_lift _, mono_lift _, mono_lift _, mono_lift _, mono_lift _, (fun _ _ _ _ _ _ _ h => h), mono_lift _, mono_lift _, (fun _ _ _ _ _ _ _ h => h), mono_lift _, mono_lift _, mono_lift _, mono_lift _, mono_lift _, mono_lift _, mono_lift _, mono_lift _, mono_lift _, mono_lift _, mono_lift _, mono_lift _, mono_lift _, mono_lift _, mono_lift _, mono_lift _, mono_lift _, mono_lift _, mono_lift _, mono_lift _, mono_lift _, mono_lift _, mono_lift _, mono_lift _, mono_lift _, mono_lift _, mono_lift _, mono_lift _, mono_lift _, mono_lift _, mono_lift _, mono_lift _, mono_lift _, mono_lift _, mono_lift _, mono_lift _, mono_lift _, mono_lift _, mono_lift _, mono_lift _, mono_lift _, mono_lift _, mono_lift _, mono_lift _, mono_lift _, mono_lift _, mono_lift _, mono_lift _, mono_lift _, mono_lift _, mono_lift _, mono_lift _, mono_lift _, mono_lift _, mono_lift _, mono_lift _, mono_lift _, mono_lift _, mono_lift _, mono_lift _, mono_lift _, mono_lift _, mono_lift _, mono_lift _, mono_lift _, mono_lift _, mono_lift _, mono_lift _, mono_lift _, mono_lift _, mono_lift _, mono_lift _, mono_lift _, mono_lift _, mono_lift _, mono_callR _ _ _ _ _, mono_lift _, mono_lift _, mono_lift _, mono_lift _, mono_lift _, mono_lift _, mono_call _ _ _ _, mono_lift _, mono_lift _, mono_lift _, mono_lift _, (fun _ _ _ _ _ _ _ h => h), trivial⟩
set_option maxRecDepth 65536 in
theorem mono1 : ∀ w ∈ c1, Mono w.2 := allC_mem (P := fun _ f => Mono f) ⟨mono_lift _, mono_lift _, mono_lift _, mono_lift _, mono_lift _, mono_lift _, mono_lift _, mono_lift _, mono_lift _, mono_lift _, (fun _ _ _ _ _ _ _ h => h), mono_lift _, mono_lift _, mono_lift _, mono_lift _, (fun _ _ _ _ _ _ _ h => h), mono_lift _, (fun _ _ _ _ _ _ _ h => h), trivial⟩
set_option maxRecDepth 65536 in
theorem mono2 : ∀ w ∈ c2, Mono w.2 := allC_mem (P := fun _ f => Mono f) ⟨mono_lift _, mono_lift _, mono_lift _, mono_lift _, mono_lift _, mono_lift _, mono_lift _, mono_lift _, mono_lift _, mono_lift _, mono_lift _, mono_lift _, mono_lift _, (fun _ _ _ _ _ _ _ h => h), (fun _ _ _ _ _ _ _ h => h), mono_lift _, mono_lift _, mono_lift _, mono_lift _, mono_lift _, mono_lift _, mono_lift _, (fun _ _ _ _ _ _ _ h => h), (fun _ _ _ _ _ _ _ h => h), trivial⟩
set_option maxRecDepth 65536 in
theorem mono3 : ∀ w ∈ c3, Mono w.2 := allC_mem (P := fun _ f => Mono f) ⟨mono_lift _, (fun _ _ _ _ _ _ _ h => h), mono_lift _, (fun _ _ _ _ _ _ _ h => h), mono_lift _, mono_callR _ _ _ _ _, (fun _ _ _ _ _ _ _ h => h), mono_lift _, mono_lift _, (fun _ _ _ _ _ _ _ h => h), (fun _ _ _ _ _ _ _ h => h), mono_lift _, mono_lift _, (fun _ _ _ _ _ _ _ h => h), mono_lift _, mono_lift _, mono_lift _, mono_lift _, mono_lift _, mono_call _ _ _ _, (fun _ _ _ _ _ _ _ h => h), (fun _ _ _ _ _ _ _ h => h), mono_lift _, mono_lift _, (fun _ _ _ _ _ _ _ h => h), (fun _ _ _ _ _ _ _ h => h), mono_lift _, mono_lift _, mono_lift _, mono_lift _, mono_lift _, mono_lift _, (fun _ _ _ _ _ _ _ h => h), mono_lift _, mono_lift _, (fun _ _ _ _ _ _ _ h => h), mono_lift _, mono_lift _, (fun _ _ _ _ _ _ _ h => h), trivial⟩
set_option maxRecDepth 65536 in
theorem mono4 : ∀ w ∈ c4, Mono w.2 := allC_mem (P := fun _ f => Mono f) ⟨mono_lift _, mono_callR _ _ _ _ _, mono_lift _, (fun _ _ _ _ _ _ _ h => h), (fun _ _ _ _ _ _ _ h => h), (fun _ _ _ _ _ _ _ h => h), trivial⟩
set_option maxRecDepth 65536 in
theorem mono5 : ∀ w ∈ c5, Mono w.2 := allC_mem (P := fun _ f => Mono f) ⟨mono_lift _, mono_callR _ _ _ _ _, mono_lift _, mono_lift _, (fun _ _ _ _ _ _ _ h => h), (fun _ _ _ _ _ _ _ h => h), trivial⟩
set_option maxRecDepth 65536 in
theorem mono6 : ∀ w ∈ c6, Mono w.2 := allC_mem (P := fun _ f => Mono f) ⟨mono_lift _, (fun _ _ _ _ _ _ _ h => h), (fun _ _ _ _ _ _ _ h => h), trivial⟩
set_option maxRecDepth 65536 in
theorem mono7 : ∀ w ∈ c7, Mono w.2 := allC_mem (P := fun _ f => Mono f) ⟨mono_lift _, mono_lift _, mono_lift _, mono_lift _, mono_lift _, mono_lift _, (fun _ _ _ _ _ _ _ h => h), trivial⟩
set_option maxRecDepth 65536 in
theorem mono8 : ∀ w ∈ c8, Mono w.2 := allC_mem (P := fun _ f => Mono f) ⟨mono_lift _, mono_lift _, mono_callR _ _ _ _ _, mono_lift _, (fun _ _ _ _ _ _ _ h => h), mono_lift _, mono_lift _, mono_lift _, mono_lift _, (fun _ _ _ _ _ _ _ h => h), mono_lift _, mono_lift _, (fun _ _ _ _ _ _ _ h => h), mono_lift _, mono_lift _, mono_lift _, (fun _ _ _ _ _ _ _ h => h), mono_lift _, (fun _ _ _ _ _ _ _ h => h), mono_lift _, mono_lift _, (fun _ _ _ _ _ _ _ h => h), mono_lift _, mono_lift _, (fun _ _ _ _ _ _ _ h => h), mono_lift _, (fun _ _ _ _ _ _ _ h => h), mono_lift _, mono_lift _, mono_lift _, mono_lift _, mono_lift _, (fun _ _ _ _ _ _ _ h => h), mono_lift _, mono_lift _, (fun _ _ _ _ _ _ _ h => h), mono_lift _, mono_lift _, mono_lift _, mono_callR _ _ _ _ _, mono_lift _, mono_lift _, mono_lift _, mono_callR _ _ _ _ _, mono_lift _, mono_lift _, mono_lift _, mono_callR _ _ _ _ _, (fun _ _ _ _ _ _ _ h => h), trivial⟩
set_option maxRecDepth 65536 in
theorem mono9 : ∀ w ∈ c9, Mono w.2 := allC_mem (P := fun _ f => Mono f) ⟨mono_lift _, (fun _ _ _ _ _ _ _ h => h), mono_lift _, mono_lift _, mono_lift _, (fun _ _ _ _ _ _ _ h => h), mono_lift _, mono_lift _, mono_lift _, mono_lift _, (fun _ _ _ _ _ _ _ h => h), (fun _ _ _ _ _ _ _ h => h), mono_lift _, mono_lift _, mono_lift _, (fun _ _ _ _ _ _ _ h => h), mono_lift _, (fun _ _ _ _ _ _ _ h => h), (fun _ _ _ _ _ _ _ h => h), mono_lift _, mono_lift _, mono_lift _, mono_call _ _ _ _, mono_call _ _ _ _, (fun _ _ _ _ _ _ _ h => h), (fun _ _ _ _ _ _ _ h => h), trivial⟩
set_option maxRecDepth 65536 in
theorem mono10 : ∀ w ∈ c10, Mono w.2 := allC_mem (P := fun _ f => Mono f) ⟨mono_lift _, mono_lift _, mono_lift _, mono_lift _, (fun _ _ _ _ _ _ _ h => h), mono_callR _ _ _ _ _, mono_lift _, mono_lift _, (fun _ _ _ _ _ _ _ h => h), mono_lift _, mono_callR _ _ _ _ _, (fun _ _ _ _ _ _ _ h => h), mono_lift _, mono_lift _, mono_lift _, mono_lift _, mono_lift _, mono_lift _, mono_lift _, mono_lift _, (fun _ _ _ _ _ _ _ h => h), mono_lift _, mono_lift _, mono_lift _, mono_callR _ _ _ _ _, mono_lift _, mono_lift _, mono_lift _, mono_lift _, (fun _ _ _ _ _ _ _ h => h), trivial⟩
set_option maxRecDepth 65536 in
theorem mono11 : ∀ w ∈ c11, Mono w.2 := allC_mem (P := fun _ f => Mono f) ⟨mono_lift _, (fun _ _ _ _ _ _ _ h => h), (fun _ _ _ _ _ _ _ h => h), trivial⟩
set_option maxRecDepth 65536 in
theorem mono12 : ∀ w ∈ c12, Mono w.2 := allC_mem (P := fun _ f => Mono f) ⟨mono_lift _, (fun _ _ _ _ _ _ _ h => h), mono_callR _ _ _ _ _, mono_lift _, mono_lift _, mono_callR _ _ _ _ _, mono_lift _, mono_lift _, (fun _ _ _ _ _ _ _ h => h), mono_lift _, mono_lift _, mono_lift _, mono_callR _ _ _ _ _, mono_lift _, mono_lift _, mono_lift _, (fun _ _ _ _ _ _ _ h => h), mono_callR _ _ _ _ _, mono_lift _, (fun _ _ _ _ _ _ _ h => h), mono_lift _, mono_callR _ _ _ _ _, mono_lift _, mono_lift _, (fun _ _ _ _ _ _ _ h => h), trivial⟩
set_option maxRecDepth 65536 in
theorem mono13 : ∀ w ∈ c13, Mono w.2 := allC_mem (P := fun _ f => Mono f) ⟨(fun _ _ _ _ _ _ _ h => h), mono_lift _, mono_lift _, mono_callR _ _ _ _ _, (fun _ _ _ _ _ _ _ h => h), trivial⟩
set_option maxRecDepth 65536 in
theorem mono14 : ∀ w ∈ c14, Mono w.2 := allC_mem (P := fun _ f => Mono f) ⟨mono_lift _, mono_lift _, (fun _ _ _ _ _ _ _ h => h), mono_lift _, (fun _ _ _ _ _ _ _ h => h), mono_lift _, mono_lift _, (fun _ _ _ _ _ _ _ h => h), mono_lift _, mono_lift _, (fun _ _ _ _ _ _ _ h => h), (fun _ _ _ _ _ _ _ h => h), (fun _ _ _ _ _ _ _ h => h), (fun _ _ _ _ _ _ _ h => h), trivial⟩
set_option maxRecDepth 65536 in
theorem mono15 : ∀ w ∈ c15, Mono w.2 := allC_mem (P := fun _ f => Mono f) ⟨mono_lift _, (fun _ _ _ _ _ _ _ h => h), mono_lift _, (fun _ _ _ _ _ _ _ h => h), (fun _ _ _ _ _ _ _ h => h), mono_lift _, mono_lift _, mono_lift _, mono_lift _, (fun _ _ _ _ _ _ _ h => h), trivial⟩
set_option maxRecDepth 65536 in
theorem mono16 : ∀ w ∈ c16, Mono w.2 := allC_mem (P := fun _ f => Mono f) ⟨mono_lift _, (fun _ _ _ _ _ _ _ h => h), mono_lift _, mono_lift _, (fun _ _ _ _ _ _ _ h => h), mono_lift _, mono_lift _, (fun _ _ _ _ _ _ _ h => h), mono_lift _, mono_lift _, (fun _ _ _ _ _ _ _ h => h), (fun _ _ _ _ _ _ _ h => h), mono_lift _, mono_lift _, (fun _ _ _ _ _ _ _ h => h), (fun _ _ _ _ _ _ _ h => h), mono_lift _, mono_lift _, (fun _ _ _ _ _ _ _ h => h), (fun _ _ _ _ _ _ _ h => h), mono_lift _, mono_lift _, (fun _ _ _ _ _ _ _ h => h), (fun _ _ _ _ _ _ _ h => h), mono_lift _, mono_lift _, (fun _ _ _ _ _ _ _ h => h), mono_lift _, mono_lift _, (fun _ _ _ _ _ _ _ h => h), (fun _ _ _ _ _ _ _ h => h), (fun _ _ _ _ _ _ _ h => h), mono_lift _, mono_lift _, (fun _ _ _ _ _ _ _ h => h), (fun _ _ _ _ _ _ _ h => h), (fun _ _ _ _ _ _ _ h => h), mono_lift _, mono_lift _, (fun _ _ _ _ _ _ _ h => h), mono_lift _, mono_lift _, (fun _ _ _ _ _ _ _ h => h), mono_lift _, mono_lift _, mono_lift _, (fun _ _ _ _ _ _ _ h => h), mono_lift _, (fun _ _ _ _ _ _ _ h => h), (fun _ _ _ _ _ _ _ h => h), mono_lift _, mono_callR _ _ _ _ _, (fun _ _ _ _ _ _ _ h => h), mono_lift _, mono_lift _, mono_lift _, mono_lift _, mono_lift _, mono_lift _, (fun _ _ _ _ _ _ _ h => h), mono_lift _, mono_lift _, mono_lift _, mono_lift _, mono_lift _, mono_lift _, mono_lift _, mono_lift _, (fun _ _ _ _ _ _ _ h => h), mono_lift _, mono_lift _, mono_lift _, (fun _ _ _ _ _ _ _ h => h), mono_lift _, mono_lift _, mono_lift _, mono_lift _, (fun _ _ _ _ _ _ _ h => h), mono_lift _, mono_lift _, mono_lift _, mono_lift _, mono_lift _, mono_lift _, mono_callR _ _ _ _ _, mono_lift _, mono_lift _, mono_lift _, mono_lift _, (fun _ _ _ _ _ _ _ h => h), (fun _ _ _ _ _ _ _ h => h), trivial⟩
set_option maxRecDepth 65536 in
theorem mono17 : ∀ w ∈ c17, Mono w.2 := allC_mem (P := fun _ f => Mono f) ⟨mono_lift _, (fun _ _ _ _ _ _ _ h => h), (fun _ _ _ _ _ _ _ h => h), trivial⟩
set_option maxRecDepth 65536 in
theorem mono18 : ∀ w ∈ c18, Mono w.2 := allC_mem (P := fun _ f => Mono f) ⟨mono_lift _, (fun _ _ _ _ _ _ _ h => h), mono_lift _, mono_lift _, mono_lift _, mono_lift _, mono_lift _, mono_lift _, mono_lift _, mono_lift _, mono_lift _, (fun _ _ _ _ _ _ _ h => h), mono_callR _ _ _ _ _, mono_lift _, mono_lift _, (fun _ _ _ _ _ _ _ h => h), mono_lift _, mono_lift _, mono_lift _, (fun _ _ _ _ _ _ _ h => h), mono_lift _, mono_callR _ _ _ _ _, mono_callR _ _ _ _ _, mono_lift _, mono_lift _, (fun _ _ _ _ _ _ _ h => h), mono_lift _, (fun _ _ _ _ _ _ _ h => h), mono_lift _, mono_lift _, mono_lift _, mono_lift _, mono_lift _, mono_lift _, (fun _ _ _ _ _ _ _ h => h), mono_lift _, mono_lift _, mono_lift _, mono_lift _, mono_lift _, (fun _ _ _ _ _ _ _ h => h), mono_lift _, mono_callR _ _ _ _ _, mono_lift _, mono_lift _, (fun _ _ _ _ _ _ _ h => h), mono_lift _, mono_lift _, (fun _ _ _ _ _ _ _ h => h), mono_lift _, mono_lift _, (fun _ _ _ _ _ _ _ h => h), mono_lift _, mono_lift _, mono_lift _, (fun _ _ _ _ _ _ _ h => h), mono_lift _, mono_lift _, mono_lift _, (fun _ _ _ _ _ _ _ h => h), mono_lift _, (fun _ _ _ _ _ _ _ h => h), mono_lift _, (fun _ _ _ _ _ _ _ h => h), (fun _ _ _ _ _ _ _ h => h), mono_lift _, mono_lift _, mono_lift _, mono_lift _, mono_lift _, mono_lift _, mono_lift _, mono_lift _, (fun _ _ _ _ _ _ _ h => h), mono_lift _, mono_lift _, (fun _ _ _ _ _ _ _ h => h), mono_lift _, (fun _ _ _ _ _ _ _ h => h), mono_lift _, mono_lift _, mono_lift _, mono_lift _, (fun _ _ _ _ _ _ _ h => h), mono_lift _, mono_lift _, (fun _ _ _ _ _ _ _ h => h), mono_lift _, mono_lift _, (fun _ _ _ _ _ _ _ h => h), mono_lift _, (fun _ _ _ _ _ _ _ h => h), (fun _ _ _ _ _ _ _ h => h), (fun _ _ _ _ _ _ _ h => h), mono_lift _, (fun _ _ _ _ _ _ _ h => h), mono_lift _, (fun _ _ _ _ _ _ _ h => h), mono_lift _, mono_lift _, mono_lift _, (fun _ _ _ _ _ _ _ h => h), mono_lift _, mono_lift _, mono_lift _, (fun _ _ _ _ _ _ _ h => h), mono_lift _, (fun _ _ _ _ _ _ _ h => h), mono_lift _, mono_lift _, (fun _ _ _ _ _ _ _ h => h), trivial⟩
set_option maxRecDepth 65536 in
theorem mono19 : ∀ w ∈ c19, Mono w.2 := allC_mem (P := fun _ f => Mono f) ⟨mono_lift _, mono_lift _, (fun _ _ _ _ _ _ _ h => h), mono_lift _, mono_lift _, (fun _ _ _ _ _ _ _ h => h), mono_lift _, mono_lift _, mono_lift _, (fun _ _ _ _ _ _ _ h => h), mono_lift _, (fun _ _ _ _ _ _ _ h => h), mono_callR _ _ _ _ _, mono_lift _, (fun _ _ _ _ _ _ _ h => h), trivial⟩
set_option maxRecDepth 65536 in
theorem mono20 : ∀ w ∈ c20, Mono w.2 := allC_mem (P := fun _ f => Mono f) ⟨mono_lift _, mono_lift _, (fun _ _ _ _ _ _ _ h => h), mono_lift _, mono_lift _, mono_callR _ _ _ _ _, mono_lift _, mono_lift _, mono_lift _, mono_lift _, (fun _ _ _ _ _ _ _ h => h), mono_lift _, mono_lift _, mono_lift _, mono_lift _, (fun _ _ _ _ _ _ _ h => h), (fun _ _ _ _ _ _ _ h => h), trivial⟩
set_option maxRecDepth 65536 in
theorem mono21 : ∀ w ∈ c21, Mono w.2 := allC_mem (P := fun _ f => Mono f) ⟨mono_lift _, mono_lift _, (fun _ _ _ _ _ _ _ h => h), mono_lift _, mono_lift _, mono_callR _ _ _ _ _, (fun _ _ _ _ _ _ _ h => h), trivial⟩
set_option maxRecDepth 65536 in
theorem mono22 : ∀ w ∈ c22, Mono w.2 := allC_mem (P := fun _ f => Mono f) ⟨mono_lift _, (fun _ _ _ _ _ _ _ h => h), (fun _ _ _ _ _ _ _ h => h), mono_lift _, mono_lift _, mono_lift _, mono_lift _, (fun _ _ _ _ _ _ _ h => h), (fun _ _ _ _ _ _ _ h => h), mono_lift _, mono_lift _, mono_lift _, mono_lift _, mono_lift _, mono_lift _, mono_lift _, mono_lift _, mono_lift _, mono_lift _, mono_lift _, mono_call _ _ _ _, (fun _ _ _ _ _ _ _ h => h), mono_lift _, (fun _ _ _ _ _ _ _ h => h), (fun _ _ _ _ _ _ _ h => h), trivial⟩
set_option maxRecDepth 65536 in
theorem mono23 : ∀ w ∈ c23, Mono w.2 := allC_mem (P := fun _ f => Mono f) ⟨mono_lift _, mono_lift _, (fun _ _ _ _ _ _ _ h => h), mono_call _ _ _ _, mono_lift _, mono_lift _, mono_lift _, mono_callR _ _ _ _ _, (fun _ _ _ _ _ _ _ h => h), trivial⟩
set_option maxRecDepth 65536 in
theorem mono24 : ∀ w ∈ c24, Mono w.2 := allC_mem (P := fun _ f => Mono f) ⟨mono_lift _, mono_lift _, mono_lift _, mono_call _ _ _ _, (fun _ _ _ _ _ _ _ h => h), trivial⟩
set_option maxRecDepth 65536 in
theorem mono25 : ∀ w ∈ c25, Mono w.2 := allC_mem (P := fun _ f => Mono f) ⟨mono_lift _, mono_lift _, mono_lift _, mono_lift _, mono_lift _, mono_lift _, mono_lift _, mono_lift _, mono_lift _, (fun _ _ _ _ _ _ _ h => h), trivial⟩
set_option maxRecDepth 65536 in
theorem mono26 : ∀ w ∈ c26, Mono w.2 := allC_mem (P := fun _ f => Mono f) ⟨mono_lift _, (fun _ _ _ _ _ _ _ h => h), mono_lift _, (fun _ _ _ _ _ _ _ h => h), (fun _ _ _ _ _ _ _ h => h), trivial⟩
set_option maxRecDepth 65536 in
theorem mono27 : ∀ w ∈ c27, Mono w.2 := allC_mem (P := fun _ f => Mono f) ⟨mono_lift _, mono_lift _, mono_lift _, (fun _ _ _ _ _ _ _ h => h), mono_callR _ _ _ _ _, mono_lift _, mono_lift _, (fun _ _ _ _ _ _ _ h => h), mono_lift _, mono_lift _, mono_lift _, (fun _ _ _ _ _ _ _ h => h), mono_lift _, mono_callR _ _ _ _ _, mono_callR _ _ _ _ _, mono_lift _, mono_lift _, (fun _ _ _ _ _ _ _ h => h), mono_lift _, (fun _ _ _ _ _ _ _ h => h), mono_lift _, mono_lift _, mono_lift _, mono_lift _, mono_lift _, mono_lift _, mono_lift _, mono_lift _, mono_lift _, (fun _ _ _ _ _ _ _ h => h), mono_lift _, mono_callR _ _ _ _ _, mono_lift _, mono_lift _, (fun _ _ _ _ _ _ _ h => h), mono_lift _, (fun _ _ _ _ _ _ _ h => h), mono_lift _, mono_lift _, mono_lift _, (fun _ _ _ _ _ _ _ h => h), mono_lift _, mono_lift _, (fun _ _ _ _ _ _ _ h => h), mono_lift _, mono_lift _, mono_lift _, (fun _ _ _ _ _ _ _ h => h), mono_lift _, (fun _ _ _ _ _ _ _ h => h), (fun _ _ _ _ _ _ _ h => h), mono_lift _, mono_lift _, mono_lift _, (fun _ _ _ _ _ _ _ h => h), mono_lift _, mono_lift _, mono_lift _, (fun _ _ _ _ _ _ _ h => h), mono_lift _, mono_lift _, mono_lift _, (fun _ _ _ _ _ _ _ h => h), (fun _ _ _ _ _ _ _ h => h), mono_lift _, mono_lift _, (fun _ _ _ _ _ _ _ h => h), mono_lift _, (fun _ _ _ _ _ _ _ h => h), mono_lift _, (fun _ _ _ _ _ _ _ h => h), mono_lift _, (fun _ _ _ _ _ _ _ h => h), (fun _ _ _ _ _ _ _ h => h), mono_lift _, mono_lift _, (fun _ _ _ _ _ _ _ h => h), mono_lift _, mono_lift _, (fun _ _ _ _ _ _ _ h => h), mono_lift _, (fun _ _ _ _ _ _ _ h => h), mono_lift _, (fun _ _ _ _ _ _ _ h => h), mono_lift _, (fun _ _ _ _ _ _ _ h => h), mono_lift _, mono_lift _, mono_call _ _ _ _, (fun _ _ _ _ _ _ _ h => h), mono_lift _, (fun _ _ _ _ _ _ _ h => h), mono_lift _, (fun _ _ _ _ _ _ _ h => h), mono_lift _, (fun _ _ _ _ _ _ _ h => h), mono_lift _, mono_lift _, (fun _ _ _ _ _ _ _ h => h), mono_lift _, mono_lift _, mono_lift _, (fun _ _ _ _ _ _ _ h => h), mono_lift _, (fun _ _ _ _ _ _ _ h => h), (fun _ _ _ _ _ _ _ h => h), trivial⟩
set_option maxRecDepth 65536 in
theorem mono28 : ∀ w ∈ c28, Mono w.2 := allC_mem (P := fun _ f => Mono f) ⟨mono_lift _, mono_lift _, mono_lift _, mono_lift _, (fun _ _ _ _ _ _ _ h => h), (fun _ _ _ _ _ _ _ h => h), mono_lift _, mono_lift _, mono_lift _, mono_lift _, (fun _ _ _ _ _ _ _ h => h), mono_lift _, mono_lift _, (fun _ _ _ _ _ _ _ h => h), mono_lift _, (fun _ _ _ _ _ _ _ h => h), mono_callR _ _ _ _ _, (fun _ _ _ _ _ _ _ h => h), mono_lift _, mono_lift _, (fun _ _ _ _ _ _ _ h => h), trivial⟩
set_option maxRecDepth 65536 in
theorem mono29 : ∀ w ∈ c29, Mono w.2 := allC_mem (P := fun _ f => Mono f) ⟨mono_lift _, (fun _ _ _ _ _ _ _ h => h), mono_lift _, mono_lift _, (fun _ _ _ _ _ _ _ h => h), mono_lift _, mono_lift _, mono_lift _, (fun _ _ _ _ _ _ _ h => h), (fun _ _ _ _ _ _ _ h => h), trivial⟩
set_option maxRecDepth 65536 in
theorem mono30 : ∀ w ∈ c30, Mono w.2 := allC_mem (P := fun _ f => Mono f) ⟨mono_lift _, mono_lift _, mono_lift _, (fun _ _ _ _ _ _ _ h => h), (fun _ _ _ _ _ _ _ h => h), mono_call _ _ _ _, (fun _ _ _ _ _ _ _ h => h), trivial⟩
set_option maxRecDepth 65536 in
theorem mono31 : ∀ w ∈ c31, Mono w.2 := allC_mem (P := fun _ f => Mono f) ⟨mono_lift _, mono_lift _, mono_lift _, mono_lift _, mono_lift _, mono_lift _, mono_lift _, mono_lift _, mono_lift _, mono_lift _, mono_lift _, mono_lift _, (fun _ _ _ _ _ _ _ h => h), mono_lift _, mono_lift _, mono_lift _, mono_lift _, mono_lift _, mono_lift _, mono_lift _, mono_lift _, mono_lift _, mono_lift _, mono_lift _, mono_lift _, mono_lift _, mono_lift _, mono_lift _, mono_lift _, mono_lift _, mono_lift _, mono_lift _, mono_lift _, mono_lift _, mono_lift _, mono_lift _, (fun _ _ _ _ _ _ _ h => h), trivial⟩
set_option maxRecDepth 65536 in
theorem mono32 : ∀ w ∈ c32, Mono w.2 := allC_mem (P := fun _ f => Mono f) ⟨mono_lift _, mono_lift _, (fun _ _ _ _ _ _ _ h => h), mono_lift _, mono_lift _, mono_lift _, mono_lift _, (fun _ _ _ _ _ _ _ h => h), mono_lift _, mono_lift _, mono_lift _, (fun _ _ _ _ _ _ _ h => h), mono_lift _, (fun _ _ _ _ _ _ _ h => h), mono_lift _, mono_lift _, mono_lift _, mono_lift _, mono_lift _, mono_callR _ _ _ _ _, mono_lift _, mono_lift _, (fun _ _ _ _ _ _ _ h => h), mono_lift _, mono_lift _, mono_lift _, mono_lift _, (fun _ _ _ _ _ _ _ h => h), mono_lift _, mono_lift _, mono_lift _, trivial⟩
set_option maxRecDepth 65536 in
theorem mono33 : ∀ w ∈ c33, Mono w.2 := allC_mem (P := fun _ f => Mono f) ⟨mono_lift _, (fun _ _ _ _ _ _ _ h => h), mono_lift _, mono_lift _, (fun _ _ _ _ _ _ _ h => h), mono_lift _, mono_lift _, mono_lift _, (fun _ _ _ _ _ _ _ h => h), (fun _ _ _ _ _ _ _ h => h), mono_lift _, mono_lift _, mono_lift _, (fun _ _ _ _ _ _ _ h => h), mono_lift _, mono_lift _, mono_lift _, mono_call _ _ _ _, (fun _ _ _ _ _ _ _ h => h), mono_lift _, mono_lift _, (fun _ _ _ _ _ _ _ h => h), mono_lift _, mono_lift _, mono_lift _, mono_call _ _ _ _, (fun _ _ _ _ _ _ _ h => h), mono_lift _, mono_lift _, (fun _ _ _ _ _ _ _ h => h), mono_lift _, mono_lift _, mono_lift _, mono_lift _, (fun _ _ _ _ _ _ _ h => h), mono_lift _, mono_lift _, (fun _ _ _ _ _ _ _ h => h), mono_lift _, (fun _ _ _ _ _ _ _ h => h), mono_lift _, mono_lift _, (fun _ _ _ _ _ _ _ h => h), mono_lift _, (fun _ _ _ _ _ _ _ h => h), mono_lift _, (fun _ _ _ _ _ _ _ h => h), (fun _ _ _ _ _ _ _ h => h), mono_lift _, mono_lift _, (fun _ _ _ _ _ _ _ h => h), mono_lift _, mono_lift _, (fun _ _ _ _ _ _ _ h => h), mono_lift _, (fun _ _ _ _ _ _ _ h => h), mono_lift _, mono_lift _, mono_lift _, mono_lift _, (fun _ _ _ _ _ _ _ h => h), mono_lift _, mono_lift _, mono_lift _, (fun _ _ _ _ _ _ _ h => h), mono_lift _, mono_lift _, mono_lift _, mono_lift _, (fun _ _ _ _ _ _ _ h => h), (fun _ _ _ _ _ _ _ h => h), (fun _ _ _ _ _ _ _ h => h), mono_lift _, (fun _ _ _ _ _ _ _ h => h), mono_lift _, (fun _ _ _ _ _ _ _ h => h), mono_lift _, mono_lift _, mono_lift _, (fun _ _ _ _ _ _ _ h => h), mono_lift _, mono_lift _, mono_lift _, mono_lift _, (fun _ _ _ _ _ _ _ h => h), trivial⟩
set_option maxRecDepth 65536 in
theorem mono34 : ∀ w ∈ c34, Mono w.2 := allC_mem (P := fun _ f => Mono f) ⟨mono_lift _, mono_lift _, mono_lift _, mono_lift _, (fun _ _ _ _ _ _ _ h => h), (fun _ _ _ _ _ _ _ h => h), mono_lift _, mono_lift _, (fun _ _ _ _ _ _ _ h => h), mono_lift _, mono_lift _, mono_lift _, mono_lift _, mono_lift _, (fun _ _ _ _ _ _ _ h => h), mono_lift _, mono_lift _, mono_lift _, mono_lift _, (fun _ _ _ _ _ _ _ h => h), mono_lift _, mono_lift _, (fun _ _ _ _ _ _ _ h => h), mono_lift _, mono_lift _, mono_lift _, (fun _ _ _ _ _ _ _ h => h), trivial⟩
set_option maxRecDepth 65536 in
theorem mono35 : ∀ w ∈ c35, Mono w.2 := allC_mem (P := fun _ f => Mono f) ⟨mono_lift _, (fun _ _ _ _ _ _ _ h => h), mono_lift _, mono_lift _, mono_lift _, mono_lift _, mono_lift _, mono_lift _, mono_callR _ _ _ _ _, mono_callR _ _ _ _ _, (fun _ _ _ _ _ _ _ h => h), mono_lift _, mono_lift _, (fun _ _ _ _ _ _ _ h => h), trivial⟩
set_option maxRecDepth 65536 in
theorem mono36 : ∀ w ∈ c36, Mono w.2 := allC_mem (P := fun _ f => Mono f) ⟨mono_lift _, (fun _ _ _ _ _ _ _ h => h), mono_lift _, mono_lift _, mono_lift _, mono_lift _, mono_lift _, (fun _ _ _ _ _ _ _ h => h), mono_lift _, (fun _ _ _ _ _ _ _ h => h), mono_lift _, mono_lift _, mono_lift _, (fun _ _ _ _ _ _ _ h => h), mono_lift _, (fun _ _ _ _ _ _ _ h => h), mono_lift _, mono_lift _, mono_lift _, (fun _ _ _ _ _ _ _ h => h), mono_lift _, (fun _ _ _ _ _ _ _ h => h), mono_lift _, (fun _ _ _ _ _ _ _ h => h), mono_lift _, mono_lift _, (fun _ _ _ _ _ _ _ h => h), trivial⟩
set_option maxRecDepth 65536 in
theorem mono37 : ∀ w ∈ c37, Mono w.2 := allC_mem (P := fun _ f => Mono f) ⟨mono_lift _, mono_lift _, mono_lift _, mono_lift _, mono_lift _, mono_lift _, mono_lift _, (fun _ _ _ _ _ _ _ h => h), mono_lift _, mono_lift _, mono_lift _, mono_lift _, mono_lift _, mono_lift _, (fun _ _ _ _ _ _ _ h => h), mono_lift _, mono_lift _, mono_lift _, mono_lift _, mono_lift _, mono_lift _, (fun _ _ _ _ _ _ _ h => h), mono_lift _, mono_lift _, mono_lift _, mono_lift _, mono_lift _, mono_lift _, (fun _ _ _ _ _ _ _ h => h), mono_lift _, mono_lift _, mono_lift _, mono_lift _, mono_lift _, mono_lift _, (fun _ _ _ _ _ _ _ h => h), mono_lift _, (fun _ _ _ _ _ _ _ h => h), trivial⟩
set_option maxRecDepth 65536 in
theorem mono38 : ∀ w ∈ c38, Mono w.2 := allC_mem (P := fun _ f => Mono f) ⟨mono_lift _, mono_lift _, (fun _ _ _ _ _ _ _ h => h), mono_lift _, mono_lift _, mono_lift _, (fun _ _ _ _ _ _ _ h => h), mono_lift _, mono_lift _, mono_lift _, mono_lift _, mono_lift _, mono_lift _, (fun _ _ _ _ _ _ _ h => h), mono_lift _, mono_call _ _ _ _, (fun _ _ _ _ _ _ _ h => h), mono_lift _, (fun _ _ _ _ _ _ _ h => h), trivial⟩
set_option maxRecDepth 65536 in
theorem mono39 : ∀ w ∈ c39, Mono w.2 := allC_mem (P := fun _ f => Mono f) ⟨mono_lift _, mono_lift _, mono_lift _, mono_lift _, mono_lift _, mono_lift _, (fun _ _ _ _ _ _ _ h => h), trivial⟩
theorem monoD : ∀ q ∈ D, ∀ w ∈ q.2, Mono w.2 := allP_mem (α := Nat × List (Nat × MOp)) (xs := D) (P := fun q => ∀ w ∈ q.2, Mono w.2) ⟨mono0, mono1, mono2, mono3, mono4, mono5, mono6, mono7, mono8, mono9, mono10, mono11, mono12, mono13, mono14, mono15, mono16, mono17, mono18, mono19, mono20, mono21, mono22, mono23, mono24, mono25, mono26, mono27, mono28, mono29, mono30, mono31, mono32, mono33, mono34, mono35, mono36, mono37, mono38, mono39, trivial⟩
set_option maxRecDepth 65536
/-! numbers -/
theorem on_toInt {x : Nat} (h : x < 2 ^ 31) : (Int32.ofNat x).toInt = x := len_toInt h
theorem on_nat {x : Nat} (h : x < 2 ^ 31) : (Int32.ofNat x).toNatClampNeg = x := by rw [clamp_toInt, on_toInt h]; simp
theorem on_nn {x : Nat} (h : x < 2 ^ 31) : ¬ Int32.ofNat x < 0 := not_neg _ (by rw [on_toInt h]; omega)
theorem on_succ (x : Nat) : Int32.ofNat x + 1 = Int32.ofNat (x + 1) := (Int32.ofNat_add x 1).symm
theorem on_pred (x : Nat) : Int32.ofNat (x + 1) - 1 = Int32.ofNat x := by rw [← on_succ, Int32.add_sub_cancel]
theorem on_inj {x y : Nat} (hx : x < 2 ^ 31) (hy : y < 2 ^ 31) (h : Int32.ofNat x = Int32.ofNat y) : x = y := by
  have := congrArg Int32.toInt h
  rw [on_toInt hx, on_toInt hy] at this
  omega
theorem on_ne0 {x : Nat} (hx : x + 1 < 2 ^ 31) : Int32.ofNat (x + 1) ≠ 0 := fun h => by
  have := on_inj (y := 0) hx (by decide) h
  omega
theorem i_ge {a b : Nat} (ha : a < 2 ^ 31) (hb : b < 2 ^ 31) : if_icmp.holds .ge (Int32.ofNat a) (Int32.ofNat b) = decide (b ≤ a) := by
  rw [c_ge, on_toInt ha, on_toInt hb]; simp
theorem i_le {a b : Nat} (ha : a < 2 ^ 31) (hb : b < 2 ^ 31) : if_icmp.holds .le (Int32.ofNat a) (Int32.ofNat b) = decide (a ≤ b) := by
  rw [c_le, on_toInt ha, on_toInt hb]; simp
theorem i_ne {a b : Nat} (ha : a < 2 ^ 31) (hb : b < 2 ^ 31) : if_icmp.holds .ne (Int32.ofNat a) (Int32.ofNat b) = decide (a ≠ b) := by
  rw [c_ne, on_toInt ha, on_toInt hb]; exact decide_eq_decide.mpr (by omega)
theorem i_gt {a b : Nat} (ha : a < 2 ^ 31) (hb : b < 2 ^ 31) : if_icmp.holds .gt (Int32.ofNat a) (Int32.ofNat b) = decide (b < a) := by
  rw [c_gt, on_toInt ha, on_toInt hb]; simp
theorem z_geN {a : Nat} (ha : a < 2 ^ 31) : ifCond.holds .ge (Int32.ofNat a) = true := by
  rw [z_ge, on_toInt ha]; simp
theorem z_neN {a : Nat} (ha : a < 2 ^ 31) : ifCond.holds .ne (Int32.ofNat a) = decide (a ≠ 0) := by
  rw [z_ne, on_toInt ha]; simp
theorem z_eq0 {x : Int32} (h : x = 0) : ifCond.holds .eq x = true := by subst h; rfl
theorem z_eqn {x : Int32} (h : x ≠ 0) : ifCond.holds .eq x = false := by
  rw [z_eq]; exact decide_eq_false (fun q => h (of_toInt 0 rfl q))
theorem i_eqT {x y : Int32} (h : x = y) : if_icmp.holds .eq x y = true := by subst h; rw [c_eq]; simp
theorem i_eqF {x y : Int32} (h : x ≠ y) : if_icmp.holds .eq x y = false := by
  rw [c_eq]; exact decide_eq_false (fun q => h (Int32.toInt_inj.mp q))
/-! more rules -/
theorem Go.to {D : Meths} {code : List (Nat × MOp)} {r : MR} {st st' : MS} (e : st = st') (h : Go D code st' r) : Go D code st r := e ▸ h
section Rules2
variable {D : Meths} {code : List (Nat × MOp)} {pc : Nat} {L : List Slot} {S : List Value} {H : MH} {r : MR}
theorem Go.ist {k n : Nat} {x : Int32} {L' : List Slot} (hl : Jvm.MV.look code pc = some (lift (pIst k n))) (hm : mset L k (.int x) = some L') (hg : Go D code (n, L', S, H) r) : Go D code (pc, L, .int x :: S, H) r :=
  Go.step hl (fun _ => by simp only [lift, pIst, hm]) hg
theorem Go.newA {k n : Nat} {dv : Value} {z : Nat} (hz : z < 1000) (hl : Jvm.MV.look code pc = some (oNewA k dv n)) (hg : Go D code (n, L, .ref H.length :: S, H ++ [(k, List.replicate z dv)]) r) : Go D code (pc, L, .int (Int32.ofNat z) :: S, H) r := by
  refine Go.step hl (fun _ => ?_) hg
  simp only [oNewA, if_neg (on_nn (show z < 2 ^ 31 by omega)), on_nat (show z < 2 ^ 31 by omega)]
  rw [if_pos (by omega)]
theorem Go.astR {xl k vk n a : Nat} {j : Int32} {v : Value} {vs : List Value} (hl : Jvm.MV.look code pc = some (oAStR xl k vk n)) (hH : H[a]? = some (k, vs)) (ha : xl ≤ a) (hok : okv H vk v = true) (hj : ¬ j < 0) (hv : j.toNatClampNeg < vs.length) (hg : Go D code (n, L, S, H.set a (k, vs.set j.toNatClampNeg v)) r) : Go D code (pc, L, v :: .int j :: .ref a :: S, H) r := by
  have hb : (Nat.beq k k && Nat.ble xl a && okv H vk v) = true := by simp [ha, hok]
  have hb2 : Nat.ble vs.length j.toNatClampNeg = false := by
    cases hq : Nat.ble vs.length j.toNatClampNeg with
    | false => rfl
    | true => have := Nat.le_of_ble_eq_true hq; omega
  exact Go.step hl (fun _ => by simp only [oAStR, hH, hb, if_neg hj, hb2]) hg
theorem Go.copy {xl k W n a b : Nat} {t : FieldType} {nn dp sp : Int32} {us vs ws : List Value} (hl : Jvm.MV.look code pc = some (oCopy xl k t W n)) (hA : H[a]? = some (k, us)) (hB : H[b]? = some (k, vs)) (hok : copyOk xl k t W nn dp sp b k k us vs S = true) (hw : vs.take dp.toNatClampNeg ++ (us.drop sp.toNatClampNeg).take nn.toNatClampNeg ++ vs.drop (dp.toNatClampNeg + nn.toNatClampNeg) = ws) (hg : Go D code (n, L, S, H.set b (k, ws)) r) : Go D code (pc, L, .int nn :: .int dp :: .ref b :: .int sp :: .ref a :: S, H) r := by
  subst hw
  exact Go.step hl (fun _ => by simp only [oCopy, hA, hB, hok]) hg
end Rules2
theorem mset4 {a b c d x4 x5 : Slot} {v : Value} (h : x4 = .unset ∨ ∃ z : Int32, x4 = .val (.int z)) : mset [a, b, c, d, x4, x5] 4 v = some [a, b, c, d, .val v, x5] := by
  rcases h with rfl | ⟨z, rfl⟩ <;> rfl
theorem mset5 {a b c d x4 x5 : Slot} {v : Value} (h : x5 = .unset ∨ ∃ z : Int32, x5 = .val (.int z)) : mset [a, b, c, d, x4, x5] 5 v = some [a, b, c, d, x4, .val v] := by
  rcases h with rfl | ⟨z, rfl⟩ <;> rfl
/-! the table of slots -/
def st : Bool → Nat
  | false => 2
  | true => 3
def tab (u : Bool) (f : Nat → Int32) : List Value := (List.range (16 * st u)).map fun i => .int (f i)
theorem tab_len (u : Bool) (f : Nat → Int32) : (tab u f).length = 16 * st u := by simp [tab]
theorem tab_get {u : Bool} {f : Nat → Int32} {i : Nat} (h : i < 16 * st u) : (tab u f)[i]? = some (.int (f i)) := by simp [tab, h]
theorem tab_set (u : Bool) (f : Nat → Int32) (i : Nat) (x : Int32) : (tab u f).set i (.int x) = tab u (fun j => if j = i then x else f j) := by
  refine List.ext_getElem? fun j => ?_
  rw [List.getElem?_set]
  by_cases hj : j < 16 * st u
  · rw [tab_get hj, tab_get hj, tab_len]
    by_cases e : i = j
    · subst e; simp [hj]
    · have : ¬ j = i := fun q => e q.symm
      simp [e, this]
  · have h1 : (tab u f)[j]? = none := List.getElem?_eq_none (by rw [tab_len]; omega)
    have h2 : (tab u (fun j => if j = i then x else f j))[j]? = none := List.getElem?_eq_none (by rw [tab_len]; omega)
    rw [h1, h2, tab_len]
    by_cases e : i = j
    · subst e; simp [hj]
    · simp [e]
theorem tab_fits (u : Bool) (f : Nat → Int32) : (tab u f).all (fits .int) = true := by
  rw [List.all_eq_true]
  intro v hv
  simp only [tab, List.mem_map] at hv
  obtain ⟨i, -, rfl⟩ := hv
  rfl
def mt (u : Bool) (f : Nat → Int32) (p : Nat) (a b : Int32) : Bool := match u with
  | false => decide (f (2 * p + 1) = a)
  | true => decide (f (3 * p + 1) = a) && decide (f (3 * p + 2) = b)
def stop (u : Bool) (f : Nat → Int32) (p : Nat) (a b : Int32) : Bool := decide (f (st u * p) = 0) || mt u f p a b
def ins (u : Bool) (f : Nat → Int32) (p m : Nat) (a b : Int32) : Nat → Int32 := match u with
  | false => fun j => if j = 2 * p + 1 then a else if j = 2 * p then Int32.ofNat m else f j
  | true => fun j => if j = 3 * p + 2 then b else if j = 3 * p + 1 then a else if j = 3 * p then Int32.ofNat m else f j
def stp (h x : Int32) : Int32 := (h ^^^ x) * 16777619
def fin (h : Int32) : Int32 := ((h ^^^ XT.ushr h 16) * (-2048144789)) ^^^ XT.ushr ((h ^^^ XT.ushr h 16) * (-2048144789)) 13
def hs (xs : List Int32) : Int32 := fin (xs.foldl stp (-2128831035))
def kl (u : Bool) (a b : Int32) : List Int32 := match u with
  | false => [a]
  | true => [a, b]
def hx (u : Bool) (a b : Int32) : Nat := (hs (kl u a b) &&& 15).toNatClampNeg
theorem hx_lt (u : Bool) (a b : Int32) : hx u a b < 16 := by
  have h := and_rng (hs (kl u a b)) 15 (by decide)
  have : (15 : Int32).toInt = 15 := rfl
  simp only [hx, clamp_toInt]; omega
theorem hx_eq (u : Bool) (a b : Int32) : hs (kl u a b) &&& 15 = Int32.ofNat (hx u a b) := by
  have h := and_rng (hs (kl u a b)) 15 (by decide)
  have : (15 : Int32).toInt = 15 := rfl
  refine Int32.toInt_inj.mp ?_
  rw [on_toInt (by have := hx_lt u a b; omega)]
  simp only [hx, clamp_toInt]; omega
abbrev KL : Type := List (Nat × Int32 × Int32)
def Inv (u : Bool) (f : Nat → Int32) (L : KL) : Prop :=
  (∀ (i p : Nat) (a b : Int32), L[i]? = some (p, a, b) → p < 16 ∧ f (st u * p) = Int32.ofNat (i + 1) ∧ mt u f p a b = true ∧ (u = false → b = 0) ∧ ∃ n, p = (hx u a b + n) % 16 ∧ ∀ j, j < n → f (st u * ((hx u a b + j) % 16)) ≠ 0) ∧
  (∀ p : Nat, p < 16 → f (st u * p) ≠ 0 → ∃ (i : Nat) (a b : Int32), L[i]? = some (p, a, b)) ∧
  (∀ (i j p q : Nat) (a b : Int32), L[i]? = some (p, a, b) → L[j]? = some (q, a, b) → i = j)
theorem inv0 (u : Bool) : Inv u (fun _ => 0) [] := ⟨fun i p a b h => by simp at h, fun p _ h => absurd rfl h, fun i j p q a b h => by simp at h⟩
theorem mt_key {u : Bool} {f : Nat → Int32} {p : Nat} {a b a' b' : Int32} (h : mt u f p a b = true) (h' : mt u f p a' b' = true) (hb : u = false → b = 0) (hb' : u = false → b' = 0) : a = a' ∧ b = b' := by
  cases u
  · simp only [mt, decide_eq_true_eq] at h h'
    exact ⟨h.symm.trans h', (hb rfl).trans (hb' rfl).symm⟩
  · simp only [mt, Bool.and_eq_true, decide_eq_true_eq] at h h'
    exact ⟨h.1.symm.trans h'.1, h.2.symm.trans h'.2⟩
theorem full_len : ∀ (m : Nat) (xs : List Nat), (∀ p, p < m → p ∈ xs) → m ≤ xs.length
  | 0, _, _ => Nat.zero_le _
  | m + 1, xs, h => by
    have hm := h m (by omega)
    have ih := full_len m (xs.erase m) fun p hp => (List.mem_erase_of_ne (by omega)).mpr (h p (by omega))
    rw [List.length_erase_of_mem hm] at ih
    have := List.length_pos_of_mem hm
    omega
theorem free_in {u : Bool} {f : Nat → Int32} {L : KL} (hI : Inv u f L) (hL : L.length < 16) (s : Nat) : ∃ j, j ≤ 15 ∧ f (st u * ((s + j) % 16)) = 0 := by
  by_cases hq : ∃ j, j ≤ 15 ∧ f (st u * ((s + j) % 16)) = 0
  · exact hq
  · exfalso
    have hall : ∀ p, p < 16 → p ∈ L.map Prod.fst := fun p hp => by
      have hne : f (st u * p) ≠ 0 := fun e => hq ⟨(p + 16 - s % 16) % 16, by omega, by
        have : (s + (p + 16 - s % 16) % 16) % 16 = p := by omega
        rw [this]; exact e⟩
      obtain ⟨i, a, b, h⟩ := hI.2.1 p hp hne
      exact List.mem_map.mpr ⟨_, List.mem_of_getElem? h, rfl⟩
    have := full_len 16 _ hall
    rw [List.length_map] at this
    omega
theorem stop_in {u : Bool} {f : Nat → Int32} {L : KL} (hI : Inv u f L) (hL : L.length < 16) (s : Nat) (a b : Int32) : ∃ j, j ≤ 15 ∧ stop u f ((s + j) % 16) a b = true := by
  obtain ⟨j, h1, h2⟩ := free_in hI hL s
  exact ⟨j, h1, by simp [stop, h2]⟩
theorem found {u : Bool} {f : Nat → Int32} {L : KL} (hI : Inv u f L) (hL : L.length < 16) {a b : Int32} (hb : u = false → b = 0) {j : Nat} (hs1 : stop u f ((hx u a b + j) % 16) a b = true) (hs2 : ∀ i, i < j → stop u f ((hx u a b + i) % 16) a b = false) :
    (∃ i : Nat, L[i]? = some ((hx u a b + j) % 16, a, b)) ∨ (f (st u * ((hx u a b + j) % 16)) = 0 ∧ (∀ i q : Nat, L[i]? ≠ some (q, a, b)) ∧ ∀ i, i < j → f (st u * ((hx u a b + i) % 16)) ≠ 0) := by
  by_cases h0 : f (st u * ((hx u a b + j) % 16)) = 0
  · refine Or.inr ⟨h0, fun i q hq => ?_, fun i hi e => ?_⟩
    · obtain ⟨k1, k2, k3, -, n, k4, k5⟩ := hI.1 i q a b hq
      rcases Nat.lt_trichotomy j n with h | h | h
      · exact k5 j h h0
      · subst h
        rw [← k4, k2] at h0
        have hi : i < L.length := (List.getElem?_eq_some_iff.mp hq).1
        exact on_ne0 (by omega) h0
      · have := hs2 n h
        rw [← k4] at this
        simp [stop, k3] at this
    · have := hs2 i hi
      simp [stop, e] at this
  · refine Or.inl ?_
    obtain ⟨i, a', b', h⟩ := hI.2.1 _ (Nat.mod_lt _ (by decide)) h0
    obtain ⟨k1, k2, k3, k4, -⟩ := hI.1 _ _ _ _ h
    have hm : mt u f ((hx u a b + j) % 16) a b = true := by simpa [stop, h0] using hs1
    obtain ⟨rfl, rfl⟩ := mt_key hm k3 hb k4
    exact ⟨i, h⟩
theorem ins_num {u : Bool} {f : Nat → Int32} {p m q : Nat} {a b : Int32} : ins u f p m a b (st u * q) = if q = p then Int32.ofNat m else f (st u * q) := by
  cases u
  · have h1 : ¬ (2 * q = 2 * p + 1) := by omega
    show (if 2 * q = 2 * p + 1 then a else if 2 * q = 2 * p then Int32.ofNat m else f (2 * q)) = if q = p then Int32.ofNat m else f (2 * q)
    rw [if_neg h1]
    by_cases e : q = p
    · rw [if_pos e, if_pos (show 2 * q = 2 * p by omega)]
    · rw [if_neg e, if_neg (show ¬ (2 * q = 2 * p) by omega)]
  · have h1 : ¬ (3 * q = 3 * p + 1) := by omega
    have h2 : ¬ (3 * q = 3 * p + 2) := by omega
    show (if 3 * q = 3 * p + 2 then b else if 3 * q = 3 * p + 1 then a else if 3 * q = 3 * p then Int32.ofNat m else f (3 * q)) = if q = p then Int32.ofNat m else f (3 * q)
    rw [if_neg h2, if_neg h1]
    by_cases e : q = p
    · rw [if_pos e, if_pos (show 3 * q = 3 * p by omega)]
    · rw [if_neg e, if_neg (show ¬ (3 * q = 3 * p) by omega)]
theorem ins_mt {u : Bool} {f : Nat → Int32} {p m q : Nat} {a b a' b' : Int32} (h : q ≠ p) : mt u (ins u f p m a b) q a' b' = mt u f q a' b' := by
  cases u
  · have e : ins false f p m a b (2 * q + 1) = f (2 * q + 1) := by
      show (if 2 * q + 1 = 2 * p + 1 then a else if 2 * q + 1 = 2 * p then Int32.ofNat m else f (2 * q + 1)) = _
      rw [if_neg (show ¬ (2 * q + 1 = 2 * p + 1) by omega), if_neg (show ¬ (2 * q + 1 = 2 * p) by omega)]
    simp only [mt, e]
  · have e : ins true f p m a b (3 * q + 1) = f (3 * q + 1) := by
      show (if 3 * q + 1 = 3 * p + 2 then b else if 3 * q + 1 = 3 * p + 1 then a else if 3 * q + 1 = 3 * p then Int32.ofNat m else f (3 * q + 1)) = _
      rw [if_neg (show ¬ (3 * q + 1 = 3 * p + 2) by omega), if_neg (show ¬ (3 * q + 1 = 3 * p + 1) by omega), if_neg (show ¬ (3 * q + 1 = 3 * p) by omega)]
    have e' : ins true f p m a b (3 * q + 2) = f (3 * q + 2) := by
      show (if 3 * q + 2 = 3 * p + 2 then b else if 3 * q + 2 = 3 * p + 1 then a else if 3 * q + 2 = 3 * p then Int32.ofNat m else f (3 * q + 2)) = _
      rw [if_neg (show ¬ (3 * q + 2 = 3 * p + 2) by omega), if_neg (show ¬ (3 * q + 2 = 3 * p + 1) by omega), if_neg (show ¬ (3 * q + 2 = 3 * p) by omega)]
    simp only [mt, e, e']
theorem ins_self {u : Bool} {f : Nat → Int32} {p m : Nat} {a b : Int32} : mt u (ins u f p m a b) p a b = true := by
  cases u
  · simp [ins, mt]
  · simp [ins, mt]
theorem inv_add {u : Bool} {f : Nat → Int32} {L : KL} (hI : Inv u f L) (hL : L.length < 16) {a b : Int32} (hb : u = false → b = 0) {j : Nat} (h0 : f (st u * ((hx u a b + j) % 16)) = 0) (hn : ∀ i q : Nat, L[i]? ≠ some (q, a, b)) (hp : ∀ i, i < j → f (st u * ((hx u a b + i) % 16)) ≠ 0) :
    Inv u (ins u f ((hx u a b + j) % 16) (L.length + 1) a b) (L ++ [((hx u a b + j) % 16, a, b)]) := by
  have hne : Int32.ofNat (L.length + 1) ≠ 0 := on_ne0 (by omega)
  have keep : ∀ x, f (st u * x) ≠ 0 → ins u f ((hx u a b + j) % 16) (L.length + 1) a b (st u * x) ≠ 0 := fun x h => by
    rw [ins_num]; split
    · exact hne
    · exact h
  have get : ∀ {i : Nat} {w : Nat × Int32 × Int32}, (L ++ [((hx u a b + j) % 16, a, b)])[i]? = some w → L[i]? = some w ∨ (i = L.length ∧ w = ((hx u a b + j) % 16, a, b)) := fun {i w} h => by
    rw [List.getElem?_append] at h
    split at h
    · exact Or.inl h
    · rename_i hi
      have e : i - L.length = 0 := by
        cases hz : i - L.length with
        | zero => rfl
        | succ z => rw [hz] at h; simp at h
      rw [e] at h
      simp at h
      exact Or.inr ⟨by omega, h.symm⟩
  refine ⟨fun i p a' b' h => ?_, fun p hp' h => ?_, fun i i' p q a' b' h h' => ?_⟩
  · rcases get h with h | ⟨rfl, e⟩
    · obtain ⟨k1, k2, k3, k4, n, k5, k6⟩ := hI.1 i p a' b' h
      have hi : i < L.length := (List.getElem?_eq_some_iff.mp h).1
      have hpne : p ≠ (hx u a b + j) % 16 := fun e => by
        rw [e, h0] at k2
        exact on_ne0 (by omega) k2.symm
      exact ⟨k1, by rw [ins_num, if_neg hpne]; exact k2, by rw [ins_mt hpne]; exact k3, k4, n, k5, fun y hy => keep _ (k6 y hy)⟩
    · cases e
      exact ⟨Nat.mod_lt _ (by decide), by rw [ins_num, if_pos rfl], ins_self, hb, j, rfl, fun y hy => keep _ (hp y hy)⟩
  · rw [ins_num] at h
    by_cases e : p = (hx u a b + j) % 16
    · exact ⟨L.length, a, b, by rw [e]; simp⟩
    · rw [if_neg e] at h
      obtain ⟨i, a', b', hi⟩ := hI.2.1 p hp' h
      have hlt : i < L.length := (List.getElem?_eq_some_iff.mp hi).1
      exact ⟨i, a', b', by rw [List.getElem?_append_left hlt]; exact hi⟩
  · rcases get h with h | ⟨rfl, e⟩
    · rcases get h' with h' | ⟨rfl, e'⟩
      · exact hI.2.2 i i' p q a' b' h h'
      · cases e'; exact absurd h (hn _ _)
    · cases e
      rcases get h' with h' | ⟨rfl, e'⟩
      · exact absurd h' (hn _ _)
      · rfl
abbrev H0 : MH := [(0, []), (11, [])]
theorem len_of_eq {args : Array Value} {s : State} {t : Term} {a : Addr} {c : Cell} {ty : FieldType} {k : Int32} (ht : t.eval args s none [] s = some (.ref a)) (A : Arr s s.heap a c ty) (h : (Jvm.Cond.eq (.length t) (.int k)).value args s none s [] = some true) : c.slots.size = k.toNatClampNeg := by
  obtain ⟨x, y, e1, e2, -, k2⟩ := cmp_v (Or.inl h)
  have e3 : y = .int k := (Option.some.inj e2).symm
  subst e3
  obtain ⟨z, rfl⟩ := k2
  have h' := h
  simp only [Cond.value, e1, e2, Option.some.injEq, decide_eq_true_eq] at h'
  subst h'
  have ha := A.fin (Vm.Alike.refl _)
  simp only [Term.eval, ht, Option.bind_eq_bind, Option.bind_some, ha] at e1
  split at e1
  · rename_i hl
    cases Value.int.inj (Option.some.inj e1)
    rw [clamp_toInt, len_toInt hl]; rfl
  · cases e1
def nv (x : Nat) : Value := .int (Int32.ofNat x)
def tv : Nat → Value
  | 0 => .null
  | 1 => .ref 0
  | i + 2 => .ref (i + 22)
def cm : Option (List Nat) → Nat × List Value
  | none => (10, .ref 13 :: List.replicate 9 .null)
  | some xs => (0, xs.map nv)
abbrev QC : Type := Nat × List Value
abbrev QQ : Type := QC × QC × QC × QC × QC × QC × QC × QC × QC × QC × QC
abbrev QQ.mk (c2 c3 c4 c5 c6 c8 c9 c11 c12 c17 c21 : Nat × List Value) : QQ := (c2, c3, c4, c5, c6, c8, c9, c11, c12, c17, c21)
def stI : Bool → Int32
  | false => 2
  | true => 3
def CO : Bool → List Value
  | false => [.int 0]
  | true => [.int 0, .int 1]
def HR (u : Bool) (Q : QQ) (sz : Int32) (RC SC SL : List Value) (nn : Int32) (FT CN TU : List Value) (T : MH) : MH :=
  (0, []) :: (11, []) :: Q.1 :: Q.2.1 :: Q.2.2.1 :: Q.2.2.2.1 :: Q.2.2.2.2.1 :: (5, [.ref 8, .ref 9, .int 2, .ref 10, .ref 11, .int sz, .null]) :: Q.2.2.2.2.2.1 :: Q.2.2.2.2.2.2.1 :: (0, RC) :: Q.2.2.2.2.2.2.2.1 :: Q.2.2.2.2.2.2.2.2.1 ::
  (8, [.int 15, .int 12, .ref 14, .ref 15, .ref 16, .ref 17, .ref 7, .ref 18, .ref 19, .int (stI u), .ref 20, .int (b2i u), .int nn]) :: (0, FT) :: (0, CN) :: (9, TU) :: Q.2.2.2.2.2.2.2.2.2.1 :: (0, CO u) :: (0, SC) :: (0, SL) :: Q.2.2.2.2.2.2.2.2.2.2 :: T
theorem evGet (u : Bool) (Q : QQ) (sz : Int32) (RC SC SL : List Value) (nn : Int32) (FT CN TU : List Value) (T : MH) (t c v : Int32) (hj : ¬ (t * 2 + c) < 0) (hv : RC[(t * 2 + c).toNatClampNeg]? = some (.int v)) : Eval D 29 [.ref 7, .int t, .int c] (HR u Q sz RC SC SL nn FT CN TU T) (some (.int v), (HR u Q sz RC SC SL nn FT CN TU T)) := by
  refine Eval.intro2 monoD [.val (.ref 7), .val (.int t), .val (.int c)] rfl (le_r rfl) rfl ?_
  iterate 8 (refine Go.step rfl (fun _ => rfl) ?_)
  refine Go.ald rfl rfl hj hv ?_
  exact Go.retE rfl (fun _ => rfl) rfl
theorem evKey_false (Q : QQ) (sz : Int32) (RC SC SL : List Value) (nn : Int32) (FT CN TU : List Value) (T : MH) (t a : Int32) (s0 : Value) (g0 : ¬ (t * 2 + 0) < 0) (h0 : RC[(t * 2 + 0).toNatClampNeg]? = some (.int a)) : Eval D 28 [.ref 13, .int t, .ref 19] (HR false Q sz RC [s0] SL nn FT CN TU T) (none, (HR false Q sz RC [.int a] SL nn FT CN TU T)) := by
  refine Eval.intro2 monoD [.val (.ref 13), .val (.int t), .val (.ref 19), .unset] rfl (le_r rfl) rfl ?_
  iterate 16 (refine Go.step rfl (fun _ => rfl) ?_)
  refine Go.rcall monoD mono28 rfl (evGet false Q sz RC [s0] SL nn FT CN TU T t 0 a g0 h0) rfl rfl rfl rfl (le_r rfl) ?_
  refine Go.step rfl (fun _ => rfl) ?_
  refine Go.to (st' := (_, _, _, (HR false Q sz RC [.int a] SL nn FT CN TU T))) rfl ?_
  iterate 7 (refine Go.step rfl (fun _ => rfl) ?_)
  exact Go.retE rfl (fun _ => rfl) rfl
theorem evKey_true (Q : QQ) (sz : Int32) (RC SC SL : List Value) (nn : Int32) (FT CN TU : List Value) (T : MH) (t a b : Int32) (s0 s1 : Value) (g0 : ¬ (t * 2 + 0) < 0) (h0 : RC[(t * 2 + 0).toNatClampNeg]? = some (.int a)) (g1 : ¬ (t * 2 + 1) < 0) (h1 : RC[(t * 2 + 1).toNatClampNeg]? = some (.int b)) : Eval D 28 [.ref 13, .int t, .ref 19] (HR true Q sz RC [s0, s1] SL nn FT CN TU T) (none, (HR true Q sz RC [.int a, .int b] SL nn FT CN TU T)) := by
  refine Eval.intro2 monoD [.val (.ref 13), .val (.int t), .val (.ref 19), .unset] rfl (le_r rfl) rfl ?_
  iterate 16 (refine Go.step rfl (fun _ => rfl) ?_)
  refine Go.rcall monoD mono28 rfl (evGet true Q sz RC [s0, s1] SL nn FT CN TU T t 0 a g0 h0) rfl rfl rfl rfl (le_r rfl) ?_
  refine Go.step rfl (fun _ => rfl) ?_
  refine Go.to (st' := (_, _, _, (HR true Q sz RC [.int a, s1] SL nn FT CN TU T))) rfl ?_
  iterate 16 (refine Go.step rfl (fun _ => rfl) ?_)
  refine Go.rcall monoD mono28 rfl (evGet true Q sz RC [.int a, s1] SL nn FT CN TU T t 1 b g1 h1) rfl rfl rfl rfl (le_r rfl) ?_
  refine Go.step rfl (fun _ => rfl) ?_
  refine Go.to (st' := (_, _, _, (HR true Q sz RC [.int a, .int b] SL nn FT CN TU T))) rfl ?_
  iterate 7 (refine Go.step rfl (fun _ => rfl) ?_)
  exact Go.retE rfl (fun _ => rfl) rfl
/-! hash: the loop -/
theorem loop31 (H : MH) (a : Nat) (xs : List Int32) (hH : H[a]? = some (0, xs.map .int)) (hb : xs.length < 1000) (off len : Int32) (ho : (off + len).toInt = off.toInt + len.toInt) (ht : off.toInt + len.toInt ≤ xs.length) : ∀ (n : Nat) (i h : Int32), 0 ≤ i.toInt → i.toInt + n = off.toInt + len.toInt →
    Go D c31 (6, [.val (.ref a), .val (.int off), .val (.int len), .val (.int h), .val (.int i)], [], H) (some (.int (fin (((xs.drop i.toNatClampNeg).take n).foldl stp h))), H)
  | 0, i, h, h0, h1 => by
    iterate 4 (refine Go.step rfl (fun _ => rfl) ?_)
    refine Go.icmp rfl (b := true) (by rw [c_ge]; exact decide_eq_true (by dsimp only; omega)) ?_
    iterate 17 (refine Go.step rfl (fun _ => rfl) ?_)
    exact Go.retE rfl (fun _ => rfl) rfl
  | n + 1, i, h, h0, h1 => by
    have hlt : i.toNatClampNeg < xs.length := by rw [clamp_toInt]; omega
    have hi : (i + 1).toInt = i.toInt + 1 := inc_toInt i (by omega)
    have ih := loop31 H a xs hH hb off len ho ht n (i + 1) (stp h xs[i.toNatClampNeg]) (by omega) (by omega)
    have e1 : (i + 1).toNatClampNeg = i.toNatClampNeg + 1 := by rw [clamp_toInt, clamp_toInt]; omega
    rw [e1] at ih
    have e2 : ((xs.drop i.toNatClampNeg).take (n + 1)).foldl stp h = ((xs.drop (i.toNatClampNeg + 1)).take n).foldl stp (stp h xs[i.toNatClampNeg]) := by rw [List.drop_eq_getElem_cons hlt, List.take_succ_cons, List.foldl_cons]
    rw [e2]
    iterate 4 (refine Go.step rfl (fun _ => rfl) ?_)
    refine Go.icmp rfl (b := false) (by rw [c_ge]; exact decide_eq_false (by dsimp only; omega)) ?_
    iterate 3 (refine Go.step rfl (fun _ => rfl) ?_)
    refine Go.ald rfl hH (not_neg i h0) (v := .int xs[i.toNatClampNeg]) (by simp [hlt]) ?_
    iterate 6 (refine Go.step rfl (fun _ => rfl) ?_)
    exact ih
theorem ev31 (H : MH) (a : Nat) (xs : List Int32) (hH : H[a]? = some (0, xs.map .int)) (hb : xs.length < 1000) (off len : Int32) (h0 : 0 ≤ off.toInt) (h1 : 0 ≤ len.toInt) (ht : off.toInt + len.toInt ≤ xs.length) :
    Eval D 31 [.ref a, .int off, .int len] H (some (.int (hs ((xs.drop off.toNatClampNeg).take len.toNatClampNeg))), H) := by
  have ho : (off + len).toInt = off.toInt + len.toInt := by
    rw [Int32.toInt_add, Int.bmod_def]; omega
  refine Eval.intro monoD rfl (le_r rfl) ?_
  iterate 4 (refine Go.step rfl (fun _ => rfl) ?_)
  exact loop31 H a xs hH hb off len ho ht _ off (-2128831035) h0 (by rw [clamp_toInt]; omega)
theorem evHash_false (Q : QQ) (sz : Int32) (RC SC SL : List Value) (nn : Int32) (FT CN TU : List Value) (T : MH) (a b : Int32) (r : Nat) (hr : (HR false Q sz RC SC SL nn FT CN TU T)[r]? = some (0, (kl false a b).map .int)) : Eval D 30 [.ref 13, .ref r, .int 0] (HR false Q sz RC SC SL nn FT CN TU T) (some (.int (hs (kl false a b))), (HR false Q sz RC SC SL nn FT CN TU T)) := by
  have e : Eval D 31 [.ref r, .int 0, .int 1] (HR false Q sz RC SC SL nn FT CN TU T) (some (.int (hs (kl false a b))), (HR false Q sz RC SC SL nn FT CN TU T)) := ev31 _ r (kl false a b) hr (show (1 : Nat) < 1000 by decide) 0 1 (by decide) (by decide) (show (0 : Int) + 1 ≤ 1 by decide)
  refine Eval.intro2 monoD [.val (.ref 13), .val (.ref r), .val (.int 0)] rfl (le_r rfl) rfl ?_
  iterate 5 (refine Go.step rfl (fun _ => rfl) ?_)
  refine Go.scall monoD mono30 rfl (e) rfl rfl (le_r rfl) (le_r rfl) ?_
  exact Go.retE rfl (fun _ => rfl) rfl
theorem evHash_true (Q : QQ) (sz : Int32) (RC SC SL : List Value) (nn : Int32) (FT CN TU : List Value) (T : MH) (a b : Int32) (r : Nat) (hr : (HR true Q sz RC SC SL nn FT CN TU T)[r]? = some (0, (kl true a b).map .int)) : Eval D 30 [.ref 13, .ref r, .int 0] (HR true Q sz RC SC SL nn FT CN TU T) (some (.int (hs (kl true a b))), (HR true Q sz RC SC SL nn FT CN TU T)) := by
  have e : Eval D 31 [.ref r, .int 0, .int 2] (HR true Q sz RC SC SL nn FT CN TU T) (some (.int (hs (kl true a b))), (HR true Q sz RC SC SL nn FT CN TU T)) := ev31 _ r (kl true a b) hr (show (2 : Nat) < 1000 by decide) 0 2 (by decide) (by decide) (show (0 : Int) + 2 ≤ 2 by decide)
  refine Eval.intro2 monoD [.val (.ref 13), .val (.ref r), .val (.int 0)] rfl (le_r rfl) rfl ?_
  iterate 5 (refine Go.step rfl (fun _ => rfl) ?_)
  refine Go.scall monoD mono30 rfl (e) rfl rfl (le_r rfl) (le_r rfl) ?_
  exact Go.retE rfl (fun _ => rfl) rfl
theorem evHolds_false (Q : QQ) (sz : Int32) (RC SC SL : List Value) (nn : Int32) (FT CN TU : List Value) (T : MH) (a b x0 e : Int32) (r : Nat) (hr : (HR false Q sz RC SC SL nn FT CN TU T)[r]? = some (0, (kl false a b).map .int)) (g0 : ¬ (e + 1 + 0) < 0) (h0 : SL[(e + 1 + 0).toNatClampNeg]? = some (.int x0)) : Eval D 34 [.ref 13, .int e, .ref r, .int 0] (HR false Q sz RC SC SL nn FT CN TU T) (some (.int (b2i (decide (x0 = a)))), (HR false Q sz RC SC SL nn FT CN TU T)) := by
  refine Eval.intro2 monoD [.val (.ref 13), .val (.int e), .val (.ref r), .val (.int 0), .unset] rfl (le_r rfl) rfl ?_
  by_cases h : x0 = a
  · iterate 14 (refine Go.step rfl (fun _ => rfl) ?_)
    refine Go.ald rfl rfl g0 h0 ?_
    iterate 4 (refine Go.step rfl (fun _ => rfl) ?_)
    refine Go.ald rfl hr (by decide) rfl ?_
    refine Go.icmp rfl (b := true) (i_eqT h) ?_
    iterate 8 (refine Go.step rfl (fun _ => rfl) ?_)
    exact Go.retE rfl (fun _ => rfl) (ret_t _ h)
  · iterate 14 (refine Go.step rfl (fun _ => rfl) ?_)
    refine Go.ald rfl rfl g0 h0 ?_
    iterate 4 (refine Go.step rfl (fun _ => rfl) ?_)
    refine Go.ald rfl hr (by decide) rfl ?_
    refine Go.icmp rfl (b := false) (i_eqF h) ?_
    iterate 1 (refine Go.step rfl (fun _ => rfl) ?_)
    exact Go.retE rfl (fun _ => rfl) (ret_f _ h)
theorem evHolds_true (Q : QQ) (sz : Int32) (RC SC SL : List Value) (nn : Int32) (FT CN TU : List Value) (T : MH) (a b x0 x1 e : Int32) (r : Nat) (hr : (HR true Q sz RC SC SL nn FT CN TU T)[r]? = some (0, (kl true a b).map .int)) (g0 : ¬ (e + 1 + 0) < 0) (h0 : SL[(e + 1 + 0).toNatClampNeg]? = some (.int x0)) (g1 : ¬ (e + 1 + 1) < 0) (h1 : SL[(e + 1 + 1).toNatClampNeg]? = some (.int x1)) : Eval D 34 [.ref 13, .int e, .ref r, .int 0] (HR true Q sz RC SC SL nn FT CN TU T) (some (.int (b2i (decide (x0 = a ∧ x1 = b)))), (HR true Q sz RC SC SL nn FT CN TU T)) := by
  refine Eval.intro2 monoD [.val (.ref 13), .val (.int e), .val (.ref r), .val (.int 0), .unset] rfl (le_r rfl) rfl ?_
  by_cases h : x0 = a
  · by_cases h' : x1 = b
    · iterate 14 (refine Go.step rfl (fun _ => rfl) ?_)
      refine Go.ald rfl rfl g0 h0 ?_
      iterate 4 (refine Go.step rfl (fun _ => rfl) ?_)
      refine Go.ald rfl hr (by decide) rfl ?_
      refine Go.icmp rfl (b := true) (i_eqT h) ?_
      iterate 14 (refine Go.step rfl (fun _ => rfl) ?_)
      refine Go.ald rfl rfl g1 h1 ?_
      iterate 4 (refine Go.step rfl (fun _ => rfl) ?_)
      refine Go.ald rfl hr (by decide) rfl ?_
      refine Go.icmp rfl (b := true) (i_eqT h') ?_
      iterate 8 (refine Go.step rfl (fun _ => rfl) ?_)
      exact Go.retE rfl (fun _ => rfl) (ret_t _ ⟨h, h'⟩)
    · iterate 14 (refine Go.step rfl (fun _ => rfl) ?_)
      refine Go.ald rfl rfl g0 h0 ?_
      iterate 4 (refine Go.step rfl (fun _ => rfl) ?_)
      refine Go.ald rfl hr (by decide) rfl ?_
      refine Go.icmp rfl (b := true) (i_eqT h) ?_
      iterate 14 (refine Go.step rfl (fun _ => rfl) ?_)
      refine Go.ald rfl rfl g1 h1 ?_
      iterate 4 (refine Go.step rfl (fun _ => rfl) ?_)
      refine Go.ald rfl hr (by decide) rfl ?_
      refine Go.icmp rfl (b := false) (i_eqF h') ?_
      iterate 1 (refine Go.step rfl (fun _ => rfl) ?_)
      exact Go.retE rfl (fun _ => rfl) (ret_f _ fun q => h' q.2)
  · iterate 14 (refine Go.step rfl (fun _ => rfl) ?_)
    refine Go.ald rfl rfl g0 h0 ?_
    iterate 4 (refine Go.step rfl (fun _ => rfl) ?_)
    refine Go.ald rfl hr (by decide) rfl ?_
    refine Go.icmp rfl (b := false) (i_eqF h) ?_
    iterate 1 (refine Go.step rfl (fun _ => rfl) ?_)
    exact Go.retE rfl (fun _ => rfl) (ret_f _ fun q => h q.1)
theorem ar_false' : ∀ p : Fin 16, ¬ (Int32.ofNat p.1 * 2) < 0 ∧ (Int32.ofNat p.1 * 2).toNatClampNeg = 2 * p.1 ∧ ¬ (Int32.ofNat p.1 * 2 + 1 + 0) < 0 ∧ (Int32.ofNat p.1 * 2 + 1 + 0).toNatClampNeg = 2 * p.1 + 1 ∧ ¬ (Int32.ofNat p.1 * 2 + 1) < 0 ∧ (Int32.ofNat p.1 * 2 + 1).toNatClampNeg = 2 * p.1 + 1 ∧ ((Int32.ofNat p.1 + 1) &&& 15) = Int32.ofNat ((p.1 + 1) % 16) := by decide +kernel
theorem ar_false {p : Nat} (hp : p < 16) : ¬ (Int32.ofNat p * 2) < 0 ∧ (Int32.ofNat p * 2).toNatClampNeg = 2 * p ∧ ¬ (Int32.ofNat p * 2 + 1 + 0) < 0 ∧ (Int32.ofNat p * 2 + 1 + 0).toNatClampNeg = 2 * p + 1 ∧ ¬ (Int32.ofNat p * 2 + 1) < 0 ∧ (Int32.ofNat p * 2 + 1).toNatClampNeg = 2 * p + 1 ∧ ((Int32.ofNat p + 1) &&& 15) = Int32.ofNat ((p + 1) % 16) := ar_false' ⟨p, hp⟩
theorem hit_false (Q : QQ) (sz : Int32) (RC SC : List Value) (f : Nat → Int32) (nn : Int32) (FT CN TU : List Value) (T : MH) (a b h : Int32) (r : Nat) (hr : (HR false Q sz RC SC (tab false f) nn FT CN TU T)[r]? = some (0, (kl false a b).map .int)) {p : Nat} (hp : p < 16) (hs : stop false f p a b = true) : Go D c32 (17, [.val (.ref 13), .val (.ref r), .val (.int 0), .val (.int h), .val (.int (Int32.ofNat p)), .val (.int (Int32.ofNat p * 2))], [], (HR false Q sz RC SC (tab false f) nn FT CN TU T)) (some (.int (Int32.ofNat p * 2)), (HR false Q sz RC SC (tab false f) nn FT CN TU T)) := by
  obtain ⟨g0, e0, g1, e1, -, -, e3⟩ := ar_false hp
  have v0 : (tab false f)[(Int32.ofNat p * 2).toNatClampNeg]? = some (.int (f (2 * p))) := by rw [e0]; exact tab_get (by simp only [st]; omega)
  have v1 : (tab false f)[(Int32.ofNat p * 2 + 1 + 0).toNatClampNeg]? = some (.int (f (2 * p + 1))) := by rw [e1]; exact tab_get (by simp only [st]; omega)
  by_cases hz : f (2 * p) = 0
  · iterate 3 (refine Go.step rfl (fun _ => rfl) ?_)
    refine Go.ald rfl rfl g0 v0 ?_
    refine Go.ifc rfl (b := true) (z_eq0 hz) ?_
    iterate 1 (refine Go.step rfl (fun _ => rfl) ?_)
    exact Go.retE rfl (fun _ => rfl) rfl
  · have hm : f (2 * p + 1) = a := by simpa [stop, mt, st, hz] using hs
    iterate 3 (refine Go.step rfl (fun _ => rfl) ?_)
    refine Go.ald rfl rfl g0 v0 ?_
    refine Go.ifc rfl (b := false) (z_eqn hz) ?_
    iterate 4 (refine Go.step rfl (fun _ => rfl) ?_)
    refine Go.rcall monoD mono32 rfl (evHolds_false Q sz RC SC (tab false f) nn FT CN TU T a b (f (2 * p + 1)) (Int32.ofNat p * 2) r hr g1 v1) rfl rfl rfl rfl (le_r rfl) ?_
    refine Go.ifc rfl (b := false) (by rw [z_eqb]; exact congrArg not (decide_eq_true hm)) ?_
    iterate 1 (refine Go.step rfl (fun _ => rfl) ?_)
    exact Go.retE rfl (fun _ => rfl) rfl
theorem miss_false (Q : QQ) (sz : Int32) (RC SC : List Value) (f : Nat → Int32) (nn : Int32) (FT CN TU : List Value) (T : MH) (a b h : Int32) (r : Nat) (hr : (HR false Q sz RC SC (tab false f) nn FT CN TU T)[r]? = some (0, (kl false a b).map .int)) {p : Nat} (hp : p < 16) (hs : stop false f p a b = false) {w : MR} (hg : Go D c32 (17, [.val (.ref 13), .val (.ref r), .val (.int 0), .val (.int h), .val (.int (Int32.ofNat ((p + 1) % 16))), .val (.int (Int32.ofNat ((p + 1) % 16) * 2))], [], (HR false Q sz RC SC (tab false f) nn FT CN TU T)) w) : Go D c32 (17, [.val (.ref 13), .val (.ref r), .val (.int 0), .val (.int h), .val (.int (Int32.ofNat p)), .val (.int (Int32.ofNat p * 2))], [], (HR false Q sz RC SC (tab false f) nn FT CN TU T)) w := by
  obtain ⟨g0, e0, g1, e1, -, -, e3⟩ := ar_false hp
  have v0 : (tab false f)[(Int32.ofNat p * 2).toNatClampNeg]? = some (.int (f (2 * p))) := by rw [e0]; exact tab_get (by simp only [st]; omega)
  have v1 : (tab false f)[(Int32.ofNat p * 2 + 1 + 0).toNatClampNeg]? = some (.int (f (2 * p + 1))) := by rw [e1]; exact tab_get (by simp only [st]; omega)
  have hz : f (2 * p) ≠ 0 := fun q => by simp [stop, st, q] at hs
  have hm : ¬ (f (2 * p + 1) = a) := fun q => by simp [stop, mt, q] at hs
  rw [← e3] at hg
  iterate 3 (refine Go.step rfl (fun _ => rfl) ?_)
  refine Go.ald rfl rfl g0 v0 ?_
  refine Go.ifc rfl (b := false) (z_eqn hz) ?_
  iterate 4 (refine Go.step rfl (fun _ => rfl) ?_)
  refine Go.rcall monoD mono32 rfl (evHolds_false Q sz RC SC (tab false f) nn FT CN TU T a b (f (2 * p + 1)) (Int32.ofNat p * 2) r hr g1 v1) rfl rfl rfl rfl (le_r rfl) ?_
  refine Go.ifc rfl (b := true) (by rw [z_eqb]; exact congrArg not (decide_eq_false hm)) ?_
  iterate 7 (refine Go.step rfl (fun _ => rfl) ?_)
  iterate 6 (refine Go.step rfl (fun _ => rfl) ?_)
  exact hg
theorem loop32_false (Q : QQ) (sz : Int32) (RC SC : List Value) (f : Nat → Int32) (nn : Int32) (FT CN TU : List Value) (T : MH) (a b h : Int32) (r : Nat) (hr : (HR false Q sz RC SC (tab false f) nn FT CN TU T)[r]? = some (0, (kl false a b).map .int)) : ∀ (n p : Nat), p < 16 → (∃ j, j ≤ n ∧ stop false f ((p + j) % 16) a b = true) → ∃ j, j ≤ n ∧ stop false f ((p + j) % 16) a b = true ∧ (∀ i, i < j → stop false f ((p + i) % 16) a b = false) ∧ Go D c32 (17, [.val (.ref 13), .val (.ref r), .val (.int 0), .val (.int h), .val (.int (Int32.ofNat p)), .val (.int (Int32.ofNat p * 2))], [], (HR false Q sz RC SC (tab false f) nn FT CN TU T)) (some (.int (Int32.ofNat ((p + j) % 16) * 2)), (HR false Q sz RC SC (tab false f) nn FT CN TU T))
  | n, p, hp, hex => by
    have e0 : (p + 0) % 16 = p := by omega
    cases hs : stop false f p a b with
    | true => exact ⟨0, Nat.zero_le _, by rw [e0]; exact hs, fun i hi => absurd hi (Nat.not_lt_zero _), by rw [e0]; exact hit_false Q sz RC SC f nn FT CN TU T a b h r hr hp hs⟩
    | false =>
      match n, hex with
      | 0, ⟨j, h1, h2⟩ =>
        have : j = 0 := by omega
        subst this
        rw [e0, hs] at h2
        cases h2
      | n + 1, ⟨j, h1, h2⟩ =>
        cases j with
        | zero => rw [e0, hs] at h2; cases h2
        | succ j =>
          have ee : ∀ i, ((p + 1) % 16 + i) % 16 = (p + (i + 1)) % 16 := fun i => by omega
          obtain ⟨k, k1, k2, k3, k4⟩ := loop32_false Q sz RC SC f nn FT CN TU T a b h r hr n ((p + 1) % 16) (Nat.mod_lt _ (by decide)) ⟨j, by omega, by rw [ee]; exact h2⟩
          rw [ee] at k2 k4
          refine ⟨k + 1, by omega, k2, fun i hi => ?_, miss_false Q sz RC SC f nn FT CN TU T a b h r hr hp hs k4⟩
          cases i with
          | zero => rw [e0]; exact hs
          | succ i => rw [← ee]; exact k3 i (by omega)
theorem evSlot_false (Q : QQ) (sz : Int32) (RC SC : List Value) (f : Nat → Int32) (nn : Int32) (FT CN TU : List Value) (T : MH) (a b : Int32) (r : Nat) (hr : (HR false Q sz RC SC (tab false f) nn FT CN TU T)[r]? = some (0, (kl false a b).map .int)) {L : KL} (hI : Inv false f L) (hL : L.length < 16) : ∃ j, stop false f ((hx false a b + j) % 16) a b = true ∧ (∀ i, i < j → stop false f ((hx false a b + i) % 16) a b = false) ∧ Eval D 32 [.ref 13, .ref r, .int 0, .int (hs (kl false a b))] (HR false Q sz RC SC (tab false f) nn FT CN TU T) (some (.int (Int32.ofNat ((hx false a b + j) % 16) * 2)), (HR false Q sz RC SC (tab false f) nn FT CN TU T)) := by
  obtain ⟨j, -, k2, k3, k4⟩ := loop32_false Q sz RC SC f nn FT CN TU T a b (hs (kl false a b)) r hr 15 (hx false a b) (hx_lt _ _ _) (stop_in hI hL _ a b)
  rw [← hx_eq] at k4
  refine ⟨j, k2, k3, Eval.intro2 monoD [.val (.ref 13), .val (.ref r), .val (.int 0), .val (.int (hs (kl false a b))), .unset, .unset] rfl (le_r rfl) rfl ?_⟩
  iterate 10 (refine Go.step rfl (fun _ => rfl) ?_)
  exact k4
theorem ar_true' : ∀ p : Fin 16, ¬ (Int32.ofNat p.1 * 3) < 0 ∧ (Int32.ofNat p.1 * 3).toNatClampNeg = 3 * p.1 ∧ ¬ (Int32.ofNat p.1 * 3 + 1 + 0) < 0 ∧ (Int32.ofNat p.1 * 3 + 1 + 0).toNatClampNeg = 3 * p.1 + 1 ∧ ¬ (Int32.ofNat p.1 * 3 + 1) < 0 ∧ (Int32.ofNat p.1 * 3 + 1).toNatClampNeg = 3 * p.1 + 1 ∧ ((Int32.ofNat p.1 + 1) &&& 15) = Int32.ofNat ((p.1 + 1) % 16) ∧ ¬ (Int32.ofNat p.1 * 3 + 1 + 1) < 0 ∧ (Int32.ofNat p.1 * 3 + 1 + 1).toNatClampNeg = 3 * p.1 + 2 := by decide +kernel
theorem ar_true {p : Nat} (hp : p < 16) : ¬ (Int32.ofNat p * 3) < 0 ∧ (Int32.ofNat p * 3).toNatClampNeg = 3 * p ∧ ¬ (Int32.ofNat p * 3 + 1 + 0) < 0 ∧ (Int32.ofNat p * 3 + 1 + 0).toNatClampNeg = 3 * p + 1 ∧ ¬ (Int32.ofNat p * 3 + 1) < 0 ∧ (Int32.ofNat p * 3 + 1).toNatClampNeg = 3 * p + 1 ∧ ((Int32.ofNat p + 1) &&& 15) = Int32.ofNat ((p + 1) % 16) ∧ ¬ (Int32.ofNat p * 3 + 1 + 1) < 0 ∧ (Int32.ofNat p * 3 + 1 + 1).toNatClampNeg = 3 * p + 2 := ar_true' ⟨p, hp⟩
theorem hit_true (Q : QQ) (sz : Int32) (RC SC : List Value) (f : Nat → Int32) (nn : Int32) (FT CN TU : List Value) (T : MH) (a b h : Int32) (r : Nat) (hr : (HR true Q sz RC SC (tab true f) nn FT CN TU T)[r]? = some (0, (kl true a b).map .int)) {p : Nat} (hp : p < 16) (hs : stop true f p a b = true) : Go D c32 (17, [.val (.ref 13), .val (.ref r), .val (.int 0), .val (.int h), .val (.int (Int32.ofNat p)), .val (.int (Int32.ofNat p * 3))], [], (HR true Q sz RC SC (tab true f) nn FT CN TU T)) (some (.int (Int32.ofNat p * 3)), (HR true Q sz RC SC (tab true f) nn FT CN TU T)) := by
  obtain ⟨g0, e0, g1, e1, -, -, e3, g2, e2⟩ := ar_true hp
  have v0 : (tab true f)[(Int32.ofNat p * 3).toNatClampNeg]? = some (.int (f (3 * p))) := by rw [e0]; exact tab_get (by simp only [st]; omega)
  have v1 : (tab true f)[(Int32.ofNat p * 3 + 1 + 0).toNatClampNeg]? = some (.int (f (3 * p + 1))) := by rw [e1]; exact tab_get (by simp only [st]; omega)
  have v2 : (tab true f)[(Int32.ofNat p * 3 + 1 + 1).toNatClampNeg]? = some (.int (f (3 * p + 2))) := by rw [e2]; exact tab_get (by simp only [st]; omega)
  by_cases hz : f (3 * p) = 0
  · iterate 3 (refine Go.step rfl (fun _ => rfl) ?_)
    refine Go.ald rfl rfl g0 v0 ?_
    refine Go.ifc rfl (b := true) (z_eq0 hz) ?_
    iterate 1 (refine Go.step rfl (fun _ => rfl) ?_)
    exact Go.retE rfl (fun _ => rfl) rfl
  · have hm : f (3 * p + 1) = a ∧ f (3 * p + 2) = b := by simpa [stop, mt, st, hz] using hs
    iterate 3 (refine Go.step rfl (fun _ => rfl) ?_)
    refine Go.ald rfl rfl g0 v0 ?_
    refine Go.ifc rfl (b := false) (z_eqn hz) ?_
    iterate 4 (refine Go.step rfl (fun _ => rfl) ?_)
    refine Go.rcall monoD mono32 rfl (evHolds_true Q sz RC SC (tab true f) nn FT CN TU T a b (f (3 * p + 1)) (f (3 * p + 2)) (Int32.ofNat p * 3) r hr g1 v1 g2 v2) rfl rfl rfl rfl (le_r rfl) ?_
    refine Go.ifc rfl (b := false) (by rw [z_eqb]; exact congrArg not (decide_eq_true hm)) ?_
    iterate 1 (refine Go.step rfl (fun _ => rfl) ?_)
    exact Go.retE rfl (fun _ => rfl) rfl
theorem miss_true (Q : QQ) (sz : Int32) (RC SC : List Value) (f : Nat → Int32) (nn : Int32) (FT CN TU : List Value) (T : MH) (a b h : Int32) (r : Nat) (hr : (HR true Q sz RC SC (tab true f) nn FT CN TU T)[r]? = some (0, (kl true a b).map .int)) {p : Nat} (hp : p < 16) (hs : stop true f p a b = false) {w : MR} (hg : Go D c32 (17, [.val (.ref 13), .val (.ref r), .val (.int 0), .val (.int h), .val (.int (Int32.ofNat ((p + 1) % 16))), .val (.int (Int32.ofNat ((p + 1) % 16) * 3))], [], (HR true Q sz RC SC (tab true f) nn FT CN TU T)) w) : Go D c32 (17, [.val (.ref 13), .val (.ref r), .val (.int 0), .val (.int h), .val (.int (Int32.ofNat p)), .val (.int (Int32.ofNat p * 3))], [], (HR true Q sz RC SC (tab true f) nn FT CN TU T)) w := by
  obtain ⟨g0, e0, g1, e1, -, -, e3, g2, e2⟩ := ar_true hp
  have v0 : (tab true f)[(Int32.ofNat p * 3).toNatClampNeg]? = some (.int (f (3 * p))) := by rw [e0]; exact tab_get (by simp only [st]; omega)
  have v1 : (tab true f)[(Int32.ofNat p * 3 + 1 + 0).toNatClampNeg]? = some (.int (f (3 * p + 1))) := by rw [e1]; exact tab_get (by simp only [st]; omega)
  have v2 : (tab true f)[(Int32.ofNat p * 3 + 1 + 1).toNatClampNeg]? = some (.int (f (3 * p + 2))) := by rw [e2]; exact tab_get (by simp only [st]; omega)
  have hz : f (3 * p) ≠ 0 := fun q => by simp [stop, st, q] at hs
  have hm : ¬ (f (3 * p + 1) = a ∧ f (3 * p + 2) = b) := fun q => by simp [stop, mt, q] at hs
  rw [← e3] at hg
  iterate 3 (refine Go.step rfl (fun _ => rfl) ?_)
  refine Go.ald rfl rfl g0 v0 ?_
  refine Go.ifc rfl (b := false) (z_eqn hz) ?_
  iterate 4 (refine Go.step rfl (fun _ => rfl) ?_)
  refine Go.rcall monoD mono32 rfl (evHolds_true Q sz RC SC (tab true f) nn FT CN TU T a b (f (3 * p + 1)) (f (3 * p + 2)) (Int32.ofNat p * 3) r hr g1 v1 g2 v2) rfl rfl rfl rfl (le_r rfl) ?_
  refine Go.ifc rfl (b := true) (by rw [z_eqb]; exact congrArg not (decide_eq_false hm)) ?_
  iterate 7 (refine Go.step rfl (fun _ => rfl) ?_)
  iterate 6 (refine Go.step rfl (fun _ => rfl) ?_)
  exact hg
theorem loop32_true (Q : QQ) (sz : Int32) (RC SC : List Value) (f : Nat → Int32) (nn : Int32) (FT CN TU : List Value) (T : MH) (a b h : Int32) (r : Nat) (hr : (HR true Q sz RC SC (tab true f) nn FT CN TU T)[r]? = some (0, (kl true a b).map .int)) : ∀ (n p : Nat), p < 16 → (∃ j, j ≤ n ∧ stop true f ((p + j) % 16) a b = true) → ∃ j, j ≤ n ∧ stop true f ((p + j) % 16) a b = true ∧ (∀ i, i < j → stop true f ((p + i) % 16) a b = false) ∧ Go D c32 (17, [.val (.ref 13), .val (.ref r), .val (.int 0), .val (.int h), .val (.int (Int32.ofNat p)), .val (.int (Int32.ofNat p * 3))], [], (HR true Q sz RC SC (tab true f) nn FT CN TU T)) (some (.int (Int32.ofNat ((p + j) % 16) * 3)), (HR true Q sz RC SC (tab true f) nn FT CN TU T))
  | n, p, hp, hex => by
    have e0 : (p + 0) % 16 = p := by omega
    cases hs : stop true f p a b with
    | true => exact ⟨0, Nat.zero_le _, by rw [e0]; exact hs, fun i hi => absurd hi (Nat.not_lt_zero _), by rw [e0]; exact hit_true Q sz RC SC f nn FT CN TU T a b h r hr hp hs⟩
    | false =>
      match n, hex with
      | 0, ⟨j, h1, h2⟩ =>
        have : j = 0 := by omega
        subst this
        rw [e0, hs] at h2
        cases h2
      | n + 1, ⟨j, h1, h2⟩ =>
        cases j with
        | zero => rw [e0, hs] at h2; cases h2
        | succ j =>
          have ee : ∀ i, ((p + 1) % 16 + i) % 16 = (p + (i + 1)) % 16 := fun i => by omega
          obtain ⟨k, k1, k2, k3, k4⟩ := loop32_true Q sz RC SC f nn FT CN TU T a b h r hr n ((p + 1) % 16) (Nat.mod_lt _ (by decide)) ⟨j, by omega, by rw [ee]; exact h2⟩
          rw [ee] at k2 k4
          refine ⟨k + 1, by omega, k2, fun i hi => ?_, miss_true Q sz RC SC f nn FT CN TU T a b h r hr hp hs k4⟩
          cases i with
          | zero => rw [e0]; exact hs
          | succ i => rw [← ee]; exact k3 i (by omega)
theorem evSlot_true (Q : QQ) (sz : Int32) (RC SC : List Value) (f : Nat → Int32) (nn : Int32) (FT CN TU : List Value) (T : MH) (a b : Int32) (r : Nat) (hr : (HR true Q sz RC SC (tab true f) nn FT CN TU T)[r]? = some (0, (kl true a b).map .int)) {L : KL} (hI : Inv true f L) (hL : L.length < 16) : ∃ j, stop true f ((hx true a b + j) % 16) a b = true ∧ (∀ i, i < j → stop true f ((hx true a b + i) % 16) a b = false) ∧ Eval D 32 [.ref 13, .ref r, .int 0, .int (hs (kl true a b))] (HR true Q sz RC SC (tab true f) nn FT CN TU T) (some (.int (Int32.ofNat ((hx true a b + j) % 16) * 3)), (HR true Q sz RC SC (tab true f) nn FT CN TU T)) := by
  obtain ⟨j, -, k2, k3, k4⟩ := loop32_true Q sz RC SC f nn FT CN TU T a b (hs (kl true a b)) r hr 15 (hx true a b) (hx_lt _ _ _) (stop_in hI hL _ a b)
  rw [← hx_eq] at k4
  refine ⟨j, k2, k3, Eval.intro2 monoD [.val (.ref 13), .val (.ref r), .val (.int 0), .val (.int (hs (kl true a b))), .unset, .unset] rfl (le_r rfl) rfl ?_⟩
  iterate 10 (refine Go.step rfl (fun _ => rfl) ?_)
  exact k4
theorem tk_false (f : Nat → Int32) (i : Nat) (a : Int32) (hi : i < 32) : (tab false f).take i ++ [Value.int a] ++ (tab false f).drop (i + 1) = tab false (fun j => if j = i then a else f j) := by
  rw [← tab_set, List.set_eq_take_append_cons_drop, if_pos (by rw [tab_len]; exact hi)]; simp
theorem tk_true (f : Nat → Int32) (i : Nat) (a b : Int32) (hi : i + 1 < 48) : (tab true f).take i ++ [Value.int a, Value.int b] ++ (tab true f).drop (i + 2) = tab true (fun j => if j = i + 1 then b else if j = i then a else f j) := by
  rw [← tab_set true (fun j => if j = i then a else f j) (i + 1) b, ← tab_set true f i a]
  rw [List.set_eq_take_append_cons_drop, if_pos (by rw [List.length_set, tab_len]; exact hi)]
  rw [List.take_set, List.drop_set_of_lt (by omega), List.take_add_one]
  have hl : ((tab true f).take i).length = i := by rw [List.length_take, tab_len]; simp only [st]; omega
  have hg : (tab true f)[i]? = some (.int (f i)) := tab_get (by simp only [st]; omega)
  rw [hg, List.set_append_right _ _ (by rw [hl]; exact Nat.le_refl _), hl, Nat.sub_self]
  simp
theorem cok {us vs : List Value} {nn dp : Int32} (hn : 0 ≤ nn) (hd : ¬ dp < 0) (h1 : nn.toNatClampNeg ≤ us.length) (h2 : dp.toNatClampNeg + nn.toNatClampNeg ≤ vs.length) (h3 : us.all (fits .int) = true) (h4 : vs.all (fits .int) = true) (h5 : us.length ≤ 65535) (h6 : vs.length ≤ 65535) {b : Nat} (hb : 2 ≤ b) : copyOk 2 0 .int 0 nn dp 0 b 0 0 us vs [] = true := by
  have q0 : Nat.ble 2 b = true := Nat.ble_eq_true_of_le hb
  have q1 : decide (0 ≤ dp) = true := decide_eq_true (Int32.not_lt.mp hd)
  have q2 : decide (0 ≤ nn) = true := decide_eq_true hn
  have q3 : Nat.ble ((0 : Int32).toNatClampNeg + nn.toNatClampNeg) us.length = true := Nat.ble_eq_true_of_le (by rw [show (0 : Int32).toNatClampNeg = 0 from rfl, Nat.zero_add]; exact h1)
  have q4 : Nat.ble (dp.toNatClampNeg + nn.toNatClampNeg) vs.length = true := Nat.ble_eq_true_of_le h2
  have q5 : Nat.ble us.length 65535 = true := Nat.ble_eq_true_of_le h5
  have q6 : Nat.ble vs.length 65535 = true := Nat.ble_eq_true_of_le h6
  simp only [copyOk, q0, q1, q2, q3, q4, q5, q6, h3, h4]
  rfl
theorem evAdd_false (Q : QQ) (sz : Int32) (RC : List Value) (f : Nat → Int32) (n : Nat) (FT CN TU : List Value) (T : MH) (p : Nat) (hp : p < 16) (hn : n < 8) (t a b : Int32) (hF : FT.length = 8) (hC : CN.length = 8) (hU : TU.length = 8) : Eval D 33 [.ref 13, .int (Int32.ofNat p * 2), .int t, .ref 19, .int 0] (HR false Q sz RC [.int a] (tab false f) (Int32.ofNat n) FT CN TU T) (none, (HR false Q sz RC [.int a] (tab false (ins false f p (n + 1) a b)) (Int32.ofNat (n + 1)) (FT.set n (.int t)) (CN.set n (.int 1)) (TU.set n (.ref 0)) T)) := by
  obtain ⟨g0, e0, -, -, g1, e1, -⟩ := ar_false hp
  have hn' : n < 2 ^ 31 := by omega
  have ew : ((tab false f).set (2 * p) (.int (Int32.ofNat n + 1))).take (Int32.ofNat p * 2 + 1).toNatClampNeg ++ (([Value.int a]).drop (0 : Int32).toNatClampNeg).take (1 : Int32).toNatClampNeg ++ ((tab false f).set (2 * p) (.int (Int32.ofNat n + 1))).drop ((Int32.ofNat p * 2 + 1).toNatClampNeg + (1 : Int32).toNatClampNeg) = (tab false (ins false f p (n + 1) a b)) := by
    rw [e1, tab_set]
    exact (tk_false _ (2 * p + 1) a (by omega)).trans (by rw [on_succ]; rfl)
  refine Eval.intro2 monoD [.val (.ref 13), .val (.int (Int32.ofNat p * 2)), .val (.int t), .val (.ref 19), .val (.int 0), .unset] rfl (le_r rfl) rfl ?_
  iterate 10 (refine Go.step rfl (fun _ => rfl) ?_)
  refine Go.icmp rfl (b := true) (by rw [hF]; exact (i_ne (b := 8) hn' (by decide)).trans (decide_eq_true (by omega))) ?_
  iterate 4 (refine Go.step rfl (fun _ => rfl) ?_)
  refine Go.ast rfl rfl (by decide) (on_nn hn') (by rw [on_nat hn', hF]; exact hn) ?_
  rw [on_nat hn']
  refine Go.to (st' := (79, _, [], (HR false Q sz RC [.int a] (tab false f) (Int32.ofNat n) (FT.set n (.int t)) CN TU T))) rfl ?_
  iterate 4 (refine Go.step rfl (fun _ => rfl) ?_)
  refine Go.ast rfl rfl (by decide) (on_nn hn') (by rw [on_nat hn', hC]; exact hn) ?_
  rw [on_nat hn']
  refine Go.to (st' := (87, _, [], (HR false Q sz RC [.int a] (tab false f) (Int32.ofNat n) (FT.set n (.int t)) (CN.set n (.int 1)) TU T))) rfl ?_
  iterate 4 (refine Go.step rfl (fun _ => rfl) ?_)
  refine Go.astR rfl rfl (by decide) rfl (on_nn hn') (by rw [on_nat hn', hU]; exact hn) ?_
  rw [on_nat hn']
  refine Go.to (st' := (97, _, [], (HR false Q sz RC [.int a] (tab false f) (Int32.ofNat n) (FT.set n (.int t)) (CN.set n (.int 1)) (TU.set n (.ref 0)) T))) rfl ?_
  iterate 5 (refine Go.step rfl (fun _ => rfl) ?_)
  refine Go.step rfl (fun _ => rfl) ?_
  refine Go.to (st' := (107, _, [], (HR false Q sz RC [.int a] (tab false f) (Int32.ofNat n + 1) (FT.set n (.int t)) (CN.set n (.int 1)) (TU.set n (.ref 0)) T))) rfl ?_
  iterate 6 (refine Go.step rfl (fun _ => rfl) ?_)
  refine Go.ast rfl rfl (by decide) g0 (by rw [e0, tab_len]; simp only [st]; omega) ?_
  rw [e0]
  refine Go.to (st' := (117, _, [], (HR false Q sz RC [.int a] ((tab false f).set (2 * p) (.int (Int32.ofNat n + 1))) (Int32.ofNat n + 1) (FT.set n (.int t)) (CN.set n (.int 1)) (TU.set n (.ref 0)) T))) rfl ?_
  iterate 10 (refine Go.step rfl (fun _ => rfl) ?_)
  refine Go.to (st' := (132, _, [.int 1, .int (Int32.ofNat p * 2 + 1), .ref 20, .int 0, .ref 19], (HR false Q sz RC [.int a] ((tab false f).set (2 * p) (.int (Int32.ofNat n + 1))) (Int32.ofNat n + 1) (FT.set n (.int t)) (CN.set n (.int 1)) (TU.set n (.ref 0)) T))) rfl ?_
  refine Go.copy rfl rfl rfl (cok (by decide) g1 (le_r rfl) (by rw [e1, List.length_set, tab_len]; simp only [st]; have : (1 : Int32).toNatClampNeg = 1 := rfl; omega) rfl (by rw [tab_set]; exact tab_fits _ _) (le_r rfl) (by rw [List.length_set, tab_len]; decide) (by decide)) ew ?_
  rw [on_succ]
  refine Go.to (st' := (135, _, [], (HR false Q sz RC [.int a] (tab false (ins false f p (n + 1) a b)) (Int32.ofNat (n + 1)) (FT.set n (.int t)) (CN.set n (.int 1)) (TU.set n (.ref 0)) T))) rfl ?_
  iterate 4 (refine Go.step rfl (fun _ => rfl) ?_)
  refine Go.icmp rfl (b := true) ((i_le (b := 12) (by omega) (by decide)).trans (decide_eq_true (by omega))) ?_
  exact Go.retE rfl (fun _ => rfl) rfl
theorem evAdd_true (Q : QQ) (sz : Int32) (RC : List Value) (f : Nat → Int32) (n : Nat) (FT CN TU : List Value) (T : MH) (p : Nat) (hp : p < 16) (hn : n < 8) (t a b : Int32) : Eval D 33 [.ref 13, .int (Int32.ofNat p * 3), .int t, .ref 19, .int 0] (HR true Q sz RC [.int a, .int b] (tab true f) (Int32.ofNat n) FT CN TU T) (none, (HR true Q sz RC [.int a, .int b] (tab true (ins true f p (n + 1) a b)) (Int32.ofNat (n + 1)) FT CN TU T)) := by
  obtain ⟨g0, e0, -, -, g1, e1, -⟩ := ar_true hp
  have hn' : n < 2 ^ 31 := by omega
  have ew : ((tab true f).set (3 * p) (.int (Int32.ofNat n + 1))).take (Int32.ofNat p * 3 + 1).toNatClampNeg ++ (([Value.int a, Value.int b]).drop (0 : Int32).toNatClampNeg).take (2 : Int32).toNatClampNeg ++ ((tab true f).set (3 * p) (.int (Int32.ofNat n + 1))).drop ((Int32.ofNat p * 3 + 1).toNatClampNeg + (2 : Int32).toNatClampNeg) = (tab true (ins true f p (n + 1) a b)) := by
    rw [e1, tab_set]
    exact (tk_true _ (3 * p + 1) a b (by omega)).trans (by rw [on_succ]; rfl)
  refine Eval.intro2 monoD [.val (.ref 13), .val (.int (Int32.ofNat p * 3)), .val (.int t), .val (.ref 19), .val (.int 0), .unset] rfl (le_r rfl) rfl ?_
  iterate 11 (refine Go.step rfl (fun _ => rfl) ?_)
  refine Go.step rfl (fun _ => rfl) ?_
  refine Go.to (st' := (107, _, [], (HR true Q sz RC [.int a, .int b] (tab true f) (Int32.ofNat n + 1) FT CN TU T))) rfl ?_
  iterate 6 (refine Go.step rfl (fun _ => rfl) ?_)
  refine Go.ast rfl rfl (by decide) g0 (by rw [e0, tab_len]; simp only [st]; omega) ?_
  rw [e0]
  refine Go.to (st' := (117, _, [], (HR true Q sz RC [.int a, .int b] ((tab true f).set (3 * p) (.int (Int32.ofNat n + 1))) (Int32.ofNat n + 1) FT CN TU T))) rfl ?_
  iterate 10 (refine Go.step rfl (fun _ => rfl) ?_)
  refine Go.to (st' := (132, _, [.int 2, .int (Int32.ofNat p * 3 + 1), .ref 20, .int 0, .ref 19], (HR true Q sz RC [.int a, .int b] ((tab true f).set (3 * p) (.int (Int32.ofNat n + 1))) (Int32.ofNat n + 1) FT CN TU T))) rfl ?_
  refine Go.copy rfl rfl rfl (cok (by decide) g1 (le_r rfl) (by rw [e1, List.length_set, tab_len]; simp only [st]; have : (2 : Int32).toNatClampNeg = 2 := rfl; omega) rfl (by rw [tab_set]; exact tab_fits _ _) (le_r rfl) (by rw [List.length_set, tab_len]; decide) (by decide)) ew ?_
  rw [on_succ]
  refine Go.to (st' := (135, _, [], (HR true Q sz RC [.int a, .int b] (tab true (ins true f p (n + 1) a b)) (Int32.ofNat (n + 1)) FT CN TU T))) rfl ?_
  iterate 4 (refine Go.step rfl (fun _ => rfl) ?_)
  refine Go.icmp rfl (b := true) ((i_le (b := 12) (by omega) (by decide)).trans (decide_eq_true (by omega))) ?_
  exact Go.retE rfl (fun _ => rfl) rfl
theorem hr_len (u : Bool) (Q : QQ) (sz : Int32) (RC SC SL : List Value) (nn : Int32) (FT CN TU : List Value) (T : MH) : (HR u Q sz RC SC SL nn FT CN TU T).length = T.length + 22 := rfl
theorem hr_app (u : Bool) (Q : QQ) (sz : Int32) (RC SC SL : List Value) (nn : Int32) (FT CN TU : List Value) (T : MH) (c : Nat × List Value) : (HR u Q sz RC SC SL nn FT CN TU T) ++ [c] = (HR u Q sz RC SC SL nn FT CN TU (T ++ [c])) := rfl
theorem hr_setT (u : Bool) (Q : QQ) (sz : Int32) (RC SC SL : List Value) (nn : Int32) (FT CN TU : List Value) (T : MH) (i : Nat) (c : Nat × List Value) : (HR u Q sz RC SC SL nn FT CN TU T).set (i + 22) c = (HR u Q sz RC SC SL nn FT CN TU (T.set i c)) := rfl
theorem hr_getT (u : Bool) (Q : QQ) (sz : Int32) (RC SC SL : List Value) (nn : Int32) (FT CN TU : List Value) (T : MH) (i : Nat) : (HR u Q sz RC SC SL nn FT CN TU T)[i + 22]? = T[i]? := rfl
theorem set_last (T : MH) (c d : Nat × List Value) : (T ++ [c]).set T.length d = T ++ [d] := by rw [List.set_append_right _ _ (Nat.le_refl _), Nat.sub_self]; rfl
theorem get_last (T : MH) (c : Nat × List Value) : (T ++ [c])[T.length]? = some c := by simp
theorem evMin (H : MH) (x y : Nat) (hx : x < 2 ^ 31) (hy : y < 2 ^ 31) (h : x ≤ y) : Eval D 39 [.int (Int32.ofNat x), .int (Int32.ofNat y)] H (some (.int (Int32.ofNat x)), H) := by
  refine Eval.intro2 monoD [.val (.int (Int32.ofNat x)), .val (.int (Int32.ofNat y))] rfl (le_r rfl) rfl ?_
  iterate 2 (refine Go.step rfl (fun _ => rfl) ?_)
  refine Go.icmp rfl (b := false) ((i_gt hx hy).trans (decide_eq_false (by omega))) ?_
  iterate 2 (refine Go.step rfl (fun _ => rfl) ?_)
  exact Go.retE rfl (fun _ => rfl) rfl
theorem evCopy (Q : QQ) (sz : Int32) (RC SC SL : List Value) (nn : Int32) (FT CN TU : List Value) (T : MH) (i m : Nat) (xs : List Value) (hf : xs.all (fits .int) = true) (hT : T[i]? = some (0, xs)) (hm : xs.length < m) (hm2 : m < 1000) : Eval D 38 [.ref (i + 22), .int (Int32.ofNat m)] (HR false Q sz RC SC SL nn FT CN TU T) (some (.ref (T.length + 22)), (HR false Q sz RC SC SL nn FT CN TU (T ++ [(0, xs ++ List.replicate (m - xs.length) (.int 0))]))) := by
  have hi : i < T.length := (List.getElem?_eq_some_iff.mp hT).1
  have hx' : xs.length < 2 ^ 31 := by omega
  have hm' : m < 2 ^ 31 := by omega
  have hA : (HR false Q sz RC SC SL nn FT CN TU (T ++ [(0, List.replicate m (.int 0))]))[i + 22]? = some (0, xs) := by rw [hr_getT, List.getElem?_append_left hi]; exact hT
  have hB : (HR false Q sz RC SC SL nn FT CN TU (T ++ [(0, List.replicate m (.int 0))]))[T.length + 22]? = some (0, List.replicate m (.int 0)) := by rw [hr_getT]; exact get_last _ _
  have ez : (List.replicate m (Value.int 0)).all (fits .int) = true := by rw [List.all_eq_true]; intro v hv; rw [List.eq_of_mem_replicate hv]; rfl
  have ew : (List.replicate m (Value.int 0)).take (0 : Int32).toNatClampNeg ++ (xs.drop (0 : Int32).toNatClampNeg).take (Int32.ofNat xs.length).toNatClampNeg ++ (List.replicate m (Value.int 0)).drop ((0 : Int32).toNatClampNeg + (Int32.ofNat xs.length).toNatClampNeg) = xs ++ List.replicate (m - xs.length) (.int 0) := by
    rw [on_nat hx', show (0 : Int32).toNatClampNeg = 0 from rfl, List.take_zero, List.drop_zero, Nat.zero_add, List.take_of_length_le (Nat.le_refl _), List.drop_replicate]; rfl
  refine Eval.intro2 monoD [.val (.ref (i + 22)), .val (.int (Int32.ofNat m)), .unset] rfl (le_r rfl) rfl ?_
  refine Go.step rfl (fun _ => rfl) ?_
  refine Go.step rfl (fun _ => rfl) ?_
  have hA0 : (HR false Q sz RC SC SL nn FT CN TU T)[i + 22]? = some (0, xs) := hT
  refine Go.alen rfl hA0 ?_
  refine Go.icmp rfl (b := true) ((i_ne hm' hx').trans (decide_eq_true (by omega))) ?_
  refine Go.step rfl (fun _ => rfl) ?_
  refine Go.newA hm2 rfl ?_
  rw [hr_len, hr_app]
  iterate 6 (refine Go.step rfl (fun _ => rfl) ?_)
  refine Go.alen rfl hA ?_
  refine Go.step rfl (fun _ => rfl) ?_
  refine Go.scall monoD mono38 rfl (evMin _ xs.length m hx' hm' (by omega)) rfl rfl (le_r rfl) (le_r rfl) ?_
  refine Go.to (st' := (28, _, [.int (Int32.ofNat xs.length), .int 0, .ref (T.length + 22), .int 0, .ref (i + 22)], _)) rfl ?_
  refine Go.copy rfl hA hB (cok (by rw [Int32.le_iff_toInt_le, on_toInt hx']; show (0 : Int) ≤ _; omega) (by decide) (by rw [on_nat hx']; exact Nat.le_refl _) (by rw [on_nat hx', List.length_replicate]; show 0 + _ ≤ _; omega) hf ez (by omega) (by rw [List.length_replicate]; omega) (by omega)) ew ?_
  rw [hr_setT, set_last]
  iterate 1 (refine Go.step rfl (fun _ => rfl) ?_)
  exact Go.retE rfl (fun _ => rfl) rfl
theorem t137 (Q : QQ) (sz : Int32) (RC SC SL : List Value) (nn : Int32) (FT CN TU : List Value) (T : MH) (κ c i t : Nat) (e : Int32) (arr : List Value) (hC : CN[κ]? = some (.int (Int32.ofNat c))) (hU : TU[κ]? = some (.ref (i + 22))) (hT : T[i]? = some (0, arr)) (hc : c < arr.length) (ha : arr.length < 1000) (hκ : κ < 1000) :
    Go D c27 (137, [.val (.ref 13), .val (.int (Int32.ofNat t)), .val (.int e), .val (.int (Int32.ofNat κ))], [], (HR false Q sz RC SC SL nn FT CN TU T)) (none, (HR false Q sz RC SC SL nn FT (CN.set κ (.int (Int32.ofNat (c + 1)))) TU (T.set i (0, arr.set c (.int (Int32.ofNat t)))))) := by
  have k1 : κ < 2 ^ 31 := by omega
  have k2 : c < 2 ^ 31 := by omega
  have hCl : κ < CN.length := (List.getElem?_eq_some_iff.mp hC).1
  iterate 3 (refine Go.step rfl (fun _ => rfl) ?_)
  refine Go.ald rfl rfl (on_nn k1) (by rw [on_nat k1]; exact hU) ?_
  iterate 4 (refine Go.step rfl (fun _ => rfl) ?_)
  refine Go.ald rfl rfl (on_nn k1) (by rw [on_nat k1]; exact hC) ?_
  iterate 3 (refine Go.step rfl (fun _ => rfl) ?_)
  refine Go.ast rfl rfl (by decide) (on_nn k1) (by rw [on_nat k1]; exact hCl) ?_
  rw [on_nat k1]
  refine Go.to (st' := (154, _, [.int (Int32.ofNat c), .ref (i + 22)], (HR false Q sz RC SC SL nn FT (CN.set κ (.int (Int32.ofNat c + 1))) TU T))) rfl ?_
  rw [on_succ]
  iterate 1 (refine Go.step rfl (fun _ => rfl) ?_)
  refine Go.ast rfl ((hr_getT ..).trans hT) (by omega) (on_nn k2) (by rw [on_nat k2]; exact hc) ?_
  rw [on_nat k2, hr_setT]
  exact Go.retE rfl (fun _ => rfl) rfl
theorem okv_last (u : Bool) (Q : QQ) (sz : Int32) (RC SC SL : List Value) (nn : Int32) (FT CN TU : List Value) (T : MH) (ys : List Value) : okv (HR u Q sz RC SC SL nn FT CN TU (T ++ [(0, ys)])) 0 (.ref (T.length + 22)) = true := by
  show (match (HR u Q sz RC SC SL nn FT CN TU (T ++ [(0, ys)]))[T.length + 22]? with
    | some (k2, _) => Nat.beq k2 0
    | none => false) = true
  rw [hr_getT, get_last]; rfl
theorem old1 (Q : QQ) (sz : Int32) (RC SC SL : List Value) (nn : Int32) (FT CN TU : List Value) (T : MH) (κ x t : Nat) (e : Int32) (hC : CN[κ]? = some (.int (Int32.ofNat 1))) (hF : FT[κ]? = some (.int (Int32.ofNat x))) (hU : κ < TU.length) (hκ : κ < 1000) :
    Go D c27 (55, [.val (.ref 13), .val (.int (Int32.ofNat t)), .val (.int e), .val (.int (Int32.ofNat κ))], [], (HR false Q sz RC SC SL nn FT CN TU T)) (none, (HR false Q sz RC SC SL nn FT (CN.set κ (.int (Int32.ofNat 2))) (TU.set κ (.ref (T.length + 22))) (T ++ [(0, [.int (Int32.ofNat x), .int (Int32.ofNat t), Value.int 0, Value.int 0])]))) := by
  have k1 : κ < 2 ^ 31 := by omega
  iterate 3 (refine Go.step rfl (fun _ => rfl) ?_)
  refine Go.ald rfl rfl (on_nn k1) (by rw [on_nat k1]; exact hC) ?_
  iterate 1 (refine Go.step rfl (fun _ => rfl) ?_)
  refine Go.icmp rfl (b := false) (by decide) ?_
  iterate 4 (refine Go.step rfl (fun _ => rfl) ?_)
  refine Go.newA (z := 4) (by decide) rfl ?_
  rw [hr_len, hr_app]
  iterate 5 (refine Go.step rfl (fun _ => rfl) ?_)
  refine Go.ald rfl rfl (on_nn k1) (by rw [on_nat k1]; exact hF) ?_
  refine Go.ast rfl ((hr_getT ..).trans (get_last _ _)) (by omega) (by decide) (by show _ < 4; decide) ?_
  rw [hr_setT, set_last]
  refine Go.to (st' := (82, _, [.ref (T.length + 22), .int (Int32.ofNat κ), .ref 16], (HR false Q sz RC SC SL nn FT CN TU (T ++ [(0, [.int (Int32.ofNat x), Value.int 0, Value.int 0, Value.int 0])])))) rfl ?_
  iterate 3 (refine Go.step rfl (fun _ => rfl) ?_)
  refine Go.ast rfl ((hr_getT ..).trans (get_last _ _)) (by omega) (by decide) (by show _ < 4; decide) ?_
  rw [hr_setT, set_last]
  refine Go.to (st' := (86, _, [.ref (T.length + 22), .int (Int32.ofNat κ), .ref 16], (HR false Q sz RC SC SL nn FT CN TU (T ++ [(0, [.int (Int32.ofNat x), Value.int 0, Value.int 0, Value.int 0])])))) rfl ?_
  iterate 3 (refine Go.step rfl (fun _ => rfl) ?_)
  refine Go.ast rfl ((hr_getT ..).trans (get_last _ _)) (by omega) (by decide) (by show _ < 4; decide) ?_
  rw [hr_setT, set_last]
  refine Go.to (st' := (90, _, [.ref (T.length + 22), .int (Int32.ofNat κ), .ref 16], (HR false Q sz RC SC SL nn FT CN TU (T ++ [(0, [.int (Int32.ofNat x), Value.int 0, Value.int 0, Value.int 0])])))) rfl ?_
  iterate 3 (refine Go.step rfl (fun _ => rfl) ?_)
  refine Go.ast rfl ((hr_getT ..).trans (get_last _ _)) (by omega) (by decide) (by show _ < 4; decide) ?_
  rw [hr_setT, set_last]
  refine Go.to (st' := (94, _, [.ref (T.length + 22), .int (Int32.ofNat κ), .ref 16], (HR false Q sz RC SC SL nn FT CN TU (T ++ [(0, [.int (Int32.ofNat x), Value.int 0, Value.int 0, Value.int 0])])))) rfl ?_
  refine Go.astR rfl rfl (by decide) (okv_last ..) (on_nn k1) (by rw [on_nat k1]; exact hU) ?_
  rw [on_nat k1]
  refine Go.to (st' := (95, _, [], (HR false Q sz RC SC SL nn FT CN (TU.set κ (.ref (T.length + 22))) (T ++ [(0, [.int (Int32.ofNat x), Value.int 0, Value.int 0, Value.int 0])])))) rfl ?_
  refine Go.step rfl (fun _ => rfl) ?_
  have h := t137 Q sz RC SC SL nn FT CN (TU.set κ (.ref (T.length + 22))) (T ++ [(0, [.int (Int32.ofNat x), Value.int 0, Value.int 0, Value.int 0])]) κ 1 T.length t e [.int (Int32.ofNat x), Value.int 0, Value.int 0, Value.int 0] hC (by simp [hU]) (get_last _ _) (by show 1 < 4; decide) (by show 4 < 1000; decide) hκ
  rw [set_last] at h
  exact h
theorem old2 (Q : QQ) (sz : Int32) (RC SC SL : List Value) (nn : Int32) (FT CN TU : List Value) (T : MH) (κ c i t : Nat) (e : Int32) (arr : List Value) (hf : arr.all (fits .int) = true) (hC : CN[κ]? = some (.int (Int32.ofNat c))) (hU : TU[κ]? = some (.ref (i + 22))) (hT : T[i]? = some (0, arr)) (hc : c = arr.length) (h1 : 1 < c) (ha : arr.length < 100) (hκ : κ < 1000) :
    Go D c27 (55, [.val (.ref 13), .val (.int (Int32.ofNat t)), .val (.int e), .val (.int (Int32.ofNat κ))], [], (HR false Q sz RC SC SL nn FT CN TU T)) (none, (HR false Q sz RC SC SL nn FT (CN.set κ (.int (Int32.ofNat (c + 1)))) (TU.set κ (.ref (T.length + 22))) (T ++ [(0, (arr ++ List.replicate (c * 2 - arr.length) (Value.int 0)).set c (.int (Int32.ofNat t)))]))) := by
  have k1 : κ < 2 ^ 31 := by omega
  have k2 : c < 2 ^ 31 := by omega
  have hUl : κ < TU.length := (List.getElem?_eq_some_iff.mp hU).1
  have em : Int32.ofNat c * 2 = Int32.ofNat (c * 2) := (Int32.ofNat_mul c 2).symm
  have E := evCopy Q sz RC SC SL nn FT CN TU T i (c * 2) arr hf hT (by omega) (by omega)
  rw [← em] at E
  iterate 3 (refine Go.step rfl (fun _ => rfl) ?_)
  refine Go.ald rfl rfl (on_nn k1) (by rw [on_nat k1]; exact hC) ?_
  iterate 1 (refine Go.step rfl (fun _ => rfl) ?_)
  refine Go.icmp rfl (b := true) ((i_ne (b := 1) k2 (by decide)).trans (decide_eq_true (by omega))) ?_
  iterate 3 (refine Go.step rfl (fun _ => rfl) ?_)
  refine Go.ald rfl rfl (on_nn k1) (by rw [on_nat k1]; exact hC) ?_
  iterate 3 (refine Go.step rfl (fun _ => rfl) ?_)
  refine Go.ald rfl rfl (on_nn k1) (by rw [on_nat k1]; exact hU) ?_
  refine Go.alen rfl ((hr_getT ..).trans hT) ?_
  refine Go.icmp rfl (b := false) ((i_ne k2 (show arr.length < 2 ^ 31 by omega)).trans (decide_eq_false (by omega))) ?_
  iterate 6 (refine Go.step rfl (fun _ => rfl) ?_)
  refine Go.ald rfl rfl (on_nn k1) (by rw [on_nat k1]; exact hU) ?_
  iterate 3 (refine Go.step rfl (fun _ => rfl) ?_)
  refine Go.ald rfl rfl (on_nn k1) (by rw [on_nat k1]; exact hC) ?_
  iterate 2 (refine Go.step rfl (fun _ => rfl) ?_)
  refine Go.scall monoD mono27 rfl (E) rfl rfl (le_r rfl) (le_r rfl) ?_
  refine Go.astR rfl rfl (by decide) (okv_last ..) (on_nn k1) (by rw [on_nat k1]; exact hUl) ?_
  rw [on_nat k1]
  refine Go.to (st' := (137, _, [], (HR false Q sz RC SC SL nn FT CN (TU.set κ (.ref (T.length + 22))) (T ++ [(0, (arr ++ List.replicate (c * 2 - arr.length) (Value.int 0)))])))) rfl ?_
  have h := t137 Q sz RC SC SL nn FT CN (TU.set κ (.ref (T.length + 22))) (T ++ [(0, (arr ++ List.replicate (c * 2 - arr.length) (Value.int 0)))]) κ c T.length t e (arr ++ List.replicate (c * 2 - arr.length) (Value.int 0)) hC (by simp [hUl]) (get_last _ _) (by simp; omega) (by simp; omega) hκ
  rw [set_last] at h
  exact h
theorem old3 (Q : QQ) (sz : Int32) (RC SC SL : List Value) (nn : Int32) (FT CN TU : List Value) (T : MH) (κ c i t : Nat) (e : Int32) (arr : List Value) (hC : CN[κ]? = some (.int (Int32.ofNat c))) (hU : TU[κ]? = some (.ref (i + 22))) (hT : T[i]? = some (0, arr)) (hc : c < arr.length) (h1 : 1 < c) (ha : arr.length < 100) (hκ : κ < 1000) :
    Go D c27 (55, [.val (.ref 13), .val (.int (Int32.ofNat t)), .val (.int e), .val (.int (Int32.ofNat κ))], [], (HR false Q sz RC SC SL nn FT CN TU T)) (none, (HR false Q sz RC SC SL nn FT (CN.set κ (.int (Int32.ofNat (c + 1)))) TU (T.set i (0, arr.set c (.int (Int32.ofNat t)))))) := by
  have k1 : κ < 2 ^ 31 := by omega
  have k2 : c < 2 ^ 31 := by omega
  iterate 3 (refine Go.step rfl (fun _ => rfl) ?_)
  refine Go.ald rfl rfl (on_nn k1) (by rw [on_nat k1]; exact hC) ?_
  iterate 1 (refine Go.step rfl (fun _ => rfl) ?_)
  refine Go.icmp rfl (b := true) ((i_ne (b := 1) k2 (by decide)).trans (decide_eq_true (by omega))) ?_
  iterate 3 (refine Go.step rfl (fun _ => rfl) ?_)
  refine Go.ald rfl rfl (on_nn k1) (by rw [on_nat k1]; exact hC) ?_
  iterate 3 (refine Go.step rfl (fun _ => rfl) ?_)
  refine Go.ald rfl rfl (on_nn k1) (by rw [on_nat k1]; exact hU) ?_
  refine Go.alen rfl ((hr_getT ..).trans hT) ?_
  refine Go.icmp rfl (b := true) ((i_ne k2 (show arr.length < 2 ^ 31 by omega)).trans (decide_eq_true (by omega))) ?_
  exact t137 Q sz RC SC SL nn FT CN TU T κ c i t e arr hC hU hT hc (by omega) hκ
theorem h27_false (Q : QQ) (sz : Int32) (RC SL : List Value) (nn : Int32) (FT CN TU : List Value) (T : MH) (t a b e x : Int32) (s0 : Value) (g0 : ¬ (t * 2 + 0) < 0) (h0 : RC[(t * 2 + 0).toNatClampNeg]? = some (.int a)) (hE : Eval D 32 [.ref 13, .ref 19, .int 0, .int (hs (kl false a b))] (HR false Q sz RC [.int a] SL nn FT CN TU T) (some (.int e), (HR false Q sz RC [.int a] SL nn FT CN TU T))) (ge : ¬ e < 0) (hx : SL[e.toNatClampNeg]? = some (.int x)) {w : MR} (hg : Go D c27 (37, [.val (.ref 13), .val (.int t), .val (.int e), .val (.int (x - 1))], [], (HR false Q sz RC [.int a] SL nn FT CN TU T)) w) : Go D c27 (0, [.val (.ref 13), .val (.int t), .unset, .unset], [], (HR false Q sz RC [s0] SL nn FT CN TU T)) w := by
  iterate 4 (refine Go.step rfl (fun _ => rfl) ?_)
  refine Go.rcall monoD mono27 rfl (evKey_false Q sz RC [s0] SL nn FT CN TU T t a s0 g0 h0) rfl rfl rfl rfl (le_r rfl) ?_
  iterate 8 (refine Go.step rfl (fun _ => rfl) ?_)
  refine Go.rcall monoD mono27 rfl (evHash_false Q sz RC [.int a] SL nn FT CN TU T a b 19 rfl) rfl rfl rfl rfl (le_r rfl) ?_
  refine Go.rcall monoD mono27 rfl (hE) rfl rfl rfl rfl (le_r rfl) ?_
  iterate 4 (refine Go.step rfl (fun _ => rfl) ?_)
  refine Go.ald rfl rfl ge hx ?_
  iterate 3 (refine Go.step rfl (fun _ => rfl) ?_)
  exact hg
theorem h18_false (Q : QQ) (sz : Int32) (RC SL : List Value) (nn : Int32) (FT CN TU : List Value) (T : MH) (t a b e x : Int32) (s0 : Value) (g0 : ¬ (t * 2 + 0) < 0) (h0 : RC[(t * 2 + 0).toNatClampNeg]? = some (.int a)) (hE : Eval D 32 [.ref 13, .ref 19, .int 0, .int (hs (kl false a b))] (HR false Q sz RC [.int a] SL nn FT CN TU T) (some (.int e), (HR false Q sz RC [.int a] SL nn FT CN TU T))) (ge : ¬ e < 0) (hx : SL[e.toNatClampNeg]? = some (.int x)) (cnt : Int32) (x4 x5 : Slot) (h4 : x4 = .unset ∨ ∃ z : Int32, x4 = .val (.int z)) (h5 : x5 = .unset ∨ ∃ z : Int32, x5 = .val (.int z)) (hlt : if_icmp.holds .ge t cnt = false) {w : MR} (hg : Go D c18 (51, [.val (.ref 13), .val (.int cnt), .val (.ref 22), .val (.int t), .val (.int e), .val (.int (x - 1))], [], (HR false Q sz RC [.int a] SL nn FT CN TU T)) w) : Go D c18 (6, [.val (.ref 13), .val (.int cnt), .val (.ref 22), .val (.int t), x4, x5], [], (HR false Q sz RC [s0] SL nn FT CN TU T)) w := by
  iterate 2 (refine Go.step rfl (fun _ => rfl) ?_)
  refine Go.icmp rfl (b := false) (hlt) ?_
  iterate 4 (refine Go.step rfl (fun _ => rfl) ?_)
  refine Go.rcall monoD mono18 rfl (evKey_false Q sz RC [s0] SL nn FT CN TU T t a s0 g0 h0) rfl rfl rfl rfl (le_r rfl) ?_
  iterate 8 (refine Go.step rfl (fun _ => rfl) ?_)
  refine Go.rcall monoD mono18 rfl (evHash_false Q sz RC [.int a] SL nn FT CN TU T a b 19 rfl) rfl rfl rfl rfl (le_r rfl) ?_
  refine Go.rcall monoD mono18 rfl (hE) rfl rfl rfl rfl (le_r rfl) ?_
  refine Go.ist rfl (mset4 h4) ?_
  iterate 3 (refine Go.step rfl (fun _ => rfl) ?_)
  refine Go.ald rfl rfl ge hx ?_
  iterate 2 (refine Go.step rfl (fun _ => rfl) ?_)
  refine Go.ist rfl (mset5 h5) ?_
  exact hg
theorem h27_true (Q : QQ) (sz : Int32) (RC SL : List Value) (nn : Int32) (FT CN TU : List Value) (T : MH) (t a b e x : Int32) (s0 s1 : Value) (g0 : ¬ (t * 2 + 0) < 0) (h0 : RC[(t * 2 + 0).toNatClampNeg]? = some (.int a)) (g1 : ¬ (t * 2 + 1) < 0) (h1 : RC[(t * 2 + 1).toNatClampNeg]? = some (.int b)) (hE : Eval D 32 [.ref 13, .ref 19, .int 0, .int (hs (kl true a b))] (HR true Q sz RC [.int a, .int b] SL nn FT CN TU T) (some (.int e), (HR true Q sz RC [.int a, .int b] SL nn FT CN TU T))) (ge : ¬ e < 0) (hx : SL[e.toNatClampNeg]? = some (.int x)) {w : MR} (hg : Go D c27 (37, [.val (.ref 13), .val (.int t), .val (.int e), .val (.int (x - 1))], [], (HR true Q sz RC [.int a, .int b] SL nn FT CN TU T)) w) : Go D c27 (0, [.val (.ref 13), .val (.int t), .unset, .unset], [], (HR true Q sz RC [s0, s1] SL nn FT CN TU T)) w := by
  iterate 4 (refine Go.step rfl (fun _ => rfl) ?_)
  refine Go.rcall monoD mono27 rfl (evKey_true Q sz RC [s0, s1] SL nn FT CN TU T t a b s0 s1 g0 h0 g1 h1) rfl rfl rfl rfl (le_r rfl) ?_
  iterate 8 (refine Go.step rfl (fun _ => rfl) ?_)
  refine Go.rcall monoD mono27 rfl (evHash_true Q sz RC [.int a, .int b] SL nn FT CN TU T a b 19 rfl) rfl rfl rfl rfl (le_r rfl) ?_
  refine Go.rcall monoD mono27 rfl (hE) rfl rfl rfl rfl (le_r rfl) ?_
  iterate 4 (refine Go.step rfl (fun _ => rfl) ?_)
  refine Go.ald rfl rfl ge hx ?_
  iterate 3 (refine Go.step rfl (fun _ => rfl) ?_)
  exact hg
theorem h18_true (Q : QQ) (sz : Int32) (RC SL : List Value) (nn : Int32) (FT CN TU : List Value) (T : MH) (t a b e x : Int32) (s0 s1 : Value) (g0 : ¬ (t * 2 + 0) < 0) (h0 : RC[(t * 2 + 0).toNatClampNeg]? = some (.int a)) (g1 : ¬ (t * 2 + 1) < 0) (h1 : RC[(t * 2 + 1).toNatClampNeg]? = some (.int b)) (hE : Eval D 32 [.ref 13, .ref 19, .int 0, .int (hs (kl true a b))] (HR true Q sz RC [.int a, .int b] SL nn FT CN TU T) (some (.int e), (HR true Q sz RC [.int a, .int b] SL nn FT CN TU T))) (ge : ¬ e < 0) (hx : SL[e.toNatClampNeg]? = some (.int x)) (cnt : Int32) (x4 x5 : Slot) (h4 : x4 = .unset ∨ ∃ z : Int32, x4 = .val (.int z)) (h5 : x5 = .unset ∨ ∃ z : Int32, x5 = .val (.int z)) (hlt : if_icmp.holds .ge t cnt = false) {w : MR} (hg : Go D c18 (51, [.val (.ref 13), .val (.int cnt), .val (.ref 22), .val (.int t), .val (.int e), .val (.int (x - 1))], [], (HR true Q sz RC [.int a, .int b] SL nn FT CN TU T)) w) : Go D c18 (6, [.val (.ref 13), .val (.int cnt), .val (.ref 22), .val (.int t), x4, x5], [], (HR true Q sz RC [s0, s1] SL nn FT CN TU T)) w := by
  iterate 2 (refine Go.step rfl (fun _ => rfl) ?_)
  refine Go.icmp rfl (b := false) (hlt) ?_
  iterate 4 (refine Go.step rfl (fun _ => rfl) ?_)
  refine Go.rcall monoD mono18 rfl (evKey_true Q sz RC [s0, s1] SL nn FT CN TU T t a b s0 s1 g0 h0 g1 h1) rfl rfl rfl rfl (le_r rfl) ?_
  iterate 8 (refine Go.step rfl (fun _ => rfl) ?_)
  refine Go.rcall monoD mono18 rfl (evHash_true Q sz RC [.int a, .int b] SL nn FT CN TU T a b 19 rfl) rfl rfl rfl rfl (le_r rfl) ?_
  refine Go.rcall monoD mono18 rfl (hE) rfl rfl rfl rfl (le_r rfl) ?_
  refine Go.ist rfl (mset4 h4) ?_
  iterate 3 (refine Go.step rfl (fun _ => rfl) ?_)
  refine Go.ald rfl rfl ge hx ?_
  iterate 2 (refine Go.step rfl (fun _ => rfl) ?_)
  refine Go.ist rfl (mset5 h5) ?_
  exact hg
theorem new27_false (Q : QQ) (sz : Int32) (RC : List Value) (f : Nat → Int32) (n : Nat) (FT CN TU : List Value) (T : MH) (p : Nat) (hp : p < 16) (hn : n < 8) (t a b : Int32) (hF : FT.length = 8) (hC : CN.length = 8) (hU : TU.length = 8) : Go D c27 (37, [.val (.ref 13), .val (.int t), .val (.int (Int32.ofNat p * 2)), .val (.int (0 - 1))], [], (HR false Q sz RC [.int a] (tab false f) (Int32.ofNat n) FT CN TU T)) (none, (HR false Q sz RC [.int a] (tab false (ins false f p (n + 1) a b)) (Int32.ofNat (n + 1)) (FT.set n (.int t)) (CN.set n (.int 1)) (TU.set n (.ref 0)) T)) := by
  iterate 8 (refine Go.step rfl (fun _ => rfl) ?_)
  refine Go.rcall monoD mono27 rfl (evAdd_false Q sz RC f n FT CN TU T p hp hn t a b hF hC hU) rfl rfl rfl rfl (le_r rfl) ?_
  iterate 1 (refine Go.step rfl (fun _ => rfl) ?_)
  exact Go.retE rfl (fun _ => rfl) rfl
theorem new27_true (Q : QQ) (sz : Int32) (RC : List Value) (f : Nat → Int32) (n : Nat) (FT CN TU : List Value) (T : MH) (p : Nat) (hp : p < 16) (hn : n < 8) (t a b : Int32) : Go D c27 (37, [.val (.ref 13), .val (.int t), .val (.int (Int32.ofNat p * 3)), .val (.int (0 - 1))], [], (HR true Q sz RC [.int a, .int b] (tab true f) (Int32.ofNat n) FT CN TU T)) (none, (HR true Q sz RC [.int a, .int b] (tab true (ins true f p (n + 1) a b)) (Int32.ofNat (n + 1)) FT CN TU T)) := by
  iterate 8 (refine Go.step rfl (fun _ => rfl) ?_)
  refine Go.rcall monoD mono27 rfl (evAdd_true Q sz RC f n FT CN TU T p hp hn t a b) rfl rfl rfl rfl (le_r rfl) ?_
  iterate 1 (refine Go.step rfl (fun _ => rfl) ?_)
  exact Go.retE rfl (fun _ => rfl) rfl
theorem new18_false (Q : QQ) (sz : Int32) (RC : List Value) (f : Nat → Int32) (n : Nat) (FT CN TU : List Value) (T : MH) (KT : List Value) (p i : Nat) (hp : p < 16) (hn : n < 8) (a b cnt : Int32) (hF : FT.length = 8) (hC : CN.length = 8) (hU : TU.length = 8) (hi : i < KT.length) (hi2 : i < 1000) {w : MR} (hg : Go D c18 (6, [.val (.ref 13), .val (.int cnt), .val (.ref 22), .val (.int (Int32.ofNat (i + 1))), .val (.int (Int32.ofNat p * 2)), .val (.int (Int32.ofNat n))], [], (HR false Q sz RC [.int a] (tab false (ins false f p (n + 1) a b)) (Int32.ofNat (n + 1)) (FT.set n (.int (Int32.ofNat i))) (CN.set n (.int 1)) (TU.set n (.ref 0)) ((0, KT.set i (.int (Int32.ofNat n))) :: T))) w) : Go D c18 (51, [.val (.ref 13), .val (.int cnt), .val (.ref 22), .val (.int (Int32.ofNat i)), .val (.int (Int32.ofNat p * 2)), .val (.int (0 - 1))], [], (HR false Q sz RC [.int a] (tab false f) (Int32.ofNat n) FT CN TU ((0, KT) :: T))) w := by
  have k1 : i < 2 ^ 31 := by omega
  rw [← on_succ i] at hg
  iterate 11 (refine Go.step rfl (fun _ => rfl) ?_)
  refine Go.rcall monoD mono18 rfl (evAdd_false Q sz RC f n FT CN TU ((0, KT) :: T) p hp hn (Int32.ofNat i) a b hF hC hU) rfl rfl rfl rfl (le_r rfl) ?_
  iterate 4 (refine Go.step rfl (fun _ => rfl) ?_)
  refine Go.ast rfl rfl (by decide) (on_nn k1) (by rw [on_nat k1]; exact hi) ?_
  rw [on_nat k1]
  refine Go.to (st' := (93, _, [], (HR false Q sz RC [.int a] (tab false (ins false f p (n + 1) a b)) (Int32.ofNat (n + 1)) (FT.set n (.int (Int32.ofNat i))) (CN.set n (.int 1)) (TU.set n (.ref 0)) ((0, KT.set i (.int (Int32.ofNat n))) :: T)))) rfl ?_
  iterate 1 (refine Go.step rfl (fun _ => rfl) ?_)
  refine Go.step rfl (fun _ => rfl) ?_
  exact hg
theorem new18_true (Q : QQ) (sz : Int32) (RC : List Value) (f : Nat → Int32) (n : Nat) (FT CN TU : List Value) (T : MH) (KT : List Value) (p i : Nat) (hp : p < 16) (hn : n < 8) (a b cnt : Int32) (hi : i < KT.length) (hi2 : i < 1000) {w : MR} (hg : Go D c18 (6, [.val (.ref 13), .val (.int cnt), .val (.ref 22), .val (.int (Int32.ofNat (i + 1))), .val (.int (Int32.ofNat p * 3)), .val (.int (Int32.ofNat n))], [], (HR true Q sz RC [.int a, .int b] (tab true (ins true f p (n + 1) a b)) (Int32.ofNat (n + 1)) FT CN TU ((0, KT.set i (.int (Int32.ofNat n))) :: T))) w) : Go D c18 (51, [.val (.ref 13), .val (.int cnt), .val (.ref 22), .val (.int (Int32.ofNat i)), .val (.int (Int32.ofNat p * 3)), .val (.int (0 - 1))], [], (HR true Q sz RC [.int a, .int b] (tab true f) (Int32.ofNat n) FT CN TU ((0, KT) :: T))) w := by
  have k1 : i < 2 ^ 31 := by omega
  rw [← on_succ i] at hg
  iterate 11 (refine Go.step rfl (fun _ => rfl) ?_)
  refine Go.rcall monoD mono18 rfl (evAdd_true Q sz RC f n FT CN TU ((0, KT) :: T) p hp hn (Int32.ofNat i) a b) rfl rfl rfl rfl (le_r rfl) ?_
  iterate 4 (refine Go.step rfl (fun _ => rfl) ?_)
  refine Go.ast rfl rfl (by decide) (on_nn k1) (by rw [on_nat k1]; exact hi) ?_
  rw [on_nat k1]
  refine Go.to (st' := (93, _, [], (HR true Q sz RC [.int a, .int b] (tab true (ins true f p (n + 1) a b)) (Int32.ofNat (n + 1)) FT CN TU ((0, KT.set i (.int (Int32.ofNat n))) :: T)))) rfl ?_
  iterate 1 (refine Go.step rfl (fun _ => rfl) ?_)
  refine Go.step rfl (fun _ => rfl) ?_
  exact hg
theorem old18 (Q : QQ) (sz : Int32) (RC SC SL : List Value) (nn : Int32) (FT CN TU : List Value) (T : MH) (KT : List Value) (i κ c : Nat) (e cnt : Int32) (hC : CN[κ]? = some (.int (Int32.ofNat c))) (hi : i < KT.length) (hi2 : i < 1000) (hκ : κ < 1000) {w : MR} (hg : Go D c18 (6, [.val (.ref 13), .val (.int cnt), .val (.ref 22), .val (.int (Int32.ofNat (i + 1))), .val (.int e), .val (.int (Int32.ofNat κ))], [], (HR false Q sz RC SC SL nn FT (CN.set κ (.int (Int32.ofNat (c + 1)))) TU ((0, KT.set i (.int (Int32.ofNat κ))) :: T))) w) : Go D c18 (51, [.val (.ref 13), .val (.int cnt), .val (.ref 22), .val (.int (Int32.ofNat i)), .val (.int e), .val (.int (Int32.ofNat κ))], [], (HR false Q sz RC SC SL nn FT CN TU ((0, KT) :: T))) w := by
  have k1 : i < 2 ^ 31 := by omega
  have k2 : κ < 2 ^ 31 := by omega
  have hCl : κ < CN.length := (List.getElem?_eq_some_iff.mp hC).1
  rw [← on_succ i, ← on_succ c] at hg
  iterate 1 (refine Go.step rfl (fun _ => rfl) ?_)
  refine Go.ifc rfl (b := true) (z_geN k2) ?_
  iterate 4 (refine Go.step rfl (fun _ => rfl) ?_)
  refine Go.ald rfl rfl (on_nn k2) (by rw [on_nat k2]; exact hC) ?_
  iterate 2 (refine Go.step rfl (fun _ => rfl) ?_)
  refine Go.ast rfl rfl (by decide) (on_nn k2) (by rw [on_nat k2]; exact hCl) ?_
  rw [on_nat k2]
  refine Go.to (st' := (88, _, [], (HR false Q sz RC SC SL nn FT (CN.set κ (.int (Int32.ofNat c + 1))) TU ((0, KT) :: T)))) rfl ?_
  iterate 3 (refine Go.step rfl (fun _ => rfl) ?_)
  refine Go.ast rfl rfl (by decide) (on_nn k1) (by rw [on_nat k1]; exact hi) ?_
  rw [on_nat k1]
  refine Go.to (st' := (93, _, [], (HR false Q sz RC SC SL nn FT (CN.set κ (.int (Int32.ofNat c + 1))) TU ((0, KT.set i (.int (Int32.ofNat κ))) :: T)))) rfl ?_
  iterate 1 (refine Go.step rfl (fun _ => rfl) ?_)
  refine Go.step rfl (fun _ => rfl) ?_
  exact hg
theorem inc18 (Q : QQ) (sz : Int32) (RC SC SL : List Value) (nn : Int32) (FT CN TU : List Value) (T : MH) (i κ : Nat) (cnt : Int32) {w : MR} (hg : Go D c18 (117, [.val (.ref 13), .val (.int cnt), .val (.ref 22), .val (.ref 23), .val (.int (Int32.ofNat (i + 1))), .val (.int (Int32.ofNat κ))], [], (HR false Q sz RC SC SL nn FT CN TU T)) w) : Go D c18 (182, [.val (.ref 13), .val (.int cnt), .val (.ref 22), .val (.ref 23), .val (.int (Int32.ofNat i)), .val (.int (Int32.ofNat κ))], [], (HR false Q sz RC SC SL nn FT CN TU T)) w := by
  rw [← on_succ i] at hg
  iterate 2 (refine Go.step rfl (fun _ => rfl) ?_)
  exact hg
theorem tail18 (Q : QQ) (sz : Int32) (RC SC SL : List Value) (nn : Int32) (FT CN TU : List Value) (T : MH) (i κ g x : Nat) (cnt : Int32) (FL arr : List Value) (hU : TU[κ]? = some (.ref (x + 22))) (hL : T[1]? = some (0, FL)) (hg1 : FL[κ]? = some (.int (Int32.ofNat g))) (hx : x ≠ 1) (hT : T[x]? = some (0, arr)) (hg2 : g < arr.length) (hg3 : g < 1000) (hκ : κ < 1000) {w : MR} (hg : Go D c18 (117, [.val (.ref 13), .val (.int cnt), .val (.ref 22), .val (.ref 23), .val (.int (Int32.ofNat (i + 1))), .val (.int (Int32.ofNat κ))], [], (HR false Q sz RC SC SL nn FT CN TU ((T.set 1 (0, FL.set κ (.int (Int32.ofNat (g + 1))))).set x (0, arr.set g (.int (Int32.ofNat i)))))) w) : Go D c18 (163, [.val (.ref 13), .val (.int cnt), .val (.ref 22), .val (.ref 23), .val (.int (Int32.ofNat i)), .val (.int (Int32.ofNat κ))], [], (HR false Q sz RC SC SL nn FT CN TU T)) w := by
  have k2 : κ < 2 ^ 31 := by omega
  have k3 : g < 2 ^ 31 := by omega
  have hLl : κ < FL.length := (List.getElem?_eq_some_iff.mp hg1).1
  have hT2 : (T.set 1 (0, FL.set κ (.int (Int32.ofNat (g + 1)))))[x]? = some (0, arr) := by rw [List.getElem?_set_ne (Ne.symm hx)]; exact hT
  iterate 3 (refine Go.step rfl (fun _ => rfl) ?_)
  refine Go.ald rfl rfl (on_nn k2) (by rw [on_nat k2]; exact hU) ?_
  iterate 3 (refine Go.step rfl (fun _ => rfl) ?_)
  refine Go.ald rfl ((hr_getT _ _ _ _ _ _ _ _ _ _ _ 1).trans hL) (on_nn k2) (by rw [on_nat k2]; exact hg1) ?_
  iterate 3 (refine Go.step rfl (fun _ => rfl) ?_)
  refine Go.ast rfl ((hr_getT _ _ _ _ _ _ _ _ _ _ _ 1).trans hL) (by decide) (on_nn k2) (by rw [on_nat k2]; exact hLl) ?_
  rw [on_nat k2]
  refine Go.to (st' := (179, _, [.int (Int32.ofNat g), .ref (x + 22)], (HR false Q sz RC SC SL nn FT CN TU (T.set 1 (0, FL.set κ (.int (Int32.ofNat g + 1))))))) rfl ?_
  rw [on_succ]
  iterate 1 (refine Go.step rfl (fun _ => rfl) ?_)
  refine Go.ast rfl ((hr_getT ..).trans hT2) (by omega) (on_nn k3) (by rw [on_nat k3]; exact hg2) ?_
  rw [on_nat k3, hr_setT]
  exact inc18 Q sz RC SC SL nn FT CN TU _ i κ cnt hg
theorem head18 (Q : QQ) (sz : Int32) (RC SC SL : List Value) (nn : Int32) (FT CN TU : List Value) (T : MH) (i κ c : Nat) (cnt : Int32) (x5 : Slot) (h5 : x5 = .unset ∨ ∃ z : Int32, x5 = .val (.int z)) (KT : List Value) (hK : T[0]? = some (0, KT)) (hk : KT[i]? = some (.int (Int32.ofNat κ))) (hC : CN[κ]? = some (.int (Int32.ofNat c))) (hlt : if_icmp.holds .ge (Int32.ofNat i) cnt = false) (hi : i < 1000) (hκ : κ < 1000) {w : MR} (hg : Go D c18 (136, [.val (.ref 13), .val (.int cnt), .val (.ref 22), .val (.ref 23), .val (.int (Int32.ofNat i)), .val (.int (Int32.ofNat κ))], [.int (Int32.ofNat c)], (HR false Q sz RC SC SL nn FT CN TU T)) w) : Go D c18 (117, [.val (.ref 13), .val (.int cnt), .val (.ref 22), .val (.ref 23), .val (.int (Int32.ofNat i)), x5], [], (HR false Q sz RC SC SL nn FT CN TU T)) w := by
  have k1 : i < 2 ^ 31 := by omega
  have k2 : κ < 2 ^ 31 := by omega
  iterate 2 (refine Go.step rfl (fun _ => rfl) ?_)
  refine Go.icmp rfl (b := false) (hlt) ?_
  iterate 2 (refine Go.step rfl (fun _ => rfl) ?_)
  refine Go.ald rfl ((hr_getT _ _ _ _ _ _ _ _ _ _ _ 0).trans hK) (on_nn k1) (by rw [on_nat k1]; exact hk) ?_
  refine Go.ist rfl (mset5 h5) ?_
  iterate 3 (refine Go.step rfl (fun _ => rfl) ?_)
  refine Go.ald rfl rfl (on_nn k2) (by rw [on_nat k2]; exact hC) ?_
  exact hg
theorem skip18 (Q : QQ) (sz : Int32) (RC SC SL : List Value) (nn : Int32) (FT CN TU : List Value) (T : MH) (i κ c : Nat) (cnt : Int32) (hc : c ≤ 1) {w : MR} (hg : Go D c18 (117, [.val (.ref 13), .val (.int cnt), .val (.ref 22), .val (.ref 23), .val (.int (Int32.ofNat (i + 1))), .val (.int (Int32.ofNat κ))], [], (HR false Q sz RC SC SL nn FT CN TU T)) w) : Go D c18 (136, [.val (.ref 13), .val (.int cnt), .val (.ref 22), .val (.ref 23), .val (.int (Int32.ofNat i)), .val (.int (Int32.ofNat κ))], [.int (Int32.ofNat c)], (HR false Q sz RC SC SL nn FT CN TU T)) w := by
  refine Go.step rfl (fun _ => rfl) ?_
  refine Go.icmp rfl (b := true) ((i_le (b := 1) (by omega) (by decide)).trans (decide_eq_true hc)) ?_
  exact inc18 Q sz RC SC SL nn FT CN TU T i κ cnt hg
theorem more18 (Q : QQ) (sz : Int32) (RC SC SL : List Value) (nn : Int32) (FT CN TU : List Value) (T : MH) (i κ c g : Nat) (cnt : Int32) (FL : List Value) (hc : 1 < c) (hc2 : c < 1000) (hL : T[1]? = some (0, FL)) (hg1 : FL[κ]? = some (.int (Int32.ofNat g))) (hκ : κ < 1000) (hg3 : 0 < g) (hg4 : g < 1000) {w : MR} (hg : Go D c18 (163, [.val (.ref 13), .val (.int cnt), .val (.ref 22), .val (.ref 23), .val (.int (Int32.ofNat i)), .val (.int (Int32.ofNat κ))], [], (HR false Q sz RC SC SL nn FT CN TU T)) w) : Go D c18 (136, [.val (.ref 13), .val (.int cnt), .val (.ref 22), .val (.ref 23), .val (.int (Int32.ofNat i)), .val (.int (Int32.ofNat κ))], [.int (Int32.ofNat c)], (HR false Q sz RC SC SL nn FT CN TU T)) w := by
  have k2 : κ < 2 ^ 31 := by omega
  iterate 1 (refine Go.step rfl (fun _ => rfl) ?_)
  refine Go.icmp rfl (b := false) ((i_le (b := 1) (by omega) (by decide)).trans (decide_eq_false (by omega))) ?_
  iterate 2 (refine Go.step rfl (fun _ => rfl) ?_)
  refine Go.ald rfl ((hr_getT _ _ _ _ _ _ _ _ _ _ _ 1).trans hL) (on_nn k2) (by rw [on_nat k2]; exact hg1) ?_
  refine Go.ifc rfl (b := true) ((z_neN (by omega)).trans (decide_eq_true (by omega))) ?_
  exact hg
theorem first18 (Q : QQ) (sz : Int32) (RC SC SL : List Value) (nn : Int32) (FT CN TU : List Value) (T : MH) (i κ c : Nat) (cnt : Int32) (FL : List Value) (hC : CN[κ]? = some (.int (Int32.ofNat c))) (hU : κ < TU.length) (hc : 1 < c) (hc2 : c < 1000) (hL : T[1]? = some (0, FL)) (hg1 : FL[κ]? = some (.int 0)) (hκ : κ < 1000) {w : MR} (hg : Go D c18 (163, [.val (.ref 13), .val (.int cnt), .val (.ref 22), .val (.ref 23), .val (.int (Int32.ofNat i)), .val (.int (Int32.ofNat κ))], [], (HR false Q sz RC SC SL nn FT CN (TU.set κ (.ref (T.length + 22))) (T ++ [(0, List.replicate c (Value.int 0))]))) w) : Go D c18 (136, [.val (.ref 13), .val (.int cnt), .val (.ref 22), .val (.ref 23), .val (.int (Int32.ofNat i)), .val (.int (Int32.ofNat κ))], [.int (Int32.ofNat c)], (HR false Q sz RC SC SL nn FT CN TU T)) w := by
  have k2 : κ < 2 ^ 31 := by omega
  iterate 1 (refine Go.step rfl (fun _ => rfl) ?_)
  refine Go.icmp rfl (b := false) ((i_le (b := 1) (by omega) (by decide)).trans (decide_eq_false (by omega))) ?_
  iterate 2 (refine Go.step rfl (fun _ => rfl) ?_)
  refine Go.ald rfl ((hr_getT _ _ _ _ _ _ _ _ _ _ _ 1).trans hL) (on_nn k2) (by rw [on_nat k2]; exact hg1) ?_
  iterate 7 (refine Go.step rfl (fun _ => rfl) ?_)
  refine Go.ald rfl rfl (on_nn k2) (by rw [on_nat k2]; exact hC) ?_
  refine Go.newA hc2 rfl ?_
  rw [hr_len, hr_app]
  refine Go.astR rfl rfl (by decide) (okv_last ..) (on_nn k2) (by rw [on_nat k2]; exact hU) ?_
  rw [on_nat k2]
  refine Go.to (st' := (163, _, [], (HR false Q sz RC SC SL nn FT CN (TU.set κ (.ref (T.length + 22))) (T ++ [(0, List.replicate c (Value.int 0))])))) rfl ?_
  exact hg
abbrev TM : Type := List (Option (List Nat))
abbrev A1 : Type := Nat × List Nat × List Nat × List Nat × List Nat
abbrev MM : Type := Nat × List Nat × List Nat × List Nat × TM
def fA (s : A1) (κ i : Nat) : Option A1 :=
  if i < s.2.2.2.2.length then (if κ = s.1 then (if s.1 < 8 then some ⟨s.1 + 1, s.2.1.set s.1 i, s.2.2.1.set s.1 1, s.2.2.2.1.set s.1 1, s.2.2.2.2.set i κ⟩ else none)
    else match s.2.2.1[κ]? with
      | some c => some ⟨s.1, s.2.1, s.2.2.1.set κ (c + 1), s.2.2.2.1, s.2.2.2.2.set i κ⟩
      | none => none) else none
def runA (s : A1) (i : Nat) : List Nat → Option A1
  | [] => some s
  | κ :: ks => match fA s κ i with
    | some s' => runA s' (i + 1) ks
    | none => none
def stB (TU : List Nat) (T : TM) (κ g : Nat) (FL : List Nat) (i : Nat) : Option (List Nat × TM) := match TU[κ]? with
  | some (x + 2) => match T[x]? with
    | some (some arr) => if x ≠ 1 ∧ g < arr.length ∧ g < 1000 then some (TU, (T.set 1 (some (FL.set κ (g + 1)))).set x (some (arr.set g i))) else none
    | _ => none
  | _ => none
def fB (CN TU : List Nat) (T : TM) (i : Nat) : Option (List Nat × TM) := match T[0]? with
  | some (some KT) => match KT[i]? with
    | some κ => match CN[κ]? with
      | some c => if κ < 1000 ∧ κ < TU.length ∧ c < 1000 ∧ i < 1000 then (if c ≤ 1 then some (TU, T) else match T[1]? with
        | some (some FL) => match FL[κ]? with
          | some g => if g = 0 then stB (TU.set κ (T.length + 2)) (T ++ [some (List.replicate c 0)]) κ g FL i else stB TU T κ g FL i
          | none => none
        | _ => none) else none
      | none => none
    | none => none
  | _ => none
def runB (CN : List Nat) : Nat → Nat → List Nat × TM → Option (List Nat × TM)
  | 0, _, s => some s
  | m + 1, i, s => match fB CN s.1 s.2 i with
    | some s' => runB CN m (i + 1) s'
    | none => none
def putM (M : MM) (TU : List Nat) (T : TM) (κ t : Nat) : Option MM := match M.2.2.1[κ]? with
  | some c => match TU[κ]? with
    | some (x + 2) => match T[x]? with
      | some (some arr) => if c < arr.length then some ⟨M.1, M.2.1, M.2.2.1.set κ (c + 1), TU, T.set x (some (arr.set c t))⟩ else none
      | _ => none
    | _ => none
  | none => none
def addM (M : MM) (κ t : Nat) : Option MM :=
  if κ = M.1 then (if M.1 < 8 then some ⟨M.1 + 1, M.2.1.set M.1 t, M.2.2.1.set M.1 1, M.2.2.2.1.set M.1 1, M.2.2.2.2⟩ else none)
  else if κ < 1000 ∧ κ < M.2.2.2.1.length then (match M.2.2.1[κ]? with
    | some c => if c = 1 then (match M.2.1[κ]? with
        | some x => some ⟨M.1, M.2.1, M.2.2.1.set κ 2, M.2.2.2.1.set κ (M.2.2.2.2.length + 2), M.2.2.2.2 ++ [some [x, t, 0, 0]]⟩
        | none => none)
      else if 1 < c then (match M.2.2.2.1[κ]? with
        | some (x + 2) => match M.2.2.2.2[x]? with
          | some (some arr) => if arr.length < 100 then (if c = arr.length then some ⟨M.1, M.2.1, M.2.2.1.set κ (c + 1), M.2.2.2.1.set κ (M.2.2.2.2.length + 2), M.2.2.2.2 ++ [some ((arr ++ List.replicate (c * 2 - arr.length) 0).set c t)]⟩
              else if c < arr.length then some ⟨M.1, M.2.1, M.2.2.1.set κ (c + 1), M.2.2.2.1, M.2.2.2.2.set x (some (arr.set c t))⟩ else none) else none
          | _ => none
        | _ => none) else none
    | none => none) else none
def runC (M : MM) (t : Nat) : List Nat → Option MM
  | [] => some M
  | κ :: ks => match addM M κ t with
    | some M' => runC M' (t + 1) ks
    | none => none
/-! how the keys grow -/
def Rel (L : KL) (κ : Nat) (k : Int32 × Int32) (L' : KL) : Prop := (κ < L.length ∧ L' = L ∧ ∃ p, L[κ]? = some (p, k)) ∨ (κ = L.length ∧ ∃ p, L' = L ++ [(p, k)])
def Gr (K : Nat → Int32 × Int32) : KL → Nat → List Nat → KL → Prop
  | L, _, [], L' => L' = L
  | L, i, κ :: ks, L' => ∃ L1, Rel L κ (K i) L1 ∧ Gr K L1 (i + 1) ks L'
theorem Rel.get {L L' : KL} {κ : Nat} {k : Int32 × Int32} (h : Rel L κ k L') : ∃ p, L'[κ]? = some (p, k) := by
  rcases h with ⟨-, rfl, h⟩ | ⟨rfl, p, rfl⟩
  · exact h
  · exact ⟨p, by simp⟩
theorem Rel.ext {L L' : KL} {κ : Nat} {k : Int32 × Int32} (h : Rel L κ k L') {i : Nat} {w : Nat × Int32 × Int32} (hi : L[i]? = some w) : L'[i]? = some w := by
  rcases h with ⟨-, rfl, -⟩ | ⟨rfl, p, rfl⟩
  · exact hi
  · rw [List.getElem?_append_left (List.getElem?_eq_some_iff.mp hi).1]; exact hi
theorem Gr.ext {K : Nat → Int32 × Int32} : ∀ {ks : List Nat} {L L' : KL} {i : Nat}, Gr K L i ks L' → ∀ {j : Nat} {w : Nat × Int32 × Int32}, L[j]? = some w → L'[j]? = some w
  | [], L, L', i, h, j, w, hw => by cases h; exact hw
  | κ :: ks, L, L', i, ⟨L1, h1, h2⟩, j, w, hw => h2.ext (h1.ext hw)
theorem Gr.get {K : Nat → Int32 × Int32} : ∀ {ks : List Nat} {L L' : KL} {i : Nat}, Gr K L i ks L' → ∀ {j κ : Nat}, ks[j]? = some κ → ∃ p, L'[κ]? = some (p, K (i + j))
  | [], L, L', i, h, j, κ, hk => by simp at hk
  | κ' :: ks, L, L', i, ⟨L1, h1, h2⟩, 0, κ, hk => by
    cases hk
    obtain ⟨p, hp⟩ := h1.get
    exact ⟨p, h2.ext hp⟩
  | κ' :: ks, L, L', i, ⟨L1, h1, h2⟩, j + 1, κ, hk => by
    have := h2.get (j := j) (κ := κ) hk
    rwa [show i + 1 + j = i + (j + 1) by omega] at this
theorem Gr.app {K : Nat → Int32 × Int32} : ∀ {ks ks' : List Nat} {L L1 L' : KL} {i : Nat}, Gr K L i ks L1 → Gr K L1 (i + ks.length) ks' L' → Gr K L i (ks ++ ks') L'
  | [], ks', L, L1, L', i, h, h' => by cases h; exact h'
  | κ :: ks, ks', L, L1, L', i, ⟨L2, h1, h2⟩, h' => ⟨L2, h1, h2.app (by rwa [show i + 1 + ks.length = i + (κ :: ks).length by simp only [List.length_cons]; omega])⟩
/-- all ways in which the next m keys may be numbered, n being there -/
def gen : Nat → Nat → List (List Nat)
  | 0, _ => [[]]
  | m + 1, n => (List.range (n + 1)).flatMap fun κ => (gen m (if κ = n then n + 1 else n)).map fun ks => κ :: ks
theorem Gr.ingen {K : Nat → Int32 × Int32} : ∀ {ks : List Nat} {L L' : KL} {i : Nat}, Gr K L i ks L' → ks ∈ gen ks.length L.length
  | [], L, L', i, h => by simp [gen]
  | κ :: ks, L, L', i, ⟨L1, h1, h2⟩ => by
    simp only [List.length_cons, gen, List.mem_flatMap, List.mem_range, List.mem_map]
    have ih := h2.ingen
    rcases h1 with ⟨hl, rfl, -⟩ | ⟨rfl, p, rfl⟩
    · exact ⟨κ, by omega, ks, by rw [if_neg (by omega)]; exact ih, rfl⟩
    · exact ⟨L.length, by omega, ks, by rw [if_pos rfl]; simpa using ih, rfl⟩
theorem Gr.len {K : Nat → Int32 × Int32} : ∀ {ks : List Nat} {L L' : KL} {i : Nat}, Gr K L i ks L' → L'.length ≤ L.length + ks.length
  | [], L, L', i, h => by cases h; simp
  | κ :: ks, L, L', i, ⟨L1, h1, h2⟩ => by
    have ih := h2.len
    rcases h1 with ⟨hl, rfl, -⟩ | ⟨rfl, p, rfl⟩
    · simp only [List.length_cons]; omega
    · simp only [List.length_cons, List.length_append, List.length_nil] at ih ⊢; omega
/-! small facts on lists -/
theorem nv_get {xs : List Nat} {k c : Nat} (h : xs[k]? = some c) : (xs.map nv)[k]? = some (.int (Int32.ofNat c)) := by rw [List.getElem?_map, h]; rfl
theorem tv_get {xs : List Nat} {k c : Nat} (h : xs[k]? = some (c + 2)) : (xs.map tv)[k]? = some (.ref (c + 22)) := by rw [List.getElem?_map, h]; rfl
theorem cm_get {T : TM} {k : Nat} {xs : List Nat} (h : T[k]? = some (some xs)) : (T.map cm)[k]? = some (0, xs.map nv) := by rw [List.getElem?_map, h]; rfl
theorem nv_set (xs : List Nat) (k x : Nat) : (xs.map nv).set k (.int (Int32.ofNat x)) = (xs.set k x).map nv := by rw [List.map_set]; rfl
theorem tv_set (xs : List Nat) (k x : Nat) : (xs.map tv).set k (.ref (x + 22)) = (xs.set k (x + 2)).map tv := by rw [List.map_set]; rfl
theorem tv_set0 (xs : List Nat) (k : Nat) : (xs.map tv).set k (.ref 0) = (xs.set k 1).map tv := by rw [List.map_set]; rfl
theorem cm_set (T : TM) (k : Nat) (xs : List Nat) : (T.map cm).set k (0, xs.map nv) = (T.set k (some xs)).map cm := by rw [List.map_set]; rfl
theorem cm_app (T : TM) (xs : List Nat) : T.map cm ++ [(0, xs.map nv)] = (T ++ [some xs]).map cm := by rw [List.map_append]; rfl
theorem nv_rep (m : Nat) : List.replicate m (Value.int 0) = (List.replicate m 0).map nv := by rw [List.map_replicate]; rfl
theorem nv_fits (xs : List Nat) : (xs.map nv).all (fits .int) = true := by rw [List.all_eq_true]; intro v hv; obtain ⟨y, -, rfl⟩ := List.mem_map.mp hv; rfl
theorem ar2' : ∀ p : Fin 16, ¬ (Int32.ofNat p.1 * 2 + 0) < 0 ∧ (Int32.ofNat p.1 * 2 + 0).toNatClampNeg = 2 * p.1 ∧ ¬ (Int32.ofNat p.1 * 2 + 1) < 0 ∧ (Int32.ofNat p.1 * 2 + 1).toNatClampNeg = 2 * p.1 + 1 := by decide +kernel
theorem ar2 {p : Nat} (hp : p < 16) : ¬ (Int32.ofNat p * 2 + 0) < 0 ∧ (Int32.ofNat p * 2 + 0).toNatClampNeg = 2 * p ∧ ¬ (Int32.ofNat p * 2 + 1) < 0 ∧ (Int32.ofNat p * 2 + 1).toNatClampNeg = 2 * p + 1 := ar2' ⟨p, hp⟩
theorem look_false (Q : QQ) (sz : Int32) (RC SC : List Value) (f : Nat → Int32) (nn : Int32) (FT CN TU : List Value) (T : MH) (a : Int32) (r : Nat) (hr : (HR false Q sz RC SC (tab false f) nn FT CN TU T)[r]? = some (0, (kl false a 0).map .int)) {L : KL} (hI : Inv false f L) (hL : L.length < 16) : ∃ p, p < 16 ∧ Eval D 32 [.ref 13, .ref r, .int 0, .int (hs (kl false a 0))] (HR false Q sz RC SC (tab false f) nn FT CN TU T) (some (.int (Int32.ofNat p * 2)), (HR false Q sz RC SC (tab false f) nn FT CN TU T)) ∧ ((∃ κ : Nat, κ < L.length ∧ L[κ]? = some (p, a, 0) ∧ f (2 * p) = Int32.ofNat (κ + 1)) ∨ (f (2 * p) = 0 ∧ (∀ i q : Nat, L[i]? ≠ some (q, a, (0 : Int32))) ∧ Inv false (ins false f p (L.length + 1) a 0) (L ++ [(p, a, 0)]))) := by
  have hb : false = false → (0 : Int32) = 0 := fun _ => rfl
  obtain ⟨j, h1, h2, hE⟩ := evSlot_false Q sz RC SC f nn FT CN TU T a 0 r hr hI hL
  refine ⟨_, Nat.mod_lt _ (by decide), hE, ?_⟩
  rcases found hI hL hb h1 h2 with ⟨i, hi⟩ | ⟨h0, hn, hp⟩
  · exact Or.inl ⟨i, (List.getElem?_eq_some_iff.mp hi).1, hi, (hI.1 _ _ _ _ hi).2.1⟩
  · exact Or.inr ⟨h0, hn, inv_add hI hL hb h0 hn hp⟩
theorem look_true (Q : QQ) (sz : Int32) (RC SC : List Value) (f : Nat → Int32) (nn : Int32) (FT CN TU : List Value) (T : MH) (a b : Int32) (r : Nat) (hr : (HR true Q sz RC SC (tab true f) nn FT CN TU T)[r]? = some (0, (kl true a b).map .int)) {L : KL} (hI : Inv true f L) (hL : L.length < 16) : ∃ p, p < 16 ∧ Eval D 32 [.ref 13, .ref r, .int 0, .int (hs (kl true a b))] (HR true Q sz RC SC (tab true f) nn FT CN TU T) (some (.int (Int32.ofNat p * 3)), (HR true Q sz RC SC (tab true f) nn FT CN TU T)) ∧ ((∃ κ : Nat, κ < L.length ∧ L[κ]? = some (p, a, b) ∧ f (3 * p) = Int32.ofNat (κ + 1)) ∨ (f (3 * p) = 0 ∧ (∀ i q : Nat, L[i]? ≠ some (q, a, (b : Int32))) ∧ Inv true (ins true f p (L.length + 1) a b) (L ++ [(p, a, b)]))) := by
  have hb : true = false → (b : Int32) = 0 := fun h => by cases h
  obtain ⟨j, h1, h2, hE⟩ := evSlot_true Q sz RC SC f nn FT CN TU T a b r hr hI hL
  refine ⟨_, Nat.mod_lt _ (by decide), hE, ?_⟩
  rcases found hI hL hb h1 h2 with ⟨i, hi⟩ | ⟨h0, hn, hp⟩
  · exact Or.inl ⟨i, (List.getElem?_eq_some_iff.mp hi).1, hi, (hI.1 _ _ _ _ hi).2.1⟩
  · exact Or.inr ⟨h0, hn, inv_add hI hL hb h0 hn hp⟩
def okA (sp : Nat) (s : A1) : Prop := s.2.1.length = 8 ∧ s.2.2.1.length = 8 ∧ s.2.2.2.1.length = 8 ∧ s.2.2.2.2.length = sp
theorem fA_ok {sp : Nat} {s s' : A1} {κ i : Nat} (h : okA sp s) (hf : fA s κ i = some s') : okA sp s' := by
  simp only [fA] at hf
  split at hf
  · split at hf
    · split at hf
      · cases hf; simpa [okA] using h
      · cases hf
    · split at hf
      · cases hf; simpa [okA] using h
      · cases hf
  · cases hf
theorem fA_n {s s' : A1} {κ i : Nat} (hf : fA s κ i = some s') : s'.1 = if κ = s.1 then s.1 + 1 else s.1 := by
  simp only [fA] at hf
  split at hf
  · split at hf
    · rename_i h
      split at hf
      · cases hf; rw [if_pos h]
      · cases hf
    · rename_i h
      split at hf
      · cases hf; rw [if_neg h]
      · cases hf
  · cases hf
theorem turnA (Q : QQ) (sz : Int32) (RC : List Value) (v : Nat → Int32) (f : Nat → Int32) (s : A1) (i sp : Nat) (s0 : Value) (L : KL) (hv : RC[2 * i]? = some (.int (v i))) (hi : i < sp) (hsp : sp ≤ 5) (hok : okA sp s) (hI : Inv false f L) (hn : L.length = s.1) (hL : L.length < 8) (x4 x5 : Slot) (h4 : x4 = .unset ∨ ∃ z : Int32, x4 = .val (.int z)) (h5 : x5 = .unset ∨ ∃ z : Int32, x5 = .val (.int z)) :
    ∃ κ f' L' s', Inv false f' L' ∧ Rel L κ (v i, 0) L' ∧ L'.length = (if κ = L.length then L.length + 1 else L.length) ∧ fA s κ i = some s' ∧ ∃ z4 z5 : Int32, ∀ w, Go D c18 (6, [.val (.ref 13), .val (.int (Int32.ofNat sp)), .val (.ref 22), .val (.int (Int32.ofNat (i + 1))), .val (.int z4), .val (.int z5)], [], (HR false Q sz RC [.int (v i)] (tab false f') (Int32.ofNat s'.1) (s'.2.1.map nv) (s'.2.2.1.map nv) (s'.2.2.2.1.map tv) [(0, s'.2.2.2.2.map nv)])) w → Go D c18 (6, [.val (.ref 13), .val (.int (Int32.ofNat sp)), .val (.ref 22), .val (.int (Int32.ofNat i)), x4, x5], [], (HR false Q sz RC [s0] (tab false f) (Int32.ofNat s.1) (s.2.1.map nv) (s.2.2.1.map nv) (s.2.2.2.1.map tv) [(0, s.2.2.2.2.map nv)])) w := by
  obtain ⟨g0, e0, -, -⟩ := ar2 (show i < 16 by omega)
  have hv' : RC[(Int32.ofNat i * 2 + 0).toNatClampNeg]? = some (.int (v i)) := by rw [e0]; exact hv
  obtain ⟨p, hp, hE, hc⟩ := look_false Q sz RC [.int (v i)] f (Int32.ofNat s.1) (s.2.1.map nv) (s.2.2.1.map nv) (s.2.2.2.1.map tv) [(0, s.2.2.2.2.map nv)] (v i) 19 rfl hI (by omega)
  obtain ⟨ge, ee, -⟩ := ar_false hp
  have hx : (tab false f)[(Int32.ofNat p * 2).toNatClampNeg]? = some (.int (f (2 * p))) := by rw [ee]; exact tab_get (by simp only [st]; omega)
  have hlt : if_icmp.holds .ge (Int32.ofNat i) (Int32.ofNat sp) = false := (i_ge (by omega) (by omega)).trans (decide_eq_false (by omega))
  have hiK : i < s.2.2.2.2.length := by rw [hok.2.2.2]; exact hi
  have hd := fun (w : MR) => h18_false Q sz RC (tab false f) (Int32.ofNat s.1) (s.2.1.map nv) (s.2.2.1.map nv) (s.2.2.2.1.map tv) [(0, s.2.2.2.2.map nv)] (Int32.ofNat i) (v i) 0 (Int32.ofNat p * 2) (f (2 * p)) s0 g0 hv' hE ge hx (Int32.ofNat sp) x4 x5 h4 h5 hlt (w := w)
  rcases hc with ⟨κ, hκ, hk, hf⟩ | ⟨hf, hnew, hI'⟩
  · have hcl : κ < s.2.2.1.length := by rw [hok.2.1]; omega
    have hC : s.2.2.1[κ]? = some s.2.2.1[κ] := List.getElem?_eq_getElem hcl
    refine ⟨κ, f, L, ⟨s.1, s.2.1, s.2.2.1.set κ (s.2.2.1[κ] + 1), s.2.2.2.1, s.2.2.2.2.set i κ⟩, hI, Or.inl ⟨hκ, rfl, p, hk⟩, by rw [if_neg (by omega)], by simp only [fA, if_pos hiK, if_neg (show ¬ κ = s.1 by omega), hC], Int32.ofNat p * 2, (Int32.ofNat κ), fun w hg => hd w ?_⟩
    rw [hf, on_pred]
    refine old18 Q sz RC [.int (v i)] (tab false f) (Int32.ofNat s.1) (s.2.1.map nv) (s.2.2.1.map nv) (s.2.2.2.1.map tv) [] (s.2.2.2.2.map nv) i κ s.2.2.1[κ] (Int32.ofNat p * 2) (Int32.ofNat sp) (nv_get hC) (by rw [List.length_map]; exact hiK) (by omega) (by omega) ?_
    rw [nv_set, nv_set]
    exact hg
  · refine ⟨L.length, _, _, ⟨s.1 + 1, s.2.1.set s.1 i, s.2.2.1.set s.1 1, s.2.2.2.1.set s.1 1, s.2.2.2.2.set i s.1⟩, hI', Or.inr ⟨rfl, p, rfl⟩, by rw [if_pos rfl]; simp, by simp only [fA, if_pos hiK, hn, if_true, if_pos (show s.1 < 8 by omega)], Int32.ofNat p * 2, Int32.ofNat s.1, fun w hg => hd w ?_⟩
    rw [hf]
    rw [hn] at hg
    refine new18_false Q sz RC f s.1 (s.2.1.map nv) (s.2.2.1.map nv) (s.2.2.2.1.map tv) [] (s.2.2.2.2.map nv) p i hp (by omega) (v i) 0 (Int32.ofNat sp) (by rw [List.length_map]; exact hok.1) (by rw [List.length_map]; exact hok.2.1) (by rw [List.length_map]; exact hok.2.2.1) (by rw [List.length_map]; exact hiK) (by omega) ?_
    rw [nv_set, tv_set0, show (Value.int 1) = .int (Int32.ofNat 1) from rfl, nv_set, nv_set]
    exact hg
theorem loopA (Q : QQ) (sz : Int32) (RC : List Value) (v : Nat → Int32) (sp : Nat) (hsp : sp ≤ 5) (hv : ∀ i, i < sp → RC[2 * i]? = some (.int (v i))) : ∀ (m i : Nat) (f : Nat → Int32) (s : A1) (s0 : Value) (L : KL) (x4 x5 : Slot), i + m = sp → okA sp s → Inv false f L → L.length = s.1 → L.length + m < 8 → (x4 = .unset ∨ ∃ z : Int32, x4 = .val (.int z)) → (x5 = .unset ∨ ∃ z : Int32, x5 = .val (.int z)) →
    ∃ ks f' L' s', ks.length = m ∧ Inv false f' L' ∧ Gr (fun i => (v i, 0)) L i ks L' ∧ runA s i ks = some s' ∧ L'.length = s'.1 ∧ okA sp s' ∧ ∃ (sc : Value) (x4' x5' : Slot), (x4' = .unset ∨ ∃ z : Int32, x4' = .val (.int z)) ∧ (x5' = .unset ∨ ∃ z : Int32, x5' = .val (.int z)) ∧ ∀ w, Go D c18 (99, [.val (.ref 13), .val (.int (Int32.ofNat sp)), .val (.ref 22), .val (.int (Int32.ofNat sp)), x4', x5'], [], (HR false Q sz RC [sc] (tab false f') (Int32.ofNat s'.1) (s'.2.1.map nv) (s'.2.2.1.map nv) (s'.2.2.2.1.map tv) [(0, s'.2.2.2.2.map nv)])) w → Go D c18 (6, [.val (.ref 13), .val (.int (Int32.ofNat sp)), .val (.ref 22), .val (.int (Int32.ofNat i)), x4, x5], [], (HR false Q sz RC [s0] (tab false f) (Int32.ofNat s.1) (s.2.1.map nv) (s.2.2.1.map nv) (s.2.2.2.1.map tv) [(0, s.2.2.2.2.map nv)])) w
  | 0, i, f, s, s0, L, x4, x5, him, hok, hI, hn, hL, h4, h5 => by
    refine ⟨[], f, L, s, rfl, hI, rfl, rfl, hn, hok, s0, x4, x5, h4, h5, fun w hg => ?_⟩
    obtain rfl : i = sp := by omega
    iterate 2 (refine Go.step rfl (fun _ => rfl) ?_)
    refine Go.icmp rfl (b := true) ((i_ge (by omega) (by omega)).trans (decide_eq_true (Nat.le_refl _))) ?_
    exact hg
  | m + 1, i, f, s, s0, L, x4, x5, him, hok, hI, hn, hL, h4, h5 => by
    obtain ⟨κ, f1, L1, s1, hI1, hR, hl1, hs, z4, z5, hgo⟩ := turnA Q sz RC v f s i sp s0 L (hv i (by omega)) (by omega) hsp hok hI hn (by omega) x4 x5 h4 h5
    have hn1 : L1.length = s1.1 := by rw [hl1, fA_n hs, hn]
    obtain ⟨ks, f', L', s', k1, k2, k3, k4, q1, q2, sc, x4', x5', q3, q4, q5⟩ := loopA Q sz RC v sp hsp hv m (i + 1) f1 s1 (.int (v i)) L1 (.val (.int z4)) (.val (.int z5)) (by omega) (fA_ok hok hs) hI1 hn1 (by split at hl1 <;> omega) (Or.inr ⟨z4, rfl⟩) (Or.inr ⟨z5, rfl⟩)
    exact ⟨κ :: ks, f', L', s', by simp [k1], k2, ⟨L1, hR, k3⟩, by simp only [runA, hs]; exact k4, q1, q2, sc, x4', x5', q3, q4, fun w hg => hgo w (q5 w hg)⟩
theorem stB_go (Q : QQ) (sz : Int32) (RC SC SL : List Value) (nn : Int32) (FT : List Value) (CN : List Nat) (TU : List Nat) (T : TM) (TU' : List Nat) (T' : TM) (i κ g sp : Nat) (FL : List Nat) (hs : stB TU T κ g FL i = some (TU', T')) (hL : T[1]? = some (some FL)) (hg1 : FL[κ]? = some g) (hκ : κ < 1000) {w : MR} (hg : Go D c18 (117, [.val (.ref 13), .val (.int (Int32.ofNat sp)), .val (.ref 22), .val (.ref 23), .val (.int (Int32.ofNat (i + 1))), .val (.int (Int32.ofNat κ))], [], (HR false Q sz RC SC SL nn FT (CN.map nv) (TU'.map tv) (T'.map cm))) w) : Go D c18 (163, [.val (.ref 13), .val (.int (Int32.ofNat sp)), .val (.ref 22), .val (.ref 23), .val (.int (Int32.ofNat i)), .val (.int (Int32.ofNat κ))], [], (HR false Q sz RC SC SL nn FT (CN.map nv) (TU.map tv) (T.map cm))) w := by
  simp only [stB] at hs
  split at hs
  · rename_i x hU
    split at hs
    · rename_i arr hT
      split at hs
      · rename_i hc
        cases hs
        refine tail18 Q sz RC SC SL nn FT (CN.map nv) (TU.map tv) (T.map cm) i κ g x (Int32.ofNat sp) (FL.map nv) (arr.map nv) (tv_get hU) (cm_get hL) (nv_get hg1) hc.1 (cm_get hT) (by rw [List.length_map]; exact hc.2.1) hc.2.2 hκ ?_
        rw [nv_set, nv_set, cm_set, cm_set]
        exact hg
      · cases hs
    · cases hs
  · cases hs
theorem turnB (Q : QQ) (sz : Int32) (RC SC SL : List Value) (nn : Int32) (FT : List Value) (CN : List Nat) (TU : List Nat) (T : TM) (TU' : List Nat) (T' : TM) (i sp : Nat) (x5 : Slot) (h5 : x5 = .unset ∨ ∃ z : Int32, x5 = .val (.int z)) (hi : i < sp) (hsp : sp ≤ 5) (hs : fB CN TU T i = some (TU', T')) : ∃ z5 : Int32, ∀ w, Go D c18 (117, [.val (.ref 13), .val (.int (Int32.ofNat sp)), .val (.ref 22), .val (.ref 23), .val (.int (Int32.ofNat (i + 1))), .val (.int z5)], [], (HR false Q sz RC SC SL nn FT (CN.map nv) (TU'.map tv) (T'.map cm))) w → Go D c18 (117, [.val (.ref 13), .val (.int (Int32.ofNat sp)), .val (.ref 22), .val (.ref 23), .val (.int (Int32.ofNat i)), x5], [], (HR false Q sz RC SC SL nn FT (CN.map nv) (TU.map tv) (T.map cm))) w := by
  have hlt : if_icmp.holds .ge (Int32.ofNat i) (Int32.ofNat sp) = false := (i_ge (by omega) (by omega)).trans (decide_eq_false (by omega))
  simp only [fB] at hs
  split at hs
  · rename_i KT hK
    split at hs
    · rename_i κ hk
      split at hs
      · rename_i c hC
        split at hs
        · rename_i hb
          obtain ⟨b1, b2, b3, b4⟩ := hb
          refine ⟨(Int32.ofNat κ), fun w hg => head18 Q sz RC SC SL nn FT (CN.map nv) (TU.map tv) (T.map cm) i κ c (Int32.ofNat sp) x5 h5 (KT.map nv) (cm_get hK) (nv_get hk) (nv_get hC) hlt b4 b1 ?_⟩
          split at hs
          · rename_i hc
            cases hs
            exact skip18 Q sz RC SC SL nn FT (CN.map nv) (TU.map tv) (T.map cm) i κ c (Int32.ofNat sp) hc hg
          · rename_i hc
            split at hs
            · rename_i FL hL
              split at hs
              · rename_i g hg1
                split at hs
                · rename_i hg0
                  subst hg0
                  have hl1 : 1 < T.length := (List.getElem?_eq_some_iff.mp hL).1
                  refine first18 Q sz RC SC SL nn FT (CN.map nv) (TU.map tv) (T.map cm) i κ c (Int32.ofNat sp) (FL.map nv) (nv_get hC) (by rw [List.length_map]; exact b2) (by omega) b3 (cm_get hL) (nv_get hg1) b1 ?_
                  rw [nv_rep, cm_app, List.length_map, tv_set]
                  exact stB_go Q sz RC SC SL nn FT CN _ _ TU' T' i κ 0 sp FL hs (by rw [List.getElem?_append_left hl1]; exact hL) hg1 b1 hg
                · rename_i hg0
                  by_cases hbig : g < 1000
                  · refine more18 Q sz RC SC SL nn FT (CN.map nv) (TU.map tv) (T.map cm) i κ c g (Int32.ofNat sp) (FL.map nv) (by omega) b3 (cm_get hL) (nv_get hg1) b1 (by omega) hbig ?_
                    exact stB_go Q sz RC SC SL nn FT CN _ _ TU' T' i κ g sp FL hs hL hg1 b1 hg
                  · exfalso
                    simp only [stB] at hs
                    split at hs
                    · split at hs
                      · split at hs
                        · rename_i hq; exact hbig hq.2.2
                        · cases hs
                      · cases hs
                    · cases hs
              · cases hs
            · cases hs
        · cases hs
      · cases hs
    · cases hs
  · cases hs
theorem loopB (Q : QQ) (sz : Int32) (RC SC SL : List Value) (nn : Int32) (FT : List Value) (CN : List Nat) (sp : Nat) (hsp : sp ≤ 5) : ∀ (m i : Nat) (q q' : List Nat × TM) (x5 : Slot), i + m = sp → (x5 = .unset ∨ ∃ z : Int32, x5 = .val (.int z)) → runB CN m i q = some q' → Go D c18 (117, [.val (.ref 13), .val (.int (Int32.ofNat sp)), .val (.ref 22), .val (.ref 23), .val (.int (Int32.ofNat i)), x5], [], (HR false Q sz RC SC SL nn FT (CN.map nv) (q.1.map tv) (q.2.map cm))) (none, (HR false Q sz RC SC SL nn FT (CN.map nv) (q'.1.map tv) (q'.2.map cm)))
  | 0, i, q, q', x5, him, h5, hs => by
    cases hs
    obtain rfl : i = sp := by omega
    iterate 2 (refine Go.step rfl (fun _ => rfl) ?_)
    refine Go.icmp rfl (b := true) ((i_ge (by omega) (by omega)).trans (decide_eq_true (Nat.le_refl _))) ?_
    exact Go.retE rfl (fun _ => rfl) rfl
  | m + 1, i, q, q', x5, him, h5, hs => by
    simp only [runB] at hs
    split at hs
    · rename_i s' hf
      obtain ⟨z5, hgo⟩ := turnB Q sz RC SC SL nn FT CN q.1 q.2 s'.1 s'.2 i sp x5 h5 (by omega) hsp hf
      exact hgo _ (loopB Q sz RC SC SL nn FT CN sp hsp m (i + 1) s' q' _ (by omega) (Or.inr ⟨z5, rfl⟩) hs)
    · cases hs
def z8 : List Nat := [0, 0, 0, 0, 0, 0, 0, 0]
def fillM (sp : Nat) (ks : List Nat) : Option MM := match runA ⟨0, z8, z8, z8, List.replicate sp 0⟩ 0 ks with
  | some s => match runB s.2.2.1 sp 0 (s.2.2.2.1, [some s.2.2.2.2, some (List.replicate s.1 0)]) with
    | some q => some ⟨s.1, s.2.1, s.2.2.1, q.1, q.2⟩
    | none => none
  | none => none
theorem runA_len {sp : Nat} : ∀ (ks : List Nat) (s s' : A1) (i : Nat), okA sp s → runA s i ks = some s' → okA sp s'
  | [], s, s', i, h, hr => by cases hr; exact h
  | κ :: ks, s, s', i, h, hr => by
    simp only [runA] at hr
    split at hr
    · rename_i s1 hs
      exact runA_len ks s1 s' (i + 1) (fA_ok h hs) hr
    · cases hr
theorem evFill_false (Q : QQ) (sz : Int32) (RC : List Value) (v : Nat → Int32) (sp : Nat) (hsp : sp ≤ 5) (s0 : Value) (hv : ∀ i, i < sp → RC[2 * i]? = some (.int (v i))) :
    ∃ ks f' L', ks.length = sp ∧ Inv false f' L' ∧ Gr (fun i => (v i, 0)) [] 0 ks L' ∧ ∀ M, fillM sp ks = some M → L'.length = M.1 ∧ (M.2.1.length = 8 ∧ M.2.2.1.length = 8) ∧ ∃ sc : Value, Eval D 18 [.ref 13, .int (Int32.ofNat sp)] (HR false Q sz RC [s0] (List.replicate 32 (.int 0)) 0 (List.replicate 8 (.int 0)) (List.replicate 8 (.int 0)) (List.replicate 8 .null) []) (none, (HR false Q sz RC [sc] (tab false f') (Int32.ofNat M.1) (M.2.1.map nv) (M.2.2.1.map nv) (M.2.2.2.1.map tv) (M.2.2.2.2.map cm))) := by
  obtain ⟨ks, f', L', s', k1, k2, k3, k4, q1, q2, sc, x4', x5', q3, q4, q5⟩ := loopA Q sz RC v sp hsp hv sp 0 (fun _ => 0) ⟨0, z8, z8, z8, List.replicate sp 0⟩ s0 [] .unset .unset (by omega) ⟨rfl, rfl, rfl, by simp⟩ (inv0 false) rfl (by simp; omega) (Or.inl rfl) (Or.inl rfl)
  refine ⟨ks, f', L', k1, k2, k3, fun M hM => ?_⟩
  simp only [fillM, k4] at hM
  split at hM
  · rename_i q hq
    cases hM
    refine ⟨q1, ⟨q2.1, q2.2.1⟩, sc, Eval.intro2 monoD [.val (.ref 13), .val (.int (Int32.ofNat sp)), .unset, .unset, .unset, .unset] rfl (le_r rfl) rfl ?_⟩
    refine Go.step rfl (fun _ => rfl) ?_
    refine Go.newA (by omega) rfl ?_
    rw [hr_len, hr_app, nv_rep sp]
    iterate 3 (refine Go.step rfl (fun _ => rfl) ?_)
    refine q5 _ ?_
    iterate 2 (refine Go.step rfl (fun _ => rfl) ?_)
    refine Go.ifc rfl (b := true) rfl ?_
    iterate 2 (refine Go.step rfl (fun _ => rfl) ?_)
    refine Go.newA (by have := k3.len; simp at this; omega) rfl ?_
    rw [hr_len, hr_app, nv_rep s'.1]
    iterate 2 (refine Go.step rfl (fun _ => rfl) ?_)
    refine Go.ist rfl (mset4 q3) ?_
    exact loopB Q sz RC [sc] (tab false f') (Int32.ofNat s'.1) (s'.2.1.map nv) s'.2.2.1 sp hsp sp 0 (s'.2.2.2.1, [some s'.2.2.2.2, some (List.replicate s'.1 0)]) q x5' (by omega) q4 hq
  · cases hM
theorem addT (Q : QQ) (sz : Int32) (RC : List Value) (v : Nat → Int32) (f : Nat → Int32) (M : MM) (t : Nat) (s0 : Value) (L : KL) (hv : RC[2 * t]? = some (.int (v t))) (ht : t < 5) (hF : M.2.1.length = 8) (hC8 : M.2.2.1.length = 8) (hU : M.2.2.2.1.length = 8) (hI : Inv false f L) (hn : L.length = M.1) (hL : L.length < 8) :
    ∃ κ f' L', Inv false f' L' ∧ Rel L κ (v t, 0) L' ∧ L'.length = (if κ = L.length then L.length + 1 else L.length) ∧ ∀ M', addM M κ t = some M' → (M'.1 = (if κ = M.1 then M.1 + 1 else M.1) ∧ M'.2.1.length = 8 ∧ M'.2.2.1.length = 8 ∧ M'.2.2.2.1.length = 8) ∧ Eval D 27 [.ref 13, .int (Int32.ofNat t)] (HR false Q sz RC [s0] (tab false f) (Int32.ofNat M.1) (M.2.1.map nv) (M.2.2.1.map nv) (M.2.2.2.1.map tv) (M.2.2.2.2.map cm)) (none, (HR false Q sz RC [.int (v t)] (tab false f') (Int32.ofNat M'.1) (M'.2.1.map nv) (M'.2.2.1.map nv) (M'.2.2.2.1.map tv) (M'.2.2.2.2.map cm))) := by
  obtain ⟨g0, e0, -, -⟩ := ar2 (show t < 16 by omega)
  have hv' : RC[(Int32.ofNat t * 2 + 0).toNatClampNeg]? = some (.int (v t)) := by rw [e0]; exact hv
  obtain ⟨p, hp, hE, hc⟩ := look_false Q sz RC [.int (v t)] f (Int32.ofNat M.1) (M.2.1.map nv) (M.2.2.1.map nv) (M.2.2.2.1.map tv) (M.2.2.2.2.map cm) (v t) 19 rfl hI (by omega)
  obtain ⟨ge, ee, -⟩ := ar_false hp
  have hx : (tab false f)[(Int32.ofNat p * 2).toNatClampNeg]? = some (.int (f (2 * p))) := by rw [ee]; exact tab_get (by simp only [st]; omega)
  have hd := fun (w : MR) => h27_false Q sz RC (tab false f) (Int32.ofNat M.1) (M.2.1.map nv) (M.2.2.1.map nv) (M.2.2.2.1.map tv) (M.2.2.2.2.map cm) (Int32.ofNat t) (v t) 0 (Int32.ofNat p * 2) (f (2 * p)) s0 g0 hv' hE ge hx (w := w)
  rcases hc with ⟨κ, hκ, hk, hf⟩ | ⟨hf, hnew, hI'⟩
  · refine ⟨κ, f, L, hI, Or.inl ⟨hκ, rfl, p, hk⟩, by rw [if_neg (by omega)], fun M' hM' => ?_⟩
    have k2 : κ < 2 ^ 31 := by omega
    rw [hf, on_pred] at hd
    simp only [addM, if_neg (show ¬ κ = M.1 by omega)] at hM'
    rw [if_neg (show ¬ κ = M.1 by omega)]
    split at hM'
    · rename_i hb
      split at hM'
      · rename_i c hC
        split at hM'
        · rename_i hc1
          subst hc1
          split at hM'
          · rename_i x hFx
            cases hM'
            refine ⟨⟨rfl, hF, by simpa using hC8, by simpa using hU⟩, Eval.intro2 monoD [.val (.ref 13), .val (.int (Int32.ofNat t)), .unset, .unset] rfl (le_r rfl) rfl (hd _ ?_)⟩
            iterate 1 (refine Go.step rfl (fun _ => rfl) ?_)
            refine Go.ifc rfl (b := true) (z_geN k2) ?_
            have h := old1 Q sz RC [.int (v t)] (tab false f) (Int32.ofNat M.1) (M.2.1.map nv) (M.2.2.1.map nv) (M.2.2.2.1.map tv) (M.2.2.2.2.map cm) κ x t (Int32.ofNat p * 2) (nv_get hC) (nv_get hFx) (by rw [List.length_map]; exact hb.2) hb.1
            rw [nv_set, List.length_map, tv_set, show [Value.int (Int32.ofNat x), .int (Int32.ofNat t), .int 0, .int 0] = [x, t, 0, 0].map nv from rfl, cm_app] at h
            exact h
          · cases hM'
        · split at hM'
          · rename_i hc2
            split at hM'
            · rename_i x hUx
              split at hM'
              · rename_i arr hT
                split at hM'
                · rename_i ha
                  split at hM'
                  · rename_i hfull
                    cases hM'
                    refine ⟨⟨rfl, hF, by simpa using hC8, by simpa using hU⟩, Eval.intro2 monoD [.val (.ref 13), .val (.int (Int32.ofNat t)), .unset, .unset] rfl (le_r rfl) rfl (hd _ ?_)⟩
                    iterate 1 (refine Go.step rfl (fun _ => rfl) ?_)
                    refine Go.ifc rfl (b := true) (z_geN k2) ?_
                    have h := old2 Q sz RC [.int (v t)] (tab false f) (Int32.ofNat M.1) (M.2.1.map nv) (M.2.2.1.map nv) (M.2.2.2.1.map tv) (M.2.2.2.2.map cm) κ c x t (Int32.ofNat p * 2) (arr.map nv) (nv_fits arr) (nv_get hC) (tv_get hUx) (cm_get hT) (by rw [List.length_map]; exact hfull) hc2 (by rw [List.length_map]; exact ha) hb.1
                    rw [nv_set, List.length_map, tv_set, nv_rep, List.length_map, ← List.map_append, nv_set, cm_app] at h
                    exact h
                  · split at hM'
                    · rename_i hroom
                      cases hM'
                      refine ⟨⟨rfl, hF, by simpa using hC8, hU⟩, Eval.intro2 monoD [.val (.ref 13), .val (.int (Int32.ofNat t)), .unset, .unset] rfl (le_r rfl) rfl (hd _ ?_)⟩
                      iterate 1 (refine Go.step rfl (fun _ => rfl) ?_)
                      refine Go.ifc rfl (b := true) (z_geN k2) ?_
                      have h := old3 Q sz RC [.int (v t)] (tab false f) (Int32.ofNat M.1) (M.2.1.map nv) (M.2.2.1.map nv) (M.2.2.2.1.map tv) (M.2.2.2.2.map cm) κ c x t (Int32.ofNat p * 2) (arr.map nv) (nv_get hC) (tv_get hUx) (cm_get hT) (by rw [List.length_map]; exact hroom) hc2 (by rw [List.length_map]; exact ha) hb.1
                      rw [nv_set, nv_set, cm_set] at h
                      exact h
                    · cases hM'
                · cases hM'
              · cases hM'
            · cases hM'
          · cases hM'
      · cases hM'
    · cases hM'
  · refine ⟨L.length, _, _, hI', Or.inr ⟨rfl, p, rfl⟩, by rw [if_pos rfl]; simp, fun M' hM' => ?_⟩
    simp only [addM, hn, if_true, if_pos (show M.1 < 8 by omega)] at hM'
    cases hM'
    refine ⟨⟨by rw [if_pos hn], by simpa using hF, by simpa using hC8, by simpa using hU⟩, Eval.intro2 monoD [.val (.ref 13), .val (.int (Int32.ofNat t)), .unset, .unset] rfl (le_r rfl) rfl (hd _ ?_)⟩
    rw [hf]
    have h := new27_false Q sz RC f M.1 (M.2.1.map nv) (M.2.2.1.map nv) (M.2.2.2.1.map tv) (M.2.2.2.2.map cm) p hp (by omega) (Int32.ofNat t) (v t) 0 (by rw [List.length_map]; exact hF) (by rw [List.length_map]; exact hC8) (by rw [List.length_map]; exact hU)
    rw [nv_set, show (Value.int 1) = .int (Int32.ofNat 1) from rfl, nv_set, tv_set0, ← hn] at h
    rw [← hn]
    exact h
theorem evAC (y0 y1 y2 y3 y4 y5 y6 y7 : Nat × List Value) : Eval D 6 [.ref 8] [y0, y1, y2, y3, y4, y5, y6, y7, (6, [.int 0, .null, .int 0])] (none, [y0, y1, y2, y3, y4, y5, y6, y7, (6, [.int 0, .null, .int 0])]) := by
  refine Eval.intro2 monoD [.val (.ref 8)] rfl (le_r rfl) rfl ?_
  iterate 2 (refine Go.step rfl (fun _ => rfl) ?_)
  exact Go.retE rfl (fun _ => rfl) rfl
theorem evAbL (y0 y1 y2 y3 y4 y5 y6 y7 : Nat × List Value) : Eval D 5 [.ref 8] [y0, y1, y2, y3, y4, y5, y6, y7, (6, [.int 0, .null, .int 0])] (none, [y0, y1, y2, y3, y4, y5, y6, y7, (6, [.int 0, .null, .int 0])]) := by
  refine Eval.intro2 monoD [.val (.ref 8)] rfl (le_r rfl) rfl ?_
  iterate 1 (refine Go.step rfl (fun _ => rfl) ?_)
  refine Go.rcall monoD mono5 rfl (evAC y0 y1 y2 y3 y4 y5 y6 y7) rfl rfl rfl rfl (le_r rfl) ?_
  iterate 3 (refine Go.step rfl (fun _ => rfl) ?_)
  exact Go.retE rfl (fun _ => rfl) rfl
theorem evAL (y0 y1 y2 y3 y4 y5 y6 y7 : Nat × List Value) : Eval D 4 [.ref 8] [y0, y1, y2, y3, y4, y5, y6, y7, (6, [.int 0, .null, .int 0])] (none, [y0, y1, y2, y3, y4, y5, y6, y7, (6, [.int 0, .ref 1, .int 0])]) := by
  refine Eval.intro2 monoD [.val (.ref 8)] rfl (le_r rfl) rfl ?_
  iterate 1 (refine Go.step rfl (fun _ => rfl) ?_)
  refine Go.rcall monoD mono4 rfl (evAbL y0 y1 y2 y3 y4 y5 y6 y7) rfl rfl rfl rfl (le_r rfl) ?_
  iterate 3 (refine Go.step rfl (fun _ => rfl) ?_)
  exact Go.retE rfl (fun _ => rfl) rfl
theorem evMax (H : MH) : Eval D 7 [.int 16, .int 32] H (some (.int 32), H) := by
  refine Eval.intro2 monoD [.val (.int 16), .val (.int 32)] rfl (le_r rfl) rfl ?_
  iterate 4 (refine Go.step rfl (fun _ => rfl) ?_)
  exact Go.retE rfl (fun _ => rfl) rfl
theorem evMax2 (H : MH) : Eval D 7 [.int 10, .int 1] H (some (.int 10), H) := by
  refine Eval.intro2 monoD [.val (.int 10), .val (.int 1)] rfl (le_r rfl) rfl ?_
  iterate 5 (refine Go.step rfl (fun _ => rfl) ?_)
  exact Go.retE rfl (fun _ => rfl) rfl
def H12 (c2 c3 c4 c5 c6 : Nat × List Value) (RC : List Value) (sz : Int32) : MH := [(0, []), (11, []), c2, c3, c4, c5, c6, (5, [.ref 8, .ref 9, .int 2, .ref 10, .ref 11, .int sz, .null]), (6, [.int 0, .ref 1, .int 0]), (3, []), (0, RC), (0, [.int 0, .int 1])]
theorem evRel (c2 c3 c4 c5 c6 : Nat × List Value) : Eval D 3 [.ref 7, .int 2] [(0, []), (11, []), c2, c3, c4, c5, c6, (5, [.null, .null, .int 0, .null, .null, .int 0, .null])] (none, H12 c2 c3 c4 c5 c6 (List.replicate 32 (.int 0)) 0) := by
  refine Eval.intro2 monoD [.val (.ref 7), .val (.int 2), .unset] rfl (le_r rfl) rfl ?_
  iterate 3 (refine Go.step rfl (fun _ => rfl) ?_)
  refine Go.step rfl (fun _ => rfl) ?_
  refine Go.to (st' := (8, _, [.ref 8, .ref 7], [(0, []), (11, []), c2, c3, c4, c5, c6, (5, [.null, .null, .int 0, .null, .null, .int 0, .null]), (6, [.int 0, .null, .int 0])])) rfl ?_
  iterate 1 (refine Go.step rfl (fun _ => rfl) ?_)
  refine Go.rcall monoD mono3 rfl (evAL (0, []) (11, []) c2 c3 c4 c5 c6 (5, [.null, .null, .int 0, .null, .null, .int 0, .null])) rfl rfl rfl rfl (le_r rfl) ?_
  refine Go.step rfl (fun _ => rfl) ?_
  refine Go.to (st' := (15, _, [], [(0, []), (11, []), c2, c3, c4, c5, c6, (5, [.ref 8, .null, .int 0, .null, .null, .int 0, .null]), (6, [.int 0, .ref 1, .int 0])])) rfl ?_
  iterate 2 (refine Go.step rfl (fun _ => rfl) ?_)
  refine Go.step rfl (fun _ => rfl) ?_
  refine Go.to (st' := (19, _, [.ref 9, .ref 7], [(0, []), (11, []), c2, c3, c4, c5, c6, (5, [.ref 8, .null, .int 0, .null, .null, .int 0, .null]), (6, [.int 0, .ref 1, .int 0]), (3, [])])) rfl ?_
  refine Go.step rfl (fun _ => rfl) ?_
  refine Go.to (st' := (22, _, [], [(0, []), (11, []), c2, c3, c4, c5, c6, (5, [.ref 8, .ref 9, .int 0, .null, .null, .int 0, .null]), (6, [.int 0, .ref 1, .int 0]), (3, [])])) rfl ?_
  iterate 2 (refine Go.step rfl (fun _ => rfl) ?_)
  refine Go.step rfl (fun _ => rfl) ?_
  refine Go.to (st' := (27, _, [], [(0, []), (11, []), c2, c3, c4, c5, c6, (5, [.ref 8, .ref 9, .int 2, .null, .null, .int 0, .null]), (6, [.int 0, .ref 1, .int 0]), (3, [])])) rfl ?_
  iterate 5 (refine Go.step rfl (fun _ => rfl) ?_)
  refine Go.scall monoD mono3 rfl (evMax _) rfl rfl (le_r rfl) (le_r rfl) ?_
  refine Go.step rfl (fun _ => rfl) ?_
  refine Go.to (st' := (39, _, [.ref 10, .ref 7], [(0, []), (11, []), c2, c3, c4, c5, c6, (5, [.ref 8, .ref 9, .int 2, .null, .null, .int 0, .null]), (6, [.int 0, .ref 1, .int 0]), (3, []), (0, List.replicate 32 (.int 0))])) rfl ?_
  refine Go.step rfl (fun _ => rfl) ?_
  refine Go.to (st' := (42, _, [], [(0, []), (11, []), c2, c3, c4, c5, c6, (5, [.ref 8, .ref 9, .int 2, .ref 10, .null, .int 0, .null]), (6, [.int 0, .ref 1, .int 0]), (3, []), (0, List.replicate 32 (.int 0))])) rfl ?_
  iterate 2 (refine Go.step rfl (fun _ => rfl) ?_)
  refine Go.step rfl (fun _ => rfl) ?_
  refine Go.to (st' := (46, _, [.ref 11, .ref 7], [(0, []), (11, []), c2, c3, c4, c5, c6, (5, [.ref 8, .ref 9, .int 2, .ref 10, .null, .int 0, .null]), (6, [.int 0, .ref 1, .int 0]), (3, []), (0, List.replicate 32 (.int 0)), (0, [.int 0, .int 0])])) rfl ?_
  refine Go.step rfl (fun _ => rfl) ?_
  refine Go.to (st' := (49, _, [], [(0, []), (11, []), c2, c3, c4, c5, c6, (5, [.ref 8, .ref 9, .int 2, .ref 10, .ref 11, .int 0, .null]), (6, [.int 0, .ref 1, .int 0]), (3, []), (0, List.replicate 32 (.int 0)), (0, [.int 0, .int 0])])) rfl ?_
  iterate 9 (refine Go.step rfl (fun _ => rfl) ?_)
  refine Go.step rfl (fun _ => rfl) ?_
  refine Go.to (st' := (63, _, [], [(0, []), (11, []), c2, c3, c4, c5, c6, (5, [.ref 8, .ref 9, .int 2, .ref 10, .ref 11, .int 0, .null]), (6, [.int 0, .ref 1, .int 0]), (3, []), (0, List.replicate 32 (.int 0)), (0, [.int 0, .int 0])])) rfl ?_
  iterate 9 (refine Go.step rfl (fun _ => rfl) ?_)
  refine Go.step rfl (fun _ => rfl) ?_
  refine Go.to (st' := (63, _, [], [(0, []), (11, []), c2, c3, c4, c5, c6, (5, [.ref 8, .ref 9, .int 2, .ref 10, .ref 11, .int 0, .null]), (6, [.int 0, .ref 1, .int 0]), (3, []), (0, List.replicate 32 (.int 0)), (0, [.int 0, .int 1])])) rfl ?_
  iterate 5 (refine Go.step rfl (fun _ => rfl) ?_)
  exact Go.retE rfl (fun _ => rfl) rfl
def VVl (v : Nat → Int32) : List Value := [.int (v 0), .int (v 1), .int (v 2), .int (v 3), .int (v 4)]
def ALl (v : Nat → Int32) : List Value := [.int (v 0), .int 0, .int (v 1), .int 1, .int (v 2), .int 2, .int (v 3), .int 3, .int (v 4), .int 4]
def RCl (v : Nat → Int32) : Nat → List Value
  | 0 => [.int 0, .int 0, .int 0, .int 0, .int 0, .int 0, .int 0, .int 0, .int 0, .int 0, .int 0, .int 0, .int 0, .int 0, .int 0, .int 0, .int 0, .int 0, .int 0, .int 0, .int 0, .int 0, .int 0, .int 0, .int 0, .int 0, .int 0, .int 0, .int 0, .int 0, .int 0, .int 0]
  | 1 => [.int (v 0), .int 0, .int 0, .int 0, .int 0, .int 0, .int 0, .int 0, .int 0, .int 0, .int 0, .int 0, .int 0, .int 0, .int 0, .int 0, .int 0, .int 0, .int 0, .int 0, .int 0, .int 0, .int 0, .int 0, .int 0, .int 0, .int 0, .int 0, .int 0, .int 0, .int 0, .int 0]
  | 2 => [.int (v 0), .int 0, .int (v 1), .int 1, .int 0, .int 0, .int 0, .int 0, .int 0, .int 0, .int 0, .int 0, .int 0, .int 0, .int 0, .int 0, .int 0, .int 0, .int 0, .int 0, .int 0, .int 0, .int 0, .int 0, .int 0, .int 0, .int 0, .int 0, .int 0, .int 0, .int 0, .int 0]
  | 3 => [.int (v 0), .int 0, .int (v 1), .int 1, .int (v 2), .int 2, .int 0, .int 0, .int 0, .int 0, .int 0, .int 0, .int 0, .int 0, .int 0, .int 0, .int 0, .int 0, .int 0, .int 0, .int 0, .int 0, .int 0, .int 0, .int 0, .int 0, .int 0, .int 0, .int 0, .int 0, .int 0, .int 0]
  | 4 => [.int (v 0), .int 0, .int (v 1), .int 1, .int (v 2), .int 2, .int (v 3), .int 3, .int 0, .int 0, .int 0, .int 0, .int 0, .int 0, .int 0, .int 0, .int 0, .int 0, .int 0, .int 0, .int 0, .int 0, .int 0, .int 0, .int 0, .int 0, .int 0, .int 0, .int 0, .int 0, .int 0, .int 0]
  | 5 => [.int (v 0), .int 0, .int (v 1), .int 1, .int (v 2), .int 2, .int (v 3), .int 3, .int (v 4), .int 4, .int 0, .int 0, .int 0, .int 0, .int 0, .int 0, .int 0, .int 0, .int 0, .int 0, .int 0, .int 0, .int 0, .int 0, .int 0, .int 0, .int 0, .int 0, .int 0, .int 0, .int 0, .int 0]
  | _ => []
def REl (v : Nat → Int32) : Nat → List Value
  | 0 => [.int (v 0), .int 0, .int (v 1), .int 1, .int (v 2), .int 2, .int (v 3), .int 3, .int (v 4), .int 4]
  | 1 => [.int (v 1), .int 1, .int (v 2), .int 2, .int (v 3), .int 3, .int (v 4), .int 4, .int 0, .int 0]
  | 2 => [.int (v 2), .int 2, .int (v 3), .int 3, .int (v 4), .int 4, .int 0, .int 0, .int 0, .int 0]
  | 3 => [.int (v 3), .int 3, .int (v 4), .int 4, .int 0, .int 0, .int 0, .int 0, .int 0, .int 0]
  | 4 => [.int (v 4), .int 4, .int 0, .int 0, .int 0, .int 0, .int 0, .int 0, .int 0, .int 0]
  | 5 => [.int 0, .int 0, .int 0, .int 0, .int 0, .int 0, .int 0, .int 0, .int 0, .int 0]
  | _ => []
theorem mkRoom_0 (v : Nat → Int32) (c2 c4 c5 c6 : Nat × List Value) : Eval D 9 [.ref 7, .int (Int32.ofNat 0)] (H12 c2 (0, ALl v) c4 c5 c6 (List.replicate 32 (.int 0)) 0) (none, (H12 c2 (0, ALl v) c4 c5 c6 (List.replicate 32 (.int 0)) 0)) := by
  refine Eval.intro2 monoD [.val (.ref 7), .val (.int (Int32.ofNat 0)), .unset] rfl (le_r rfl) rfl ?_
  iterate 13 (refine Go.step rfl (fun _ => rfl) ?_)
  exact Go.retE rfl (fun _ => rfl) rfl
theorem size_0 (v : Nat → Int32) (c2 c4 c5 c6 : Nat × List Value) : Eval D 11 [.ref 8] (H12 c2 (0, ALl v) c4 c5 c6 (RCl v 0) (Int32.ofNat 0)) (some (.int 0), (H12 c2 (0, ALl v) c4 c5 c6 (RCl v 0) (Int32.ofNat 0))) := by
  refine Eval.intro2 monoD [.val (.ref 8)] rfl (le_r rfl) rfl ?_
  iterate 2 (refine Go.step rfl (fun _ => rfl) ?_)
  exact Go.retE rfl (fun _ => rfl) rfl
theorem file0_0 (v : Nat → Int32) (c2 c4 c5 c6 : Nat × List Value) : Eval D 10 [.ref 7, .int 0, .null] (H12 c2 (0, ALl v) c4 c5 c6 (RCl v 0) (Int32.ofNat 0)) (none, (H12 c2 (0, ALl v) c4 c5 c6 (RCl v 0) (Int32.ofNat 0))) := by
  refine Eval.intro2 monoD [.val (.ref 7), .val (.int 0), .val .null, .unset, .unset, .unset] rfl (le_r rfl) rfl ?_
  iterate 5 (refine Go.step rfl (fun _ => rfl) ?_)
  refine Go.rcall monoD mono10 rfl (size_0 v c2 c4 c5 c6) rfl rfl rfl rfl (le_r rfl) ?_
  iterate 1 (refine Go.step rfl (fun _ => rfl) ?_)
  exact Go.retE rfl (fun _ => rfl) rfl
theorem addNew_0 (v : Nat → Int32) (c2 c4 c5 c6 : Nat × List Value) : Eval D 8 [.ref 7, .ref 3, .int (Int32.ofNat 0)] (H12 c2 (0, ALl v) c4 c5 c6 (List.replicate 32 (.int 0)) 0) (none, (H12 c2 (0, ALl v) c4 c5 c6 (RCl v 0) (Int32.ofNat 0))) := by
  refine Eval.intro2 monoD [.val (.ref 7), .val (.ref 3), .val (.int (Int32.ofNat 0)), .unset, .unset] rfl (le_r rfl) rfl ?_
  iterate 2 (refine Go.step rfl (fun _ => rfl) ?_)
  refine Go.rcall monoD mono8 rfl (mkRoom_0 v c2 c4 c5 c6) rfl rfl rfl rfl (le_r rfl) ?_
  iterate 15 (refine Go.step rfl (fun _ => rfl) ?_)
  refine Go.step rfl (fun _ => rfl) ?_
  refine Go.to (st' := (31, _, [], (H12 c2 (0, ALl v) c4 c5 c6 (RCl v 0) 0))) rfl ?_
  iterate 5 (refine Go.step rfl (fun _ => rfl) ?_)
  refine Go.step rfl (fun _ => rfl) ?_
  refine Go.to (st' := (41, _, [], (H12 c2 (0, ALl v) c4 c5 c6 (RCl v 0) (Int32.ofNat 0)))) rfl ?_
  iterate 6 (refine Go.step rfl (fun _ => rfl) ?_)
  refine Go.rcall monoD mono8 rfl (file0_0 v c2 c4 c5 c6) rfl rfl rfl rfl (le_r rfl) ?_
  exact Go.retE rfl (fun _ => rfl) rfl
theorem mkRoom_1 (v : Nat → Int32) (c2 c4 c5 c6 : Nat × List Value) : Eval D 9 [.ref 7, .int (Int32.ofNat 1)] (H12 c2 (0, ALl v) c4 c5 c6 (List.replicate 32 (.int 0)) 0) (none, (H12 c2 (0, ALl v) c4 c5 c6 (List.replicate 32 (.int 0)) 0)) := by
  refine Eval.intro2 monoD [.val (.ref 7), .val (.int (Int32.ofNat 1)), .unset] rfl (le_r rfl) rfl ?_
  iterate 13 (refine Go.step rfl (fun _ => rfl) ?_)
  exact Go.retE rfl (fun _ => rfl) rfl
theorem size_1 (v : Nat → Int32) (c2 c4 c5 c6 : Nat × List Value) : Eval D 11 [.ref 8] (H12 c2 (0, ALl v) c4 c5 c6 (RCl v 1) (Int32.ofNat 1)) (some (.int 0), (H12 c2 (0, ALl v) c4 c5 c6 (RCl v 1) (Int32.ofNat 1))) := by
  refine Eval.intro2 monoD [.val (.ref 8)] rfl (le_r rfl) rfl ?_
  iterate 2 (refine Go.step rfl (fun _ => rfl) ?_)
  exact Go.retE rfl (fun _ => rfl) rfl
theorem file0_1 (v : Nat → Int32) (c2 c4 c5 c6 : Nat × List Value) : Eval D 10 [.ref 7, .int 0, .null] (H12 c2 (0, ALl v) c4 c5 c6 (RCl v 1) (Int32.ofNat 1)) (none, (H12 c2 (0, ALl v) c4 c5 c6 (RCl v 1) (Int32.ofNat 1))) := by
  refine Eval.intro2 monoD [.val (.ref 7), .val (.int 0), .val .null, .unset, .unset, .unset] rfl (le_r rfl) rfl ?_
  iterate 5 (refine Go.step rfl (fun _ => rfl) ?_)
  refine Go.rcall monoD mono10 rfl (size_1 v c2 c4 c5 c6) rfl rfl rfl rfl (le_r rfl) ?_
  iterate 1 (refine Go.step rfl (fun _ => rfl) ?_)
  exact Go.retE rfl (fun _ => rfl) rfl
theorem addNew_1 (v : Nat → Int32) (c2 c4 c5 c6 : Nat × List Value) : Eval D 8 [.ref 7, .ref 3, .int (Int32.ofNat 1)] (H12 c2 (0, ALl v) c4 c5 c6 (List.replicate 32 (.int 0)) 0) (none, (H12 c2 (0, ALl v) c4 c5 c6 (RCl v 1) (Int32.ofNat 1))) := by
  refine Eval.intro2 monoD [.val (.ref 7), .val (.ref 3), .val (.int (Int32.ofNat 1)), .unset, .unset] rfl (le_r rfl) rfl ?_
  iterate 2 (refine Go.step rfl (fun _ => rfl) ?_)
  refine Go.rcall monoD mono8 rfl (mkRoom_1 v c2 c4 c5 c6) rfl rfl rfl rfl (le_r rfl) ?_
  iterate 15 (refine Go.step rfl (fun _ => rfl) ?_)
  refine Go.step rfl (fun _ => rfl) ?_
  refine Go.to (st' := (31, _, [], (H12 c2 (0, ALl v) c4 c5 c6 (RCl v 1) 0))) rfl ?_
  iterate 5 (refine Go.step rfl (fun _ => rfl) ?_)
  refine Go.step rfl (fun _ => rfl) ?_
  refine Go.to (st' := (41, _, [], (H12 c2 (0, ALl v) c4 c5 c6 (RCl v 1) (Int32.ofNat 1)))) rfl ?_
  iterate 6 (refine Go.step rfl (fun _ => rfl) ?_)
  refine Go.rcall monoD mono8 rfl (file0_1 v c2 c4 c5 c6) rfl rfl rfl rfl (le_r rfl) ?_
  exact Go.retE rfl (fun _ => rfl) rfl
theorem mkRoom_2 (v : Nat → Int32) (c2 c4 c5 c6 : Nat × List Value) : Eval D 9 [.ref 7, .int (Int32.ofNat 2)] (H12 c2 (0, ALl v) c4 c5 c6 (List.replicate 32 (.int 0)) 0) (none, (H12 c2 (0, ALl v) c4 c5 c6 (List.replicate 32 (.int 0)) 0)) := by
  refine Eval.intro2 monoD [.val (.ref 7), .val (.int (Int32.ofNat 2)), .unset] rfl (le_r rfl) rfl ?_
  iterate 13 (refine Go.step rfl (fun _ => rfl) ?_)
  exact Go.retE rfl (fun _ => rfl) rfl
theorem size_2 (v : Nat → Int32) (c2 c4 c5 c6 : Nat × List Value) : Eval D 11 [.ref 8] (H12 c2 (0, ALl v) c4 c5 c6 (RCl v 2) (Int32.ofNat 2)) (some (.int 0), (H12 c2 (0, ALl v) c4 c5 c6 (RCl v 2) (Int32.ofNat 2))) := by
  refine Eval.intro2 monoD [.val (.ref 8)] rfl (le_r rfl) rfl ?_
  iterate 2 (refine Go.step rfl (fun _ => rfl) ?_)
  exact Go.retE rfl (fun _ => rfl) rfl
theorem file0_2 (v : Nat → Int32) (c2 c4 c5 c6 : Nat × List Value) : Eval D 10 [.ref 7, .int 0, .null] (H12 c2 (0, ALl v) c4 c5 c6 (RCl v 2) (Int32.ofNat 2)) (none, (H12 c2 (0, ALl v) c4 c5 c6 (RCl v 2) (Int32.ofNat 2))) := by
  refine Eval.intro2 monoD [.val (.ref 7), .val (.int 0), .val .null, .unset, .unset, .unset] rfl (le_r rfl) rfl ?_
  iterate 5 (refine Go.step rfl (fun _ => rfl) ?_)
  refine Go.rcall monoD mono10 rfl (size_2 v c2 c4 c5 c6) rfl rfl rfl rfl (le_r rfl) ?_
  iterate 1 (refine Go.step rfl (fun _ => rfl) ?_)
  exact Go.retE rfl (fun _ => rfl) rfl
theorem addNew_2 (v : Nat → Int32) (c2 c4 c5 c6 : Nat × List Value) : Eval D 8 [.ref 7, .ref 3, .int (Int32.ofNat 2)] (H12 c2 (0, ALl v) c4 c5 c6 (List.replicate 32 (.int 0)) 0) (none, (H12 c2 (0, ALl v) c4 c5 c6 (RCl v 2) (Int32.ofNat 2))) := by
  refine Eval.intro2 monoD [.val (.ref 7), .val (.ref 3), .val (.int (Int32.ofNat 2)), .unset, .unset] rfl (le_r rfl) rfl ?_
  iterate 2 (refine Go.step rfl (fun _ => rfl) ?_)
  refine Go.rcall monoD mono8 rfl (mkRoom_2 v c2 c4 c5 c6) rfl rfl rfl rfl (le_r rfl) ?_
  iterate 15 (refine Go.step rfl (fun _ => rfl) ?_)
  refine Go.step rfl (fun _ => rfl) ?_
  refine Go.to (st' := (31, _, [], (H12 c2 (0, ALl v) c4 c5 c6 (RCl v 2) 0))) rfl ?_
  iterate 5 (refine Go.step rfl (fun _ => rfl) ?_)
  refine Go.step rfl (fun _ => rfl) ?_
  refine Go.to (st' := (41, _, [], (H12 c2 (0, ALl v) c4 c5 c6 (RCl v 2) (Int32.ofNat 2)))) rfl ?_
  iterate 6 (refine Go.step rfl (fun _ => rfl) ?_)
  refine Go.rcall monoD mono8 rfl (file0_2 v c2 c4 c5 c6) rfl rfl rfl rfl (le_r rfl) ?_
  exact Go.retE rfl (fun _ => rfl) rfl
theorem mkRoom_3 (v : Nat → Int32) (c2 c4 c5 c6 : Nat × List Value) : Eval D 9 [.ref 7, .int (Int32.ofNat 3)] (H12 c2 (0, ALl v) c4 c5 c6 (List.replicate 32 (.int 0)) 0) (none, (H12 c2 (0, ALl v) c4 c5 c6 (List.replicate 32 (.int 0)) 0)) := by
  refine Eval.intro2 monoD [.val (.ref 7), .val (.int (Int32.ofNat 3)), .unset] rfl (le_r rfl) rfl ?_
  iterate 13 (refine Go.step rfl (fun _ => rfl) ?_)
  exact Go.retE rfl (fun _ => rfl) rfl
theorem size_3 (v : Nat → Int32) (c2 c4 c5 c6 : Nat × List Value) : Eval D 11 [.ref 8] (H12 c2 (0, ALl v) c4 c5 c6 (RCl v 3) (Int32.ofNat 3)) (some (.int 0), (H12 c2 (0, ALl v) c4 c5 c6 (RCl v 3) (Int32.ofNat 3))) := by
  refine Eval.intro2 monoD [.val (.ref 8)] rfl (le_r rfl) rfl ?_
  iterate 2 (refine Go.step rfl (fun _ => rfl) ?_)
  exact Go.retE rfl (fun _ => rfl) rfl
theorem file0_3 (v : Nat → Int32) (c2 c4 c5 c6 : Nat × List Value) : Eval D 10 [.ref 7, .int 0, .null] (H12 c2 (0, ALl v) c4 c5 c6 (RCl v 3) (Int32.ofNat 3)) (none, (H12 c2 (0, ALl v) c4 c5 c6 (RCl v 3) (Int32.ofNat 3))) := by
  refine Eval.intro2 monoD [.val (.ref 7), .val (.int 0), .val .null, .unset, .unset, .unset] rfl (le_r rfl) rfl ?_
  iterate 5 (refine Go.step rfl (fun _ => rfl) ?_)
  refine Go.rcall monoD mono10 rfl (size_3 v c2 c4 c5 c6) rfl rfl rfl rfl (le_r rfl) ?_
  iterate 1 (refine Go.step rfl (fun _ => rfl) ?_)
  exact Go.retE rfl (fun _ => rfl) rfl
theorem addNew_3 (v : Nat → Int32) (c2 c4 c5 c6 : Nat × List Value) : Eval D 8 [.ref 7, .ref 3, .int (Int32.ofNat 3)] (H12 c2 (0, ALl v) c4 c5 c6 (List.replicate 32 (.int 0)) 0) (none, (H12 c2 (0, ALl v) c4 c5 c6 (RCl v 3) (Int32.ofNat 3))) := by
  refine Eval.intro2 monoD [.val (.ref 7), .val (.ref 3), .val (.int (Int32.ofNat 3)), .unset, .unset] rfl (le_r rfl) rfl ?_
  iterate 2 (refine Go.step rfl (fun _ => rfl) ?_)
  refine Go.rcall monoD mono8 rfl (mkRoom_3 v c2 c4 c5 c6) rfl rfl rfl rfl (le_r rfl) ?_
  iterate 15 (refine Go.step rfl (fun _ => rfl) ?_)
  refine Go.step rfl (fun _ => rfl) ?_
  refine Go.to (st' := (31, _, [], (H12 c2 (0, ALl v) c4 c5 c6 (RCl v 3) 0))) rfl ?_
  iterate 5 (refine Go.step rfl (fun _ => rfl) ?_)
  refine Go.step rfl (fun _ => rfl) ?_
  refine Go.to (st' := (41, _, [], (H12 c2 (0, ALl v) c4 c5 c6 (RCl v 3) (Int32.ofNat 3)))) rfl ?_
  iterate 6 (refine Go.step rfl (fun _ => rfl) ?_)
  refine Go.rcall monoD mono8 rfl (file0_3 v c2 c4 c5 c6) rfl rfl rfl rfl (le_r rfl) ?_
  exact Go.retE rfl (fun _ => rfl) rfl
theorem mkRoom_4 (v : Nat → Int32) (c2 c4 c5 c6 : Nat × List Value) : Eval D 9 [.ref 7, .int (Int32.ofNat 4)] (H12 c2 (0, ALl v) c4 c5 c6 (List.replicate 32 (.int 0)) 0) (none, (H12 c2 (0, ALl v) c4 c5 c6 (List.replicate 32 (.int 0)) 0)) := by
  refine Eval.intro2 monoD [.val (.ref 7), .val (.int (Int32.ofNat 4)), .unset] rfl (le_r rfl) rfl ?_
  iterate 13 (refine Go.step rfl (fun _ => rfl) ?_)
  exact Go.retE rfl (fun _ => rfl) rfl
theorem size_4 (v : Nat → Int32) (c2 c4 c5 c6 : Nat × List Value) : Eval D 11 [.ref 8] (H12 c2 (0, ALl v) c4 c5 c6 (RCl v 4) (Int32.ofNat 4)) (some (.int 0), (H12 c2 (0, ALl v) c4 c5 c6 (RCl v 4) (Int32.ofNat 4))) := by
  refine Eval.intro2 monoD [.val (.ref 8)] rfl (le_r rfl) rfl ?_
  iterate 2 (refine Go.step rfl (fun _ => rfl) ?_)
  exact Go.retE rfl (fun _ => rfl) rfl
theorem file0_4 (v : Nat → Int32) (c2 c4 c5 c6 : Nat × List Value) : Eval D 10 [.ref 7, .int 0, .null] (H12 c2 (0, ALl v) c4 c5 c6 (RCl v 4) (Int32.ofNat 4)) (none, (H12 c2 (0, ALl v) c4 c5 c6 (RCl v 4) (Int32.ofNat 4))) := by
  refine Eval.intro2 monoD [.val (.ref 7), .val (.int 0), .val .null, .unset, .unset, .unset] rfl (le_r rfl) rfl ?_
  iterate 5 (refine Go.step rfl (fun _ => rfl) ?_)
  refine Go.rcall monoD mono10 rfl (size_4 v c2 c4 c5 c6) rfl rfl rfl rfl (le_r rfl) ?_
  iterate 1 (refine Go.step rfl (fun _ => rfl) ?_)
  exact Go.retE rfl (fun _ => rfl) rfl
theorem addNew_4 (v : Nat → Int32) (c2 c4 c5 c6 : Nat × List Value) : Eval D 8 [.ref 7, .ref 3, .int (Int32.ofNat 4)] (H12 c2 (0, ALl v) c4 c5 c6 (List.replicate 32 (.int 0)) 0) (none, (H12 c2 (0, ALl v) c4 c5 c6 (RCl v 4) (Int32.ofNat 4))) := by
  refine Eval.intro2 monoD [.val (.ref 7), .val (.ref 3), .val (.int (Int32.ofNat 4)), .unset, .unset] rfl (le_r rfl) rfl ?_
  iterate 2 (refine Go.step rfl (fun _ => rfl) ?_)
  refine Go.rcall monoD mono8 rfl (mkRoom_4 v c2 c4 c5 c6) rfl rfl rfl rfl (le_r rfl) ?_
  iterate 15 (refine Go.step rfl (fun _ => rfl) ?_)
  refine Go.step rfl (fun _ => rfl) ?_
  refine Go.to (st' := (31, _, [], (H12 c2 (0, ALl v) c4 c5 c6 (RCl v 4) 0))) rfl ?_
  iterate 5 (refine Go.step rfl (fun _ => rfl) ?_)
  refine Go.step rfl (fun _ => rfl) ?_
  refine Go.to (st' := (41, _, [], (H12 c2 (0, ALl v) c4 c5 c6 (RCl v 4) (Int32.ofNat 4)))) rfl ?_
  iterate 6 (refine Go.step rfl (fun _ => rfl) ?_)
  refine Go.rcall monoD mono8 rfl (file0_4 v c2 c4 c5 c6) rfl rfl rfl rfl (le_r rfl) ?_
  exact Go.retE rfl (fun _ => rfl) rfl
theorem mkRoom_5 (v : Nat → Int32) (c2 c4 c5 c6 : Nat × List Value) : Eval D 9 [.ref 7, .int (Int32.ofNat 5)] (H12 c2 (0, ALl v) c4 c5 c6 (List.replicate 32 (.int 0)) 0) (none, (H12 c2 (0, ALl v) c4 c5 c6 (List.replicate 32 (.int 0)) 0)) := by
  refine Eval.intro2 monoD [.val (.ref 7), .val (.int (Int32.ofNat 5)), .unset] rfl (le_r rfl) rfl ?_
  iterate 13 (refine Go.step rfl (fun _ => rfl) ?_)
  exact Go.retE rfl (fun _ => rfl) rfl
theorem size_5 (v : Nat → Int32) (c2 c4 c5 c6 : Nat × List Value) : Eval D 11 [.ref 8] (H12 c2 (0, ALl v) c4 c5 c6 (RCl v 5) (Int32.ofNat 5)) (some (.int 0), (H12 c2 (0, ALl v) c4 c5 c6 (RCl v 5) (Int32.ofNat 5))) := by
  refine Eval.intro2 monoD [.val (.ref 8)] rfl (le_r rfl) rfl ?_
  iterate 2 (refine Go.step rfl (fun _ => rfl) ?_)
  exact Go.retE rfl (fun _ => rfl) rfl
theorem file0_5 (v : Nat → Int32) (c2 c4 c5 c6 : Nat × List Value) : Eval D 10 [.ref 7, .int 0, .null] (H12 c2 (0, ALl v) c4 c5 c6 (RCl v 5) (Int32.ofNat 5)) (none, (H12 c2 (0, ALl v) c4 c5 c6 (RCl v 5) (Int32.ofNat 5))) := by
  refine Eval.intro2 monoD [.val (.ref 7), .val (.int 0), .val .null, .unset, .unset, .unset] rfl (le_r rfl) rfl ?_
  iterate 5 (refine Go.step rfl (fun _ => rfl) ?_)
  refine Go.rcall monoD mono10 rfl (size_5 v c2 c4 c5 c6) rfl rfl rfl rfl (le_r rfl) ?_
  iterate 1 (refine Go.step rfl (fun _ => rfl) ?_)
  exact Go.retE rfl (fun _ => rfl) rfl
theorem addNew_5 (v : Nat → Int32) (c2 c4 c5 c6 : Nat × List Value) : Eval D 8 [.ref 7, .ref 3, .int (Int32.ofNat 5)] (H12 c2 (0, ALl v) c4 c5 c6 (List.replicate 32 (.int 0)) 0) (none, (H12 c2 (0, ALl v) c4 c5 c6 (RCl v 5) (Int32.ofNat 5))) := by
  refine Eval.intro2 monoD [.val (.ref 7), .val (.ref 3), .val (.int (Int32.ofNat 5)), .unset, .unset] rfl (le_r rfl) rfl ?_
  iterate 2 (refine Go.step rfl (fun _ => rfl) ?_)
  refine Go.rcall monoD mono8 rfl (mkRoom_5 v c2 c4 c5 c6) rfl rfl rfl rfl (le_r rfl) ?_
  iterate 15 (refine Go.step rfl (fun _ => rfl) ?_)
  refine Go.step rfl (fun _ => rfl) ?_
  refine Go.to (st' := (31, _, [], (H12 c2 (0, ALl v) c4 c5 c6 (RCl v 5) 0))) rfl ?_
  iterate 5 (refine Go.step rfl (fun _ => rfl) ?_)
  refine Go.step rfl (fun _ => rfl) ?_
  refine Go.to (st' := (41, _, [], (H12 c2 (0, ALl v) c4 c5 c6 (RCl v 5) (Int32.ofNat 5)))) rfl ?_
  iterate 6 (refine Go.step rfl (fun _ => rfl) ?_)
  refine Go.rcall monoD mono8 rfl (file0_5 v c2 c4 c5 c6) rfl rfl rfl rfl (le_r rfl) ?_
  exact Go.retE rfl (fun _ => rfl) rfl
theorem addNew1 (v : Nat → Int32) (c2 c4 c5 c6 : Nat × List Value) : ∀ sp, sp ≤ 5 → Eval D 8 [.ref 7, .ref 3, .int (Int32.ofNat sp)] (H12 c2 (0, ALl v) c4 c5 c6 (List.replicate 32 (.int 0)) 0) (none, H12 c2 (0, ALl v) c4 c5 c6 (RCl v sp) (Int32.ofNat sp))
  | 0, _ => addNew_0 v c2 c4 c5 c6
  | 1, _ => addNew_1 v c2 c4 c5 c6
  | 2, _ => addNew_2 v c2 c4 c5 c6
  | 3, _ => addNew_3 v c2 c4 c5 c6
  | 4, _ => addNew_4 v c2 c4 c5 c6
  | 5, _ => addNew_5 v c2 c4 c5 c6
  | n + 6, h => absurd h (by omega)
theorem evItr_false (c2 c3 c4 c6 : Nat × List Value) (RC : List Value) (sz : Int32) : Eval D 14 [.ref 12, .ref 8] [(0, []), (11, []), c2, c3, c4, (0, CO false), c6, (5, [.ref 8, .ref 9, .int 2, .ref 10, .ref 11, .int sz, .null]), (6, [.int 0, .ref 1, .int 0]), (3, []), (0, RC), (0, [.int 0, .int 1]), (7, [.null, .int 0, .int 0, .int 0])] (none, [(0, []), (11, []), c2, c3, c4, (0, CO false), c6, (5, [.ref 8, .ref 9, .int 2, .ref 10, .ref 11, .int sz, .null]), (6, [.int 0, .ref 1, .int 0]), (3, []), (0, RC), (0, [.int 0, .int 1]), (7, [.ref 8, .int (-1), .int 0, .int 0])]) := by
  refine Eval.intro2 monoD [.val (.ref 12), .val (.ref 8)] rfl (le_r rfl) rfl ?_
  iterate 2 (refine Go.step rfl (fun _ => rfl) ?_)
  refine Go.step rfl (fun _ => rfl) ?_
  refine Go.to (st' := (5, _, [], [(0, []), (11, []), c2, c3, c4, (0, CO false), c6, (5, [.ref 8, .ref 9, .int 2, .ref 10, .ref 11, .int sz, .null]), (6, [.int 0, .ref 1, .int 0]), (3, []), (0, RC), (0, [.int 0, .int 1]), (7, [.ref 8, .int 0, .int 0, .int 0])])) rfl ?_
  iterate 4 (refine Go.step rfl (fun _ => rfl) ?_)
  refine Go.step rfl (fun _ => rfl) ?_
  refine Go.to (st' := (14, _, [], [(0, []), (11, []), c2, c3, c4, (0, CO false), c6, (5, [.ref 8, .ref 9, .int 2, .ref 10, .ref 11, .int sz, .null]), (6, [.int 0, .ref 1, .int 0]), (3, []), (0, RC), (0, [.int 0, .int 1]), (7, [.ref 8, .int (-1), .int 0, .int 0])])) rfl ?_
  iterate 4 (refine Go.step rfl (fun _ => rfl) ?_)
  refine Go.step rfl (fun _ => rfl) ?_
  refine Go.to (st' := (25, _, [], [(0, []), (11, []), c2, c3, c4, (0, CO false), c6, (5, [.ref 8, .ref 9, .int 2, .ref 10, .ref 11, .int sz, .null]), (6, [.int 0, .ref 1, .int 0]), (3, []), (0, RC), (0, [.int 0, .int 1]), (7, [.ref 8, .int (-1), .int 0, .int 0])])) rfl ?_
  exact Go.retE rfl (fun _ => rfl) rfl
theorem evIter_false (c2 c3 c4 c6 : Nat × List Value) (RC : List Value) (sz : Int32) : Eval D 13 [.ref 8] [(0, []), (11, []), c2, c3, c4, (0, CO false), c6, (5, [.ref 8, .ref 9, .int 2, .ref 10, .ref 11, .int sz, .null]), (6, [.int 0, .ref 1, .int 0]), (3, []), (0, RC), (0, [.int 0, .int 1])] (some (.ref 12), [(0, []), (11, []), c2, c3, c4, (0, CO false), c6, (5, [.ref 8, .ref 9, .int 2, .ref 10, .ref 11, .int sz, .null]), (6, [.int 0, .ref 1, .int 0]), (3, []), (0, RC), (0, [.int 0, .int 1]), (7, [.ref 8, .int (-1), .int 0, .int 0])]) := by
  refine Eval.intro2 monoD [.val (.ref 8)] rfl (le_r rfl) rfl ?_
  refine Go.step rfl (fun _ => rfl) ?_
  refine Go.to (st' := (3, _, [.ref 12], [(0, []), (11, []), c2, c3, c4, (0, CO false), c6, (5, [.ref 8, .ref 9, .int 2, .ref 10, .ref 11, .int sz, .null]), (6, [.int 0, .ref 1, .int 0]), (3, []), (0, RC), (0, [.int 0, .int 1]), (7, [.null, .int 0, .int 0, .int 0])])) rfl ?_
  iterate 2 (refine Go.step rfl (fun _ => rfl) ?_)
  refine Go.rcall monoD mono13 rfl (evItr_false c2 c3 c4 c6 RC sz) rfl rfl rfl rfl (le_r rfl) ?_
  exact Go.retE rfl (fun _ => rfl) rfl
theorem evHas_false (c2 c3 c4 c6 : Nat × List Value) (RC : List Value) (sz : Int32) : Eval D 15 [.ref 12] [(0, []), (11, []), c2, c3, c4, (0, CO false), c6, (5, [.ref 8, .ref 9, .int 2, .ref 10, .ref 11, .int sz, .null]), (6, [.int 0, .ref 1, .int 0]), (3, []), (0, RC), (0, [.int 0, .int 1]), (7, [.ref 8, .int (-1), .int 0, .int 0])] (some (.int 0), [(0, []), (11, []), c2, c3, c4, (0, CO false), c6, (5, [.ref 8, .ref 9, .int 2, .ref 10, .ref 11, .int sz, .null]), (6, [.int 0, .ref 1, .int 0]), (3, []), (0, RC), (0, [.int 0, .int 1]), (7, [.ref 8, .int (-1), .int 0, .int 0])]) := by
  refine Eval.intro2 monoD [.val (.ref 12)] rfl (le_r rfl) rfl ?_
  iterate 7 (refine Go.step rfl (fun _ => rfl) ?_)
  exact Go.retE rfl (fun _ => rfl) rfl
theorem evAr1_false (c2 c3 c4 c6 : Nat × List Value) (RC : List Value) (sz : Int32) (T : MH) (y13 y14 y15 y16 y17 y18 y19 y20 : Nat × List Value) : Eval D 17 [.ref 7] ((0, []) :: (11, []) :: c2 :: c3 :: c4 :: (0, CO false) :: c6 :: (5, [.ref 8, .ref 9, .int 2, .ref 10, .ref 11, .int sz, .null]) :: (6, [.int 0, .ref 1, .int 0]) :: (3, []) :: (0, RC) :: (0, [.int 0, .int 1]) :: (7, [.ref 8, .int (-1), .int 0, .int 0]) :: y13 :: y14 :: y15 :: y16 :: y17 :: y18 :: y19 :: y20 :: T) (some (.int 2), (0, []) :: (11, []) :: c2 :: c3 :: c4 :: (0, CO false) :: c6 :: (5, [.ref 8, .ref 9, .int 2, .ref 10, .ref 11, .int sz, .null]) :: (6, [.int 0, .ref 1, .int 0]) :: (3, []) :: (0, RC) :: (0, [.int 0, .int 1]) :: (7, [.ref 8, .int (-1), .int 0, .int 0]) :: y13 :: y14 :: y15 :: y16 :: y17 :: y18 :: y19 :: y20 :: T) := by
  refine Eval.intro2 monoD [.val (.ref 7)] rfl (le_r rfl) rfl ?_
  iterate 2 (refine Go.step rfl (fun _ => rfl) ?_)
  exact Go.retE rfl (fun _ => rfl) rfl
abbrev Q0_false (c2 c3 c4 c6 c8 : Nat × List Value) : QQ := ⟨c2, c3, c4, (0, CO false), c6, c8, (3, []), (0, [.int 0, .int 1]), (7, [.ref 8, .int (-1), .int 0, .int 0]), (0, []), (3, [.int 1, .int 0])⟩
theorem evIni_false (c2 c3 c4 c6 : Nat × List Value) (RC : List Value) (sz : Int32) : Eval D 16 [.ref 13, .ref 7, .ref 5] [(0, []), (11, []), c2, c3, c4, (0, CO false), c6, (5, [.ref 8, .ref 9, .int 2, .ref 10, .ref 11, .int sz, .null]), (6, [.int 0, .ref 1, .int 0]), (3, []), (0, RC), (0, [.int 0, .int 1]), (7, [.ref 8, .int (-1), .int 0, .int 0]), (8, [.int 0, .int 0, .null, .null, .null, .null, .null, .null, .null, .int 0, .null, .int 0, .int 0])] (none, HR false (Q0_false c2 c3 c4 c6 (6, [.int 0, .ref 1, .int 0])) sz RC [.int 0] (List.replicate 32 (.int 0)) 0 (List.replicate 8 (.int 0)) (List.replicate 8 (.int 0)) (List.replicate 8 .null) []) := by
  refine Eval.intro2 monoD [.val (.ref 13), .val (.ref 7), .val (.ref 5), .unset, .unset, .unset, .unset, .unset, .unset] rfl (le_r rfl) rfl ?_
  iterate 4 (refine Go.step rfl (fun _ => rfl) ?_)
  refine Go.step rfl (fun _ => rfl) ?_
  refine Go.to (st' := (10, _, [], [(0, []), (11, []), c2, c3, c4, (0, CO false), c6, (5, [.ref 8, .ref 9, .int 2, .ref 10, .ref 11, .int sz, .null]), (6, [.int 0, .ref 1, .int 0]), (3, []), (0, RC), (0, [.int 0, .int 1]), (7, [.ref 8, .int (-1), .int 0, .int 0]), (8, [.int 15, .int 0, .null, .null, .null, .null, .null, .null, .null, .int 0, .null, .int 0, .int 0])])) rfl ?_
  iterate 2 (refine Go.step rfl (fun _ => rfl) ?_)
  refine Go.step rfl (fun _ => rfl) ?_
  refine Go.to (st' := (16, _, [], [(0, []), (11, []), c2, c3, c4, (0, CO false), c6, (5, [.ref 8, .ref 9, .int 2, .ref 10, .ref 11, .int sz, .null]), (6, [.int 0, .ref 1, .int 0]), (3, []), (0, RC), (0, [.int 0, .int 1]), (7, [.ref 8, .int (-1), .int 0, .int 0]), (8, [.int 15, .int 12, .null, .null, .null, .null, .null, .null, .null, .int 0, .null, .int 0, .int 0])])) rfl ?_
  iterate 2 (refine Go.step rfl (fun _ => rfl) ?_)
  refine Go.step rfl (fun _ => rfl) ?_
  refine Go.to (st' := (21, _, [.ref 14, .ref 13], [(0, []), (11, []), c2, c3, c4, (0, CO false), c6, (5, [.ref 8, .ref 9, .int 2, .ref 10, .ref 11, .int sz, .null]), (6, [.int 0, .ref 1, .int 0]), (3, []), (0, RC), (0, [.int 0, .int 1]), (7, [.ref 8, .int (-1), .int 0, .int 0]), (8, [.int 15, .int 12, .null, .null, .null, .null, .null, .null, .null, .int 0, .null, .int 0, .int 0]), (0, List.replicate 8 (.int 0))])) rfl ?_
  refine Go.step rfl (fun _ => rfl) ?_
  refine Go.to (st' := (24, _, [], [(0, []), (11, []), c2, c3, c4, (0, CO false), c6, (5, [.ref 8, .ref 9, .int 2, .ref 10, .ref 11, .int sz, .null]), (6, [.int 0, .ref 1, .int 0]), (3, []), (0, RC), (0, [.int 0, .int 1]), (7, [.ref 8, .int (-1), .int 0, .int 0]), (8, [.int 15, .int 12, .ref 14, .null, .null, .null, .null, .null, .null, .int 0, .null, .int 0, .int 0]), (0, List.replicate 8 (.int 0))])) rfl ?_
  iterate 2 (refine Go.step rfl (fun _ => rfl) ?_)
  refine Go.step rfl (fun _ => rfl) ?_
  refine Go.to (st' := (29, _, [.ref 15, .ref 13], [(0, []), (11, []), c2, c3, c4, (0, CO false), c6, (5, [.ref 8, .ref 9, .int 2, .ref 10, .ref 11, .int sz, .null]), (6, [.int 0, .ref 1, .int 0]), (3, []), (0, RC), (0, [.int 0, .int 1]), (7, [.ref 8, .int (-1), .int 0, .int 0]), (8, [.int 15, .int 12, .ref 14, .null, .null, .null, .null, .null, .null, .int 0, .null, .int 0, .int 0]), (0, List.replicate 8 (.int 0)), (0, List.replicate 8 (.int 0))])) rfl ?_
  refine Go.step rfl (fun _ => rfl) ?_
  refine Go.to (st' := (32, _, [], [(0, []), (11, []), c2, c3, c4, (0, CO false), c6, (5, [.ref 8, .ref 9, .int 2, .ref 10, .ref 11, .int sz, .null]), (6, [.int 0, .ref 1, .int 0]), (3, []), (0, RC), (0, [.int 0, .int 1]), (7, [.ref 8, .int (-1), .int 0, .int 0]), (8, [.int 15, .int 12, .ref 14, .ref 15, .null, .null, .null, .null, .null, .int 0, .null, .int 0, .int 0]), (0, List.replicate 8 (.int 0)), (0, List.replicate 8 (.int 0))])) rfl ?_
  iterate 2 (refine Go.step rfl (fun _ => rfl) ?_)
  refine Go.step rfl (fun _ => rfl) ?_
  refine Go.to (st' := (38, _, [.ref 16, .ref 13], [(0, []), (11, []), c2, c3, c4, (0, CO false), c6, (5, [.ref 8, .ref 9, .int 2, .ref 10, .ref 11, .int sz, .null]), (6, [.int 0, .ref 1, .int 0]), (3, []), (0, RC), (0, [.int 0, .int 1]), (7, [.ref 8, .int (-1), .int 0, .int 0]), (8, [.int 15, .int 12, .ref 14, .ref 15, .null, .null, .null, .null, .null, .int 0, .null, .int 0, .int 0]), (0, List.replicate 8 (.int 0)), (0, List.replicate 8 (.int 0)), (9, List.replicate 8 .null)])) rfl ?_
  refine Go.step rfl (fun _ => rfl) ?_
  refine Go.to (st' := (41, _, [], [(0, []), (11, []), c2, c3, c4, (0, CO false), c6, (5, [.ref 8, .ref 9, .int 2, .ref 10, .ref 11, .int sz, .null]), (6, [.int 0, .ref 1, .int 0]), (3, []), (0, RC), (0, [.int 0, .int 1]), (7, [.ref 8, .int (-1), .int 0, .int 0]), (8, [.int 15, .int 12, .ref 14, .ref 15, .ref 16, .null, .null, .null, .null, .int 0, .null, .int 0, .int 0]), (0, List.replicate 8 (.int 0)), (0, List.replicate 8 (.int 0)), (9, List.replicate 8 .null)])) rfl ?_
  iterate 2 (refine Go.step rfl (fun _ => rfl) ?_)
  refine Go.step rfl (fun _ => rfl) ?_
  refine Go.to (st' := (45, _, [.ref 17, .ref 13], [(0, []), (11, []), c2, c3, c4, (0, CO false), c6, (5, [.ref 8, .ref 9, .int 2, .ref 10, .ref 11, .int sz, .null]), (6, [.int 0, .ref 1, .int 0]), (3, []), (0, RC), (0, [.int 0, .int 1]), (7, [.ref 8, .int (-1), .int 0, .int 0]), (8, [.int 15, .int 12, .ref 14, .ref 15, .ref 16, .null, .null, .null, .null, .int 0, .null, .int 0, .int 0]), (0, List.replicate 8 (.int 0)), (0, List.replicate 8 (.int 0)), (9, List.replicate 8 .null), (0, [])])) rfl ?_
  refine Go.step rfl (fun _ => rfl) ?_
  refine Go.to (st' := (48, _, [], [(0, []), (11, []), c2, c3, c4, (0, CO false), c6, (5, [.ref 8, .ref 9, .int 2, .ref 10, .ref 11, .int sz, .null]), (6, [.int 0, .ref 1, .int 0]), (3, []), (0, RC), (0, [.int 0, .int 1]), (7, [.ref 8, .int (-1), .int 0, .int 0]), (8, [.int 15, .int 12, .ref 14, .ref 15, .ref 16, .ref 17, .null, .null, .null, .int 0, .null, .int 0, .int 0]), (0, List.replicate 8 (.int 0)), (0, List.replicate 8 (.int 0)), (9, List.replicate 8 .null), (0, [])])) rfl ?_
  iterate 2 (refine Go.step rfl (fun _ => rfl) ?_)
  refine Go.step rfl (fun _ => rfl) ?_
  refine Go.to (st' := (53, _, [], [(0, []), (11, []), c2, c3, c4, (0, CO false), c6, (5, [.ref 8, .ref 9, .int 2, .ref 10, .ref 11, .int sz, .null]), (6, [.int 0, .ref 1, .int 0]), (3, []), (0, RC), (0, [.int 0, .int 1]), (7, [.ref 8, .int (-1), .int 0, .int 0]), (8, [.int 15, .int 12, .ref 14, .ref 15, .ref 16, .ref 17, .ref 7, .null, .null, .int 0, .null, .int 0, .int 0]), (0, List.replicate 8 (.int 0)), (0, List.replicate 8 (.int 0)), (9, List.replicate 8 .null), (0, [])])) rfl ?_
  iterate 2 (refine Go.step rfl (fun _ => rfl) ?_)
  refine Go.step rfl (fun _ => rfl) ?_
  refine Go.to (st' := (58, _, [.ref 18, .ref 13], [(0, []), (11, []), c2, c3, c4, (0, CO false), c6, (5, [.ref 8, .ref 9, .int 2, .ref 10, .ref 11, .int sz, .null]), (6, [.int 0, .ref 1, .int 0]), (3, []), (0, RC), (0, [.int 0, .int 1]), (7, [.ref 8, .int (-1), .int 0, .int 0]), (8, [.int 15, .int 12, .ref 14, .ref 15, .ref 16, .ref 17, .ref 7, .null, .null, .int 0, .null, .int 0, .int 0]), (0, List.replicate 8 (.int 0)), (0, List.replicate 8 (.int 0)), (9, List.replicate 8 .null), (0, []), (0, CO false)])) rfl ?_
  iterate 1 (refine Go.step rfl (fun _ => rfl) ?_)
  refine Go.step rfl (fun _ => rfl) ?_
  refine Go.to (st' := (64, _, [], [(0, []), (11, []), c2, c3, c4, (0, CO false), c6, (5, [.ref 8, .ref 9, .int 2, .ref 10, .ref 11, .int sz, .null]), (6, [.int 0, .ref 1, .int 0]), (3, []), (0, RC), (0, [.int 0, .int 1]), (7, [.ref 8, .int (-1), .int 0, .int 0]), (8, [.int 15, .int 12, .ref 14, .ref 15, .ref 16, .ref 17, .ref 7, .ref 18, .null, .int 0, .null, .int 0, .int 0]), (0, List.replicate 8 (.int 0)), (0, List.replicate 8 (.int 0)), (9, List.replicate 8 .null), (0, []), (0, CO false)])) rfl ?_
  iterate 3 (refine Go.step rfl (fun _ => rfl) ?_)
  refine Go.step rfl (fun _ => rfl) ?_
  refine Go.to (st' := (69, _, [.ref 19, .ref 13], [(0, []), (11, []), c2, c3, c4, (0, CO false), c6, (5, [.ref 8, .ref 9, .int 2, .ref 10, .ref 11, .int sz, .null]), (6, [.int 0, .ref 1, .int 0]), (3, []), (0, RC), (0, [.int 0, .int 1]), (7, [.ref 8, .int (-1), .int 0, .int 0]), (8, [.int 15, .int 12, .ref 14, .ref 15, .ref 16, .ref 17, .ref 7, .ref 18, .null, .int 0, .null, .int 0, .int 0]), (0, List.replicate 8 (.int 0)), (0, List.replicate 8 (.int 0)), (9, List.replicate 8 .null), (0, []), (0, CO false), (0, [.int 0])])) rfl ?_
  refine Go.step rfl (fun _ => rfl) ?_
  refine Go.to (st' := (72, _, [], [(0, []), (11, []), c2, c3, c4, (0, CO false), c6, (5, [.ref 8, .ref 9, .int 2, .ref 10, .ref 11, .int sz, .null]), (6, [.int 0, .ref 1, .int 0]), (3, []), (0, RC), (0, [.int 0, .int 1]), (7, [.ref 8, .int (-1), .int 0, .int 0]), (8, [.int 15, .int 12, .ref 14, .ref 15, .ref 16, .ref 17, .ref 7, .ref 18, .ref 19, .int 0, .null, .int 0, .int 0]), (0, List.replicate 8 (.int 0)), (0, List.replicate 8 (.int 0)), (9, List.replicate 8 .null), (0, []), (0, CO false), (0, [.int 0])])) rfl ?_
  iterate 5 (refine Go.step rfl (fun _ => rfl) ?_)
  refine Go.step rfl (fun _ => rfl) ?_
  refine Go.to (st' := (80, _, [], [(0, []), (11, []), c2, c3, c4, (0, CO false), c6, (5, [.ref 8, .ref 9, .int 2, .ref 10, .ref 11, .int sz, .null]), (6, [.int 0, .ref 1, .int 0]), (3, []), (0, RC), (0, [.int 0, .int 1]), (7, [.ref 8, .int (-1), .int 0, .int 0]), (8, [.int 15, .int 12, .ref 14, .ref 15, .ref 16, .ref 17, .ref 7, .ref 18, .ref 19, .int (stI false), .null, .int 0, .int 0]), (0, List.replicate 8 (.int 0)), (0, List.replicate 8 (.int 0)), (9, List.replicate 8 .null), (0, []), (0, CO false), (0, [.int 0])])) rfl ?_
  iterate 5 (refine Go.step rfl (fun _ => rfl) ?_)
  refine Go.step rfl (fun _ => rfl) ?_
  refine Go.to (st' := (90, _, [.ref 20, .ref 13], [(0, []), (11, []), c2, c3, c4, (0, CO false), c6, (5, [.ref 8, .ref 9, .int 2, .ref 10, .ref 11, .int sz, .null]), (6, [.int 0, .ref 1, .int 0]), (3, []), (0, RC), (0, [.int 0, .int 1]), (7, [.ref 8, .int (-1), .int 0, .int 0]), (8, [.int 15, .int 12, .ref 14, .ref 15, .ref 16, .ref 17, .ref 7, .ref 18, .ref 19, .int (stI false), .null, .int 0, .int 0]), (0, List.replicate 8 (.int 0)), (0, List.replicate 8 (.int 0)), (9, List.replicate 8 .null), (0, []), (0, CO false), (0, [.int 0]), (0, List.replicate 32 (.int 0))])) rfl ?_
  refine Go.step rfl (fun _ => rfl) ?_
  refine Go.to (st' := (93, _, [], [(0, []), (11, []), c2, c3, c4, (0, CO false), c6, (5, [.ref 8, .ref 9, .int 2, .ref 10, .ref 11, .int sz, .null]), (6, [.int 0, .ref 1, .int 0]), (3, []), (0, RC), (0, [.int 0, .int 1]), (7, [.ref 8, .int (-1), .int 0, .int 0]), (8, [.int 15, .int 12, .ref 14, .ref 15, .ref 16, .ref 17, .ref 7, .ref 18, .ref 19, .int (stI false), .ref 20, .int 0, .int 0]), (0, List.replicate 8 (.int 0)), (0, List.replicate 8 (.int 0)), (9, List.replicate 8 .null), (0, []), (0, CO false), (0, [.int 0]), (0, List.replicate 32 (.int 0))])) rfl ?_
  iterate 1 (refine Go.step rfl (fun _ => rfl) ?_)
  refine Go.rcall monoD mono16 rfl (evAr1_false c2 c3 c4 c6 RC sz _ _ _ _ _ _ _ _ _) rfl rfl rfl rfl (le_r rfl) ?_
  refine Go.step rfl (fun _ => rfl) ?_
  refine Go.to (st' := (99, _, [.ref 21], [(0, []), (11, []), c2, c3, c4, (0, CO false), c6, (5, [.ref 8, .ref 9, .int 2, .ref 10, .ref 11, .int sz, .null]), (6, [.int 0, .ref 1, .int 0]), (3, []), (0, RC), (0, [.int 0, .int 1]), (7, [.ref 8, .int (-1), .int 0, .int 0]), (8, [.int 15, .int 12, .ref 14, .ref 15, .ref 16, .ref 17, .ref 7, .ref 18, .ref 19, .int (stI false), .ref 20, .int 0, .int 0]), (0, List.replicate 8 (.int 0)), (0, List.replicate 8 (.int 0)), (9, List.replicate 8 .null), (0, []), (0, CO false), (0, [.int 0]), (0, List.replicate 32 (.int 0)), (3, [.int 0, .int 0])])) rfl ?_
  iterate 24 (refine Go.step rfl (fun _ => rfl) ?_)
  refine Go.step rfl (fun _ => rfl) ?_
  refine Go.to (st' := (140, _, [], [(0, []), (11, []), c2, c3, c4, (0, CO false), c6, (5, [.ref 8, .ref 9, .int 2, .ref 10, .ref 11, .int sz, .null]), (6, [.int 0, .ref 1, .int 0]), (3, []), (0, RC), (0, [.int 0, .int 1]), (7, [.ref 8, .int (-1), .int 0, .int 0]), (8, [.int 15, .int 12, .ref 14, .ref 15, .ref 16, .ref 17, .ref 7, .ref 18, .ref 19, .int (stI false), .ref 20, .int 0, .int 0]), (0, List.replicate 8 (.int 0)), (0, List.replicate 8 (.int 0)), (9, List.replicate 8 .null), (0, []), (0, CO false), (0, [.int 0]), (0, List.replicate 32 (.int 0)), (3, [.int 1, .int 0])])) rfl ?_
  iterate 9 (refine Go.step rfl (fun _ => rfl) ?_)
  refine Go.rcall monoD mono16 rfl (evAr1_false c2 c3 c4 c6 RC sz _ _ _ _ _ _ _ _ _) rfl rfl rfl rfl (le_r rfl) ?_
  iterate 2 (refine Go.step rfl (fun _ => rfl) ?_)
  refine Go.step rfl (fun _ => rfl) ?_
  refine Go.to (st' := (167, _, [], [(0, []), (11, []), c2, c3, c4, (0, CO false), c6, (5, [.ref 8, .ref 9, .int 2, .ref 10, .ref 11, .int sz, .null]), (6, [.int 0, .ref 1, .int 0]), (3, []), (0, RC), (0, [.int 0, .int 1]), (7, [.ref 8, .int (-1), .int 0, .int 0]), (8, [.int 15, .int 12, .ref 14, .ref 15, .ref 16, .ref 17, .ref 7, .ref 18, .ref 19, .int (stI false), .ref 20, .int (b2i false), .int 0]), (0, List.replicate 8 (.int 0)), (0, List.replicate 8 (.int 0)), (9, List.replicate 8 .null), (0, []), (0, CO false), (0, [.int 0]), (0, List.replicate 32 (.int 0)), (3, [.int 1, .int 0])])) rfl ?_
  exact Go.retE rfl (fun _ => rfl) rfl
theorem evItr_true (c2 c3 c4 c6 : Nat × List Value) (RC : List Value) (sz : Int32) : Eval D 14 [.ref 12, .ref 8] [(0, []), (11, []), c2, c3, c4, (0, CO true), c6, (5, [.ref 8, .ref 9, .int 2, .ref 10, .ref 11, .int sz, .null]), (6, [.int 0, .ref 1, .int 0]), (3, []), (0, RC), (0, [.int 0, .int 1]), (7, [.null, .int 0, .int 0, .int 0])] (none, [(0, []), (11, []), c2, c3, c4, (0, CO true), c6, (5, [.ref 8, .ref 9, .int 2, .ref 10, .ref 11, .int sz, .null]), (6, [.int 0, .ref 1, .int 0]), (3, []), (0, RC), (0, [.int 0, .int 1]), (7, [.ref 8, .int (-1), .int 0, .int 0])]) := by
  refine Eval.intro2 monoD [.val (.ref 12), .val (.ref 8)] rfl (le_r rfl) rfl ?_
  iterate 2 (refine Go.step rfl (fun _ => rfl) ?_)
  refine Go.step rfl (fun _ => rfl) ?_
  refine Go.to (st' := (5, _, [], [(0, []), (11, []), c2, c3, c4, (0, CO true), c6, (5, [.ref 8, .ref 9, .int 2, .ref 10, .ref 11, .int sz, .null]), (6, [.int 0, .ref 1, .int 0]), (3, []), (0, RC), (0, [.int 0, .int 1]), (7, [.ref 8, .int 0, .int 0, .int 0])])) rfl ?_
  iterate 4 (refine Go.step rfl (fun _ => rfl) ?_)
  refine Go.step rfl (fun _ => rfl) ?_
  refine Go.to (st' := (14, _, [], [(0, []), (11, []), c2, c3, c4, (0, CO true), c6, (5, [.ref 8, .ref 9, .int 2, .ref 10, .ref 11, .int sz, .null]), (6, [.int 0, .ref 1, .int 0]), (3, []), (0, RC), (0, [.int 0, .int 1]), (7, [.ref 8, .int (-1), .int 0, .int 0])])) rfl ?_
  iterate 4 (refine Go.step rfl (fun _ => rfl) ?_)
  refine Go.step rfl (fun _ => rfl) ?_
  refine Go.to (st' := (25, _, [], [(0, []), (11, []), c2, c3, c4, (0, CO true), c6, (5, [.ref 8, .ref 9, .int 2, .ref 10, .ref 11, .int sz, .null]), (6, [.int 0, .ref 1, .int 0]), (3, []), (0, RC), (0, [.int 0, .int 1]), (7, [.ref 8, .int (-1), .int 0, .int 0])])) rfl ?_
  exact Go.retE rfl (fun _ => rfl) rfl
theorem evIter_true (c2 c3 c4 c6 : Nat × List Value) (RC : List Value) (sz : Int32) : Eval D 13 [.ref 8] [(0, []), (11, []), c2, c3, c4, (0, CO true), c6, (5, [.ref 8, .ref 9, .int 2, .ref 10, .ref 11, .int sz, .null]), (6, [.int 0, .ref 1, .int 0]), (3, []), (0, RC), (0, [.int 0, .int 1])] (some (.ref 12), [(0, []), (11, []), c2, c3, c4, (0, CO true), c6, (5, [.ref 8, .ref 9, .int 2, .ref 10, .ref 11, .int sz, .null]), (6, [.int 0, .ref 1, .int 0]), (3, []), (0, RC), (0, [.int 0, .int 1]), (7, [.ref 8, .int (-1), .int 0, .int 0])]) := by
  refine Eval.intro2 monoD [.val (.ref 8)] rfl (le_r rfl) rfl ?_
  refine Go.step rfl (fun _ => rfl) ?_
  refine Go.to (st' := (3, _, [.ref 12], [(0, []), (11, []), c2, c3, c4, (0, CO true), c6, (5, [.ref 8, .ref 9, .int 2, .ref 10, .ref 11, .int sz, .null]), (6, [.int 0, .ref 1, .int 0]), (3, []), (0, RC), (0, [.int 0, .int 1]), (7, [.null, .int 0, .int 0, .int 0])])) rfl ?_
  iterate 2 (refine Go.step rfl (fun _ => rfl) ?_)
  refine Go.rcall monoD mono13 rfl (evItr_true c2 c3 c4 c6 RC sz) rfl rfl rfl rfl (le_r rfl) ?_
  exact Go.retE rfl (fun _ => rfl) rfl
theorem evHas_true (c2 c3 c4 c6 : Nat × List Value) (RC : List Value) (sz : Int32) : Eval D 15 [.ref 12] [(0, []), (11, []), c2, c3, c4, (0, CO true), c6, (5, [.ref 8, .ref 9, .int 2, .ref 10, .ref 11, .int sz, .null]), (6, [.int 0, .ref 1, .int 0]), (3, []), (0, RC), (0, [.int 0, .int 1]), (7, [.ref 8, .int (-1), .int 0, .int 0])] (some (.int 0), [(0, []), (11, []), c2, c3, c4, (0, CO true), c6, (5, [.ref 8, .ref 9, .int 2, .ref 10, .ref 11, .int sz, .null]), (6, [.int 0, .ref 1, .int 0]), (3, []), (0, RC), (0, [.int 0, .int 1]), (7, [.ref 8, .int (-1), .int 0, .int 0])]) := by
  refine Eval.intro2 monoD [.val (.ref 12)] rfl (le_r rfl) rfl ?_
  iterate 7 (refine Go.step rfl (fun _ => rfl) ?_)
  exact Go.retE rfl (fun _ => rfl) rfl
theorem evAr1_true (c2 c3 c4 c6 : Nat × List Value) (RC : List Value) (sz : Int32) (T : MH) (y13 y14 y15 y16 y17 y18 y19 y20 : Nat × List Value) : Eval D 17 [.ref 7] ((0, []) :: (11, []) :: c2 :: c3 :: c4 :: (0, CO true) :: c6 :: (5, [.ref 8, .ref 9, .int 2, .ref 10, .ref 11, .int sz, .null]) :: (6, [.int 0, .ref 1, .int 0]) :: (3, []) :: (0, RC) :: (0, [.int 0, .int 1]) :: (7, [.ref 8, .int (-1), .int 0, .int 0]) :: y13 :: y14 :: y15 :: y16 :: y17 :: y18 :: y19 :: y20 :: T) (some (.int 2), (0, []) :: (11, []) :: c2 :: c3 :: c4 :: (0, CO true) :: c6 :: (5, [.ref 8, .ref 9, .int 2, .ref 10, .ref 11, .int sz, .null]) :: (6, [.int 0, .ref 1, .int 0]) :: (3, []) :: (0, RC) :: (0, [.int 0, .int 1]) :: (7, [.ref 8, .int (-1), .int 0, .int 0]) :: y13 :: y14 :: y15 :: y16 :: y17 :: y18 :: y19 :: y20 :: T) := by
  refine Eval.intro2 monoD [.val (.ref 7)] rfl (le_r rfl) rfl ?_
  iterate 2 (refine Go.step rfl (fun _ => rfl) ?_)
  exact Go.retE rfl (fun _ => rfl) rfl
abbrev Q0_true (c2 c3 c4 c6 c8 : Nat × List Value) : QQ := ⟨c2, c3, c4, (0, CO true), c6, c8, (3, []), (0, [.int 0, .int 1]), (7, [.ref 8, .int (-1), .int 0, .int 0]), (0, []), (3, [.int 1, .int 1])⟩
theorem evIni_true (c2 c3 c4 c6 : Nat × List Value) (RC : List Value) (sz : Int32) : Eval D 16 [.ref 13, .ref 7, .ref 5] [(0, []), (11, []), c2, c3, c4, (0, CO true), c6, (5, [.ref 8, .ref 9, .int 2, .ref 10, .ref 11, .int sz, .null]), (6, [.int 0, .ref 1, .int 0]), (3, []), (0, RC), (0, [.int 0, .int 1]), (7, [.ref 8, .int (-1), .int 0, .int 0]), (8, [.int 0, .int 0, .null, .null, .null, .null, .null, .null, .null, .int 0, .null, .int 0, .int 0])] (none, HR true (Q0_true c2 c3 c4 c6 (6, [.int 0, .ref 1, .int 0])) sz RC [.int 0, .int 0] (List.replicate 48 (.int 0)) 0 (List.replicate 8 (.int 0)) (List.replicate 8 (.int 0)) (List.replicate 8 .null) []) := by
  refine Eval.intro2 monoD [.val (.ref 13), .val (.ref 7), .val (.ref 5), .unset, .unset, .unset, .unset, .unset, .unset] rfl (le_r rfl) rfl ?_
  iterate 4 (refine Go.step rfl (fun _ => rfl) ?_)
  refine Go.step rfl (fun _ => rfl) ?_
  refine Go.to (st' := (10, _, [], [(0, []), (11, []), c2, c3, c4, (0, CO true), c6, (5, [.ref 8, .ref 9, .int 2, .ref 10, .ref 11, .int sz, .null]), (6, [.int 0, .ref 1, .int 0]), (3, []), (0, RC), (0, [.int 0, .int 1]), (7, [.ref 8, .int (-1), .int 0, .int 0]), (8, [.int 15, .int 0, .null, .null, .null, .null, .null, .null, .null, .int 0, .null, .int 0, .int 0])])) rfl ?_
  iterate 2 (refine Go.step rfl (fun _ => rfl) ?_)
  refine Go.step rfl (fun _ => rfl) ?_
  refine Go.to (st' := (16, _, [], [(0, []), (11, []), c2, c3, c4, (0, CO true), c6, (5, [.ref 8, .ref 9, .int 2, .ref 10, .ref 11, .int sz, .null]), (6, [.int 0, .ref 1, .int 0]), (3, []), (0, RC), (0, [.int 0, .int 1]), (7, [.ref 8, .int (-1), .int 0, .int 0]), (8, [.int 15, .int 12, .null, .null, .null, .null, .null, .null, .null, .int 0, .null, .int 0, .int 0])])) rfl ?_
  iterate 2 (refine Go.step rfl (fun _ => rfl) ?_)
  refine Go.step rfl (fun _ => rfl) ?_
  refine Go.to (st' := (21, _, [.ref 14, .ref 13], [(0, []), (11, []), c2, c3, c4, (0, CO true), c6, (5, [.ref 8, .ref 9, .int 2, .ref 10, .ref 11, .int sz, .null]), (6, [.int 0, .ref 1, .int 0]), (3, []), (0, RC), (0, [.int 0, .int 1]), (7, [.ref 8, .int (-1), .int 0, .int 0]), (8, [.int 15, .int 12, .null, .null, .null, .null, .null, .null, .null, .int 0, .null, .int 0, .int 0]), (0, List.replicate 8 (.int 0))])) rfl ?_
  refine Go.step rfl (fun _ => rfl) ?_
  refine Go.to (st' := (24, _, [], [(0, []), (11, []), c2, c3, c4, (0, CO true), c6, (5, [.ref 8, .ref 9, .int 2, .ref 10, .ref 11, .int sz, .null]), (6, [.int 0, .ref 1, .int 0]), (3, []), (0, RC), (0, [.int 0, .int 1]), (7, [.ref 8, .int (-1), .int 0, .int 0]), (8, [.int 15, .int 12, .ref 14, .null, .null, .null, .null, .null, .null, .int 0, .null, .int 0, .int 0]), (0, List.replicate 8 (.int 0))])) rfl ?_
  iterate 2 (refine Go.step rfl (fun _ => rfl) ?_)
  refine Go.step rfl (fun _ => rfl) ?_
  refine Go.to (st' := (29, _, [.ref 15, .ref 13], [(0, []), (11, []), c2, c3, c4, (0, CO true), c6, (5, [.ref 8, .ref 9, .int 2, .ref 10, .ref 11, .int sz, .null]), (6, [.int 0, .ref 1, .int 0]), (3, []), (0, RC), (0, [.int 0, .int 1]), (7, [.ref 8, .int (-1), .int 0, .int 0]), (8, [.int 15, .int 12, .ref 14, .null, .null, .null, .null, .null, .null, .int 0, .null, .int 0, .int 0]), (0, List.replicate 8 (.int 0)), (0, List.replicate 8 (.int 0))])) rfl ?_
  refine Go.step rfl (fun _ => rfl) ?_
  refine Go.to (st' := (32, _, [], [(0, []), (11, []), c2, c3, c4, (0, CO true), c6, (5, [.ref 8, .ref 9, .int 2, .ref 10, .ref 11, .int sz, .null]), (6, [.int 0, .ref 1, .int 0]), (3, []), (0, RC), (0, [.int 0, .int 1]), (7, [.ref 8, .int (-1), .int 0, .int 0]), (8, [.int 15, .int 12, .ref 14, .ref 15, .null, .null, .null, .null, .null, .int 0, .null, .int 0, .int 0]), (0, List.replicate 8 (.int 0)), (0, List.replicate 8 (.int 0))])) rfl ?_
  iterate 2 (refine Go.step rfl (fun _ => rfl) ?_)
  refine Go.step rfl (fun _ => rfl) ?_
  refine Go.to (st' := (38, _, [.ref 16, .ref 13], [(0, []), (11, []), c2, c3, c4, (0, CO true), c6, (5, [.ref 8, .ref 9, .int 2, .ref 10, .ref 11, .int sz, .null]), (6, [.int 0, .ref 1, .int 0]), (3, []), (0, RC), (0, [.int 0, .int 1]), (7, [.ref 8, .int (-1), .int 0, .int 0]), (8, [.int 15, .int 12, .ref 14, .ref 15, .null, .null, .null, .null, .null, .int 0, .null, .int 0, .int 0]), (0, List.replicate 8 (.int 0)), (0, List.replicate 8 (.int 0)), (9, List.replicate 8 .null)])) rfl ?_
  refine Go.step rfl (fun _ => rfl) ?_
  refine Go.to (st' := (41, _, [], [(0, []), (11, []), c2, c3, c4, (0, CO true), c6, (5, [.ref 8, .ref 9, .int 2, .ref 10, .ref 11, .int sz, .null]), (6, [.int 0, .ref 1, .int 0]), (3, []), (0, RC), (0, [.int 0, .int 1]), (7, [.ref 8, .int (-1), .int 0, .int 0]), (8, [.int 15, .int 12, .ref 14, .ref 15, .ref 16, .null, .null, .null, .null, .int 0, .null, .int 0, .int 0]), (0, List.replicate 8 (.int 0)), (0, List.replicate 8 (.int 0)), (9, List.replicate 8 .null)])) rfl ?_
  iterate 2 (refine Go.step rfl (fun _ => rfl) ?_)
  refine Go.step rfl (fun _ => rfl) ?_
  refine Go.to (st' := (45, _, [.ref 17, .ref 13], [(0, []), (11, []), c2, c3, c4, (0, CO true), c6, (5, [.ref 8, .ref 9, .int 2, .ref 10, .ref 11, .int sz, .null]), (6, [.int 0, .ref 1, .int 0]), (3, []), (0, RC), (0, [.int 0, .int 1]), (7, [.ref 8, .int (-1), .int 0, .int 0]), (8, [.int 15, .int 12, .ref 14, .ref 15, .ref 16, .null, .null, .null, .null, .int 0, .null, .int 0, .int 0]), (0, List.replicate 8 (.int 0)), (0, List.replicate 8 (.int 0)), (9, List.replicate 8 .null), (0, [])])) rfl ?_
  refine Go.step rfl (fun _ => rfl) ?_
  refine Go.to (st' := (48, _, [], [(0, []), (11, []), c2, c3, c4, (0, CO true), c6, (5, [.ref 8, .ref 9, .int 2, .ref 10, .ref 11, .int sz, .null]), (6, [.int 0, .ref 1, .int 0]), (3, []), (0, RC), (0, [.int 0, .int 1]), (7, [.ref 8, .int (-1), .int 0, .int 0]), (8, [.int 15, .int 12, .ref 14, .ref 15, .ref 16, .ref 17, .null, .null, .null, .int 0, .null, .int 0, .int 0]), (0, List.replicate 8 (.int 0)), (0, List.replicate 8 (.int 0)), (9, List.replicate 8 .null), (0, [])])) rfl ?_
  iterate 2 (refine Go.step rfl (fun _ => rfl) ?_)
  refine Go.step rfl (fun _ => rfl) ?_
  refine Go.to (st' := (53, _, [], [(0, []), (11, []), c2, c3, c4, (0, CO true), c6, (5, [.ref 8, .ref 9, .int 2, .ref 10, .ref 11, .int sz, .null]), (6, [.int 0, .ref 1, .int 0]), (3, []), (0, RC), (0, [.int 0, .int 1]), (7, [.ref 8, .int (-1), .int 0, .int 0]), (8, [.int 15, .int 12, .ref 14, .ref 15, .ref 16, .ref 17, .ref 7, .null, .null, .int 0, .null, .int 0, .int 0]), (0, List.replicate 8 (.int 0)), (0, List.replicate 8 (.int 0)), (9, List.replicate 8 .null), (0, [])])) rfl ?_
  iterate 2 (refine Go.step rfl (fun _ => rfl) ?_)
  refine Go.step rfl (fun _ => rfl) ?_
  refine Go.to (st' := (58, _, [.ref 18, .ref 13], [(0, []), (11, []), c2, c3, c4, (0, CO true), c6, (5, [.ref 8, .ref 9, .int 2, .ref 10, .ref 11, .int sz, .null]), (6, [.int 0, .ref 1, .int 0]), (3, []), (0, RC), (0, [.int 0, .int 1]), (7, [.ref 8, .int (-1), .int 0, .int 0]), (8, [.int 15, .int 12, .ref 14, .ref 15, .ref 16, .ref 17, .ref 7, .null, .null, .int 0, .null, .int 0, .int 0]), (0, List.replicate 8 (.int 0)), (0, List.replicate 8 (.int 0)), (9, List.replicate 8 .null), (0, []), (0, CO true)])) rfl ?_
  iterate 1 (refine Go.step rfl (fun _ => rfl) ?_)
  refine Go.step rfl (fun _ => rfl) ?_
  refine Go.to (st' := (64, _, [], [(0, []), (11, []), c2, c3, c4, (0, CO true), c6, (5, [.ref 8, .ref 9, .int 2, .ref 10, .ref 11, .int sz, .null]), (6, [.int 0, .ref 1, .int 0]), (3, []), (0, RC), (0, [.int 0, .int 1]), (7, [.ref 8, .int (-1), .int 0, .int 0]), (8, [.int 15, .int 12, .ref 14, .ref 15, .ref 16, .ref 17, .ref 7, .ref 18, .null, .int 0, .null, .int 0, .int 0]), (0, List.replicate 8 (.int 0)), (0, List.replicate 8 (.int 0)), (9, List.replicate 8 .null), (0, []), (0, CO true)])) rfl ?_
  iterate 3 (refine Go.step rfl (fun _ => rfl) ?_)
  refine Go.step rfl (fun _ => rfl) ?_
  refine Go.to (st' := (69, _, [.ref 19, .ref 13], [(0, []), (11, []), c2, c3, c4, (0, CO true), c6, (5, [.ref 8, .ref 9, .int 2, .ref 10, .ref 11, .int sz, .null]), (6, [.int 0, .ref 1, .int 0]), (3, []), (0, RC), (0, [.int 0, .int 1]), (7, [.ref 8, .int (-1), .int 0, .int 0]), (8, [.int 15, .int 12, .ref 14, .ref 15, .ref 16, .ref 17, .ref 7, .ref 18, .null, .int 0, .null, .int 0, .int 0]), (0, List.replicate 8 (.int 0)), (0, List.replicate 8 (.int 0)), (9, List.replicate 8 .null), (0, []), (0, CO true), (0, [.int 0, .int 0])])) rfl ?_
  refine Go.step rfl (fun _ => rfl) ?_
  refine Go.to (st' := (72, _, [], [(0, []), (11, []), c2, c3, c4, (0, CO true), c6, (5, [.ref 8, .ref 9, .int 2, .ref 10, .ref 11, .int sz, .null]), (6, [.int 0, .ref 1, .int 0]), (3, []), (0, RC), (0, [.int 0, .int 1]), (7, [.ref 8, .int (-1), .int 0, .int 0]), (8, [.int 15, .int 12, .ref 14, .ref 15, .ref 16, .ref 17, .ref 7, .ref 18, .ref 19, .int 0, .null, .int 0, .int 0]), (0, List.replicate 8 (.int 0)), (0, List.replicate 8 (.int 0)), (9, List.replicate 8 .null), (0, []), (0, CO true), (0, [.int 0, .int 0])])) rfl ?_
  iterate 5 (refine Go.step rfl (fun _ => rfl) ?_)
  refine Go.step rfl (fun _ => rfl) ?_
  refine Go.to (st' := (80, _, [], [(0, []), (11, []), c2, c3, c4, (0, CO true), c6, (5, [.ref 8, .ref 9, .int 2, .ref 10, .ref 11, .int sz, .null]), (6, [.int 0, .ref 1, .int 0]), (3, []), (0, RC), (0, [.int 0, .int 1]), (7, [.ref 8, .int (-1), .int 0, .int 0]), (8, [.int 15, .int 12, .ref 14, .ref 15, .ref 16, .ref 17, .ref 7, .ref 18, .ref 19, .int (stI true), .null, .int 0, .int 0]), (0, List.replicate 8 (.int 0)), (0, List.replicate 8 (.int 0)), (9, List.replicate 8 .null), (0, []), (0, CO true), (0, [.int 0, .int 0])])) rfl ?_
  iterate 5 (refine Go.step rfl (fun _ => rfl) ?_)
  refine Go.step rfl (fun _ => rfl) ?_
  refine Go.to (st' := (90, _, [.ref 20, .ref 13], [(0, []), (11, []), c2, c3, c4, (0, CO true), c6, (5, [.ref 8, .ref 9, .int 2, .ref 10, .ref 11, .int sz, .null]), (6, [.int 0, .ref 1, .int 0]), (3, []), (0, RC), (0, [.int 0, .int 1]), (7, [.ref 8, .int (-1), .int 0, .int 0]), (8, [.int 15, .int 12, .ref 14, .ref 15, .ref 16, .ref 17, .ref 7, .ref 18, .ref 19, .int (stI true), .null, .int 0, .int 0]), (0, List.replicate 8 (.int 0)), (0, List.replicate 8 (.int 0)), (9, List.replicate 8 .null), (0, []), (0, CO true), (0, [.int 0, .int 0]), (0, List.replicate 48 (.int 0))])) rfl ?_
  refine Go.step rfl (fun _ => rfl) ?_
  refine Go.to (st' := (93, _, [], [(0, []), (11, []), c2, c3, c4, (0, CO true), c6, (5, [.ref 8, .ref 9, .int 2, .ref 10, .ref 11, .int sz, .null]), (6, [.int 0, .ref 1, .int 0]), (3, []), (0, RC), (0, [.int 0, .int 1]), (7, [.ref 8, .int (-1), .int 0, .int 0]), (8, [.int 15, .int 12, .ref 14, .ref 15, .ref 16, .ref 17, .ref 7, .ref 18, .ref 19, .int (stI true), .ref 20, .int 0, .int 0]), (0, List.replicate 8 (.int 0)), (0, List.replicate 8 (.int 0)), (9, List.replicate 8 .null), (0, []), (0, CO true), (0, [.int 0, .int 0]), (0, List.replicate 48 (.int 0))])) rfl ?_
  iterate 1 (refine Go.step rfl (fun _ => rfl) ?_)
  refine Go.rcall monoD mono16 rfl (evAr1_true c2 c3 c4 c6 RC sz _ _ _ _ _ _ _ _ _) rfl rfl rfl rfl (le_r rfl) ?_
  refine Go.step rfl (fun _ => rfl) ?_
  refine Go.to (st' := (99, _, [.ref 21], [(0, []), (11, []), c2, c3, c4, (0, CO true), c6, (5, [.ref 8, .ref 9, .int 2, .ref 10, .ref 11, .int sz, .null]), (6, [.int 0, .ref 1, .int 0]), (3, []), (0, RC), (0, [.int 0, .int 1]), (7, [.ref 8, .int (-1), .int 0, .int 0]), (8, [.int 15, .int 12, .ref 14, .ref 15, .ref 16, .ref 17, .ref 7, .ref 18, .ref 19, .int (stI true), .ref 20, .int 0, .int 0]), (0, List.replicate 8 (.int 0)), (0, List.replicate 8 (.int 0)), (9, List.replicate 8 .null), (0, []), (0, CO true), (0, [.int 0, .int 0]), (0, List.replicate 48 (.int 0)), (3, [.int 0, .int 0])])) rfl ?_
  iterate 24 (refine Go.step rfl (fun _ => rfl) ?_)
  refine Go.step rfl (fun _ => rfl) ?_
  refine Go.to (st' := (140, _, [], [(0, []), (11, []), c2, c3, c4, (0, CO true), c6, (5, [.ref 8, .ref 9, .int 2, .ref 10, .ref 11, .int sz, .null]), (6, [.int 0, .ref 1, .int 0]), (3, []), (0, RC), (0, [.int 0, .int 1]), (7, [.ref 8, .int (-1), .int 0, .int 0]), (8, [.int 15, .int 12, .ref 14, .ref 15, .ref 16, .ref 17, .ref 7, .ref 18, .ref 19, .int (stI true), .ref 20, .int 0, .int 0]), (0, List.replicate 8 (.int 0)), (0, List.replicate 8 (.int 0)), (9, List.replicate 8 .null), (0, []), (0, CO true), (0, [.int 0, .int 0]), (0, List.replicate 48 (.int 0)), (3, [.int 1, .int 0])])) rfl ?_
  iterate 17 (refine Go.step rfl (fun _ => rfl) ?_)
  refine Go.step rfl (fun _ => rfl) ?_
  refine Go.to (st' := (140, _, [], [(0, []), (11, []), c2, c3, c4, (0, CO true), c6, (5, [.ref 8, .ref 9, .int 2, .ref 10, .ref 11, .int sz, .null]), (6, [.int 0, .ref 1, .int 0]), (3, []), (0, RC), (0, [.int 0, .int 1]), (7, [.ref 8, .int (-1), .int 0, .int 0]), (8, [.int 15, .int 12, .ref 14, .ref 15, .ref 16, .ref 17, .ref 7, .ref 18, .ref 19, .int (stI true), .ref 20, .int 0, .int 0]), (0, List.replicate 8 (.int 0)), (0, List.replicate 8 (.int 0)), (9, List.replicate 8 .null), (0, []), (0, CO true), (0, [.int 0, .int 0]), (0, List.replicate 48 (.int 0)), (3, [.int 1, .int 1])])) rfl ?_
  iterate 9 (refine Go.step rfl (fun _ => rfl) ?_)
  refine Go.rcall monoD mono16 rfl (evAr1_true c2 c3 c4 c6 RC sz _ _ _ _ _ _ _ _ _) rfl rfl rfl rfl (le_r rfl) ?_
  iterate 3 (refine Go.step rfl (fun _ => rfl) ?_)
  refine Go.step rfl (fun _ => rfl) ?_
  refine Go.to (st' := (167, _, [], [(0, []), (11, []), c2, c3, c4, (0, CO true), c6, (5, [.ref 8, .ref 9, .int 2, .ref 10, .ref 11, .int sz, .null]), (6, [.int 0, .ref 1, .int 0]), (3, []), (0, RC), (0, [.int 0, .int 1]), (7, [.ref 8, .int (-1), .int 0, .int 0]), (8, [.int 15, .int 12, .ref 14, .ref 15, .ref 16, .ref 17, .ref 7, .ref 18, .ref 19, .int (stI true), .ref 20, .int (b2i true), .int 0]), (0, List.replicate 8 (.int 0)), (0, List.replicate 8 (.int 0)), (9, List.replicate 8 .null), (0, []), (0, CO true), (0, [.int 0, .int 0]), (0, List.replicate 48 (.int 0)), (3, [.int 1, .int 1])])) rfl ?_
  exact Go.retE rfl (fun _ => rfl) rfl
theorem evGrow2 (u : Bool) (c2 c3 c4 c5 c6 c9 c11 c12 c17 c21 : Nat × List Value) (sz : Int32) (RC SC SL : List Value) (nn : Int32) (FT CN TU : List Value) (T : MH) : Eval D 22 [.ref 8, .int 1] (HR u (QQ.mk c2 c3 c4 c5 c6 (6, [.int 1, .ref 1, .int 0]) c9 c11 c12 c17 c21) sz RC SC SL nn FT CN TU T) (some (.ref (T.length + 22)), (HR u (QQ.mk c2 c3 c4 c5 c6 (6, [.int 1, .ref (T.length + 22), .int 0]) c9 c11 c12 c17 c21) sz RC SC SL nn FT CN TU (T ++ [(10, List.replicate 10 .null)]))) := by
  refine Eval.intro2 monoD [.val (.ref 8), .val (.int 1), .unset, .unset] rfl (le_r rfl) rfl ?_
  iterate 13 (refine Go.step rfl (fun _ => rfl) ?_)
  refine Go.scall monoD mono22 rfl (evMax2 _) rfl rfl (le_r rfl) (le_r rfl) ?_
  refine Go.step rfl (fun _ => rfl) ?_
  refine Go.to (st' := (55, _, [.ref (T.length + 22), .ref 8], (HR u (QQ.mk c2 c3 c4 c5 c6 (6, [.int 1, .ref 1, .int 0]) c9 c11 c12 c17 c21) sz RC SC SL nn FT CN TU (T ++ [(10, List.replicate 10 .null)])))) rfl ?_
  iterate 1 (refine Go.step rfl (fun _ => rfl) ?_)
  refine Go.step rfl (fun _ => rfl) ?_
  refine Go.to (st' := (59, _, [.ref (T.length + 22)], (HR u (QQ.mk c2 c3 c4 c5 c6 (6, [.int 1, .ref (T.length + 22), .int 0]) c9 c11 c12 c17 c21) sz RC SC SL nn FT CN TU (T ++ [(10, List.replicate 10 .null)])))) rfl ?_
  exact Go.retE rfl (fun _ => rfl) rfl
theorem evGrow1 (u : Bool) (c2 c3 c4 c5 c6 c9 c11 c12 c17 c21 : Nat × List Value) (sz : Int32) (RC SC SL : List Value) (nn : Int32) (FT CN TU : List Value) (T : MH) : Eval D 21 [.ref 8] (HR u (QQ.mk c2 c3 c4 c5 c6 (6, [.int 1, .ref 1, .int 0]) c9 c11 c12 c17 c21) sz RC SC SL nn FT CN TU T) (some (.ref (T.length + 22)), (HR u (QQ.mk c2 c3 c4 c5 c6 (6, [.int 1, .ref (T.length + 22), .int 0]) c9 c11 c12 c17 c21) sz RC SC SL nn FT CN TU (T ++ [(10, List.replicate 10 .null)]))) := by
  refine Eval.intro2 monoD [.val (.ref 8)] rfl (le_r rfl) rfl ?_
  iterate 5 (refine Go.step rfl (fun _ => rfl) ?_)
  refine Go.rcall monoD mono21 rfl (evGrow2 u c2 c3 c4 c5 c6 c9 c11 c12 c17 c21 sz RC SC SL nn FT CN TU T) rfl rfl rfl rfl (le_r rfl) ?_
  exact Go.retE rfl (fun _ => rfl) rfl
theorem evAdd20 (u : Bool) (c2 c3 c4 c5 c6 c9 c11 c12 c17 c21 : Nat × List Value) (sz : Int32) (RC SC SL : List Value) (nn : Int32) (FT CN TU : List Value) (T : MH) : Eval D 20 [.ref 8, .ref 13, .ref 1, .int 0] (HR u (QQ.mk c2 c3 c4 c5 c6 (6, [.int 1, .ref 1, .int 0]) c9 c11 c12 c17 c21) sz RC SC SL nn FT CN TU T) (none, (HR u (QQ.mk c2 c3 c4 c5 c6 (6, [.int 1, .ref (T.length + 22), .int 1]) c9 c11 c12 c17 c21) sz RC SC SL nn FT CN TU (T ++ [(10, .ref 13 :: List.replicate 9 .null)]))) := by
  refine Eval.intro2 monoD [.val (.ref 8), .val (.ref 13), .val (.ref 1), .val (.int 0)] rfl (le_r rfl) rfl ?_
  iterate 5 (refine Go.step rfl (fun _ => rfl) ?_)
  refine Go.rcall monoD mono20 rfl (evGrow1 u c2 c3 c4 c5 c6 c9 c11 c12 c17 c21 sz RC SC SL nn FT CN TU T) rfl rfl rfl rfl (le_r rfl) ?_
  iterate 4 (refine Go.step rfl (fun _ => rfl) ?_)
  refine Go.astR rfl ((hr_getT ..).trans (get_last _ _)) (by omega) rfl (by decide) (by decide) ?_
  rw [hr_setT, set_last]
  refine Go.to (st' := (15, _, [], (HR u (QQ.mk c2 c3 c4 c5 c6 (6, [.int 1, .ref (T.length + 22), .int 0]) c9 c11 c12 c17 c21) sz RC SC SL nn FT CN TU (T ++ [(10, .ref 13 :: List.replicate 9 .null)])))) rfl ?_
  iterate 4 (refine Go.step rfl (fun _ => rfl) ?_)
  refine Go.step rfl (fun _ => rfl) ?_
  refine Go.to (st' := (22, _, [], (HR u (QQ.mk c2 c3 c4 c5 c6 (6, [.int 1, .ref (T.length + 22), .int 1]) c9 c11 c12 c17 c21) sz RC SC SL nn FT CN TU (T ++ [(10, .ref 13 :: List.replicate 9 .null)])))) rfl ?_
  exact Go.retE rfl (fun _ => rfl) rfl
theorem evAdd19 (u : Bool) (c2 c3 c4 c5 c6 c9 c11 c12 c17 c21 : Nat × List Value) (sz : Int32) (RC SC SL : List Value) (nn : Int32) (FT CN TU : List Value) (T : MH) : Eval D 19 [.ref 8, .ref 13] (HR u (QQ.mk c2 c3 c4 c5 c6 (6, [.int 0, .ref 1, .int 0]) c9 c11 c12 c17 c21) sz RC SC SL nn FT CN TU T) (some (.int 1), (HR u (QQ.mk c2 c3 c4 c5 c6 (6, [.int 1, .ref (T.length + 22), .int 1]) c9 c11 c12 c17 c21) sz RC SC SL nn FT CN TU (T ++ [(10, .ref 13 :: List.replicate 9 .null)]))) := by
  refine Eval.intro2 monoD [.val (.ref 8), .val (.ref 13)] rfl (le_r rfl) rfl ?_
  iterate 5 (refine Go.step rfl (fun _ => rfl) ?_)
  refine Go.step rfl (fun _ => rfl) ?_
  refine Go.to (st' := (10, _, [], (HR u (QQ.mk c2 c3 c4 c5 c6 (6, [.int 1, .ref 1, .int 0]) c9 c11 c12 c17 c21) sz RC SC SL nn FT CN TU T))) rfl ?_
  iterate 6 (refine Go.step rfl (fun _ => rfl) ?_)
  refine Go.rcall monoD mono19 rfl (evAdd20 u c2 c3 c4 c5 c6 c9 c11 c12 c17 c21 sz RC SC SL nn FT CN TU T) rfl rfl rfl rfl (le_r rfl) ?_
  iterate 1 (refine Go.step rfl (fun _ => rfl) ?_)
  exact Go.retE rfl (fun _ => rfl) rfl
theorem ev12_false (c2 c3 c4 c6 : Nat × List Value) (RC : List Value) (sz : Int32) (SC SL : List Value) (nn : Int32) (FT CN TU : List Value) (T : MH) (hf : Eval D 18 [.ref 13, .int sz] (HR false (Q0_false c2 c3 c4 c6 (6, [.int 0, .ref 1, .int 0])) sz RC [.int 0] (List.replicate 32 (.int 0)) 0 (List.replicate 8 (.int 0)) (List.replicate 8 (.int 0)) (List.replicate 8 .null) []) (none, (HR false (Q0_false c2 c3 c4 c6 (6, [.int 0, .ref 1, .int 0])) sz RC SC SL nn FT CN TU T))) : Eval D 12 [.ref 7, .ref 5] (H12 c2 c3 c4 (0, CO false) c6 RC sz) (some (.ref 13), (HR false (Q0_false c2 c3 c4 c6 (6, [.int 1, .ref (T.length + 22), .int 1])) sz RC SC SL nn FT CN TU (T ++ [(10, .ref 13 :: List.replicate 9 .null)]))) := by
  refine Eval.intro2 monoD [.val (.ref 7), .val (.ref 5), .unset, .unset] rfl (le_r rfl) rfl ?_
  iterate 2 (refine Go.step rfl (fun _ => rfl) ?_)
  refine Go.rcall monoD mono12 rfl (evIter_false c2 c3 c4 c6 RC sz) rfl rfl rfl rfl (le_r rfl) ?_
  iterate 2 (refine Go.step rfl (fun _ => rfl) ?_)
  refine Go.rcall monoD mono12 rfl (evHas_false c2 c3 c4 c6 RC sz) rfl rfl rfl rfl (le_r rfl) ?_
  iterate 1 (refine Go.step rfl (fun _ => rfl) ?_)
  refine Go.step rfl (fun _ => rfl) ?_
  refine Go.to (st' := (45, _, [.ref 13], [(0, []), (11, []), c2, c3, c4, (0, CO false), c6, (5, [.ref 8, .ref 9, .int 2, .ref 10, .ref 11, .int sz, .null]), (6, [.int 0, .ref 1, .int 0]), (3, []), (0, RC), (0, [.int 0, .int 1]), (7, [.ref 8, .int (-1), .int 0, .int 0]), (8, [.int 0, .int 0, .null, .null, .null, .null, .null, .null, .null, .int 0, .null, .int 0, .int 0])])) rfl ?_
  iterate 3 (refine Go.step rfl (fun _ => rfl) ?_)
  refine Go.rcall monoD mono12 rfl (evIni_false c2 c3 c4 c6 RC sz) rfl rfl rfl rfl (le_r rfl) ?_
  iterate 4 (refine Go.step rfl (fun _ => rfl) ?_)
  refine Go.rcall monoD mono12 rfl (hf) rfl rfl rfl rfl (le_r rfl) ?_
  iterate 3 (refine Go.step rfl (fun _ => rfl) ?_)
  refine Go.rcall monoD mono12 rfl (evAdd19 false c2 c3 c4 (0, CO false) c6 (3, []) (0, [.int 0, .int 1]) (7, [.ref 8, .int (-1), .int 0, .int 0]) (0, []) (3, [.int 1, .int 0]) sz RC SC SL nn FT CN TU T) rfl rfl rfl rfl (le_r rfl) ?_
  iterate 2 (refine Go.step rfl (fun _ => rfl) ?_)
  exact Go.retE rfl (fun _ => rfl) rfl
theorem ev12_true (c2 c3 c4 c6 : Nat × List Value) (RC : List Value) (sz : Int32) (SC SL : List Value) (nn : Int32) (FT CN TU : List Value) (T : MH) (hf : Eval D 18 [.ref 13, .int sz] (HR true (Q0_true c2 c3 c4 c6 (6, [.int 0, .ref 1, .int 0])) sz RC [.int 0, .int 0] (List.replicate 48 (.int 0)) 0 (List.replicate 8 (.int 0)) (List.replicate 8 (.int 0)) (List.replicate 8 .null) []) (none, (HR true (Q0_true c2 c3 c4 c6 (6, [.int 0, .ref 1, .int 0])) sz RC SC SL nn FT CN TU T))) : Eval D 12 [.ref 7, .ref 5] (H12 c2 c3 c4 (0, CO true) c6 RC sz) (some (.ref 13), (HR true (Q0_true c2 c3 c4 c6 (6, [.int 1, .ref (T.length + 22), .int 1])) sz RC SC SL nn FT CN TU (T ++ [(10, .ref 13 :: List.replicate 9 .null)]))) := by
  refine Eval.intro2 monoD [.val (.ref 7), .val (.ref 5), .unset, .unset] rfl (le_r rfl) rfl ?_
  iterate 2 (refine Go.step rfl (fun _ => rfl) ?_)
  refine Go.rcall monoD mono12 rfl (evIter_true c2 c3 c4 c6 RC sz) rfl rfl rfl rfl (le_r rfl) ?_
  iterate 2 (refine Go.step rfl (fun _ => rfl) ?_)
  refine Go.rcall monoD mono12 rfl (evHas_true c2 c3 c4 c6 RC sz) rfl rfl rfl rfl (le_r rfl) ?_
  iterate 1 (refine Go.step rfl (fun _ => rfl) ?_)
  refine Go.step rfl (fun _ => rfl) ?_
  refine Go.to (st' := (45, _, [.ref 13], [(0, []), (11, []), c2, c3, c4, (0, CO true), c6, (5, [.ref 8, .ref 9, .int 2, .ref 10, .ref 11, .int sz, .null]), (6, [.int 0, .ref 1, .int 0]), (3, []), (0, RC), (0, [.int 0, .int 1]), (7, [.ref 8, .int (-1), .int 0, .int 0]), (8, [.int 0, .int 0, .null, .null, .null, .null, .null, .null, .null, .int 0, .null, .int 0, .int 0])])) rfl ?_
  iterate 3 (refine Go.step rfl (fun _ => rfl) ?_)
  refine Go.rcall monoD mono12 rfl (evIni_true c2 c3 c4 c6 RC sz) rfl rfl rfl rfl (le_r rfl) ?_
  iterate 4 (refine Go.step rfl (fun _ => rfl) ?_)
  refine Go.rcall monoD mono12 rfl (hf) rfl rfl rfl rfl (le_r rfl) ?_
  iterate 3 (refine Go.step rfl (fun _ => rfl) ?_)
  refine Go.rcall monoD mono12 rfl (evAdd19 true c2 c3 c4 (0, CO true) c6 (3, []) (0, [.int 0, .int 1]) (7, [.ref 8, .int (-1), .int 0, .int 0]) (0, []) (3, [.int 1, .int 1]) sz RC SC SL nn FT CN TU T) rfl rfl rfl rfl (le_r rfl) ?_
  iterate 2 (refine Go.step rfl (fun _ => rfl) ?_)
  exact Go.retE rfl (fun _ => rfl) rfl
def LB (v : Nat → Int32) (L : KL) : Prop := ∀ κ p a b, L[κ]? = some (p, a, b) → a = v κ ∧ b = Int32.ofNat κ
theorem LB.add {v : Nat → Int32} {L : KL} (h : LB v L) (p : Nat) : LB v (L ++ [(p, v L.length, Int32.ofNat L.length)]) := by
  intro κ q a b hq
  rw [List.getElem?_append] at hq
  split at hq
  · exact h κ q a b hq
  · rename_i hi
    have e : κ - L.length = 0 := by
      cases hz : κ - L.length with
      | zero => rfl
      | succ z => rw [hz] at hq; simp at hq
    rw [e] at hq
    obtain rfl : κ = L.length := by omega
    simp at hq
    exact ⟨hq.2.1.symm, hq.2.2.symm⟩
/-- one filing in the index on both columns: the slot is free -/
theorem lookU (Q : QQ) (sz : Int32) (RC SC : List Value) (f : Nat → Int32) (nn : Int32) (FT CN TU : List Value) (T : MH) (v : Nat → Int32) (i : Nat) (r : Nat) (hr : (HR true Q sz RC SC (tab true f) nn FT CN TU T)[r]? = some (0, (kl true (v i) (Int32.ofNat i)).map .int)) {L : KL} (hI : Inv true f L) (hB : LB v L) (hL : L.length = i) (hi : i < 8) : ∃ p, p < 16 ∧ Eval D 32 [.ref 13, .ref r, .int 0, .int (hs (kl true (v i) (Int32.ofNat i)))] (HR true Q sz RC SC (tab true f) nn FT CN TU T) (some (.int (Int32.ofNat p * 3)), (HR true Q sz RC SC (tab true f) nn FT CN TU T)) ∧ f (3 * p) = 0 ∧ Inv true (ins true f p (i + 1) (v i) (Int32.ofNat i)) (L ++ [(p, v i, Int32.ofNat i)]) := by
  obtain ⟨p, hp, hE, hc⟩ := look_true Q sz RC SC f nn FT CN TU T (v i) (Int32.ofNat i) r hr hI (by omega)
  rcases hc with ⟨κ, hκ, hk, -⟩ | ⟨hf, -, hI'⟩
  · have := on_inj (by omega) (by omega) (hB _ _ _ _ hk).2
    omega
  · exact ⟨p, hp, hE, hf, by rw [hL] at hI'; exact hI'⟩
theorem turnU (Q : QQ) (sz : Int32) (RC : List Value) (v : Nat → Int32) (f : Nat → Int32) (FT CN TU : List Value) (KT : List Value) (i sp : Nat) (s0 s1 : Value) (L : KL) (hv : RC[2 * i]? = some (.int (v i))) (hv1 : RC[2 * i + 1]? = some (.int (Int32.ofNat i))) (hi : i < sp) (hsp : sp ≤ 5) (hK : KT.length = sp) (hI : Inv true f L) (hB : LB v L) (hL : L.length = i) (x4 x5 : Slot) (h4 : x4 = .unset ∨ ∃ z : Int32, x4 = .val (.int z)) (h5 : x5 = .unset ∨ ∃ z : Int32, x5 = .val (.int z)) :
    ∃ p f' z4 z5, Inv true f' (L ++ [(p, v i, Int32.ofNat i)]) ∧ ∀ w, Go D c18 (6, [.val (.ref 13), .val (.int (Int32.ofNat sp)), .val (.ref 22), .val (.int (Int32.ofNat (i + 1))), .val (.int z4), .val (.int z5)], [], (HR true Q sz RC [.int (v i), .int (Int32.ofNat i)] (tab true f') (Int32.ofNat (i + 1)) FT CN TU [(0, KT.set i (.int (Int32.ofNat i)))])) w → Go D c18 (6, [.val (.ref 13), .val (.int (Int32.ofNat sp)), .val (.ref 22), .val (.int (Int32.ofNat i)), x4, x5], [], (HR true Q sz RC [s0, s1] (tab true f) (Int32.ofNat i) FT CN TU [(0, KT)])) w := by
  obtain ⟨g0, e0, g1, e1⟩ := ar2 (show i < 16 by omega)
  have hv' : RC[(Int32.ofNat i * 2 + 0).toNatClampNeg]? = some (.int (v i)) := by rw [e0]; exact hv
  have hv1' : RC[(Int32.ofNat i * 2 + 1).toNatClampNeg]? = some (.int (Int32.ofNat i)) := by rw [e1]; exact hv1
  obtain ⟨p, hp, hE, hf, hI'⟩ := lookU Q sz RC [.int (v i), .int (Int32.ofNat i)] f (Int32.ofNat i) FT CN TU [(0, KT)] v i 19 rfl hI hB hL (by omega)
  obtain ⟨ge, ee, -⟩ := ar_true hp
  have hx : (tab true f)[(Int32.ofNat p * 3).toNatClampNeg]? = some (.int (f (3 * p))) := by rw [ee]; exact tab_get (by simp only [st]; omega)
  have hlt : if_icmp.holds .ge (Int32.ofNat i) (Int32.ofNat sp) = false := (i_ge (by omega) (by omega)).trans (decide_eq_false (by omega))
  refine ⟨p, _, Int32.ofNat p * 3, Int32.ofNat i, hI', fun w hg => h18_true Q sz RC (tab true f) (Int32.ofNat i) FT CN TU [(0, KT)] (Int32.ofNat i) (v i) (Int32.ofNat i) (Int32.ofNat p * 3) (f (3 * p)) s0 s1 g0 hv' g1 hv1' hE ge hx (Int32.ofNat sp) x4 x5 h4 h5 hlt ?_⟩
  rw [hf]
  exact new18_true Q sz RC f i FT CN TU [] KT p i hp (by omega) (v i) (Int32.ofNat i) (Int32.ofNat sp) (by rw [hK]; exact hi) (by omega) hg
theorem loopU (Q : QQ) (sz : Int32) (RC : List Value) (v : Nat → Int32) (FT CN TU : List Value) (sp : Nat) (hsp : sp ≤ 5) (hv : ∀ i, i < sp → RC[2 * i]? = some (.int (v i)) ∧ RC[2 * i + 1]? = some (.int (Int32.ofNat i))) : ∀ (m i : Nat) (f : Nat → Int32) (KT : List Value) (s0 s1 : Value) (L : KL) (x4 x5 : Slot), i + m = sp → KT.length = sp → Inv true f L → LB v L → L.length = i → (x4 = .unset ∨ ∃ z : Int32, x4 = .val (.int z)) → (x5 = .unset ∨ ∃ z : Int32, x5 = .val (.int z)) →
    ∃ f' L' KT' s0' s1' x4' x5', KT'.length = sp ∧ Inv true f' L' ∧ LB v L' ∧ L'.length = sp ∧ ∀ w, Go D c18 (99, [.val (.ref 13), .val (.int (Int32.ofNat sp)), .val (.ref 22), .val (.int (Int32.ofNat sp)), x4', x5'], [], (HR true Q sz RC [s0', s1'] (tab true f') (Int32.ofNat sp) FT CN TU [(0, KT')])) w → Go D c18 (6, [.val (.ref 13), .val (.int (Int32.ofNat sp)), .val (.ref 22), .val (.int (Int32.ofNat i)), x4, x5], [], (HR true Q sz RC [s0, s1] (tab true f) (Int32.ofNat i) FT CN TU [(0, KT)])) w
  | 0, i, f, KT, s0, s1, L, x4, x5, him, hK, hI, hB, hL, h4, h5 => by
    obtain rfl : i = sp := by omega
    refine ⟨f, L, KT, s0, s1, x4, x5, hK, hI, hB, hL, fun w hg => ?_⟩
    iterate 2 (refine Go.step rfl (fun _ => rfl) ?_)
    refine Go.icmp rfl (b := true) ((i_ge (by omega) (by omega)).trans (decide_eq_true (Nat.le_refl _))) ?_
    exact hg
  | m + 1, i, f, KT, s0, s1, L, x4, x5, him, hK, hI, hB, hL, h4, h5 => by
    obtain ⟨p, f1, z4, z5, hI1, hgo⟩ := turnU Q sz RC v f FT CN TU KT i sp s0 s1 L (hv i (by omega)).1 (hv i (by omega)).2 (by omega) hsp hK hI hB hL x4 x5 h4 h5
    have hB1 := hB.add p
    rw [hL] at hB1
    obtain ⟨f', L', KT', s0', s1', x4', x5', k1, k2, k3, k4, k5⟩ := loopU Q sz RC v FT CN TU sp hsp hv m (i + 1) f1 (KT.set i (.int (Int32.ofNat i))) (.int (v i)) (.int (Int32.ofNat i)) _ (.val (.int z4)) (.val (.int z5)) (by omega) (by rw [List.length_set]; exact hK) hI1 hB1 (by simp [hL]) (Or.inr ⟨z4, rfl⟩) (Or.inr ⟨z5, rfl⟩)
    exact ⟨f', L', KT', s0', s1', x4', x5', k1, k2, k3, k4, fun w hg => hgo w (k5 w hg)⟩
theorem evFill_true (Q : QQ) (sz : Int32) (RC : List Value) (v : Nat → Int32) (sp : Nat) (hsp : sp ≤ 5) (s0 s1 : Value) (hv : ∀ i, i < sp → RC[2 * i]? = some (.int (v i)) ∧ RC[2 * i + 1]? = some (.int (Int32.ofNat i))) :
    ∃ f' L' KT' s0' s1', KT'.length = sp ∧ Inv true f' L' ∧ LB v L' ∧ L'.length = sp ∧ Eval D 18 [.ref 13, .int (Int32.ofNat sp)] (HR true Q sz RC [s0, s1] (List.replicate 48 (.int 0)) 0 (List.replicate 8 (.int 0)) (List.replicate 8 (.int 0)) (List.replicate 8 .null) []) (none, (HR true Q sz RC [s0', s1'] (tab true f') (Int32.ofNat sp) (List.replicate 8 (.int 0)) (List.replicate 8 (.int 0)) (List.replicate 8 .null) [(0, KT')])) := by
  obtain ⟨f', L', KT', s0', s1', x4', x5', k1, k2, k3, k4, k5⟩ := loopU Q sz RC v (List.replicate 8 (.int 0)) (List.replicate 8 (.int 0)) (List.replicate 8 .null) sp hsp hv sp 0 (fun _ => 0) (List.replicate sp (.int 0)) s0 s1 [] .unset .unset (by omega) (by simp) (inv0 true) (fun κ p a b h => by simp at h) rfl (Or.inl rfl) (Or.inl rfl)
  refine ⟨f', L', KT', s0', s1', k1, k2, k3, k4, Eval.intro2 monoD [.val (.ref 13), .val (.int (Int32.ofNat sp)), .unset, .unset, .unset, .unset] rfl (le_r rfl) rfl ?_⟩
  refine Go.step rfl (fun _ => rfl) ?_
  refine Go.newA (by omega) rfl ?_
  rw [hr_len, hr_app]
  iterate 3 (refine Go.step rfl (fun _ => rfl) ?_)
  refine k5 _ ?_
  iterate 2 (refine Go.step rfl (fun _ => rfl) ?_)
  refine Go.ifc rfl (b := false) rfl ?_
  exact Go.retE rfl (fun _ => rfl) rfl
theorem addU (Q : QQ) (sz : Int32) (RC : List Value) (v : Nat → Int32) (f : Nat → Int32) (FT CN TU : List Value) (T : MH) (i : Nat) (s0 s1 : Value) (L : KL) (hv : RC[2 * i]? = some (.int (v i))) (hv1 : RC[2 * i + 1]? = some (.int (Int32.ofNat i))) (hi : i < 5) (hI : Inv true f L) (hB : LB v L) (hL : L.length = i) :
    ∃ p f', Inv true f' (L ++ [(p, v i, Int32.ofNat i)]) ∧ Eval D 27 [.ref 13, .int (Int32.ofNat i)] (HR true Q sz RC [s0, s1] (tab true f) (Int32.ofNat i) FT CN TU T) (none, (HR true Q sz RC [.int (v i), .int (Int32.ofNat i)] (tab true f') (Int32.ofNat (i + 1)) FT CN TU T)) := by
  obtain ⟨g0, e0, g1, e1⟩ := ar2 (show i < 16 by omega)
  have hv' : RC[(Int32.ofNat i * 2 + 0).toNatClampNeg]? = some (.int (v i)) := by rw [e0]; exact hv
  have hv1' : RC[(Int32.ofNat i * 2 + 1).toNatClampNeg]? = some (.int (Int32.ofNat i)) := by rw [e1]; exact hv1
  obtain ⟨p, hp, hE, hf, hI'⟩ := lookU Q sz RC [.int (v i), .int (Int32.ofNat i)] f (Int32.ofNat i) FT CN TU T v i 19 rfl hI hB hL (by omega)
  obtain ⟨ge, ee, -⟩ := ar_true hp
  have hx : (tab true f)[(Int32.ofNat p * 3).toNatClampNeg]? = some (.int (f (3 * p))) := by rw [ee]; exact tab_get (by simp only [st]; omega)
  refine ⟨p, _, hI', Eval.intro2 monoD [.val (.ref 13), .val (.int (Int32.ofNat i)), .unset, .unset] rfl (le_r rfl) rfl (h27_true Q sz RC (tab true f) (Int32.ofNat i) FT CN TU T (Int32.ofNat i) (v i) (Int32.ofNat i) (Int32.ofNat p * 3) (f (3 * p)) s0 s1 g0 hv' g1 hv1' hE ge hx ?_)⟩
  rw [hf]
  exact new27_true Q sz RC f i FT CN TU T p hp (by omega) (Int32.ofNat i) (v i) (Int32.ofNat i)
theorem turn10 (u : Bool) (Q : QQ) (RC SC SL SC' SL' : List Value) (nn nn' : Int32) (FT CN TU FT' CN' TU' : List Value) (T T' : MH) (sp i : Nat) (hi : i < 5) (hE : Eval D 27 [.ref 13, .int (Int32.ofNat i)] (HR u Q 5 RC SC SL nn FT CN TU T) (none, HR u Q 5 RC SC' SL' nn' FT' CN' TU' T')) {w : MR} (hg : Go D c10 (33, [.val (.ref 7), .val (.int (Int32.ofNat sp)), .val .null, .val (.int 0), .val (.ref 13), .val (.int (Int32.ofNat (i + 1)))], [], HR u Q 5 RC SC' SL' nn' FT' CN' TU' T') w) : Go D c10 (33, [.val (.ref 7), .val (.int (Int32.ofNat sp)), .val .null, .val (.int 0), .val (.ref 13), .val (.int (Int32.ofNat i))], [], HR u Q 5 RC SC SL nn FT CN TU T) w := by
  rw [← on_succ i] at hg
  iterate 6 (refine Go.step rfl (fun _ => rfl) ?_)
  refine Go.icmp rfl (b := false) ((i_ge (b := 5) (by omega) (by decide)).trans (decide_eq_false (by omega))) ?_
  iterate 2 (refine Go.step rfl (fun _ => rfl) ?_)
  refine Go.rcall monoD mono10 rfl (hE) rfl rfl rfl rfl (le_r rfl) ?_
  iterate 1 (refine Go.step rfl (fun _ => rfl) ?_)
  refine Go.step rfl (fun _ => rfl) ?_
  exact hg
theorem stop10 (u : Bool) (Q : QQ) (RC SC SL : List Value) (nn : Int32) (FT CN TU : List Value) (T : MH) (sp : Nat) {w : MR} (hg : Go D c10 (61, [.val (.ref 7), .val (.int (Int32.ofNat sp)), .val .null, .val (.int 0), .val (.ref 13), .val (.int (Int32.ofNat 5))], [], HR u Q 5 RC SC SL nn FT CN TU T) w) : Go D c10 (33, [.val (.ref 7), .val (.int (Int32.ofNat sp)), .val .null, .val (.int 0), .val (.ref 13), .val (.int (Int32.ofNat 5))], [], HR u Q 5 RC SC SL nn FT CN TU T) w := by
  iterate 7 (refine Go.step rfl (fun _ => rfl) ?_)
  exact hg
theorem gen_ne : ∀ m n, ∃ ks, ks ∈ gen m n
  | 0, n => ⟨[], by simp [gen]⟩
  | m + 1, n => by
    obtain ⟨ks, h⟩ := gen_ne m (n + 1)
    refine ⟨n :: ks, ?_⟩
    simp only [gen, List.mem_flatMap, List.mem_range, List.mem_map]
    exact ⟨n, by omega, ks, by rw [if_pos rfl]; exact h, rfl⟩
theorem gen_cons {m n κ : Nat} {ks : List Nat} (hκ : κ ≤ n) (h : ks ∈ gen m (if κ = n then n + 1 else n)) : κ :: ks ∈ gen (m + 1) n := by
  simp only [gen, List.mem_flatMap, List.mem_range, List.mem_map]
  exact ⟨κ, by omega, ks, h, rfl⟩
theorem loopC (Q : QQ) (RC : List Value) (v : Nat → Int32) (sp : Nat) (hv : ∀ i, i < 5 → RC[2 * i]? = some (.int (v i))) : ∀ (m i : Nat) (f : Nat → Int32) (M : MM) (s0 : Value) (L : KL), i + m = 5 → M.2.1.length = 8 → M.2.2.1.length = 8 → M.2.2.2.1.length = 8 → Inv false f L → L.length = M.1 → L.length + m < 8 → (∀ ks, ks ∈ gen m M.1 → ∃ M', runC M i ks = some M') →
    ∃ ks f' L' M' sc, ks.length = m ∧ Inv false f' L' ∧ Gr (fun i => (v i, 0)) L i ks L' ∧ runC M i ks = some M' ∧ ∀ w, Go D c10 (61, [.val (.ref 7), .val (.int (Int32.ofNat sp)), .val .null, .val (.int 0), .val (.ref 13), .val (.int (Int32.ofNat 5))], [], (HR false Q 5 RC [sc] (tab false f') (Int32.ofNat M'.1) (M'.2.1.map nv) (M'.2.2.1.map nv) (M'.2.2.2.1.map tv) (M'.2.2.2.2.map cm))) w → Go D c10 (33, [.val (.ref 7), .val (.int (Int32.ofNat sp)), .val .null, .val (.int 0), .val (.ref 13), .val (.int (Int32.ofNat i))], [], (HR false Q 5 RC [s0] (tab false f) (Int32.ofNat M.1) (M.2.1.map nv) (M.2.2.1.map nv) (M.2.2.2.1.map tv) (M.2.2.2.2.map cm))) w
  | 0, i, f, M, s0, L, him, hF, hC, hU, hI, hn, hL, hgd => by
    obtain rfl : i = 5 := by omega
    exact ⟨[], f, L, M, s0, rfl, hI, rfl, rfl, fun w hg => stop10 false Q RC _ _ _ _ _ _ _ sp hg⟩
  | m + 1, i, f, M, s0, L, him, hF, hC, hU, hI, hn, hL, hgd => by
    obtain ⟨κ, f1, L1, hI1, hR, hl1, hT⟩ := addT Q 5 RC v f M i s0 L (hv i (by omega)) (by omega) hF hC hU hI hn (by omega)
    have hκ : κ ≤ M.1 := by rcases hR with ⟨h, -, -⟩ | ⟨h, -⟩ <;> omega
    have hex : ∃ M1, addM M κ i = some M1 := by
      obtain ⟨ks, hks⟩ := gen_ne m (if κ = M.1 then M.1 + 1 else M.1)
      obtain ⟨M', hM'⟩ := hgd _ (gen_cons hκ hks)
      simp only [runC] at hM'
      split at hM'
      · exact ⟨_, by assumption⟩
      · cases hM'
    obtain ⟨M1, hM1⟩ := hex
    obtain ⟨⟨n1, n2, n3, n4⟩, hE⟩ := hT M1 hM1
    obtain ⟨ks, f', L', M', sc, k1, k2, k3, k4, k5⟩ := loopC Q RC v sp hv m (i + 1) f1 M1 (.int (v i)) L1 (by omega) n2 n3 n4 hI1 (by rw [hl1, n1, hn]) (by split at hl1 <;> omega) (fun ks hks => by
      obtain ⟨M', hM'⟩ := hgd _ (gen_cons hκ (by rw [n1] at hks; exact hks))
      simp only [runC, hM1] at hM'
      exact ⟨M', hM'⟩)
    exact ⟨κ :: ks, f', L', M', sc, by simp [k1], k2, ⟨L1, hR, k3⟩, by simp only [runC, hM1]; exact k4, fun w hg => turn10 false Q RC _ _ _ _ _ _ _ _ _ _ _ _ _ _ sp i (by omega) hE (k5 w hg)⟩
theorem loopCU (Q : QQ) (RC : List Value) (v : Nat → Int32) (FT CN TU : List Value) (T : MH) (sp : Nat) (hv : ∀ i, i < 5 → RC[2 * i]? = some (.int (v i)) ∧ RC[2 * i + 1]? = some (.int (Int32.ofNat i))) : ∀ (m i : Nat) (f : Nat → Int32) (s0 s1 : Value) (L : KL), i + m = 5 → Inv true f L → LB v L → L.length = i →
    ∃ f' L' s0' s1', Inv true f' L' ∧ LB v L' ∧ L'.length = 5 ∧ ∀ w, Go D c10 (61, [.val (.ref 7), .val (.int (Int32.ofNat sp)), .val .null, .val (.int 0), .val (.ref 13), .val (.int (Int32.ofNat 5))], [], (HR true Q 5 RC [s0', s1'] (tab true f') (Int32.ofNat 5) FT CN TU T)) w → Go D c10 (33, [.val (.ref 7), .val (.int (Int32.ofNat sp)), .val .null, .val (.int 0), .val (.ref 13), .val (.int (Int32.ofNat i))], [], (HR true Q 5 RC [s0, s1] (tab true f) (Int32.ofNat i) FT CN TU T)) w
  | 0, i, f, s0, s1, L, him, hI, hB, hL => by
    obtain rfl : i = 5 := by omega
    exact ⟨f, L, s0, s1, hI, hB, hL, fun w hg => stop10 true Q RC _ _ _ _ _ _ _ sp hg⟩
  | m + 1, i, f, s0, s1, L, him, hI, hB, hL => by
    obtain ⟨p, f1, hI1, hE⟩ := addU Q 5 RC v f FT CN TU T i s0 s1 L (hv i (by omega)).1 (hv i (by omega)).2 (by omega) hI hB hL
    have hB1 := hB.add p
    rw [hL] at hB1
    obtain ⟨f', L', s0', s1', k2, k3, k4, k5⟩ := loopCU Q RC v FT CN TU T sp hv m (i + 1) f1 (.int (v i)) (.int (Int32.ofNat i)) _ (by omega) hI1 hB1 (by simp [hL])
    exact ⟨f', L', s0', s1', k2, k3, k4, fun w hg => turn10 true Q RC _ _ _ _ _ _ _ _ _ _ _ _ _ _ sp i (by omega) hE (k5 w hg)⟩
theorem evSize1 (u : Bool) (c2 c3 c4 c5 c6 c9 c11 c12 c17 c21 : Nat × List Value) (l : Nat) (RC SC SL : List Value) (nn : Int32) (FT CN TU : List Value) (T : MH) : Eval D 11 [.ref 8] (HR u (QQ.mk c2 c3 c4 c5 c6 (6, [.int 1, .ref (l + 22), .int 1]) c9 c11 c12 c17 c21) 5 RC SC SL nn FT CN TU T) (some (.int 1), (HR u (QQ.mk c2 c3 c4 c5 c6 (6, [.int 1, .ref (l + 22), .int 1]) c9 c11 c12 c17 c21) 5 RC SC SL nn FT CN TU T)) := by
  refine Eval.intro2 monoD [.val (.ref 8)] rfl (le_r rfl) rfl ?_
  iterate 2 (refine Go.step rfl (fun _ => rfl) ?_)
  exact Go.retE rfl (fun _ => rfl) rfl
theorem ev25 (H : MH) : Eval D 25 [.int 0, .int 1, .null] H (some (.int 0), H) := by
  refine Eval.intro2 monoD [.val (.int 0), .val (.int 1), .val .null] rfl (le_r rfl) rfl ?_
  iterate 6 (refine Go.step rfl (fun _ => rfl) ?_)
  exact Go.retE rfl (fun _ => rfl) rfl
theorem ev24 (H : MH) : Eval D 24 [.int 0, .int 1] H (some (.int 0), H) := by
  refine Eval.intro2 monoD [.val (.int 0), .val (.int 1)] rfl (le_r rfl) rfl ?_
  iterate 3 (refine Go.step rfl (fun _ => rfl) ?_)
  refine Go.scall monoD mono24 rfl (ev25 H) rfl rfl (le_r rfl) (le_r rfl) ?_
  exact Go.retE rfl (fun _ => rfl) rfl
theorem ev26 (u : Bool) (c2 c3 c4 c5 c6 c9 c11 c12 c17 c21 : Nat × List Value) (l : Nat) (RC SC SL : List Value) (nn : Int32) (FT CN TU : List Value) (T : MH) (hT : T[l]? = some (10, .ref 13 :: List.replicate 9 .null)) : Eval D 26 [.ref 8, .int 0] (HR u (QQ.mk c2 c3 c4 c5 c6 (6, [.int 1, .ref (l + 22), .int 1]) c9 c11 c12 c17 c21) 5 RC SC SL nn FT CN TU T) (some (.ref 13), (HR u (QQ.mk c2 c3 c4 c5 c6 (6, [.int 1, .ref (l + 22), .int 1]) c9 c11 c12 c17 c21) 5 RC SC SL nn FT CN TU T)) := by
  refine Eval.intro2 monoD [.val (.ref 8), .val (.int 0)] rfl (le_r rfl) rfl ?_
  iterate 3 (refine Go.step rfl (fun _ => rfl) ?_)
  refine Go.ald rfl ((hr_getT ..).trans hT) (by decide) rfl ?_
  exact Go.retE rfl (fun _ => rfl) rfl
theorem ev23 (u : Bool) (c2 c3 c4 c5 c6 c9 c11 c12 c17 c21 : Nat × List Value) (l : Nat) (RC SC SL : List Value) (nn : Int32) (FT CN TU : List Value) (T : MH) (hT : T[l]? = some (10, .ref 13 :: List.replicate 9 .null)) : Eval D 23 [.ref 8, .int 0] (HR u (QQ.mk c2 c3 c4 c5 c6 (6, [.int 1, .ref (l + 22), .int 1]) c9 c11 c12 c17 c21) 5 RC SC SL nn FT CN TU T) (some (.ref 13), (HR u (QQ.mk c2 c3 c4 c5 c6 (6, [.int 1, .ref (l + 22), .int 1]) c9 c11 c12 c17 c21) 5 RC SC SL nn FT CN TU T)) := by
  refine Eval.intro2 monoD [.val (.ref 8), .val (.int 0)] rfl (le_r rfl) rfl ?_
  iterate 3 (refine Go.step rfl (fun _ => rfl) ?_)
  refine Go.scall monoD mono23 rfl (ev24 _) rfl rfl (le_r rfl) (le_r rfl) ?_
  iterate 3 (refine Go.step rfl (fun _ => rfl) ?_)
  refine Go.rcall monoD mono23 rfl (ev26 u c2 c3 c4 c5 c6 c9 c11 c12 c17 c21 l RC SC SL nn FT CN TU T hT) rfl rfl rfl rfl (le_r rfl) ?_
  exact Go.retE rfl (fun _ => rfl) rfl
theorem ev10 (u : Bool) (c2 c3 c4 c5 c6 c9 c11 c12 c17 c21 : Nat × List Value) (l : Nat) (RC SC SL : List Value) (nn : Int32) (FT CN TU : List Value) (T : MH) (SC' SL' : List Value) (nn' : Int32) (FT' CN' TU' : List Value) (T' : MH) (sp : Nat) (hT : T[l]? = some (10, .ref 13 :: List.replicate 9 .null)) (hg : ∀ w, Go D c10 (61, [.val (.ref 7), .val (.int (Int32.ofNat sp)), .val .null, .val (.int 0), .val (.ref 13), .val (.int (Int32.ofNat 5))], [], (HR u (QQ.mk c2 c3 c4 c5 c6 (6, [.int 1, .ref (l + 22), .int 1]) c9 c11 c12 c17 c21) 5 RC SC' SL' nn' FT' CN' TU' T')) w → Go D c10 (33, [.val (.ref 7), .val (.int (Int32.ofNat sp)), .val .null, .val (.int 0), .val (.ref 13), .val (.int (Int32.ofNat sp))], [], (HR u (QQ.mk c2 c3 c4 c5 c6 (6, [.int 1, .ref (l + 22), .int 1]) c9 c11 c12 c17 c21) 5 RC SC SL nn FT CN TU T)) w) : Eval D 10 [.ref 7, .int (Int32.ofNat sp), .null] (HR u (QQ.mk c2 c3 c4 c5 c6 (6, [.int 1, .ref (l + 22), .int 1]) c9 c11 c12 c17 c21) 5 RC SC SL nn FT CN TU T) (none, (HR u (QQ.mk c2 c3 c4 c5 c6 (6, [.int 1, .ref (l + 22), .int 1]) c9 c11 c12 c17 c21) 5 RC SC' SL' nn' FT' CN' TU' T')) := by
  refine Eval.intro2 monoD [.val (.ref 7), .val (.int (Int32.ofNat sp)), .val .null, .unset, .unset, .unset] rfl (le_r rfl) rfl ?_
  iterate 5 (refine Go.step rfl (fun _ => rfl) ?_)
  refine Go.rcall monoD mono10 rfl (evSize1 u c2 c3 c4 c5 c6 c9 c11 c12 c17 c21 l RC SC SL nn FT CN TU T) rfl rfl rfl rfl (le_r rfl) ?_
  iterate 4 (refine Go.step rfl (fun _ => rfl) ?_)
  refine Go.rcall monoD mono10 rfl (ev23 u c2 c3 c4 c5 c6 c9 c11 c12 c17 c21 l RC SC SL nn FT CN TU T hT) rfl rfl rfl rfl (le_r rfl) ?_
  iterate 4 (refine Go.step rfl (fun _ => rfl) ?_)
  refine hg _ ?_
  iterate 5 (refine Go.step rfl (fun _ => rfl) ?_)
  refine Go.rcall monoD mono10 rfl (evSize1 u c2 c3 c4 c5 c6 c9 c11 c12 c17 c21 l RC SC' SL' nn' FT' CN' TU' T') rfl rfl rfl rfl (le_r rfl) ?_
  iterate 1 (refine Go.step rfl (fun _ => rfl) ?_)
  exact Go.retE rfl (fun _ => rfl) rfl
theorem mkRoomB_0 (u : Bool) (c2 c3 c5 c6 c8 c9 c11 c12 c17 c21 : Nat × List Value) (v : Nat → Int32) (SC SL : List Value) (nn : Int32) (FT CN TU : List Value) (T : MH) : Eval D 9 [.ref 7, .int (5 - Int32.ofNat 0)] (HR u (QQ.mk c2 c3 (0, REl v 0) c5 c6 c8 c9 c11 c12 c17 c21) (Int32.ofNat 0) (RCl v 0) SC SL nn FT CN TU T) (none, (HR u (QQ.mk c2 c3 (0, REl v 0) c5 c6 c8 c9 c11 c12 c17 c21) (Int32.ofNat 0) (RCl v 0) SC SL nn FT CN TU T)) := by
  refine Eval.intro2 monoD [.val (.ref 7), .val (.int (5 - Int32.ofNat 0)), .unset] rfl (le_r rfl) rfl ?_
  iterate 13 (refine Go.step rfl (fun _ => rfl) ?_)
  exact Go.retE rfl (fun _ => rfl) rfl
theorem addNewB_0 (u : Bool) (c2 c3 c5 c6 c8 c9 c11 c12 c17 c21 : Nat × List Value) (v : Nat → Int32) (SC SL : List Value) (nn : Int32) (FT CN TU : List Value) (T : MH) (H' : MH) (hE : Eval D 10 [.ref 7, .int (Int32.ofNat 0), .null] (HR u (QQ.mk c2 c3 (0, REl v 0) c5 c6 c8 c9 c11 c12 c17 c21) 5 (RCl v 5) SC SL nn FT CN TU T) (none, H')) : Eval D 8 [.ref 7, .ref 4, .int (5 - Int32.ofNat 0)] (HR u (QQ.mk c2 c3 (0, REl v 0) c5 c6 c8 c9 c11 c12 c17 c21) (Int32.ofNat 0) (RCl v 0) SC SL nn FT CN TU T) (none, H') := by
  refine Eval.intro2 monoD [.val (.ref 7), .val (.ref 4), .val (.int (5 - Int32.ofNat 0)), .unset, .unset] rfl (le_r rfl) rfl ?_
  iterate 2 (refine Go.step rfl (fun _ => rfl) ?_)
  refine Go.rcall monoD mono8 rfl (mkRoomB_0 u c2 c3 c5 c6 c8 c9 c11 c12 c17 c21 v SC SL nn FT CN TU T) rfl rfl rfl rfl (le_r rfl) ?_
  iterate 15 (refine Go.step rfl (fun _ => rfl) ?_)
  refine Go.step rfl (fun _ => rfl) ?_
  refine Go.to (st' := (31, _, [], (HR u (QQ.mk c2 c3 (0, REl v 0) c5 c6 c8 c9 c11 c12 c17 c21) (Int32.ofNat 0) (RCl v 5) SC SL nn FT CN TU T))) rfl ?_
  iterate 5 (refine Go.step rfl (fun _ => rfl) ?_)
  refine Go.step rfl (fun _ => rfl) ?_
  refine Go.to (st' := (41, _, [], (HR u (QQ.mk c2 c3 (0, REl v 0) c5 c6 c8 c9 c11 c12 c17 c21) 5 (RCl v 5) SC SL nn FT CN TU T))) rfl ?_
  iterate 6 (refine Go.step rfl (fun _ => rfl) ?_)
  refine Go.rcall monoD mono8 rfl (hE) rfl rfl rfl rfl (le_r rfl) ?_
  exact Go.retE rfl (fun _ => rfl) rfl
theorem mkRoomB_1 (u : Bool) (c2 c3 c5 c6 c8 c9 c11 c12 c17 c21 : Nat × List Value) (v : Nat → Int32) (SC SL : List Value) (nn : Int32) (FT CN TU : List Value) (T : MH) : Eval D 9 [.ref 7, .int (5 - Int32.ofNat 1)] (HR u (QQ.mk c2 c3 (0, REl v 1) c5 c6 c8 c9 c11 c12 c17 c21) (Int32.ofNat 1) (RCl v 1) SC SL nn FT CN TU T) (none, (HR u (QQ.mk c2 c3 (0, REl v 1) c5 c6 c8 c9 c11 c12 c17 c21) (Int32.ofNat 1) (RCl v 1) SC SL nn FT CN TU T)) := by
  refine Eval.intro2 monoD [.val (.ref 7), .val (.int (5 - Int32.ofNat 1)), .unset] rfl (le_r rfl) rfl ?_
  iterate 13 (refine Go.step rfl (fun _ => rfl) ?_)
  exact Go.retE rfl (fun _ => rfl) rfl
theorem addNewB_1 (u : Bool) (c2 c3 c5 c6 c8 c9 c11 c12 c17 c21 : Nat × List Value) (v : Nat → Int32) (SC SL : List Value) (nn : Int32) (FT CN TU : List Value) (T : MH) (H' : MH) (hE : Eval D 10 [.ref 7, .int (Int32.ofNat 1), .null] (HR u (QQ.mk c2 c3 (0, REl v 1) c5 c6 c8 c9 c11 c12 c17 c21) 5 (RCl v 5) SC SL nn FT CN TU T) (none, H')) : Eval D 8 [.ref 7, .ref 4, .int (5 - Int32.ofNat 1)] (HR u (QQ.mk c2 c3 (0, REl v 1) c5 c6 c8 c9 c11 c12 c17 c21) (Int32.ofNat 1) (RCl v 1) SC SL nn FT CN TU T) (none, H') := by
  refine Eval.intro2 monoD [.val (.ref 7), .val (.ref 4), .val (.int (5 - Int32.ofNat 1)), .unset, .unset] rfl (le_r rfl) rfl ?_
  iterate 2 (refine Go.step rfl (fun _ => rfl) ?_)
  refine Go.rcall monoD mono8 rfl (mkRoomB_1 u c2 c3 c5 c6 c8 c9 c11 c12 c17 c21 v SC SL nn FT CN TU T) rfl rfl rfl rfl (le_r rfl) ?_
  iterate 15 (refine Go.step rfl (fun _ => rfl) ?_)
  refine Go.step rfl (fun _ => rfl) ?_
  refine Go.to (st' := (31, _, [], (HR u (QQ.mk c2 c3 (0, REl v 1) c5 c6 c8 c9 c11 c12 c17 c21) (Int32.ofNat 1) (RCl v 5) SC SL nn FT CN TU T))) rfl ?_
  iterate 5 (refine Go.step rfl (fun _ => rfl) ?_)
  refine Go.step rfl (fun _ => rfl) ?_
  refine Go.to (st' := (41, _, [], (HR u (QQ.mk c2 c3 (0, REl v 1) c5 c6 c8 c9 c11 c12 c17 c21) 5 (RCl v 5) SC SL nn FT CN TU T))) rfl ?_
  iterate 6 (refine Go.step rfl (fun _ => rfl) ?_)
  refine Go.rcall monoD mono8 rfl (hE) rfl rfl rfl rfl (le_r rfl) ?_
  exact Go.retE rfl (fun _ => rfl) rfl
theorem mkRoomB_2 (u : Bool) (c2 c3 c5 c6 c8 c9 c11 c12 c17 c21 : Nat × List Value) (v : Nat → Int32) (SC SL : List Value) (nn : Int32) (FT CN TU : List Value) (T : MH) : Eval D 9 [.ref 7, .int (5 - Int32.ofNat 2)] (HR u (QQ.mk c2 c3 (0, REl v 2) c5 c6 c8 c9 c11 c12 c17 c21) (Int32.ofNat 2) (RCl v 2) SC SL nn FT CN TU T) (none, (HR u (QQ.mk c2 c3 (0, REl v 2) c5 c6 c8 c9 c11 c12 c17 c21) (Int32.ofNat 2) (RCl v 2) SC SL nn FT CN TU T)) := by
  refine Eval.intro2 monoD [.val (.ref 7), .val (.int (5 - Int32.ofNat 2)), .unset] rfl (le_r rfl) rfl ?_
  iterate 13 (refine Go.step rfl (fun _ => rfl) ?_)
  exact Go.retE rfl (fun _ => rfl) rfl
theorem addNewB_2 (u : Bool) (c2 c3 c5 c6 c8 c9 c11 c12 c17 c21 : Nat × List Value) (v : Nat → Int32) (SC SL : List Value) (nn : Int32) (FT CN TU : List Value) (T : MH) (H' : MH) (hE : Eval D 10 [.ref 7, .int (Int32.ofNat 2), .null] (HR u (QQ.mk c2 c3 (0, REl v 2) c5 c6 c8 c9 c11 c12 c17 c21) 5 (RCl v 5) SC SL nn FT CN TU T) (none, H')) : Eval D 8 [.ref 7, .ref 4, .int (5 - Int32.ofNat 2)] (HR u (QQ.mk c2 c3 (0, REl v 2) c5 c6 c8 c9 c11 c12 c17 c21) (Int32.ofNat 2) (RCl v 2) SC SL nn FT CN TU T) (none, H') := by
  refine Eval.intro2 monoD [.val (.ref 7), .val (.ref 4), .val (.int (5 - Int32.ofNat 2)), .unset, .unset] rfl (le_r rfl) rfl ?_
  iterate 2 (refine Go.step rfl (fun _ => rfl) ?_)
  refine Go.rcall monoD mono8 rfl (mkRoomB_2 u c2 c3 c5 c6 c8 c9 c11 c12 c17 c21 v SC SL nn FT CN TU T) rfl rfl rfl rfl (le_r rfl) ?_
  iterate 15 (refine Go.step rfl (fun _ => rfl) ?_)
  refine Go.step rfl (fun _ => rfl) ?_
  refine Go.to (st' := (31, _, [], (HR u (QQ.mk c2 c3 (0, REl v 2) c5 c6 c8 c9 c11 c12 c17 c21) (Int32.ofNat 2) (RCl v 5) SC SL nn FT CN TU T))) rfl ?_
  iterate 5 (refine Go.step rfl (fun _ => rfl) ?_)
  refine Go.step rfl (fun _ => rfl) ?_
  refine Go.to (st' := (41, _, [], (HR u (QQ.mk c2 c3 (0, REl v 2) c5 c6 c8 c9 c11 c12 c17 c21) 5 (RCl v 5) SC SL nn FT CN TU T))) rfl ?_
  iterate 6 (refine Go.step rfl (fun _ => rfl) ?_)
  refine Go.rcall monoD mono8 rfl (hE) rfl rfl rfl rfl (le_r rfl) ?_
  exact Go.retE rfl (fun _ => rfl) rfl
theorem mkRoomB_3 (u : Bool) (c2 c3 c5 c6 c8 c9 c11 c12 c17 c21 : Nat × List Value) (v : Nat → Int32) (SC SL : List Value) (nn : Int32) (FT CN TU : List Value) (T : MH) : Eval D 9 [.ref 7, .int (5 - Int32.ofNat 3)] (HR u (QQ.mk c2 c3 (0, REl v 3) c5 c6 c8 c9 c11 c12 c17 c21) (Int32.ofNat 3) (RCl v 3) SC SL nn FT CN TU T) (none, (HR u (QQ.mk c2 c3 (0, REl v 3) c5 c6 c8 c9 c11 c12 c17 c21) (Int32.ofNat 3) (RCl v 3) SC SL nn FT CN TU T)) := by
  refine Eval.intro2 monoD [.val (.ref 7), .val (.int (5 - Int32.ofNat 3)), .unset] rfl (le_r rfl) rfl ?_
  iterate 13 (refine Go.step rfl (fun _ => rfl) ?_)
  exact Go.retE rfl (fun _ => rfl) rfl
theorem addNewB_3 (u : Bool) (c2 c3 c5 c6 c8 c9 c11 c12 c17 c21 : Nat × List Value) (v : Nat → Int32) (SC SL : List Value) (nn : Int32) (FT CN TU : List Value) (T : MH) (H' : MH) (hE : Eval D 10 [.ref 7, .int (Int32.ofNat 3), .null] (HR u (QQ.mk c2 c3 (0, REl v 3) c5 c6 c8 c9 c11 c12 c17 c21) 5 (RCl v 5) SC SL nn FT CN TU T) (none, H')) : Eval D 8 [.ref 7, .ref 4, .int (5 - Int32.ofNat 3)] (HR u (QQ.mk c2 c3 (0, REl v 3) c5 c6 c8 c9 c11 c12 c17 c21) (Int32.ofNat 3) (RCl v 3) SC SL nn FT CN TU T) (none, H') := by
  refine Eval.intro2 monoD [.val (.ref 7), .val (.ref 4), .val (.int (5 - Int32.ofNat 3)), .unset, .unset] rfl (le_r rfl) rfl ?_
  iterate 2 (refine Go.step rfl (fun _ => rfl) ?_)
  refine Go.rcall monoD mono8 rfl (mkRoomB_3 u c2 c3 c5 c6 c8 c9 c11 c12 c17 c21 v SC SL nn FT CN TU T) rfl rfl rfl rfl (le_r rfl) ?_
  iterate 15 (refine Go.step rfl (fun _ => rfl) ?_)
  refine Go.step rfl (fun _ => rfl) ?_
  refine Go.to (st' := (31, _, [], (HR u (QQ.mk c2 c3 (0, REl v 3) c5 c6 c8 c9 c11 c12 c17 c21) (Int32.ofNat 3) (RCl v 5) SC SL nn FT CN TU T))) rfl ?_
  iterate 5 (refine Go.step rfl (fun _ => rfl) ?_)
  refine Go.step rfl (fun _ => rfl) ?_
  refine Go.to (st' := (41, _, [], (HR u (QQ.mk c2 c3 (0, REl v 3) c5 c6 c8 c9 c11 c12 c17 c21) 5 (RCl v 5) SC SL nn FT CN TU T))) rfl ?_
  iterate 6 (refine Go.step rfl (fun _ => rfl) ?_)
  refine Go.rcall monoD mono8 rfl (hE) rfl rfl rfl rfl (le_r rfl) ?_
  exact Go.retE rfl (fun _ => rfl) rfl
theorem mkRoomB_4 (u : Bool) (c2 c3 c5 c6 c8 c9 c11 c12 c17 c21 : Nat × List Value) (v : Nat → Int32) (SC SL : List Value) (nn : Int32) (FT CN TU : List Value) (T : MH) : Eval D 9 [.ref 7, .int (5 - Int32.ofNat 4)] (HR u (QQ.mk c2 c3 (0, REl v 4) c5 c6 c8 c9 c11 c12 c17 c21) (Int32.ofNat 4) (RCl v 4) SC SL nn FT CN TU T) (none, (HR u (QQ.mk c2 c3 (0, REl v 4) c5 c6 c8 c9 c11 c12 c17 c21) (Int32.ofNat 4) (RCl v 4) SC SL nn FT CN TU T)) := by
  refine Eval.intro2 monoD [.val (.ref 7), .val (.int (5 - Int32.ofNat 4)), .unset] rfl (le_r rfl) rfl ?_
  iterate 13 (refine Go.step rfl (fun _ => rfl) ?_)
  exact Go.retE rfl (fun _ => rfl) rfl
theorem addNewB_4 (u : Bool) (c2 c3 c5 c6 c8 c9 c11 c12 c17 c21 : Nat × List Value) (v : Nat → Int32) (SC SL : List Value) (nn : Int32) (FT CN TU : List Value) (T : MH) (H' : MH) (hE : Eval D 10 [.ref 7, .int (Int32.ofNat 4), .null] (HR u (QQ.mk c2 c3 (0, REl v 4) c5 c6 c8 c9 c11 c12 c17 c21) 5 (RCl v 5) SC SL nn FT CN TU T) (none, H')) : Eval D 8 [.ref 7, .ref 4, .int (5 - Int32.ofNat 4)] (HR u (QQ.mk c2 c3 (0, REl v 4) c5 c6 c8 c9 c11 c12 c17 c21) (Int32.ofNat 4) (RCl v 4) SC SL nn FT CN TU T) (none, H') := by
  refine Eval.intro2 monoD [.val (.ref 7), .val (.ref 4), .val (.int (5 - Int32.ofNat 4)), .unset, .unset] rfl (le_r rfl) rfl ?_
  iterate 2 (refine Go.step rfl (fun _ => rfl) ?_)
  refine Go.rcall monoD mono8 rfl (mkRoomB_4 u c2 c3 c5 c6 c8 c9 c11 c12 c17 c21 v SC SL nn FT CN TU T) rfl rfl rfl rfl (le_r rfl) ?_
  iterate 15 (refine Go.step rfl (fun _ => rfl) ?_)
  refine Go.step rfl (fun _ => rfl) ?_
  refine Go.to (st' := (31, _, [], (HR u (QQ.mk c2 c3 (0, REl v 4) c5 c6 c8 c9 c11 c12 c17 c21) (Int32.ofNat 4) (RCl v 5) SC SL nn FT CN TU T))) rfl ?_
  iterate 5 (refine Go.step rfl (fun _ => rfl) ?_)
  refine Go.step rfl (fun _ => rfl) ?_
  refine Go.to (st' := (41, _, [], (HR u (QQ.mk c2 c3 (0, REl v 4) c5 c6 c8 c9 c11 c12 c17 c21) 5 (RCl v 5) SC SL nn FT CN TU T))) rfl ?_
  iterate 6 (refine Go.step rfl (fun _ => rfl) ?_)
  refine Go.rcall monoD mono8 rfl (hE) rfl rfl rfl rfl (le_r rfl) ?_
  exact Go.retE rfl (fun _ => rfl) rfl
theorem mkRoomB_5 (u : Bool) (c2 c3 c5 c6 c8 c9 c11 c12 c17 c21 : Nat × List Value) (v : Nat → Int32) (SC SL : List Value) (nn : Int32) (FT CN TU : List Value) (T : MH) : Eval D 9 [.ref 7, .int (5 - Int32.ofNat 5)] (HR u (QQ.mk c2 c3 (0, REl v 5) c5 c6 c8 c9 c11 c12 c17 c21) (Int32.ofNat 5) (RCl v 5) SC SL nn FT CN TU T) (none, (HR u (QQ.mk c2 c3 (0, REl v 5) c5 c6 c8 c9 c11 c12 c17 c21) (Int32.ofNat 5) (RCl v 5) SC SL nn FT CN TU T)) := by
  refine Eval.intro2 monoD [.val (.ref 7), .val (.int (5 - Int32.ofNat 5)), .unset] rfl (le_r rfl) rfl ?_
  iterate 13 (refine Go.step rfl (fun _ => rfl) ?_)
  exact Go.retE rfl (fun _ => rfl) rfl
theorem addNewB_5 (u : Bool) (c2 c3 c5 c6 c8 c9 c11 c12 c17 c21 : Nat × List Value) (v : Nat → Int32) (SC SL : List Value) (nn : Int32) (FT CN TU : List Value) (T : MH) (H' : MH) (hE : Eval D 10 [.ref 7, .int (Int32.ofNat 5), .null] (HR u (QQ.mk c2 c3 (0, REl v 5) c5 c6 c8 c9 c11 c12 c17 c21) 5 (RCl v 5) SC SL nn FT CN TU T) (none, H')) : Eval D 8 [.ref 7, .ref 4, .int (5 - Int32.ofNat 5)] (HR u (QQ.mk c2 c3 (0, REl v 5) c5 c6 c8 c9 c11 c12 c17 c21) (Int32.ofNat 5) (RCl v 5) SC SL nn FT CN TU T) (none, H') := by
  refine Eval.intro2 monoD [.val (.ref 7), .val (.ref 4), .val (.int (5 - Int32.ofNat 5)), .unset, .unset] rfl (le_r rfl) rfl ?_
  iterate 2 (refine Go.step rfl (fun _ => rfl) ?_)
  refine Go.rcall monoD mono8 rfl (mkRoomB_5 u c2 c3 c5 c6 c8 c9 c11 c12 c17 c21 v SC SL nn FT CN TU T) rfl rfl rfl rfl (le_r rfl) ?_
  iterate 15 (refine Go.step rfl (fun _ => rfl) ?_)
  refine Go.step rfl (fun _ => rfl) ?_
  refine Go.to (st' := (31, _, [], (HR u (QQ.mk c2 c3 (0, REl v 5) c5 c6 c8 c9 c11 c12 c17 c21) (Int32.ofNat 5) (RCl v 5) SC SL nn FT CN TU T))) rfl ?_
  iterate 5 (refine Go.step rfl (fun _ => rfl) ?_)
  refine Go.step rfl (fun _ => rfl) ?_
  refine Go.to (st' := (41, _, [], (HR u (QQ.mk c2 c3 (0, REl v 5) c5 c6 c8 c9 c11 c12 c17 c21) 5 (RCl v 5) SC SL nn FT CN TU T))) rfl ?_
  iterate 6 (refine Go.step rfl (fun _ => rfl) ?_)
  refine Go.rcall monoD mono8 rfl (hE) rfl rfl rfl rfl (le_r rfl) ?_
  exact Go.retE rfl (fun _ => rfl) rfl
theorem addNew2 (u : Bool) (c2 c3 c5 c6 c8 c9 c11 c12 c17 c21 : Nat × List Value) (v : Nat → Int32) (SC SL : List Value) (nn : Int32) (FT CN TU : List Value) (T : MH) (H' : MH) : ∀ sp, sp ≤ 5 → Eval D 10 [.ref 7, .int (Int32.ofNat sp), .null] (HR u (QQ.mk c2 c3 (0, REl v sp) c5 c6 c8 c9 c11 c12 c17 c21) 5 (RCl v 5) SC SL nn FT CN TU T) (none, H') → Eval D 8 [.ref 7, .ref 4, .int (5 - Int32.ofNat sp)] (HR u (QQ.mk c2 c3 (0, REl v sp) c5 c6 c8 c9 c11 c12 c17 c21) (Int32.ofNat sp) (RCl v sp) SC SL nn FT CN TU T) (none, H')
  | 0, _, h => addNewB_0 u c2 c3 c5 c6 c8 c9 c11 c12 c17 c21 v SC SL nn FT CN TU T H' h
  | 1, _, h => addNewB_1 u c2 c3 c5 c6 c8 c9 c11 c12 c17 c21 v SC SL nn FT CN TU T H' h
  | 2, _, h => addNewB_2 u c2 c3 c5 c6 c8 c9 c11 c12 c17 c21 v SC SL nn FT CN TU T H' h
  | 3, _, h => addNewB_3 u c2 c3 c5 c6 c8 c9 c11 c12 c17 c21 v SC SL nn FT CN TU T H' h
  | 4, _, h => addNewB_4 u c2 c3 c5 c6 c8 c9 c11 c12 c17 c21 v SC SL nn FT CN TU T H' h
  | 5, _, h => addNewB_5 u c2 c3 c5 c6 c8 c9 c11 c12 c17 c21 v SC SL nn FT CN TU T H' h
  | n + 6, h, _ => absurd h (by omega)
theorem find_false (Q : QQ) (sz : Int32) (RC SC : List Value) (f : Nat → Int32) (nn : Int32) (FT CN TU : List Value) (T : MH) (a : Int32) (hr : (HR false Q sz RC SC (tab false f) nn FT CN TU T)[6]? = some (0, (kl false a 0).map .int)) {L : KL} (hI : Inv false f L) (hL : L.length < 16) (κ : Nat) (hk : ∃ p, L[κ]? = some (p, a, 0)) : Eval D 35 [.ref 13, .ref 6] (HR false Q sz RC SC (tab false f) nn FT CN TU T) (some (.int (Int32.ofNat κ)), (HR false Q sz RC SC (tab false f) nn FT CN TU T)) := by
  obtain ⟨p, hp, hE, hc⟩ := look_false Q sz RC SC f nn FT CN TU T a 6 hr hI hL
  obtain ⟨q, hk⟩ := hk
  rcases hc with ⟨κ', hκ, hk', hf⟩ | ⟨-, hn, -⟩
  · obtain rfl : κ' = κ := hI.2.2 _ _ _ _ _ _ hk' hk
    obtain ⟨ge, ee, -⟩ := ar_false hp
    have hx : (tab false f)[(Int32.ofNat p * 2).toNatClampNeg]? = some (.int (f (2 * p))) := by rw [ee]; exact tab_get (by simp only [st]; omega)
    refine Eval.intro2 monoD [.val (.ref 13), .val (.ref 6)] rfl (le_r rfl) rfl ?_
    iterate 8 (refine Go.step rfl (fun _ => rfl) ?_)
    refine Go.rcall monoD mono35 rfl (evHash_false Q sz RC SC (tab false f) nn FT CN TU T a 0 6 hr) rfl rfl rfl rfl (le_r rfl) ?_
    refine Go.rcall monoD mono35 rfl (hE) rfl rfl rfl rfl (le_r rfl) ?_
    refine Go.ald rfl rfl ge hx ?_
    iterate 2 (refine Go.step rfl (fun _ => rfl) ?_)
    exact Go.retE rfl (fun _ => rfl) (by show (some (Value.int (f (2 * p) - 1)), _) = _; rw [hf, on_pred])
  · exact absurd hk (hn _ _)
theorem find_true (Q : QQ) (sz : Int32) (RC SC : List Value) (f : Nat → Int32) (nn : Int32) (FT CN TU : List Value) (T : MH) (a b : Int32) (hr : (HR true Q sz RC SC (tab true f) nn FT CN TU T)[6]? = some (0, (kl true a b).map .int)) {L : KL} (hI : Inv true f L) (hL : L.length < 16) (κ : Nat) (hk : ∃ p, L[κ]? = some (p, a, b)) : Eval D 35 [.ref 13, .ref 6] (HR true Q sz RC SC (tab true f) nn FT CN TU T) (some (.int (Int32.ofNat κ)), (HR true Q sz RC SC (tab true f) nn FT CN TU T)) := by
  obtain ⟨p, hp, hE, hc⟩ := look_true Q sz RC SC f nn FT CN TU T a b 6 hr hI hL
  obtain ⟨q, hk⟩ := hk
  rcases hc with ⟨κ', hκ, hk', hf⟩ | ⟨-, hn, -⟩
  · obtain rfl : κ' = κ := hI.2.2 _ _ _ _ _ _ hk' hk
    obtain ⟨ge, ee, -⟩ := ar_true hp
    have hx : (tab true f)[(Int32.ofNat p * 3).toNatClampNeg]? = some (.int (f (3 * p))) := by rw [ee]; exact tab_get (by simp only [st]; omega)
    refine Eval.intro2 monoD [.val (.ref 13), .val (.ref 6)] rfl (le_r rfl) rfl ?_
    iterate 8 (refine Go.step rfl (fun _ => rfl) ?_)
    refine Go.rcall monoD mono35 rfl (evHash_true Q sz RC SC (tab true f) nn FT CN TU T a b 6 hr) rfl rfl rfl rfl (le_r rfl) ?_
    refine Go.rcall monoD mono35 rfl (hE) rfl rfl rfl rfl (le_r rfl) ?_
    refine Go.ald rfl rfl ge hx ?_
    iterate 2 (refine Go.step rfl (fun _ => rfl) ?_)
    exact Go.retE rfl (fun _ => rfl) (by show (some (Value.int (f (3 * p) - 1)), _) = _; rw [hf, on_pred])
  · exact absurd hk (hn _ _)
theorem tup_true (Q : QQ) (sz : Int32) (RC SC SL : List Value) (nn : Int32) (FT CN TU : List Value) (T : MH) (κ pos : Int32) : Eval D 36 [.ref 13, .int κ, .int pos] (HR true Q sz RC SC SL nn FT CN TU T) (some (.int κ), (HR true Q sz RC SC SL nn FT CN TU T)) := by
  refine Eval.intro2 monoD [.val (.ref 13), .val (.int κ), .val (.int pos), .unset] rfl (le_r rfl) rfl ?_
  iterate 7 (refine Go.step rfl (fun _ => rfl) ?_)
  exact Go.retE rfl (fun _ => rfl) rfl
def tupM (M : MM) (κ pos : Nat) : Option Nat := match M.2.2.1[κ]? with
  | some c => if κ < 1000 ∧ c < 1000 ∧ pos < 1000 then (if c = 1 then M.2.1[κ]? else match M.2.2.2.1[κ]? with
      | some (x + 2) => match M.2.2.2.2[x]? with
        | some (some arr) => arr[pos]?
        | _ => none
      | _ => none) else none
  | none => none
theorem tup_false (Q : QQ) (sz : Int32) (RC SC : List Value) (f : Nat → Int32) (M : MM) (κ pos x : Nat) (h : tupM M κ pos = some x) : Eval D 36 [.ref 13, .int (Int32.ofNat κ), .int (Int32.ofNat pos)] (HR false Q sz RC SC (tab false f) (Int32.ofNat M.1) (M.2.1.map nv) (M.2.2.1.map nv) (M.2.2.2.1.map tv) (M.2.2.2.2.map cm)) (some (.int (Int32.ofNat x)), (HR false Q sz RC SC (tab false f) (Int32.ofNat M.1) (M.2.1.map nv) (M.2.2.1.map nv) (M.2.2.2.1.map tv) (M.2.2.2.2.map cm))) := by
  simp only [tupM] at h
  split at h
  · rename_i c hC
    split at h
    · rename_i hb
      obtain ⟨b1, b2, b3⟩ := hb
      have k1 : κ < 2 ^ 31 := by omega
      have k2 : c < 2 ^ 31 := by omega
      have k3 : pos < 2 ^ 31 := by omega
      refine Eval.intro2 monoD [.val (.ref 13), .val (.int (Int32.ofNat κ)), .val (.int (Int32.ofNat pos)), .unset] rfl (le_r rfl) rfl ?_
      split at h
      · rename_i hc
        iterate 6 (refine Go.step rfl (fun _ => rfl) ?_)
        refine Go.ald rfl rfl (on_nn k1) (by rw [on_nat k1]; exact nv_get hC) ?_
        iterate 1 (refine Go.step rfl (fun _ => rfl) ?_)
        refine Go.icmp rfl (b := false) ((i_ne (b := 1) k2 (by decide)).trans (decide_eq_false (by omega))) ?_
        iterate 3 (refine Go.step rfl (fun _ => rfl) ?_)
        refine Go.ald rfl rfl (on_nn k1) (by rw [on_nat k1]; exact nv_get h) ?_
        iterate 3 (refine Go.step rfl (fun _ => rfl) ?_)
        exact Go.retE rfl (fun _ => rfl) rfl
      · rename_i hc
        split at h
        · rename_i y hU
          split at h
          · rename_i arr hT
            iterate 6 (refine Go.step rfl (fun _ => rfl) ?_)
            refine Go.ald rfl rfl (on_nn k1) (by rw [on_nat k1]; exact nv_get hC) ?_
            iterate 1 (refine Go.step rfl (fun _ => rfl) ?_)
            refine Go.icmp rfl (b := true) ((i_ne (b := 1) k2 (by decide)).trans (decide_eq_true (by omega))) ?_
            iterate 3 (refine Go.step rfl (fun _ => rfl) ?_)
            refine Go.ald rfl rfl (on_nn k1) (by rw [on_nat k1]; exact tv_get hU) ?_
            iterate 1 (refine Go.step rfl (fun _ => rfl) ?_)
            refine Go.ald rfl ((hr_getT ..).trans (cm_get hT)) (on_nn k3) (by rw [on_nat k3]; exact nv_get h) ?_
            iterate 2 (refine Go.step rfl (fun _ => rfl) ?_)
            exact Go.retE rfl (fun _ => rfl) rfl
          · cases h
        · cases h
    · cases h
  · cases h
def nthN : Nat → Nat → List Bool → Option Nat
  | _, _, [] => none
  | r, i, e :: es => match e with
    | true => if r = 0 then some i else nthN (r - 1) (i + 1) es
    | false => nthN r (i + 1) es
theorem on_dec (r : Nat) : Int32.ofNat (r + 1) + (-1) = Int32.ofNat r := by
  rw [← on_succ, Int32.add_assoc]
  show Int32.ofNat r + 0 = _
  rw [Int32.add_zero]
theorem nth4 (H : MH) (q : Int32) (e0 e1 e2 e3 e4 : Bool) (r y : Nat) (hr : r < 1000) (h : nthN r 4 [e4] = some y) : Go D c37 (60, [.val (.int q), .val (.int (b2i e0)), .val (.int (b2i e1)), .val (.int (b2i e2)), .val (.int (b2i e3)), .val (.int (b2i e4)), .val (.int (Int32.ofNat r))], [], H) (some (.int (Int32.ofNat y)), H) := by
  cases e4
  · simp only [nthN] at h
    cases h
  · by_cases hz : r = 0
    · subst hz
      simp only [nthN, if_true] at h
      cases h
      iterate 1 (refine Go.step rfl (fun _ => rfl) ?_)
      refine Go.ifc rfl (b := false) rfl ?_
      iterate 1 (refine Go.step rfl (fun _ => rfl) ?_)
      refine Go.ifc rfl (b := false) rfl ?_
      iterate 1 (refine Go.step rfl (fun _ => rfl) ?_)
      exact Go.retE rfl (fun _ => rfl) rfl
    · simp only [nthN, if_neg hz] at h
      cases h
theorem nth3 (H : MH) (q : Int32) (e0 e1 e2 e3 e4 : Bool) (r y : Nat) (hr : r < 1000) (h : nthN r 3 [e3, e4] = some y) : Go D c37 (45, [.val (.int q), .val (.int (b2i e0)), .val (.int (b2i e1)), .val (.int (b2i e2)), .val (.int (b2i e3)), .val (.int (b2i e4)), .val (.int (Int32.ofNat r))], [], H) (some (.int (Int32.ofNat y)), H) := by
  cases e3
  · simp only [nthN] at h
    iterate 1 (refine Go.step rfl (fun _ => rfl) ?_)
    refine Go.ifc rfl (b := true) rfl ?_
    exact nth4 H q e0 e1 e2 false e4 r y hr h
  · by_cases hz : r = 0
    · subst hz
      simp only [nthN, if_true] at h
      cases h
      iterate 1 (refine Go.step rfl (fun _ => rfl) ?_)
      refine Go.ifc rfl (b := false) rfl ?_
      iterate 1 (refine Go.step rfl (fun _ => rfl) ?_)
      refine Go.ifc rfl (b := false) rfl ?_
      iterate 1 (refine Go.step rfl (fun _ => rfl) ?_)
      exact Go.retE rfl (fun _ => rfl) rfl
    · simp only [nthN, if_neg hz] at h
      obtain ⟨r', rfl⟩ : ∃ r', r = r' + 1 := ⟨r - 1, by omega⟩
      rw [Nat.add_sub_cancel] at h
      have g := nth4 H q e0 e1 e2 true e4 r' y (by omega) h
      rw [← on_dec] at g
      iterate 1 (refine Go.step rfl (fun _ => rfl) ?_)
      refine Go.ifc rfl (b := false) rfl ?_
      iterate 1 (refine Go.step rfl (fun _ => rfl) ?_)
      refine Go.ifc rfl (b := true) ((z_neN (by omega)).trans (decide_eq_true (by omega))) ?_
      iterate 1 (refine Go.step rfl (fun _ => rfl) ?_)
      exact g
theorem nth2 (H : MH) (q : Int32) (e0 e1 e2 e3 e4 : Bool) (r y : Nat) (hr : r < 1000) (h : nthN r 2 [e2, e3, e4] = some y) : Go D c37 (31, [.val (.int q), .val (.int (b2i e0)), .val (.int (b2i e1)), .val (.int (b2i e2)), .val (.int (b2i e3)), .val (.int (b2i e4)), .val (.int (Int32.ofNat r))], [], H) (some (.int (Int32.ofNat y)), H) := by
  cases e2
  · simp only [nthN] at h
    iterate 1 (refine Go.step rfl (fun _ => rfl) ?_)
    refine Go.ifc rfl (b := true) rfl ?_
    exact nth3 H q e0 e1 false e3 e4 r y hr h
  · by_cases hz : r = 0
    · subst hz
      simp only [nthN, if_true] at h
      cases h
      iterate 1 (refine Go.step rfl (fun _ => rfl) ?_)
      refine Go.ifc rfl (b := false) rfl ?_
      iterate 1 (refine Go.step rfl (fun _ => rfl) ?_)
      refine Go.ifc rfl (b := false) rfl ?_
      iterate 1 (refine Go.step rfl (fun _ => rfl) ?_)
      exact Go.retE rfl (fun _ => rfl) rfl
    · simp only [nthN, if_neg hz] at h
      obtain ⟨r', rfl⟩ : ∃ r', r = r' + 1 := ⟨r - 1, by omega⟩
      rw [Nat.add_sub_cancel] at h
      have g := nth3 H q e0 e1 true e3 e4 r' y (by omega) h
      rw [← on_dec] at g
      iterate 1 (refine Go.step rfl (fun _ => rfl) ?_)
      refine Go.ifc rfl (b := false) rfl ?_
      iterate 1 (refine Go.step rfl (fun _ => rfl) ?_)
      refine Go.ifc rfl (b := true) ((z_neN (by omega)).trans (decide_eq_true (by omega))) ?_
      iterate 1 (refine Go.step rfl (fun _ => rfl) ?_)
      exact g
theorem nth1 (H : MH) (q : Int32) (e0 e1 e2 e3 e4 : Bool) (r y : Nat) (hr : r < 1000) (h : nthN r 1 [e1, e2, e3, e4] = some y) : Go D c37 (17, [.val (.int q), .val (.int (b2i e0)), .val (.int (b2i e1)), .val (.int (b2i e2)), .val (.int (b2i e3)), .val (.int (b2i e4)), .val (.int (Int32.ofNat r))], [], H) (some (.int (Int32.ofNat y)), H) := by
  cases e1
  · simp only [nthN] at h
    iterate 1 (refine Go.step rfl (fun _ => rfl) ?_)
    refine Go.ifc rfl (b := true) rfl ?_
    exact nth2 H q e0 false e2 e3 e4 r y hr h
  · by_cases hz : r = 0
    · subst hz
      simp only [nthN, if_true] at h
      cases h
      iterate 1 (refine Go.step rfl (fun _ => rfl) ?_)
      refine Go.ifc rfl (b := false) rfl ?_
      iterate 1 (refine Go.step rfl (fun _ => rfl) ?_)
      refine Go.ifc rfl (b := false) rfl ?_
      iterate 1 (refine Go.step rfl (fun _ => rfl) ?_)
      exact Go.retE rfl (fun _ => rfl) rfl
    · simp only [nthN, if_neg hz] at h
      obtain ⟨r', rfl⟩ : ∃ r', r = r' + 1 := ⟨r - 1, by omega⟩
      rw [Nat.add_sub_cancel] at h
      have g := nth2 H q e0 true e2 e3 e4 r' y (by omega) h
      rw [← on_dec] at g
      iterate 1 (refine Go.step rfl (fun _ => rfl) ?_)
      refine Go.ifc rfl (b := false) rfl ?_
      iterate 1 (refine Go.step rfl (fun _ => rfl) ?_)
      refine Go.ifc rfl (b := true) ((z_neN (by omega)).trans (decide_eq_true (by omega))) ?_
      iterate 1 (refine Go.step rfl (fun _ => rfl) ?_)
      exact g
theorem nth0 (H : MH) (q : Int32) (e0 e1 e2 e3 e4 : Bool) (r y : Nat) (hr : r < 1000) (h : nthN r 0 [e0, e1, e2, e3, e4] = some y) : Go D c37 (3, [.val (.int q), .val (.int (b2i e0)), .val (.int (b2i e1)), .val (.int (b2i e2)), .val (.int (b2i e3)), .val (.int (b2i e4)), .val (.int (Int32.ofNat r))], [], H) (some (.int (Int32.ofNat y)), H) := by
  cases e0
  · simp only [nthN] at h
    iterate 1 (refine Go.step rfl (fun _ => rfl) ?_)
    refine Go.ifc rfl (b := true) rfl ?_
    exact nth1 H q false e1 e2 e3 e4 r y hr h
  · by_cases hz : r = 0
    · subst hz
      simp only [nthN, if_true] at h
      cases h
      iterate 1 (refine Go.step rfl (fun _ => rfl) ?_)
      refine Go.ifc rfl (b := false) rfl ?_
      iterate 1 (refine Go.step rfl (fun _ => rfl) ?_)
      refine Go.ifc rfl (b := false) rfl ?_
      iterate 1 (refine Go.step rfl (fun _ => rfl) ?_)
      exact Go.retE rfl (fun _ => rfl) rfl
    · simp only [nthN, if_neg hz] at h
      obtain ⟨r', rfl⟩ : ∃ r', r = r' + 1 := ⟨r - 1, by omega⟩
      rw [Nat.add_sub_cancel] at h
      have g := nth1 H q true e1 e2 e3 e4 r' y (by omega) h
      rw [← on_dec] at g
      iterate 1 (refine Go.step rfl (fun _ => rfl) ?_)
      refine Go.ifc rfl (b := false) rfl ?_
      iterate 1 (refine Go.step rfl (fun _ => rfl) ?_)
      refine Go.ifc rfl (b := true) ((z_neN (by omega)).trans (decide_eq_true (by omega))) ?_
      iterate 1 (refine Go.step rfl (fun _ => rfl) ?_)
      exact g
theorem evNth (H : MH) (e0 e1 e2 e3 e4 : Bool) (r y : Nat) (hr : r < 1000) (h : nthN r 0 [e0, e1, e2, e3, e4] = some y) : Eval D 37 [.int (Int32.ofNat r), .int (b2i e0), .int (b2i e1), .int (b2i e2), .int (b2i e3), .int (b2i e4)] H (some (.int (Int32.ofNat y)), H) := by
  refine Eval.intro2 monoD [.val (.int (Int32.ofNat r)), .val (.int (b2i e0)), .val (.int (b2i e1)), .val (.int (b2i e2)), .val (.int (b2i e3)), .val (.int (b2i e4)), .unset] rfl (le_r rfl) rfl ?_
  iterate 2 (refine Go.step rfl (fun _ => rfl) ?_)
  exact nth0 H _ e0 e1 e2 e3 e4 r y hr h
def es5 (ks : List Nat) (κ : Nat) : List Bool := ks.map fun k => Nat.beq k κ
def cnB : List Bool → Nat
  | [] => 0
  | b :: bs => cond b (cnB bs + 1) (cnB bs)
def tl : Option (List Nat) → Nat
  | none => 10
  | some xs => xs.length
def fin5 (M : MM) (ks : List Nat) : Bool := Nat.ble M.2.2.2.2.length 30 && Nat.ble (M.2.2.2.2.map tl).sum 200 && Nat.beq M.2.1.length 8 && Nat.beq M.2.2.1.length 8 && Nat.beq M.2.2.2.1.length 8 && ks.all fun κ => (List.range (cnB (es5 ks κ))).all fun pos => match tupM M κ pos with
  | some x => match nthN pos 0 (es5 ks κ) with
    | some y => Nat.beq x y
    | none => false
  | none => false
def chk (sp : Nat) : Bool := (gen sp 0).all fun ks1 => match fillM sp ks1 with
  | none => false
  | some M => Nat.beq M.2.2.2.1.length 8 && (gen (5 - sp) M.1).all fun ks2 => match runC ⟨M.1, M.2.1, M.2.2.1, M.2.2.2.1, M.2.2.2.2 ++ [none]⟩ sp ks2 with
    | none => false
    | some M' => fin5 M' (ks1 ++ ks2)
theorem chk_0 : chk 0 = true := by decide +kernel
theorem chk_1 : chk 1 = true := by decide +kernel
theorem chk_2 : chk 2 = true := by decide +kernel
theorem chk_3 : chk 3 = true := by decide +kernel
theorem chk_4 : chk 4 = true := by decide +kernel
theorem chk_5 : chk 5 = true := by decide +kernel
theorem chk_ok : ∀ sp, sp ≤ 5 → chk sp = true
  | 0, _ => chk_0
  | 1, _ => chk_1
  | 2, _ => chk_2
  | 3, _ => chk_3
  | 4, _ => chk_4
  | 5, _ => chk_5
  | n + 6, h => absurd h (by omega)
theorem chk_spec {sp : Nat} (hsp : sp ≤ 5) {ks1 : List Nat} (h1 : ks1 ∈ gen sp 0) : ∃ M, fillM sp ks1 = some M ∧ M.2.2.2.1.length = 8 ∧ ∀ ks2, ks2 ∈ gen (5 - sp) M.1 → ∃ M', runC ⟨M.1, M.2.1, M.2.2.1, M.2.2.2.1, M.2.2.2.2 ++ [none]⟩ sp ks2 = some M' ∧ fin5 M' (ks1 ++ ks2) = true := by
  have h := List.all_eq_true.mp (chk_ok sp hsp) ks1 h1
  split at h
  · cases h
  · rename_i M hM
    rw [Bool.and_eq_true] at h
    refine ⟨M, hM, Nat.eq_of_beq_eq_true h.1, fun ks2 h2 => ?_⟩
    have h := List.all_eq_true.mp h.2 ks2 h2
    split at h
    · cases h
    · rename_i M' hM'
      exact ⟨M', hM', h⟩
theorem fin_spec {M : MM} {ks : List Nat} (h : fin5 M ks = true) : M.2.2.2.2.length ≤ 30 ∧ (M.2.2.2.2.map tl).sum ≤ 200 ∧ M.2.1.length = 8 ∧ M.2.2.1.length = 8 ∧ M.2.2.2.1.length = 8 ∧ ∀ κ, κ ∈ ks → ∀ pos, pos < cnB (es5 ks κ) → ∃ x, tupM M κ pos = some x ∧ nthN pos 0 (es5 ks κ) = some x := by
  simp only [fin5, Bool.and_eq_true] at h
  obtain ⟨⟨⟨⟨⟨h1, h2⟩, h3⟩, h4⟩, h5⟩, h6⟩ := h
  refine ⟨Nat.le_of_ble_eq_true h1, Nat.le_of_ble_eq_true h2, Nat.eq_of_beq_eq_true h3, Nat.eq_of_beq_eq_true h4, Nat.eq_of_beq_eq_true h5, fun κ hκ pos hp => ?_⟩
  have h := List.all_eq_true.mp (List.all_eq_true.mp h6 κ hκ) pos (List.mem_range.mpr hp)
  split at h
  · rename_i x hx
    split at h
    · rename_i y hy
      obtain rfl := Nat.eq_of_beq_eq_true h
      exact ⟨x, hx, hy⟩
    · cases h
  · cases h
theorem szT : ∀ T : TM, ((T.map cm).map (szc CT)).sum = (T.map tl).sum
  | [] => rfl
  | none :: T => by
    simp only [List.map_cons, List.sum_cons, szT T]
    rfl
  | some xs :: T => by
    simp only [List.map_cons, List.sum_cons, szT T]
    have : szc CT (cm (some xs)) = (xs.map nv).length := rfl
    rw [this, List.length_map]; rfl
section Rules3
variable {D : Meths} {code : List (Nat × MOp)} {pc : Nat} {L : List Slot} {S : List Value} {H : MH} {r : MR}
theorem Go.eqBlk {t n g j : Nat} {a b : Int32} (h1 : Jvm.MV.look code pc = some (lift (pIcmp .ne t n))) (h2 : Jvm.MV.look code n = some (lift (pInt 1 g))) (h3 : Jvm.MV.look code g = some (lift (pGoto j))) (h4 : Jvm.MV.look code t = some (lift (pInt 0 j))) (hg : Go D code (j, L, .int (b2i (decide (a = b))) :: S, H) r) : Go D code (pc, L, .int b :: .int a :: S, H) r := by
  by_cases h : a = b
  · rw [decide_eq_true h] at hg
    refine Go.icmp h1 (b := false) (by rw [c_ne]; simp [h]) ?_
    refine Go.step h2 (fun _ => rfl) ?_
    exact Go.step h3 (fun _ => rfl) hg
  · rw [decide_eq_false h] at hg
    refine Go.icmp h1 (b := true) (by rw [c_ne]; exact decide_eq_true (fun q => h (Int32.toInt_inj.mp q))) ?_
    exact Go.step h4 (fun _ => rfl) hg
theorem Go.boolBlk {t n g j : Nat} {e : Bool} (h1 : Jvm.MV.look code pc = some (lift (pIf .eq t n))) (h2 : Jvm.MV.look code n = some (lift (pInt 1 g))) (h3 : Jvm.MV.look code g = some (lift (pGoto j))) (h4 : Jvm.MV.look code t = some (lift (pInt 0 j))) (hg : Go D code (j, L, .int (b2i e) :: S, H) r) : Go D code (pc, L, .int (b2i e) :: S, H) r := by
  cases e
  · refine Go.ifc h1 (b := true) rfl ?_
    exact Go.step h4 (fun _ => rfl) hg
  · refine Go.ifc h1 (b := false) rfl ?_
    refine Go.step h2 (fun _ => rfl) ?_
    exact Go.step h3 (fun _ => rfl) hg
end Rules3
theorem sm {a : Int32} {n : Nat} (hn : n < 2 ^ 31) (h0 : 0 ≤ a.toInt) (h1 : a.toInt < n) : ∃ s, s < n ∧ a = Int32.ofNat s := by
  refine ⟨a.toInt.toNat, by omega, Int32.toInt_inj.mp ?_⟩
  rw [on_toInt (by omega)]; omega
theorem rem_sm (a : Int32) (n : Nat) (hn : n < 2 ^ 31) (hp : 0 < n) (h0 : 0 ≤ a.toInt) : ∃ s, s < n ∧ a % Int32.ofNat n = Int32.ofNat s := by
  have hr := rem_rng a (Int32.ofNat n) h0 (by rw [on_toInt hn]; omega)
  rw [on_toInt hn] at hr
  exact sm hn hr.1 hr.2
theorem cn_sum (e0 e1 e2 e3 e4 : Bool) : b2i e0 + b2i e1 + b2i e2 + b2i e3 + b2i e4 = Int32.ofNat (cnB [e0, e1, e2, e3, e4]) := by
  cases e0 <;> cases e1 <;> cases e2 <;> cases e3 <;> cases e4 <;> decide
theorem cn_le (e0 e1 e2 e3 e4 : Bool) : cnB [e0, e1, e2, e3, e4] ≤ 5 := by
  cases e0 <;> cases e1 <;> cases e2 <;> cases e3 <;> cases e4 <;> decide
theorem cn_pos : ∀ (es : List Bool), true ∈ es → 0 < cnB es
  | [], h => by cases h
  | true :: es, _ => Nat.succ_pos _
  | false :: es, h => by
    have := cn_pos es (by simpa using h)
    exact this
theorem vv_get (v : Nat → Int32) : ∀ t, t < 5 → (VVl v)[t]? = some (.int (v t))
  | 0, _ => rfl
  | 1, _ => rfl
  | 2, _ => rfl
  | 3, _ => rfl
  | 4, _ => rfl
  | n + 5, h => absurd h (by omega)
theorem rc_get (v : Nat → Int32) (sp i : Nat) (h1 : sp ≤ 5) (h2 : i < sp) : (RCl v sp)[2 * i]? = some (.int (v i)) ∧ (RCl v sp)[2 * i + 1]? = some (.int (Int32.ofNat i)) := by
  obtain rfl | rfl | rfl | rfl | rfl | rfl : sp = 0 ∨ sp = 1 ∨ sp = 2 ∨ sp = 3 ∨ sp = 4 ∨ sp = 5 := by omega
  all_goals obtain rfl | rfl | rfl | rfl | rfl : i = 0 ∨ i = 1 ∨ i = 2 ∨ i = 3 ∨ i = 4 := by omega
  all_goals first | (exact ⟨rfl, rfl⟩) | (exfalso; omega)
theorem re_len (v : Nat → Int32) : ∀ sp, sp ≤ 5 → (REl v sp).length = 10
  | 0, _ => rfl
  | 1, _ => rfl
  | 2, _ => rfl
  | 3, _ => rfl
  | 4, _ => rfl
  | 5, _ => rfl
  | n + 6, h => absurd h (by omega)
theorem pickE (H : MH) (m s x y z : Int32) : ∃ a, Eval D 1 [.int m, .int s, .int x, .int y, .int z] H (some (.int a), H) := by
  cases h1 : if_icmp.holds .ne (XT.ushr m s &&& 3) 1 with
  | false =>
    refine ⟨y, Eval.intro2 monoD [.val (.int m), .val (.int s), .val (.int x), .val (.int y), .val (.int z), .unset] rfl (le_r rfl) rfl ?_⟩
    iterate 8 (refine Go.step rfl (fun _ => rfl) ?_)
    refine Go.icmp rfl (b := false) (h1) ?_
    iterate 1 (refine Go.step rfl (fun _ => rfl) ?_)
    exact Go.retE rfl (fun _ => rfl) rfl
  | true =>
    cases h2 : if_icmp.holds .ne (XT.ushr m s &&& 3) 2 with
    | false =>
      refine ⟨z, Eval.intro2 monoD [.val (.int m), .val (.int s), .val (.int x), .val (.int y), .val (.int z), .unset] rfl (le_r rfl) rfl ?_⟩
      iterate 8 (refine Go.step rfl (fun _ => rfl) ?_)
      refine Go.icmp rfl (b := true) (h1) ?_
      iterate 2 (refine Go.step rfl (fun _ => rfl) ?_)
      refine Go.icmp rfl (b := false) (h2) ?_
      iterate 1 (refine Go.step rfl (fun _ => rfl) ?_)
      exact Go.retE rfl (fun _ => rfl) rfl
    | true =>
      refine ⟨x, Eval.intro2 monoD [.val (.int m), .val (.int s), .val (.int x), .val (.int y), .val (.int z), .unset] rfl (le_r rfl) rfl ?_⟩
      iterate 8 (refine Go.step rfl (fun _ => rfl) ?_)
      refine Go.icmp rfl (b := true) (h1) ?_
      iterate 2 (refine Go.step rfl (fun _ => rfl) ?_)
      refine Go.icmp rfl (b := true) (h2) ?_
      iterate 1 (refine Go.step rfl (fun _ => rfl) ?_)
      exact Go.retE rfl (fun _ => rfl) rfl
theorem put_0_0 (v : Nat → Int32) : Eval D 2 [.ref 4, .int 0, .int (Int32.ofNat 0), .ref 2] [(0, []), (11, []), (0, VVl v), (0, ALl v), (0, [.int 0, .int 0, .int 0, .int 0, .int 0, .int 0, .int 0, .int 0, .int 0, .int 0])] (none, [(0, []), (11, []), (0, VVl v), (0, ALl v), (0, [.int (v 0), .int 0, .int 0, .int 0, .int 0, .int 0, .int 0, .int 0, .int 0, .int 0])]) := by
  refine Eval.intro2 monoD [.val (.ref 4), .val (.int 0), .val (.int (Int32.ofNat 0)), .val (.ref 2), .unset] rfl (le_r rfl) rfl ?_
  iterate 23 (refine Go.step rfl (fun _ => rfl) ?_)
  exact Go.retE rfl (fun _ => rfl) rfl
theorem put_0_1 (v : Nat → Int32) : Eval D 2 [.ref 4, .int 1, .int (Int32.ofNat 0), .ref 2] [(0, []), (11, []), (0, VVl v), (0, ALl v), (0, [.int (v 0), .int 0, .int 0, .int 0, .int 0, .int 0, .int 0, .int 0, .int 0, .int 0])] (none, [(0, []), (11, []), (0, VVl v), (0, ALl v), (0, [.int (v 0), .int 0, .int (v 1), .int 1, .int 0, .int 0, .int 0, .int 0, .int 0, .int 0])]) := by
  refine Eval.intro2 monoD [.val (.ref 4), .val (.int 1), .val (.int (Int32.ofNat 0)), .val (.ref 2), .unset] rfl (le_r rfl) rfl ?_
  iterate 23 (refine Go.step rfl (fun _ => rfl) ?_)
  exact Go.retE rfl (fun _ => rfl) rfl
theorem put_0_2 (v : Nat → Int32) : Eval D 2 [.ref 4, .int 2, .int (Int32.ofNat 0), .ref 2] [(0, []), (11, []), (0, VVl v), (0, ALl v), (0, [.int (v 0), .int 0, .int (v 1), .int 1, .int 0, .int 0, .int 0, .int 0, .int 0, .int 0])] (none, [(0, []), (11, []), (0, VVl v), (0, ALl v), (0, [.int (v 0), .int 0, .int (v 1), .int 1, .int (v 2), .int 2, .int 0, .int 0, .int 0, .int 0])]) := by
  refine Eval.intro2 monoD [.val (.ref 4), .val (.int 2), .val (.int (Int32.ofNat 0)), .val (.ref 2), .unset] rfl (le_r rfl) rfl ?_
  iterate 23 (refine Go.step rfl (fun _ => rfl) ?_)
  exact Go.retE rfl (fun _ => rfl) rfl
theorem put_0_3 (v : Nat → Int32) : Eval D 2 [.ref 4, .int 3, .int (Int32.ofNat 0), .ref 2] [(0, []), (11, []), (0, VVl v), (0, ALl v), (0, [.int (v 0), .int 0, .int (v 1), .int 1, .int (v 2), .int 2, .int 0, .int 0, .int 0, .int 0])] (none, [(0, []), (11, []), (0, VVl v), (0, ALl v), (0, [.int (v 0), .int 0, .int (v 1), .int 1, .int (v 2), .int 2, .int (v 3), .int 3, .int 0, .int 0])]) := by
  refine Eval.intro2 monoD [.val (.ref 4), .val (.int 3), .val (.int (Int32.ofNat 0)), .val (.ref 2), .unset] rfl (le_r rfl) rfl ?_
  iterate 23 (refine Go.step rfl (fun _ => rfl) ?_)
  exact Go.retE rfl (fun _ => rfl) rfl
theorem put_0_4 (v : Nat → Int32) : Eval D 2 [.ref 4, .int 4, .int (Int32.ofNat 0), .ref 2] [(0, []), (11, []), (0, VVl v), (0, ALl v), (0, [.int (v 0), .int 0, .int (v 1), .int 1, .int (v 2), .int 2, .int (v 3), .int 3, .int 0, .int 0])] (none, [(0, []), (11, []), (0, VVl v), (0, ALl v), (0, [.int (v 0), .int 0, .int (v 1), .int 1, .int (v 2), .int 2, .int (v 3), .int 3, .int (v 4), .int 4])]) := by
  refine Eval.intro2 monoD [.val (.ref 4), .val (.int 4), .val (.int (Int32.ofNat 0)), .val (.ref 2), .unset] rfl (le_r rfl) rfl ?_
  iterate 23 (refine Go.step rfl (fun _ => rfl) ?_)
  exact Go.retE rfl (fun _ => rfl) rfl
theorem put_1_0 (v : Nat → Int32) : Eval D 2 [.ref 4, .int 0, .int (Int32.ofNat 1), .ref 2] [(0, []), (11, []), (0, VVl v), (0, ALl v), (0, [.int 0, .int 0, .int 0, .int 0, .int 0, .int 0, .int 0, .int 0, .int 0, .int 0])] (none, [(0, []), (11, []), (0, VVl v), (0, ALl v), (0, [.int (v 1), .int 1, .int 0, .int 0, .int 0, .int 0, .int 0, .int 0, .int 0, .int 0])]) := by
  refine Eval.intro2 monoD [.val (.ref 4), .val (.int 0), .val (.int (Int32.ofNat 1)), .val (.ref 2), .unset] rfl (le_r rfl) rfl ?_
  iterate 23 (refine Go.step rfl (fun _ => rfl) ?_)
  exact Go.retE rfl (fun _ => rfl) rfl
theorem put_1_1 (v : Nat → Int32) : Eval D 2 [.ref 4, .int 1, .int (Int32.ofNat 1), .ref 2] [(0, []), (11, []), (0, VVl v), (0, ALl v), (0, [.int (v 1), .int 1, .int 0, .int 0, .int 0, .int 0, .int 0, .int 0, .int 0, .int 0])] (none, [(0, []), (11, []), (0, VVl v), (0, ALl v), (0, [.int (v 1), .int 1, .int (v 2), .int 2, .int 0, .int 0, .int 0, .int 0, .int 0, .int 0])]) := by
  refine Eval.intro2 monoD [.val (.ref 4), .val (.int 1), .val (.int (Int32.ofNat 1)), .val (.ref 2), .unset] rfl (le_r rfl) rfl ?_
  iterate 23 (refine Go.step rfl (fun _ => rfl) ?_)
  exact Go.retE rfl (fun _ => rfl) rfl
theorem put_1_2 (v : Nat → Int32) : Eval D 2 [.ref 4, .int 2, .int (Int32.ofNat 1), .ref 2] [(0, []), (11, []), (0, VVl v), (0, ALl v), (0, [.int (v 1), .int 1, .int (v 2), .int 2, .int 0, .int 0, .int 0, .int 0, .int 0, .int 0])] (none, [(0, []), (11, []), (0, VVl v), (0, ALl v), (0, [.int (v 1), .int 1, .int (v 2), .int 2, .int (v 3), .int 3, .int 0, .int 0, .int 0, .int 0])]) := by
  refine Eval.intro2 monoD [.val (.ref 4), .val (.int 2), .val (.int (Int32.ofNat 1)), .val (.ref 2), .unset] rfl (le_r rfl) rfl ?_
  iterate 23 (refine Go.step rfl (fun _ => rfl) ?_)
  exact Go.retE rfl (fun _ => rfl) rfl
theorem put_1_3 (v : Nat → Int32) : Eval D 2 [.ref 4, .int 3, .int (Int32.ofNat 1), .ref 2] [(0, []), (11, []), (0, VVl v), (0, ALl v), (0, [.int (v 1), .int 1, .int (v 2), .int 2, .int (v 3), .int 3, .int 0, .int 0, .int 0, .int 0])] (none, [(0, []), (11, []), (0, VVl v), (0, ALl v), (0, [.int (v 1), .int 1, .int (v 2), .int 2, .int (v 3), .int 3, .int (v 4), .int 4, .int 0, .int 0])]) := by
  refine Eval.intro2 monoD [.val (.ref 4), .val (.int 3), .val (.int (Int32.ofNat 1)), .val (.ref 2), .unset] rfl (le_r rfl) rfl ?_
  iterate 23 (refine Go.step rfl (fun _ => rfl) ?_)
  exact Go.retE rfl (fun _ => rfl) rfl
theorem put_1_4 (v : Nat → Int32) : Eval D 2 [.ref 4, .int 4, .int (Int32.ofNat 1), .ref 2] [(0, []), (11, []), (0, VVl v), (0, ALl v), (0, [.int (v 1), .int 1, .int (v 2), .int 2, .int (v 3), .int 3, .int (v 4), .int 4, .int 0, .int 0])] (none, [(0, []), (11, []), (0, VVl v), (0, ALl v), (0, [.int (v 1), .int 1, .int (v 2), .int 2, .int (v 3), .int 3, .int (v 4), .int 4, .int 0, .int 0])]) := by
  refine Eval.intro2 monoD [.val (.ref 4), .val (.int 4), .val (.int (Int32.ofNat 1)), .val (.ref 2), .unset] rfl (le_r rfl) rfl ?_
  iterate 7 (refine Go.step rfl (fun _ => rfl) ?_)
  exact Go.retE rfl (fun _ => rfl) rfl
theorem put_2_0 (v : Nat → Int32) : Eval D 2 [.ref 4, .int 0, .int (Int32.ofNat 2), .ref 2] [(0, []), (11, []), (0, VVl v), (0, ALl v), (0, [.int 0, .int 0, .int 0, .int 0, .int 0, .int 0, .int 0, .int 0, .int 0, .int 0])] (none, [(0, []), (11, []), (0, VVl v), (0, ALl v), (0, [.int (v 2), .int 2, .int 0, .int 0, .int 0, .int 0, .int 0, .int 0, .int 0, .int 0])]) := by
  refine Eval.intro2 monoD [.val (.ref 4), .val (.int 0), .val (.int (Int32.ofNat 2)), .val (.ref 2), .unset] rfl (le_r rfl) rfl ?_
  iterate 23 (refine Go.step rfl (fun _ => rfl) ?_)
  exact Go.retE rfl (fun _ => rfl) rfl
theorem put_2_1 (v : Nat → Int32) : Eval D 2 [.ref 4, .int 1, .int (Int32.ofNat 2), .ref 2] [(0, []), (11, []), (0, VVl v), (0, ALl v), (0, [.int (v 2), .int 2, .int 0, .int 0, .int 0, .int 0, .int 0, .int 0, .int 0, .int 0])] (none, [(0, []), (11, []), (0, VVl v), (0, ALl v), (0, [.int (v 2), .int 2, .int (v 3), .int 3, .int 0, .int 0, .int 0, .int 0, .int 0, .int 0])]) := by
  refine Eval.intro2 monoD [.val (.ref 4), .val (.int 1), .val (.int (Int32.ofNat 2)), .val (.ref 2), .unset] rfl (le_r rfl) rfl ?_
  iterate 23 (refine Go.step rfl (fun _ => rfl) ?_)
  exact Go.retE rfl (fun _ => rfl) rfl
theorem put_2_2 (v : Nat → Int32) : Eval D 2 [.ref 4, .int 2, .int (Int32.ofNat 2), .ref 2] [(0, []), (11, []), (0, VVl v), (0, ALl v), (0, [.int (v 2), .int 2, .int (v 3), .int 3, .int 0, .int 0, .int 0, .int 0, .int 0, .int 0])] (none, [(0, []), (11, []), (0, VVl v), (0, ALl v), (0, [.int (v 2), .int 2, .int (v 3), .int 3, .int (v 4), .int 4, .int 0, .int 0, .int 0, .int 0])]) := by
  refine Eval.intro2 monoD [.val (.ref 4), .val (.int 2), .val (.int (Int32.ofNat 2)), .val (.ref 2), .unset] rfl (le_r rfl) rfl ?_
  iterate 23 (refine Go.step rfl (fun _ => rfl) ?_)
  exact Go.retE rfl (fun _ => rfl) rfl
theorem put_2_3 (v : Nat → Int32) : Eval D 2 [.ref 4, .int 3, .int (Int32.ofNat 2), .ref 2] [(0, []), (11, []), (0, VVl v), (0, ALl v), (0, [.int (v 2), .int 2, .int (v 3), .int 3, .int (v 4), .int 4, .int 0, .int 0, .int 0, .int 0])] (none, [(0, []), (11, []), (0, VVl v), (0, ALl v), (0, [.int (v 2), .int 2, .int (v 3), .int 3, .int (v 4), .int 4, .int 0, .int 0, .int 0, .int 0])]) := by
  refine Eval.intro2 monoD [.val (.ref 4), .val (.int 3), .val (.int (Int32.ofNat 2)), .val (.ref 2), .unset] rfl (le_r rfl) rfl ?_
  iterate 7 (refine Go.step rfl (fun _ => rfl) ?_)
  exact Go.retE rfl (fun _ => rfl) rfl
theorem put_2_4 (v : Nat → Int32) : Eval D 2 [.ref 4, .int 4, .int (Int32.ofNat 2), .ref 2] [(0, []), (11, []), (0, VVl v), (0, ALl v), (0, [.int (v 2), .int 2, .int (v 3), .int 3, .int (v 4), .int 4, .int 0, .int 0, .int 0, .int 0])] (none, [(0, []), (11, []), (0, VVl v), (0, ALl v), (0, [.int (v 2), .int 2, .int (v 3), .int 3, .int (v 4), .int 4, .int 0, .int 0, .int 0, .int 0])]) := by
  refine Eval.intro2 monoD [.val (.ref 4), .val (.int 4), .val (.int (Int32.ofNat 2)), .val (.ref 2), .unset] rfl (le_r rfl) rfl ?_
  iterate 7 (refine Go.step rfl (fun _ => rfl) ?_)
  exact Go.retE rfl (fun _ => rfl) rfl
theorem put_3_0 (v : Nat → Int32) : Eval D 2 [.ref 4, .int 0, .int (Int32.ofNat 3), .ref 2] [(0, []), (11, []), (0, VVl v), (0, ALl v), (0, [.int 0, .int 0, .int 0, .int 0, .int 0, .int 0, .int 0, .int 0, .int 0, .int 0])] (none, [(0, []), (11, []), (0, VVl v), (0, ALl v), (0, [.int (v 3), .int 3, .int 0, .int 0, .int 0, .int 0, .int 0, .int 0, .int 0, .int 0])]) := by
  refine Eval.intro2 monoD [.val (.ref 4), .val (.int 0), .val (.int (Int32.ofNat 3)), .val (.ref 2), .unset] rfl (le_r rfl) rfl ?_
  iterate 23 (refine Go.step rfl (fun _ => rfl) ?_)
  exact Go.retE rfl (fun _ => rfl) rfl
theorem put_3_1 (v : Nat → Int32) : Eval D 2 [.ref 4, .int 1, .int (Int32.ofNat 3), .ref 2] [(0, []), (11, []), (0, VVl v), (0, ALl v), (0, [.int (v 3), .int 3, .int 0, .int 0, .int 0, .int 0, .int 0, .int 0, .int 0, .int 0])] (none, [(0, []), (11, []), (0, VVl v), (0, ALl v), (0, [.int (v 3), .int 3, .int (v 4), .int 4, .int 0, .int 0, .int 0, .int 0, .int 0, .int 0])]) := by
  refine Eval.intro2 monoD [.val (.ref 4), .val (.int 1), .val (.int (Int32.ofNat 3)), .val (.ref 2), .unset] rfl (le_r rfl) rfl ?_
  iterate 23 (refine Go.step rfl (fun _ => rfl) ?_)
  exact Go.retE rfl (fun _ => rfl) rfl
theorem put_3_2 (v : Nat → Int32) : Eval D 2 [.ref 4, .int 2, .int (Int32.ofNat 3), .ref 2] [(0, []), (11, []), (0, VVl v), (0, ALl v), (0, [.int (v 3), .int 3, .int (v 4), .int 4, .int 0, .int 0, .int 0, .int 0, .int 0, .int 0])] (none, [(0, []), (11, []), (0, VVl v), (0, ALl v), (0, [.int (v 3), .int 3, .int (v 4), .int 4, .int 0, .int 0, .int 0, .int 0, .int 0, .int 0])]) := by
  refine Eval.intro2 monoD [.val (.ref 4), .val (.int 2), .val (.int (Int32.ofNat 3)), .val (.ref 2), .unset] rfl (le_r rfl) rfl ?_
  iterate 7 (refine Go.step rfl (fun _ => rfl) ?_)
  exact Go.retE rfl (fun _ => rfl) rfl
theorem put_3_3 (v : Nat → Int32) : Eval D 2 [.ref 4, .int 3, .int (Int32.ofNat 3), .ref 2] [(0, []), (11, []), (0, VVl v), (0, ALl v), (0, [.int (v 3), .int 3, .int (v 4), .int 4, .int 0, .int 0, .int 0, .int 0, .int 0, .int 0])] (none, [(0, []), (11, []), (0, VVl v), (0, ALl v), (0, [.int (v 3), .int 3, .int (v 4), .int 4, .int 0, .int 0, .int 0, .int 0, .int 0, .int 0])]) := by
  refine Eval.intro2 monoD [.val (.ref 4), .val (.int 3), .val (.int (Int32.ofNat 3)), .val (.ref 2), .unset] rfl (le_r rfl) rfl ?_
  iterate 7 (refine Go.step rfl (fun _ => rfl) ?_)
  exact Go.retE rfl (fun _ => rfl) rfl
theorem put_3_4 (v : Nat → Int32) : Eval D 2 [.ref 4, .int 4, .int (Int32.ofNat 3), .ref 2] [(0, []), (11, []), (0, VVl v), (0, ALl v), (0, [.int (v 3), .int 3, .int (v 4), .int 4, .int 0, .int 0, .int 0, .int 0, .int 0, .int 0])] (none, [(0, []), (11, []), (0, VVl v), (0, ALl v), (0, [.int (v 3), .int 3, .int (v 4), .int 4, .int 0, .int 0, .int 0, .int 0, .int 0, .int 0])]) := by
  refine Eval.intro2 monoD [.val (.ref 4), .val (.int 4), .val (.int (Int32.ofNat 3)), .val (.ref 2), .unset] rfl (le_r rfl) rfl ?_
  iterate 7 (refine Go.step rfl (fun _ => rfl) ?_)
  exact Go.retE rfl (fun _ => rfl) rfl
theorem put_4_0 (v : Nat → Int32) : Eval D 2 [.ref 4, .int 0, .int (Int32.ofNat 4), .ref 2] [(0, []), (11, []), (0, VVl v), (0, ALl v), (0, [.int 0, .int 0, .int 0, .int 0, .int 0, .int 0, .int 0, .int 0, .int 0, .int 0])] (none, [(0, []), (11, []), (0, VVl v), (0, ALl v), (0, [.int (v 4), .int 4, .int 0, .int 0, .int 0, .int 0, .int 0, .int 0, .int 0, .int 0])]) := by
  refine Eval.intro2 monoD [.val (.ref 4), .val (.int 0), .val (.int (Int32.ofNat 4)), .val (.ref 2), .unset] rfl (le_r rfl) rfl ?_
  iterate 23 (refine Go.step rfl (fun _ => rfl) ?_)
  exact Go.retE rfl (fun _ => rfl) rfl
theorem put_4_1 (v : Nat → Int32) : Eval D 2 [.ref 4, .int 1, .int (Int32.ofNat 4), .ref 2] [(0, []), (11, []), (0, VVl v), (0, ALl v), (0, [.int (v 4), .int 4, .int 0, .int 0, .int 0, .int 0, .int 0, .int 0, .int 0, .int 0])] (none, [(0, []), (11, []), (0, VVl v), (0, ALl v), (0, [.int (v 4), .int 4, .int 0, .int 0, .int 0, .int 0, .int 0, .int 0, .int 0, .int 0])]) := by
  refine Eval.intro2 monoD [.val (.ref 4), .val (.int 1), .val (.int (Int32.ofNat 4)), .val (.ref 2), .unset] rfl (le_r rfl) rfl ?_
  iterate 7 (refine Go.step rfl (fun _ => rfl) ?_)
  exact Go.retE rfl (fun _ => rfl) rfl
theorem put_4_2 (v : Nat → Int32) : Eval D 2 [.ref 4, .int 2, .int (Int32.ofNat 4), .ref 2] [(0, []), (11, []), (0, VVl v), (0, ALl v), (0, [.int (v 4), .int 4, .int 0, .int 0, .int 0, .int 0, .int 0, .int 0, .int 0, .int 0])] (none, [(0, []), (11, []), (0, VVl v), (0, ALl v), (0, [.int (v 4), .int 4, .int 0, .int 0, .int 0, .int 0, .int 0, .int 0, .int 0, .int 0])]) := by
  refine Eval.intro2 monoD [.val (.ref 4), .val (.int 2), .val (.int (Int32.ofNat 4)), .val (.ref 2), .unset] rfl (le_r rfl) rfl ?_
  iterate 7 (refine Go.step rfl (fun _ => rfl) ?_)
  exact Go.retE rfl (fun _ => rfl) rfl
theorem put_4_3 (v : Nat → Int32) : Eval D 2 [.ref 4, .int 3, .int (Int32.ofNat 4), .ref 2] [(0, []), (11, []), (0, VVl v), (0, ALl v), (0, [.int (v 4), .int 4, .int 0, .int 0, .int 0, .int 0, .int 0, .int 0, .int 0, .int 0])] (none, [(0, []), (11, []), (0, VVl v), (0, ALl v), (0, [.int (v 4), .int 4, .int 0, .int 0, .int 0, .int 0, .int 0, .int 0, .int 0, .int 0])]) := by
  refine Eval.intro2 monoD [.val (.ref 4), .val (.int 3), .val (.int (Int32.ofNat 4)), .val (.ref 2), .unset] rfl (le_r rfl) rfl ?_
  iterate 7 (refine Go.step rfl (fun _ => rfl) ?_)
  exact Go.retE rfl (fun _ => rfl) rfl
theorem put_4_4 (v : Nat → Int32) : Eval D 2 [.ref 4, .int 4, .int (Int32.ofNat 4), .ref 2] [(0, []), (11, []), (0, VVl v), (0, ALl v), (0, [.int (v 4), .int 4, .int 0, .int 0, .int 0, .int 0, .int 0, .int 0, .int 0, .int 0])] (none, [(0, []), (11, []), (0, VVl v), (0, ALl v), (0, [.int (v 4), .int 4, .int 0, .int 0, .int 0, .int 0, .int 0, .int 0, .int 0, .int 0])]) := by
  refine Eval.intro2 monoD [.val (.ref 4), .val (.int 4), .val (.int (Int32.ofNat 4)), .val (.ref 2), .unset] rfl (le_r rfl) rfl ?_
  iterate 7 (refine Go.step rfl (fun _ => rfl) ?_)
  exact Go.retE rfl (fun _ => rfl) rfl
theorem put_5_0 (v : Nat → Int32) : Eval D 2 [.ref 4, .int 0, .int (Int32.ofNat 5), .ref 2] [(0, []), (11, []), (0, VVl v), (0, ALl v), (0, [.int 0, .int 0, .int 0, .int 0, .int 0, .int 0, .int 0, .int 0, .int 0, .int 0])] (none, [(0, []), (11, []), (0, VVl v), (0, ALl v), (0, [.int 0, .int 0, .int 0, .int 0, .int 0, .int 0, .int 0, .int 0, .int 0, .int 0])]) := by
  refine Eval.intro2 monoD [.val (.ref 4), .val (.int 0), .val (.int (Int32.ofNat 5)), .val (.ref 2), .unset] rfl (le_r rfl) rfl ?_
  iterate 7 (refine Go.step rfl (fun _ => rfl) ?_)
  exact Go.retE rfl (fun _ => rfl) rfl
theorem put_5_1 (v : Nat → Int32) : Eval D 2 [.ref 4, .int 1, .int (Int32.ofNat 5), .ref 2] [(0, []), (11, []), (0, VVl v), (0, ALl v), (0, [.int 0, .int 0, .int 0, .int 0, .int 0, .int 0, .int 0, .int 0, .int 0, .int 0])] (none, [(0, []), (11, []), (0, VVl v), (0, ALl v), (0, [.int 0, .int 0, .int 0, .int 0, .int 0, .int 0, .int 0, .int 0, .int 0, .int 0])]) := by
  refine Eval.intro2 monoD [.val (.ref 4), .val (.int 1), .val (.int (Int32.ofNat 5)), .val (.ref 2), .unset] rfl (le_r rfl) rfl ?_
  iterate 7 (refine Go.step rfl (fun _ => rfl) ?_)
  exact Go.retE rfl (fun _ => rfl) rfl
theorem put_5_2 (v : Nat → Int32) : Eval D 2 [.ref 4, .int 2, .int (Int32.ofNat 5), .ref 2] [(0, []), (11, []), (0, VVl v), (0, ALl v), (0, [.int 0, .int 0, .int 0, .int 0, .int 0, .int 0, .int 0, .int 0, .int 0, .int 0])] (none, [(0, []), (11, []), (0, VVl v), (0, ALl v), (0, [.int 0, .int 0, .int 0, .int 0, .int 0, .int 0, .int 0, .int 0, .int 0, .int 0])]) := by
  refine Eval.intro2 monoD [.val (.ref 4), .val (.int 2), .val (.int (Int32.ofNat 5)), .val (.ref 2), .unset] rfl (le_r rfl) rfl ?_
  iterate 7 (refine Go.step rfl (fun _ => rfl) ?_)
  exact Go.retE rfl (fun _ => rfl) rfl
theorem put_5_3 (v : Nat → Int32) : Eval D 2 [.ref 4, .int 3, .int (Int32.ofNat 5), .ref 2] [(0, []), (11, []), (0, VVl v), (0, ALl v), (0, [.int 0, .int 0, .int 0, .int 0, .int 0, .int 0, .int 0, .int 0, .int 0, .int 0])] (none, [(0, []), (11, []), (0, VVl v), (0, ALl v), (0, [.int 0, .int 0, .int 0, .int 0, .int 0, .int 0, .int 0, .int 0, .int 0, .int 0])]) := by
  refine Eval.intro2 monoD [.val (.ref 4), .val (.int 3), .val (.int (Int32.ofNat 5)), .val (.ref 2), .unset] rfl (le_r rfl) rfl ?_
  iterate 7 (refine Go.step rfl (fun _ => rfl) ?_)
  exact Go.retE rfl (fun _ => rfl) rfl
theorem put_5_4 (v : Nat → Int32) : Eval D 2 [.ref 4, .int 4, .int (Int32.ofNat 5), .ref 2] [(0, []), (11, []), (0, VVl v), (0, ALl v), (0, [.int 0, .int 0, .int 0, .int 0, .int 0, .int 0, .int 0, .int 0, .int 0, .int 0])] (none, [(0, []), (11, []), (0, VVl v), (0, ALl v), (0, [.int 0, .int 0, .int 0, .int 0, .int 0, .int 0, .int 0, .int 0, .int 0, .int 0])]) := by
  refine Eval.intro2 monoD [.val (.ref 4), .val (.int 4), .val (.int (Int32.ofNat 5)), .val (.ref 2), .unset] rfl (le_r rfl) rfl ?_
  iterate 7 (refine Go.step rfl (fun _ => rfl) ?_)
  exact Go.retE rfl (fun _ => rfl) rfl
theorem t171_0 (x y z m k p : Int32) (v : Nat → Int32) (u : Bool) {w : MR} (hg : Go D c0 (221, [.val (.int x), .val (.int y), .val (.int z), .val (.int m), .val (.int k), .val (.int p), .val (.int (v 0)), .val (.int (v 1)), .val (.int (v 2)), .val (.int (v 3)), .val (.int (v 4)), .val (.int (b2i u)), .val (.int (Int32.ofNat 0)), .val (.ref 2), .val (.ref 3), .val (.ref 4), .unset, .unset, .unset, .unset, .unset, .unset, .unset, .unset, .unset, .unset, .unset, .unset, .unset, .unset], [], [(0, []), (11, []), (0, VVl v), (0, ALl v), (0, REl v 0)]) w) : Go D c0 (171, [.val (.int x), .val (.int y), .val (.int z), .val (.int m), .val (.int k), .val (.int p), .val (.int (v 0)), .val (.int (v 1)), .val (.int (v 2)), .val (.int (v 3)), .val (.int (v 4)), .val (.int (b2i u)), .val (.int (Int32.ofNat 0)), .val (.ref 2), .val (.ref 3), .val (.ref 4), .unset, .unset, .unset, .unset, .unset, .unset, .unset, .unset, .unset, .unset, .unset, .unset, .unset, .unset], [], [(0, []), (11, []), (0, VVl v), (0, ALl v), (0, REl v 5)]) w := by
  iterate 4 (refine Go.step rfl (fun _ => rfl) ?_)
  refine Go.scall monoD mono0 rfl (put_0_0 v) rfl rfl (le_r rfl) (le_r rfl) ?_
  iterate 4 (refine Go.step rfl (fun _ => rfl) ?_)
  refine Go.scall monoD mono0 rfl (put_0_1 v) rfl rfl (le_r rfl) (le_r rfl) ?_
  iterate 4 (refine Go.step rfl (fun _ => rfl) ?_)
  refine Go.scall monoD mono0 rfl (put_0_2 v) rfl rfl (le_r rfl) (le_r rfl) ?_
  iterate 4 (refine Go.step rfl (fun _ => rfl) ?_)
  refine Go.scall monoD mono0 rfl (put_0_3 v) rfl rfl (le_r rfl) (le_r rfl) ?_
  iterate 4 (refine Go.step rfl (fun _ => rfl) ?_)
  refine Go.scall monoD mono0 rfl (put_0_4 v) rfl rfl (le_r rfl) (le_r rfl) ?_
  exact hg
theorem t171_1 (x y z m k p : Int32) (v : Nat → Int32) (u : Bool) {w : MR} (hg : Go D c0 (221, [.val (.int x), .val (.int y), .val (.int z), .val (.int m), .val (.int k), .val (.int p), .val (.int (v 0)), .val (.int (v 1)), .val (.int (v 2)), .val (.int (v 3)), .val (.int (v 4)), .val (.int (b2i u)), .val (.int (Int32.ofNat 1)), .val (.ref 2), .val (.ref 3), .val (.ref 4), .unset, .unset, .unset, .unset, .unset, .unset, .unset, .unset, .unset, .unset, .unset, .unset, .unset, .unset], [], [(0, []), (11, []), (0, VVl v), (0, ALl v), (0, REl v 1)]) w) : Go D c0 (171, [.val (.int x), .val (.int y), .val (.int z), .val (.int m), .val (.int k), .val (.int p), .val (.int (v 0)), .val (.int (v 1)), .val (.int (v 2)), .val (.int (v 3)), .val (.int (v 4)), .val (.int (b2i u)), .val (.int (Int32.ofNat 1)), .val (.ref 2), .val (.ref 3), .val (.ref 4), .unset, .unset, .unset, .unset, .unset, .unset, .unset, .unset, .unset, .unset, .unset, .unset, .unset, .unset], [], [(0, []), (11, []), (0, VVl v), (0, ALl v), (0, REl v 5)]) w := by
  iterate 4 (refine Go.step rfl (fun _ => rfl) ?_)
  refine Go.scall monoD mono0 rfl (put_1_0 v) rfl rfl (le_r rfl) (le_r rfl) ?_
  iterate 4 (refine Go.step rfl (fun _ => rfl) ?_)
  refine Go.scall monoD mono0 rfl (put_1_1 v) rfl rfl (le_r rfl) (le_r rfl) ?_
  iterate 4 (refine Go.step rfl (fun _ => rfl) ?_)
  refine Go.scall monoD mono0 rfl (put_1_2 v) rfl rfl (le_r rfl) (le_r rfl) ?_
  iterate 4 (refine Go.step rfl (fun _ => rfl) ?_)
  refine Go.scall monoD mono0 rfl (put_1_3 v) rfl rfl (le_r rfl) (le_r rfl) ?_
  iterate 4 (refine Go.step rfl (fun _ => rfl) ?_)
  refine Go.scall monoD mono0 rfl (put_1_4 v) rfl rfl (le_r rfl) (le_r rfl) ?_
  exact hg
theorem t171_2 (x y z m k p : Int32) (v : Nat → Int32) (u : Bool) {w : MR} (hg : Go D c0 (221, [.val (.int x), .val (.int y), .val (.int z), .val (.int m), .val (.int k), .val (.int p), .val (.int (v 0)), .val (.int (v 1)), .val (.int (v 2)), .val (.int (v 3)), .val (.int (v 4)), .val (.int (b2i u)), .val (.int (Int32.ofNat 2)), .val (.ref 2), .val (.ref 3), .val (.ref 4), .unset, .unset, .unset, .unset, .unset, .unset, .unset, .unset, .unset, .unset, .unset, .unset, .unset, .unset], [], [(0, []), (11, []), (0, VVl v), (0, ALl v), (0, REl v 2)]) w) : Go D c0 (171, [.val (.int x), .val (.int y), .val (.int z), .val (.int m), .val (.int k), .val (.int p), .val (.int (v 0)), .val (.int (v 1)), .val (.int (v 2)), .val (.int (v 3)), .val (.int (v 4)), .val (.int (b2i u)), .val (.int (Int32.ofNat 2)), .val (.ref 2), .val (.ref 3), .val (.ref 4), .unset, .unset, .unset, .unset, .unset, .unset, .unset, .unset, .unset, .unset, .unset, .unset, .unset, .unset], [], [(0, []), (11, []), (0, VVl v), (0, ALl v), (0, REl v 5)]) w := by
  iterate 4 (refine Go.step rfl (fun _ => rfl) ?_)
  refine Go.scall monoD mono0 rfl (put_2_0 v) rfl rfl (le_r rfl) (le_r rfl) ?_
  iterate 4 (refine Go.step rfl (fun _ => rfl) ?_)
  refine Go.scall monoD mono0 rfl (put_2_1 v) rfl rfl (le_r rfl) (le_r rfl) ?_
  iterate 4 (refine Go.step rfl (fun _ => rfl) ?_)
  refine Go.scall monoD mono0 rfl (put_2_2 v) rfl rfl (le_r rfl) (le_r rfl) ?_
  iterate 4 (refine Go.step rfl (fun _ => rfl) ?_)
  refine Go.scall monoD mono0 rfl (put_2_3 v) rfl rfl (le_r rfl) (le_r rfl) ?_
  iterate 4 (refine Go.step rfl (fun _ => rfl) ?_)
  refine Go.scall monoD mono0 rfl (put_2_4 v) rfl rfl (le_r rfl) (le_r rfl) ?_
  exact hg
theorem t171_3 (x y z m k p : Int32) (v : Nat → Int32) (u : Bool) {w : MR} (hg : Go D c0 (221, [.val (.int x), .val (.int y), .val (.int z), .val (.int m), .val (.int k), .val (.int p), .val (.int (v 0)), .val (.int (v 1)), .val (.int (v 2)), .val (.int (v 3)), .val (.int (v 4)), .val (.int (b2i u)), .val (.int (Int32.ofNat 3)), .val (.ref 2), .val (.ref 3), .val (.ref 4), .unset, .unset, .unset, .unset, .unset, .unset, .unset, .unset, .unset, .unset, .unset, .unset, .unset, .unset], [], [(0, []), (11, []), (0, VVl v), (0, ALl v), (0, REl v 3)]) w) : Go D c0 (171, [.val (.int x), .val (.int y), .val (.int z), .val (.int m), .val (.int k), .val (.int p), .val (.int (v 0)), .val (.int (v 1)), .val (.int (v 2)), .val (.int (v 3)), .val (.int (v 4)), .val (.int (b2i u)), .val (.int (Int32.ofNat 3)), .val (.ref 2), .val (.ref 3), .val (.ref 4), .unset, .unset, .unset, .unset, .unset, .unset, .unset, .unset, .unset, .unset, .unset, .unset, .unset, .unset], [], [(0, []), (11, []), (0, VVl v), (0, ALl v), (0, REl v 5)]) w := by
  iterate 4 (refine Go.step rfl (fun _ => rfl) ?_)
  refine Go.scall monoD mono0 rfl (put_3_0 v) rfl rfl (le_r rfl) (le_r rfl) ?_
  iterate 4 (refine Go.step rfl (fun _ => rfl) ?_)
  refine Go.scall monoD mono0 rfl (put_3_1 v) rfl rfl (le_r rfl) (le_r rfl) ?_
  iterate 4 (refine Go.step rfl (fun _ => rfl) ?_)
  refine Go.scall monoD mono0 rfl (put_3_2 v) rfl rfl (le_r rfl) (le_r rfl) ?_
  iterate 4 (refine Go.step rfl (fun _ => rfl) ?_)
  refine Go.scall monoD mono0 rfl (put_3_3 v) rfl rfl (le_r rfl) (le_r rfl) ?_
  iterate 4 (refine Go.step rfl (fun _ => rfl) ?_)
  refine Go.scall monoD mono0 rfl (put_3_4 v) rfl rfl (le_r rfl) (le_r rfl) ?_
  exact hg
theorem t171_4 (x y z m k p : Int32) (v : Nat → Int32) (u : Bool) {w : MR} (hg : Go D c0 (221, [.val (.int x), .val (.int y), .val (.int z), .val (.int m), .val (.int k), .val (.int p), .val (.int (v 0)), .val (.int (v 1)), .val (.int (v 2)), .val (.int (v 3)), .val (.int (v 4)), .val (.int (b2i u)), .val (.int (Int32.ofNat 4)), .val (.ref 2), .val (.ref 3), .val (.ref 4), .unset, .unset, .unset, .unset, .unset, .unset, .unset, .unset, .unset, .unset, .unset, .unset, .unset, .unset], [], [(0, []), (11, []), (0, VVl v), (0, ALl v), (0, REl v 4)]) w) : Go D c0 (171, [.val (.int x), .val (.int y), .val (.int z), .val (.int m), .val (.int k), .val (.int p), .val (.int (v 0)), .val (.int (v 1)), .val (.int (v 2)), .val (.int (v 3)), .val (.int (v 4)), .val (.int (b2i u)), .val (.int (Int32.ofNat 4)), .val (.ref 2), .val (.ref 3), .val (.ref 4), .unset, .unset, .unset, .unset, .unset, .unset, .unset, .unset, .unset, .unset, .unset, .unset, .unset, .unset], [], [(0, []), (11, []), (0, VVl v), (0, ALl v), (0, REl v 5)]) w := by
  iterate 4 (refine Go.step rfl (fun _ => rfl) ?_)
  refine Go.scall monoD mono0 rfl (put_4_0 v) rfl rfl (le_r rfl) (le_r rfl) ?_
  iterate 4 (refine Go.step rfl (fun _ => rfl) ?_)
  refine Go.scall monoD mono0 rfl (put_4_1 v) rfl rfl (le_r rfl) (le_r rfl) ?_
  iterate 4 (refine Go.step rfl (fun _ => rfl) ?_)
  refine Go.scall monoD mono0 rfl (put_4_2 v) rfl rfl (le_r rfl) (le_r rfl) ?_
  iterate 4 (refine Go.step rfl (fun _ => rfl) ?_)
  refine Go.scall monoD mono0 rfl (put_4_3 v) rfl rfl (le_r rfl) (le_r rfl) ?_
  iterate 4 (refine Go.step rfl (fun _ => rfl) ?_)
  refine Go.scall monoD mono0 rfl (put_4_4 v) rfl rfl (le_r rfl) (le_r rfl) ?_
  exact hg
theorem t171_5 (x y z m k p : Int32) (v : Nat → Int32) (u : Bool) {w : MR} (hg : Go D c0 (221, [.val (.int x), .val (.int y), .val (.int z), .val (.int m), .val (.int k), .val (.int p), .val (.int (v 0)), .val (.int (v 1)), .val (.int (v 2)), .val (.int (v 3)), .val (.int (v 4)), .val (.int (b2i u)), .val (.int (Int32.ofNat 5)), .val (.ref 2), .val (.ref 3), .val (.ref 4), .unset, .unset, .unset, .unset, .unset, .unset, .unset, .unset, .unset, .unset, .unset, .unset, .unset, .unset], [], [(0, []), (11, []), (0, VVl v), (0, ALl v), (0, REl v 5)]) w) : Go D c0 (171, [.val (.int x), .val (.int y), .val (.int z), .val (.int m), .val (.int k), .val (.int p), .val (.int (v 0)), .val (.int (v 1)), .val (.int (v 2)), .val (.int (v 3)), .val (.int (v 4)), .val (.int (b2i u)), .val (.int (Int32.ofNat 5)), .val (.ref 2), .val (.ref 3), .val (.ref 4), .unset, .unset, .unset, .unset, .unset, .unset, .unset, .unset, .unset, .unset, .unset, .unset, .unset, .unset], [], [(0, []), (11, []), (0, VVl v), (0, ALl v), (0, REl v 5)]) w := by
  iterate 4 (refine Go.step rfl (fun _ => rfl) ?_)
  refine Go.scall monoD mono0 rfl (put_5_0 v) rfl rfl (le_r rfl) (le_r rfl) ?_
  iterate 4 (refine Go.step rfl (fun _ => rfl) ?_)
  refine Go.scall monoD mono0 rfl (put_5_1 v) rfl rfl (le_r rfl) (le_r rfl) ?_
  iterate 4 (refine Go.step rfl (fun _ => rfl) ?_)
  refine Go.scall monoD mono0 rfl (put_5_2 v) rfl rfl (le_r rfl) (le_r rfl) ?_
  iterate 4 (refine Go.step rfl (fun _ => rfl) ?_)
  refine Go.scall monoD mono0 rfl (put_5_3 v) rfl rfl (le_r rfl) (le_r rfl) ?_
  iterate 4 (refine Go.step rfl (fun _ => rfl) ?_)
  refine Go.scall monoD mono0 rfl (put_5_4 v) rfl rfl (le_r rfl) (le_r rfl) ?_
  exact hg
theorem t171 (x y z m k p : Int32) (v : Nat → Int32) (u : Bool) {w : MR} : ∀ sp, sp ≤ 5 → Go D c0 (221, [.val (.int x), .val (.int y), .val (.int z), .val (.int m), .val (.int k), .val (.int p), .val (.int (v 0)), .val (.int (v 1)), .val (.int (v 2)), .val (.int (v 3)), .val (.int (v 4)), .val (.int (b2i u)), .val (.int (Int32.ofNat sp)), .val (.ref 2), .val (.ref 3), .val (.ref 4), .unset, .unset, .unset, .unset, .unset, .unset, .unset, .unset, .unset, .unset, .unset, .unset, .unset, .unset], [], [(0, []), (11, []), (0, VVl v), (0, ALl v), (0, REl v sp)]) w → Go D c0 (171, [.val (.int x), .val (.int y), .val (.int z), .val (.int m), .val (.int k), .val (.int p), .val (.int (v 0)), .val (.int (v 1)), .val (.int (v 2)), .val (.int (v 3)), .val (.int (v 4)), .val (.int (b2i u)), .val (.int (Int32.ofNat sp)), .val (.ref 2), .val (.ref 3), .val (.ref 4), .unset, .unset, .unset, .unset, .unset, .unset, .unset, .unset, .unset, .unset, .unset, .unset, .unset, .unset], [], [(0, []), (11, []), (0, VVl v), (0, ALl v), (0, REl v 5)]) w
  | 0, _, h => t171_0 x y z m k p v u h
  | 1, _, h => t171_1 x y z m k p v u h
  | 2, _, h => t171_2 x y z m k p v u h
  | 3, _, h => t171_3 x y z m k p v u h
  | 4, _, h => t171_4 x y z m k p v u h
  | 5, _, h => t171_5 x y z m k p v u h
  | n + 6, h, _ => absurd h (by omega)
theorem t80 (x y z m k p : Int32) (v : Nat → Int32) (u : Bool) (sp : Nat) (hsp : sp ≤ 5) {w : MR} (hg : Go D c0 (221, [.val (.int x), .val (.int y), .val (.int z), .val (.int m), .val (.int k), .val (.int p), .val (.int (v 0)), .val (.int (v 1)), .val (.int (v 2)), .val (.int (v 3)), .val (.int (v 4)), .val (.int (b2i u)), .val (.int (Int32.ofNat sp)), .val (.ref 2), .val (.ref 3), .val (.ref 4), .unset, .unset, .unset, .unset, .unset, .unset, .unset, .unset, .unset, .unset, .unset, .unset, .unset, .unset], [], [(0, []), (11, []), (0, VVl v), (0, ALl v), (0, REl v sp)]) w) : Go D c0 (80, [.val (.int x), .val (.int y), .val (.int z), .val (.int m), .val (.int k), .val (.int p), .val (.int (v 0)), .val (.int (v 1)), .val (.int (v 2)), .val (.int (v 3)), .val (.int (v 4)), .val (.int (b2i u)), .val (.int (Int32.ofNat sp)), .unset, .unset, .unset, .unset, .unset, .unset, .unset, .unset, .unset, .unset, .unset, .unset, .unset, .unset, .unset, .unset, .unset], [], H0) w := by
  iterate 22 (refine Go.step rfl (fun _ => rfl) ?_)
  refine Go.to (st' := (108, _, [.ref 2], [(0, []), (11, []), (0, VVl v)])) rfl ?_
  iterate 43 (refine Go.step rfl (fun _ => rfl) ?_)
  refine Go.to (st' := (163, _, [.ref 3], [(0, []), (11, []), (0, VVl v), (0, ALl v)])) rfl ?_
  iterate 4 (refine Go.step rfl (fun _ => rfl) ?_)
  refine Go.to (st' := (171, [.val (.int x), .val (.int y), .val (.int z), .val (.int m), .val (.int k), .val (.int p), .val (.int (v 0)), .val (.int (v 1)), .val (.int (v 2)), .val (.int (v 3)), .val (.int (v 4)), .val (.int (b2i u)), .val (.int (Int32.ofNat sp)), .val (.ref 2), .val (.ref 3), .val (.ref 4), .unset, .unset, .unset, .unset, .unset, .unset, .unset, .unset, .unset, .unset, .unset, .unset, .unset, .unset], [], [(0, []), (11, []), (0, VVl v), (0, ALl v), (0, REl v 5)])) rfl ?_
  exact t171 x y z m k p v u sp hsp hg
theorem t221_false (x y z m k p : Int32) (v : Nat → Int32) (sp t : Nat) (hsp : sp ≤ 5) (ht : t < 5) (et : (k &&& 2147483647) % 5 = Int32.ofNat t) (H1 H2 : MH) (hE1 : Eval D 12 [.ref 7, .ref 5] (H12 (0, VVl v) (0, ALl v) (0, REl v sp) (0, CO false) (0, [.int (v t)]) (RCl v sp) (Int32.ofNat sp)) (some (.ref 13), H1)) (h71 : ∃ vs, H1[7]? = some (5, vs)) (hE2 : Eval D 8 [.ref 7, .ref 4, .int (5 - Int32.ofNat sp)] H1 (none, H2)) {r : MR} (hg : Go D c0 (334, [.val (.int x), .val (.int y), .val (.int z), .val (.int m), .val (.int k), .val (.int p), .val (.int (v 0)), .val (.int (v 1)), .val (.int (v 2)), .val (.int (v 3)), .val (.int (v 4)), .val (.int (b2i false)), .val (.int (Int32.ofNat sp)), .val (.ref 2), .val (.ref 3), .val (.ref 4), .val (.int (Int32.ofNat t)), .val (.ref 5), .val (.ref 6), .val (.ref 7), .val (.ref 13), .unset, .unset, .unset, .unset, .unset, .unset, .unset, .unset, .unset], [], H2) r) : Go D c0 (221, [.val (.int x), .val (.int y), .val (.int z), .val (.int m), .val (.int k), .val (.int p), .val (.int (v 0)), .val (.int (v 1)), .val (.int (v 2)), .val (.int (v 3)), .val (.int (v 4)), .val (.int (b2i false)), .val (.int (Int32.ofNat sp)), .val (.ref 2), .val (.ref 3), .val (.ref 4), .unset, .unset, .unset, .unset, .unset, .unset, .unset, .unset, .unset, .unset, .unset, .unset, .unset, .unset], [], [(0, []), (11, []), (0, VVl v), (0, ALl v), (0, REl v sp)]) r := by
  obtain ⟨vs, h71⟩ := h71
  have kt : t < 2 ^ 31 := by omega
  have hvt : (VVl v)[(Int32.ofNat t).toNatClampNeg]? = some (.int (v t)) := by rw [on_nat kt]; exact vv_get v t ht
  iterate 4 (refine Go.step rfl (fun _ => rfl) ?_)
  refine Go.rem rfl (by decide) ?_
  refine Go.to (st' := (228, _, [.int ((k &&& 2147483647) % 5)], _)) rfl ?_
  rw [et]
  iterate 9 (refine Go.step rfl (fun _ => rfl) ?_)
  refine Go.to (st' := (256, _, [.ref 5], [(0, []), (11, []), (0, VVl v), (0, ALl v), (0, REl v sp), (0, CO false)])) rfl ?_
  iterate 9 (refine Go.step rfl (fun _ => rfl) ?_)
  refine Go.ald rfl rfl (on_nn kt) hvt ?_
  iterate 1 (refine Go.step rfl (fun _ => rfl) ?_)
  refine Go.to (st' := (293, _, [.ref 6], [(0, []), (11, []), (0, VVl v), (0, ALl v), (0, REl v sp), (0, CO false), (0, [.int (v t)])])) rfl ?_
  iterate 1 (refine Go.step rfl (fun _ => rfl) ?_)
  refine Go.step rfl (fun _ => rfl) ?_
  refine Go.to (st' := (298, _, [.ref 7], [(0, []), (11, []), (0, VVl v), (0, ALl v), (0, REl v sp), (0, CO false), (0, [.int (v t)]), (5, [.null, .null, .int 0, .null, .null, .int 0, .null])])) rfl ?_
  iterate 2 (refine Go.step rfl (fun _ => rfl) ?_)
  refine Go.rcall monoD mono0 rfl (evRel (0, VVl v) (0, ALl v) (0, REl v sp) (0, CO false) (0, [.int (v t)])) rfl rfl rfl rfl (le_r rfl) ?_
  iterate 4 (refine Go.step rfl (fun _ => rfl) ?_)
  refine Go.rcall monoD mono0 rfl (addNew1 v (0, VVl v) (0, REl v sp) (0, CO false) (0, [.int (v t)]) sp hsp) rfl rfl rfl rfl (le_r rfl) ?_
  iterate 2 (refine Go.step rfl (fun _ => rfl) ?_)
  refine Go.rcall monoD mono0 rfl (hE1) rfl rfl rfl rfl (le_r rfl) ?_
  iterate 6 (refine Go.step rfl (fun _ => rfl) ?_)
  refine Go.rcall monoD mono0 rfl hE2 h71 rfl rfl rfl (le_r rfl) ?_
  exact hg
theorem t221_true (x y z m k p : Int32) (v : Nat → Int32) (sp t : Nat) (hsp : sp ≤ 5) (ht : t < 5) (et : (k &&& 2147483647) % 5 = Int32.ofNat t) (H1 H2 : MH) (hE1 : Eval D 12 [.ref 7, .ref 5] (H12 (0, VVl v) (0, ALl v) (0, REl v sp) (0, CO true) (0, [.int (v t), .int (Int32.ofNat t)]) (RCl v sp) (Int32.ofNat sp)) (some (.ref 13), H1)) (h71 : ∃ vs, H1[7]? = some (5, vs)) (hE2 : Eval D 8 [.ref 7, .ref 4, .int (5 - Int32.ofNat sp)] H1 (none, H2)) {r : MR} (hg : Go D c0 (334, [.val (.int x), .val (.int y), .val (.int z), .val (.int m), .val (.int k), .val (.int p), .val (.int (v 0)), .val (.int (v 1)), .val (.int (v 2)), .val (.int (v 3)), .val (.int (v 4)), .val (.int (b2i true)), .val (.int (Int32.ofNat sp)), .val (.ref 2), .val (.ref 3), .val (.ref 4), .val (.int (Int32.ofNat t)), .val (.ref 5), .val (.ref 6), .val (.ref 7), .val (.ref 13), .unset, .unset, .unset, .unset, .unset, .unset, .unset, .unset, .unset], [], H2) r) : Go D c0 (221, [.val (.int x), .val (.int y), .val (.int z), .val (.int m), .val (.int k), .val (.int p), .val (.int (v 0)), .val (.int (v 1)), .val (.int (v 2)), .val (.int (v 3)), .val (.int (v 4)), .val (.int (b2i true)), .val (.int (Int32.ofNat sp)), .val (.ref 2), .val (.ref 3), .val (.ref 4), .unset, .unset, .unset, .unset, .unset, .unset, .unset, .unset, .unset, .unset, .unset, .unset, .unset, .unset], [], [(0, []), (11, []), (0, VVl v), (0, ALl v), (0, REl v sp)]) r := by
  obtain ⟨vs, h71⟩ := h71
  have kt : t < 2 ^ 31 := by omega
  have hvt : (VVl v)[(Int32.ofNat t).toNatClampNeg]? = some (.int (v t)) := by rw [on_nat kt]; exact vv_get v t ht
  iterate 4 (refine Go.step rfl (fun _ => rfl) ?_)
  refine Go.rem rfl (by decide) ?_
  refine Go.to (st' := (228, _, [.int ((k &&& 2147483647) % 5)], _)) rfl ?_
  rw [et]
  iterate 14 (refine Go.step rfl (fun _ => rfl) ?_)
  refine Go.to (st' := (256, _, [.ref 5], [(0, []), (11, []), (0, VVl v), (0, ALl v), (0, REl v sp), (0, CO true)])) rfl ?_
  iterate 9 (refine Go.step rfl (fun _ => rfl) ?_)
  refine Go.ald rfl rfl (on_nn kt) hvt ?_
  iterate 6 (refine Go.step rfl (fun _ => rfl) ?_)
  refine Go.to (st' := (293, _, [.ref 6], [(0, []), (11, []), (0, VVl v), (0, ALl v), (0, REl v sp), (0, CO true), (0, [.int (v t), .int (Int32.ofNat t)])])) rfl ?_
  iterate 1 (refine Go.step rfl (fun _ => rfl) ?_)
  refine Go.step rfl (fun _ => rfl) ?_
  refine Go.to (st' := (298, _, [.ref 7], [(0, []), (11, []), (0, VVl v), (0, ALl v), (0, REl v sp), (0, CO true), (0, [.int (v t), .int (Int32.ofNat t)]), (5, [.null, .null, .int 0, .null, .null, .int 0, .null])])) rfl ?_
  iterate 2 (refine Go.step rfl (fun _ => rfl) ?_)
  refine Go.rcall monoD mono0 rfl (evRel (0, VVl v) (0, ALl v) (0, REl v sp) (0, CO true) (0, [.int (v t), .int (Int32.ofNat t)])) rfl rfl rfl rfl (le_r rfl) ?_
  iterate 4 (refine Go.step rfl (fun _ => rfl) ?_)
  refine Go.rcall monoD mono0 rfl (addNew1 v (0, VVl v) (0, REl v sp) (0, CO true) (0, [.int (v t), .int (Int32.ofNat t)]) sp hsp) rfl rfl rfl rfl (le_r rfl) ?_
  iterate 2 (refine Go.step rfl (fun _ => rfl) ?_)
  refine Go.rcall monoD mono0 rfl (hE1) rfl rfl rfl rfl (le_r rfl) ?_
  iterate 6 (refine Go.step rfl (fun _ => rfl) ?_)
  refine Go.rcall monoD mono0 rfl hE2 h71 rfl rfl rfl (le_r rfl) ?_
  exact hg
theorem t334_true (x y z m k p : Int32) (v : Nat → Int32) (sp t : Nat) (ht : t < 5) (Q : QQ) (sz : Int32) (RC SC SL : List Value) (nn : Int32) (FT CN TU : List Value) (T : MH) (hE : Eval D 35 [.ref 13, .ref 6] (HR true Q sz RC SC SL nn FT CN TU T) (some (.int (Int32.ofNat t)), (HR true Q sz RC SC SL nn FT CN TU T))) : Go D c0 (334, [.val (.int x), .val (.int y), .val (.int z), .val (.int m), .val (.int k), .val (.int p), .val (.int (v 0)), .val (.int (v 1)), .val (.int (v 2)), .val (.int (v 3)), .val (.int (v 4)), .val (.int (b2i true)), .val (.int (Int32.ofNat sp)), .val (.ref 2), .val (.ref 3), .val (.ref 4), .val (.int (Int32.ofNat t)), .val (.ref 5), .val (.ref 6), .val (.ref 7), .val (.ref 13), .unset, .unset, .unset, .unset, .unset, .unset, .unset, .unset, .unset], [], (HR true Q sz RC SC SL nn FT CN TU T)) (some (.int 1), (HR true Q sz RC SC SL nn FT CN TU T)) := by
  iterate 2 (refine Go.step rfl (fun _ => rfl) ?_)
  refine Go.rcall monoD mono0 rfl (hE) rfl rfl rfl rfl (le_r rfl) ?_
  iterate 2 (refine Go.step rfl (fun _ => rfl) ?_)
  refine Go.ifc rfl (b := true) (z_geN (by omega)) ?_
  iterate 5 (refine Go.step rfl (fun _ => rfl) ?_)
  refine Go.rcall monoD mono0 rfl (tup_true Q sz RC SC SL nn FT CN TU T (Int32.ofNat t) 0) rfl rfl rfl rfl (le_r rfl) ?_
  iterate 1 (refine Go.step rfl (fun _ => rfl) ?_)
  refine Go.icmp rfl (b := false) ((i_ne (by omega) (by omega)).trans (decide_eq_false (by omega))) ?_
  iterate 2 (refine Go.step rfl (fun _ => rfl) ?_)
  exact Go.retE rfl (fun _ => rfl) rfl
theorem t451 (x y z m k p : Int32) (v : Nat → Int32) (sp t κ : Nat) (e0 e1 e2 e3 e4 : Bool) (Q : QQ) (sz : Int32) (RC SC : List Value) (f : Nat → Int32) (M : MM) (hc : true ∈ [e0, e1, e2, e3, e4]) (hall : ∀ pos, pos < cnB [e0, e1, e2, e3, e4] → ∃ q, tupM M κ pos = some q ∧ nthN pos 0 [e0, e1, e2, e3, e4] = some q) : Go D c0 (451, [.val (.int x), .val (.int y), .val (.int z), .val (.int m), .val (.int k), .val (.int p), .val (.int (v 0)), .val (.int (v 1)), .val (.int (v 2)), .val (.int (v 3)), .val (.int (v 4)), .val (.int (b2i false)), .val (.int (Int32.ofNat sp)), .val (.ref 2), .val (.ref 3), .val (.ref 4), .val (.int (Int32.ofNat t)), .val (.ref 5), .val (.ref 6), .val (.ref 7), .val (.ref 13), .val (.int (Int32.ofNat κ)), .val (.int (v t)), .val (.int (b2i e0)), .val (.int (b2i e1)), .val (.int (b2i e2)), .val (.int (b2i e3)), .val (.int (b2i e4)), .unset, .unset], [], (HR false Q sz RC SC (tab false f) (Int32.ofNat M.1) (M.2.1.map nv) (M.2.2.1.map nv) (M.2.2.2.1.map tv) (M.2.2.2.2.map cm))) (some (.int 1), (HR false Q sz RC SC (tab false f) (Int32.ofNat M.1) (M.2.1.map nv) (M.2.2.1.map nv) (M.2.2.2.1.map tv) (M.2.2.2.2.map cm))) := by
  have hp0 : 0 ≤ (p &&& 2147483647).toInt := (and_rng p 2147483647 (by decide)).1
  have c5 := cn_le e0 e1 e2 e3 e4
  have cp := cn_pos _ hc
  obtain ⟨pos, h1, h2⟩ := rem_sm (p &&& 2147483647) (cnB [e0, e1, e2, e3, e4]) (by omega) cp hp0
  obtain ⟨q, q1, q2⟩ := hall pos h1
  have hne : Int32.ofNat (cnB [e0, e1, e2, e3, e4]) ≠ 0 := fun h => by
    have := on_inj (y := 0) (by omega) (by decide) h
    omega
  refine Go.step rfl (fun _ => rfl) ?_
  refine Go.boolBlk rfl rfl rfl rfl ?_
  refine Go.step rfl (fun _ => rfl) ?_
  refine Go.boolBlk rfl rfl rfl rfl ?_
  refine Go.step rfl (fun _ => rfl) ?_
  refine Go.step rfl (fun _ => rfl) ?_
  refine Go.boolBlk rfl rfl rfl rfl ?_
  refine Go.step rfl (fun _ => rfl) ?_
  refine Go.step rfl (fun _ => rfl) ?_
  refine Go.boolBlk rfl rfl rfl rfl ?_
  refine Go.step rfl (fun _ => rfl) ?_
  refine Go.step rfl (fun _ => rfl) ?_
  refine Go.boolBlk rfl rfl rfl rfl ?_
  refine Go.step rfl (fun _ => rfl) ?_
  refine Go.to (st' := (505, _, [.int (b2i e0 + b2i e1 + b2i e2 + b2i e3 + b2i e4)], _)) rfl ?_
  rw [cn_sum]
  iterate 5 (refine Go.step rfl (fun _ => rfl) ?_)
  refine Go.rem rfl hne ?_
  refine Go.to (st' := (515, _, [.int ((p &&& 2147483647) % Int32.ofNat (cnB [e0, e1, e2, e3, e4]))], _)) rfl ?_
  rw [h2]
  iterate 4 (refine Go.step rfl (fun _ => rfl) ?_)
  refine Go.rcall monoD mono0 rfl (tup_false Q sz RC SC f M κ pos q q1) rfl rfl rfl rfl (le_r rfl) ?_
  iterate 6 (refine Go.step rfl (fun _ => rfl) ?_)
  refine Go.scall monoD mono0 rfl (evNth _ e0 e1 e2 e3 e4 pos q (by omega) q2) rfl rfl (le_r rfl) (le_r rfl) ?_
  refine Go.icmp rfl (b := false) (by rw [c_ne]; simp) ?_
  iterate 2 (refine Go.step rfl (fun _ => rfl) ?_)
  exact Go.retE rfl (fun _ => rfl) rfl
theorem t334_false (x y z m k p : Int32) (v : Nat → Int32) (sp t κ : Nat) (ht : t < 5) (hκ : κ < 100) (c3 c4 c5 c6 c8 c9 c11 c12 c17 c21 : Nat × List Value) (sz : Int32) (RC SC : List Value) (f : Nat → Int32) (M : MM) (hE : Eval D 35 [.ref 13, .ref 6] (HR false (QQ.mk (0, VVl v) c3 c4 c5 c6 c8 c9 c11 c12 c17 c21) sz RC SC (tab false f) (Int32.ofNat M.1) (M.2.1.map nv) (M.2.2.1.map nv) (M.2.2.2.1.map tv) (M.2.2.2.2.map cm)) (some (.int (Int32.ofNat κ)), (HR false (QQ.mk (0, VVl v) c3 c4 c5 c6 c8 c9 c11 c12 c17 c21) sz RC SC (tab false f) (Int32.ofNat M.1) (M.2.1.map nv) (M.2.2.1.map nv) (M.2.2.2.1.map tv) (M.2.2.2.2.map cm))))
    (hall : ∀ pos, pos < cnB [decide (v 0 = v t), decide (v 1 = v t), decide (v 2 = v t), decide (v 3 = v t), decide (v 4 = v t)] → ∃ q, tupM M κ pos = some q ∧ nthN pos 0 [decide (v 0 = v t), decide (v 1 = v t), decide (v 2 = v t), decide (v 3 = v t), decide (v 4 = v t)] = some q) (hc : true ∈ [decide (v 0 = v t), decide (v 1 = v t), decide (v 2 = v t), decide (v 3 = v t), decide (v 4 = v t)]) : Go D c0 (334, [.val (.int x), .val (.int y), .val (.int z), .val (.int m), .val (.int k), .val (.int p), .val (.int (v 0)), .val (.int (v 1)), .val (.int (v 2)), .val (.int (v 3)), .val (.int (v 4)), .val (.int (b2i false)), .val (.int (Int32.ofNat sp)), .val (.ref 2), .val (.ref 3), .val (.ref 4), .val (.int (Int32.ofNat t)), .val (.ref 5), .val (.ref 6), .val (.ref 7), .val (.ref 13), .unset, .unset, .unset, .unset, .unset, .unset, .unset, .unset, .unset], [], (HR false (QQ.mk (0, VVl v) c3 c4 c5 c6 c8 c9 c11 c12 c17 c21) sz RC SC (tab false f) (Int32.ofNat M.1) (M.2.1.map nv) (M.2.2.1.map nv) (M.2.2.2.1.map tv) (M.2.2.2.2.map cm))) (some (.int 1), (HR false (QQ.mk (0, VVl v) c3 c4 c5 c6 c8 c9 c11 c12 c17 c21) sz RC SC (tab false f) (Int32.ofNat M.1) (M.2.1.map nv) (M.2.2.1.map nv) (M.2.2.2.1.map tv) (M.2.2.2.2.map cm))) := by
  have kt : t < 2 ^ 31 := by omega
  have hvt : (VVl v)[(Int32.ofNat t).toNatClampNeg]? = some (.int (v t)) := by rw [on_nat kt]; exact vv_get v t ht
  iterate 2 (refine Go.step rfl (fun _ => rfl) ?_)
  refine Go.rcall monoD mono0 rfl (hE) rfl rfl rfl rfl (le_r rfl) ?_
  iterate 2 (refine Go.step rfl (fun _ => rfl) ?_)
  refine Go.ifc rfl (b := true) (z_geN (by omega)) ?_
  iterate 4 (refine Go.step rfl (fun _ => rfl) ?_)
  refine Go.ald rfl rfl (on_nn kt) hvt ?_
  iterate 1 (refine Go.step rfl (fun _ => rfl) ?_)
  iterate 2 (refine Go.step rfl (fun _ => rfl) ?_)
  refine Go.eqBlk rfl rfl rfl rfl ?_
  refine Go.step rfl (fun _ => rfl) ?_
  iterate 2 (refine Go.step rfl (fun _ => rfl) ?_)
  refine Go.eqBlk rfl rfl rfl rfl ?_
  refine Go.step rfl (fun _ => rfl) ?_
  iterate 2 (refine Go.step rfl (fun _ => rfl) ?_)
  refine Go.eqBlk rfl rfl rfl rfl ?_
  refine Go.step rfl (fun _ => rfl) ?_
  iterate 2 (refine Go.step rfl (fun _ => rfl) ?_)
  refine Go.eqBlk rfl rfl rfl rfl ?_
  refine Go.step rfl (fun _ => rfl) ?_
  iterate 2 (refine Go.step rfl (fun _ => rfl) ?_)
  refine Go.eqBlk rfl rfl rfl rfl ?_
  refine Go.step rfl (fun _ => rfl) ?_
  exact t451 x y z m k p v sp t κ _ _ _ _ _ (QQ.mk (0, VVl v) c3 c4 c5 c6 c8 c9 c11 c12 c17 c21) sz RC SC f M hc hall
theorem sz_false (v : Nat → Int32) (sp t l : Nat) (s0 : Value) (f : Nat → Int32) (nn : Int32) (FT CN TU : List Value) (T : MH) : sz CT (HR false (QQ.mk (0, VVl v) (0, ALl v) (0, REl v sp) (0, CO false) (0, [.int (v t)]) (6, [.int 1, .ref (l + 22), .int 1]) (3, []) (0, [.int 0, .int 1]) (7, [.ref 8, .int (-1), .int 0, .int 0]) (0, []) (3, [.int 1, .int 0])) 5 (RCl v 5) [s0] (tab false f) nn FT CN TU T) = 0 + (0 + (5 + (10 + ((REl v sp).length + (1 + (1 + (11 + (3 + (0 + (32 + (2 + (4 + (14 + (FT.length + (CN.length + (TU.length + (0 + (1 + (1 + ((tab false f).length + (2 + ((T.map (szc CT)).sum)))))))))))))))))))))) := rfl
theorem sz_true (v : Nat → Int32) (sp t l : Nat) (s0 s1 : Value) (f : Nat → Int32) (nn : Int32) (FT CN TU : List Value) (T : MH) : sz CT (HR true (QQ.mk (0, VVl v) (0, ALl v) (0, REl v sp) (0, CO true) (0, [.int (v t), .int (Int32.ofNat t)]) (6, [.int 1, .ref (l + 22), .int 1]) (3, []) (0, [.int 0, .int 1]) (7, [.ref 8, .int (-1), .int 0, .int 0]) (0, []) (3, [.int 1, .int 1])) 5 (RCl v 5) [s0, s1] (tab true f) nn FT CN TU T) = 0 + (0 + (5 + (10 + ((REl v sp).length + (2 + (2 + (11 + (3 + (0 + (32 + (2 + (4 + (14 + (FT.length + (CN.length + (TU.length + (0 + (2 + (2 + ((tab true f).length + (2 + ((T.map (szc CT)).sum)))))))))))))))))))))) := rfl
theorem hz0 : sz CT H0 = 0 := rfl
theorem hl0 : H0.length = 2 := rfl
theorem bnd1 (n : Nat) (h : n ≤ 30) : n + 22 - 2 ≤ 64 := by omega
theorem bnd2 (n : Nat) (h : n ≤ 200) : 0 + (0 + (5 + (10 + (10 + (1 + (1 + (11 + (3 + (0 + (32 + (2 + (4 + (14 + (8 + (8 + (8 + (0 + (1 + (1 + (16 * 2 + (2 + (n)))))))))))))))))))))) - 0 ≤ 448 := by
  simp only [← Nat.add_assoc, Nat.reduceAdd, Nat.reduceMul, Nat.sub_zero]
  omega
theorem bnd3 (n : Nat) (h : n ≤ 5) : 0 + (0 + (5 + (10 + (10 + (2 + (2 + (11 + (3 + (0 + (32 + (2 + (4 + (14 + (8 + (8 + (8 + (0 + (2 + (2 + (16 * 3 + (2 + (n + (10 + 0))))))))))))))))))))))) - 0 ≤ 448 := by
  have e : ∀ a : Nat, a + (n + (10 + 0)) = a + n + 10 := fun a => by omega
  simp only [e, ← Nat.add_assoc, Nat.reduceAdd, Nat.reduceMul, Nat.sub_zero]
  omega
theorem run_false (x y z m k p : Int32) (v : Nat → Int32) (sp t : Nat) (hsp : sp ≤ 5) (ht : t < 5) (et : (k &&& 2147483647) % 5 = Int32.ofNat t) : ∃ Hf, Go D c0 (221, [.val (.int x), .val (.int y), .val (.int z), .val (.int m), .val (.int k), .val (.int p), .val (.int (v 0)), .val (.int (v 1)), .val (.int (v 2)), .val (.int (v 3)), .val (.int (v 4)), .val (.int (b2i false)), .val (.int (Int32.ofNat sp)), .val (.ref 2), .val (.ref 3), .val (.ref 4), .unset, .unset, .unset, .unset, .unset, .unset, .unset, .unset, .unset, .unset, .unset, .unset, .unset, .unset], [], [(0, []), (11, []), (0, VVl v), (0, ALl v), (0, REl v sp)]) (some (.int 1), Hf) ∧ Hf.length - H0.length ≤ 64 ∧ sz CT Hf - sz CT H0 ≤ 448 := by
  obtain ⟨ks1, f1, L1, a1, a2, a3, a4⟩ := evFill_false (Q0_false (0, VVl v) (0, ALl v) (0, REl v sp) (0, [.int (v t)]) (6, [.int 0, .ref 1, .int 0])) (Int32.ofNat sp) (RCl v sp) v sp hsp (.int 0) (fun i hi => (rc_get v sp i hsp hi).1)
  have g1 : ks1 ∈ gen sp 0 := by
    have := a3.ingen
    rw [a1] at this; exact this
  obtain ⟨M1, hM1, hU1, hnext⟩ := chk_spec hsp g1
  obtain ⟨hn1, ⟨hF1, hC1⟩, sc, E18⟩ := a4 M1 hM1
  have E12 := ev12_false (0, VVl v) (0, ALl v) (0, REl v sp) (0, [.int (v t)]) (RCl v sp) (Int32.ofNat sp) [sc] (tab false f1) (Int32.ofNat M1.1) (M1.2.1.map nv) (M1.2.2.1.map nv) (M1.2.2.2.1.map tv) (M1.2.2.2.2.map cm) E18
  have Tm : M1.2.2.2.2.map cm ++ [(10, .ref 13 :: List.replicate 9 .null)] = (M1.2.2.2.2 ++ [none]).map cm := by rw [List.map_append]; rfl
  rw [Tm] at E12
  have hlen := a3.len
  simp only [List.length_nil, Nat.zero_add] at hlen
  obtain ⟨ks2, f2, L2, M2, sc2, b1, b2, b3, b4, b5⟩ := loopC (QQ.mk (0, VVl v) (0, ALl v) (0, REl v sp) (0, CO false) (0, [.int (v t)]) (6, [.int 1, .ref ((M1.2.2.2.2.map cm).length + 22), .int 1]) (3, []) (0, [.int 0, .int 1]) (7, [.ref 8, .int (-1), .int 0, .int 0]) (0, []) (3, [.int 1, .int 0])) (RCl v 5) v sp (fun i hi => (rc_get v 5 i (by omega) hi).1) (5 - sp) sp f1 ⟨M1.1, M1.2.1, M1.2.2.1, M1.2.2.2.1, M1.2.2.2.2 ++ [none]⟩ sc L1 (by omega) hF1 hC1 hU1 a2 hn1 (by omega) (fun ks hks => (hnext ks hks).imp fun _ h => h.1)
  have g2 : ks2 ∈ gen (5 - sp) M1.1 := by
    have := b3.ingen
    rw [b1, hn1] at this; exact this
  obtain ⟨M2', hM2', hfin⟩ := hnext ks2 g2
  obtain rfl : M2' = M2 := Option.some.inj (hM2'.symm.trans b4)
  obtain ⟨s1, s2, s3, s4, s5, hall⟩ := fin_spec hfin
  have G := a3.app (by rw [Nat.zero_add, a1]; exact b3)
  have E10 := ev10 false (0, VVl v) (0, ALl v) (0, REl v sp) (0, CO false) (0, [.int (v t)]) (3, []) (0, [.int 0, .int 1]) (7, [.ref 8, .int (-1), .int 0, .int 0]) (0, []) (3, [.int 1, .int 0]) (M1.2.2.2.2.map cm).length (RCl v 5) [sc] (tab false f1) (Int32.ofNat M1.1) (M1.2.1.map nv) (M1.2.2.1.map nv) (M1.2.2.2.1.map tv) ((M1.2.2.2.2 ++ [none]).map cm) [sc2] (tab false f2) (Int32.ofNat M2'.1) (M2'.2.1.map nv) (M2'.2.2.1.map nv) (M2'.2.2.2.1.map tv) (M2'.2.2.2.2.map cm) sp (by rw [← Tm]; exact get_last _ _) b5
  have E8 := addNew2 false (0, VVl v) (0, ALl v) (0, CO false) (0, [.int (v t)]) (6, [.int 1, .ref ((M1.2.2.2.2.map cm).length + 22), .int 1]) (3, []) (0, [.int 0, .int 1]) (7, [.ref 8, .int (-1), .int 0, .int 0]) (0, []) (3, [.int 1, .int 0]) v [sc] (tab false f1) (Int32.ofNat M1.1) (M1.2.1.map nv) (M1.2.2.1.map nv) (M1.2.2.2.1.map tv) ((M1.2.2.2.2 ++ [none]).map cm) _ sp hsp E10
  obtain ⟨k0, k1, k2, k3, k4, hks⟩ : ∃ k0 k1 k2 k3 k4, ks1 ++ ks2 = [k0, k1, k2, k3, k4] := by
    have hl : (ks1 ++ ks2).length = 5 := by rw [List.length_append, a1, b1]; omega
    match ks1 ++ ks2, hl with
    | [k0, k1, k2, k3, k4], _ => exact ⟨k0, k1, k2, k3, k4, rfl⟩
  rw [hks] at G hall
  have get : ∀ i κ, [k0, k1, k2, k3, k4][i]? = some κ → ∃ q, L2[κ]? = some (q, v i, 0) := fun i κ h => by
    have := G.get h
    rwa [Nat.zero_add] at this
  obtain ⟨κ, hκ⟩ : ∃ κ, [k0, k1, k2, k3, k4][t]? = some κ := ⟨_, List.getElem?_eq_getElem (by simpa using ht)⟩
  have hL2 := G.len
  simp only [List.length_nil, List.length_cons, Nat.zero_add] at hL2
  have hκ5 : κ < L2.length := by
    obtain ⟨q, hq⟩ := get t κ hκ
    exact (List.getElem?_eq_some_iff.mp hq).1
  have e : ∀ i ki, [k0, k1, k2, k3, k4][i]? = some ki → decide (v i = v t) = Nat.beq ki κ := fun i ki h => by
    obtain ⟨q, hq⟩ := get i ki h
    obtain ⟨q', hq'⟩ := get t κ hκ
    by_cases hh : v i = v t
    · rw [hh] at hq
      obtain rfl := b2.2.2 _ _ _ _ _ _ hq hq'
      rw [decide_eq_true hh]; simp
    · rw [decide_eq_false hh]
      cases hb : Nat.beq ki κ with
      | false => rfl
      | true =>
        obtain rfl := Nat.eq_of_beq_eq_true hb
        rw [hq] at hq'
        exact absurd (congrArg (fun z => z.2.1) (Option.some.inj hq')) hh
  have es : [decide (v 0 = v t), decide (v 1 = v t), decide (v 2 = v t), decide (v 3 = v t), decide (v 4 = v t)] = es5 [k0, k1, k2, k3, k4] κ := by
    simp only [es5, List.map_cons, List.map_nil, e 0 k0 rfl, e 1 k1 rfl, e 2 k2 rfl, e 3 k3 rfl, e 4 k4 rfl]
  have hmem : κ ∈ [k0, k1, k2, k3, k4] := List.mem_of_getElem? hκ
  have hc : true ∈ es5 [k0, k1, k2, k3, k4] κ := List.mem_map.mpr ⟨κ, hmem, by simp⟩
  have F := find_false (QQ.mk (0, VVl v) (0, ALl v) (0, REl v sp) (0, CO false) (0, [.int (v t)]) (6, [.int 1, .ref ((M1.2.2.2.2.map cm).length + 22), .int 1]) (3, []) (0, [.int 0, .int 1]) (7, [.ref 8, .int (-1), .int 0, .int 0]) (0, []) (3, [.int 1, .int 0])) 5 (RCl v 5) [sc2] f2 (Int32.ofNat M2'.1) (M2'.2.1.map nv) (M2'.2.2.1.map nv) (M2'.2.2.2.1.map tv) (M2'.2.2.2.2.map cm) (v t) rfl b2 (by omega) κ (get t κ hκ)
  refine ⟨(HR false (QQ.mk (0, VVl v) (0, ALl v) (0, REl v sp) (0, CO false) (0, [.int (v t)]) (6, [.int 1, .ref ((M1.2.2.2.2.map cm).length + 22), .int 1]) (3, []) (0, [.int 0, .int 1]) (7, [.ref 8, .int (-1), .int 0, .int 0]) (0, []) (3, [.int 1, .int 0])) 5 (RCl v 5) [sc2] (tab false f2) (Int32.ofNat M2'.1) (M2'.2.1.map nv) (M2'.2.2.1.map nv) (M2'.2.2.2.1.map tv) (M2'.2.2.2.2.map cm)), t221_false x y z m k p v sp t hsp ht et _ _ E12 ⟨_, rfl⟩ E8 (t334_false x y z m k p v sp t κ ht (by omega) _ _ _ _ _ _ _ _ _ _ 5 (RCl v 5) [sc2] f2 M2' F (by rw [es]; exact hall κ hmem) (by rw [es]; exact hc)), ?_, ?_⟩
  · rw [hr_len, List.length_map, hl0]
    exact bnd1 _ s1
  · rw [sz_false, re_len v sp hsp, List.length_map, List.length_map, List.length_map, s3, s4, s5, tab_len, szT, hz0]
    exact bnd2 _ s2
theorem run_true (x y z m k p : Int32) (v : Nat → Int32) (sp t : Nat) (hsp : sp ≤ 5) (ht : t < 5) (et : (k &&& 2147483647) % 5 = Int32.ofNat t) : ∃ Hf, Go D c0 (221, [.val (.int x), .val (.int y), .val (.int z), .val (.int m), .val (.int k), .val (.int p), .val (.int (v 0)), .val (.int (v 1)), .val (.int (v 2)), .val (.int (v 3)), .val (.int (v 4)), .val (.int (b2i true)), .val (.int (Int32.ofNat sp)), .val (.ref 2), .val (.ref 3), .val (.ref 4), .unset, .unset, .unset, .unset, .unset, .unset, .unset, .unset, .unset, .unset, .unset, .unset, .unset, .unset], [], [(0, []), (11, []), (0, VVl v), (0, ALl v), (0, REl v sp)]) (some (.int 1), Hf) ∧ Hf.length - H0.length ≤ 64 ∧ sz CT Hf - sz CT H0 ≤ 448 := by
  obtain ⟨f1, L1, KT, u0, u1, a1, a2, a3, a4, E18⟩ := evFill_true (Q0_true (0, VVl v) (0, ALl v) (0, REl v sp) (0, [.int (v t), .int (Int32.ofNat t)]) (6, [.int 0, .ref 1, .int 0])) (Int32.ofNat sp) (RCl v sp) v sp hsp (.int 0) (.int 0) (fun i hi => rc_get v sp i hsp hi)
  have E12 := ev12_true (0, VVl v) (0, ALl v) (0, REl v sp) (0, [.int (v t), .int (Int32.ofNat t)]) (RCl v sp) (Int32.ofNat sp) [u0, u1] (tab true f1) (Int32.ofNat sp) (List.replicate 8 (.int 0)) (List.replicate 8 (.int 0)) (List.replicate 8 .null) [(0, KT)] E18
  obtain ⟨f2, L2, w0, w1, b1, b2, b3, b5⟩ := loopCU (QQ.mk (0, VVl v) (0, ALl v) (0, REl v sp) (0, CO true) (0, [.int (v t), .int (Int32.ofNat t)]) (6, [.int 1, .ref (1 + 22), .int 1]) (3, []) (0, [.int 0, .int 1]) (7, [.ref 8, .int (-1), .int 0, .int 0]) (0, []) (3, [.int 1, .int 1])) (RCl v 5) v (List.replicate 8 (.int 0)) (List.replicate 8 (.int 0)) (List.replicate 8 .null) [(0, KT), (10, .ref 13 :: List.replicate 9 .null)] sp (fun i hi => rc_get v 5 i (by omega) hi) (5 - sp) sp f1 u0 u1 L1 (by omega) a2 a3 a4
  have E10 := ev10 true (0, VVl v) (0, ALl v) (0, REl v sp) (0, CO true) (0, [.int (v t), .int (Int32.ofNat t)]) (3, []) (0, [.int 0, .int 1]) (7, [.ref 8, .int (-1), .int 0, .int 0]) (0, []) (3, [.int 1, .int 1]) 1 (RCl v 5) [u0, u1] (tab true f1) (Int32.ofNat sp) (List.replicate 8 (.int 0)) (List.replicate 8 (.int 0)) (List.replicate 8 .null) [(0, KT), (10, .ref 13 :: List.replicate 9 .null)] [w0, w1] (tab true f2) (Int32.ofNat 5) (List.replicate 8 (.int 0)) (List.replicate 8 (.int 0)) (List.replicate 8 .null) [(0, KT), (10, .ref 13 :: List.replicate 9 .null)] sp rfl b5
  have E8 := addNew2 true (0, VVl v) (0, ALl v) (0, CO true) (0, [.int (v t), .int (Int32.ofNat t)]) (6, [.int 1, .ref (1 + 22), .int 1]) (3, []) (0, [.int 0, .int 1]) (7, [.ref 8, .int (-1), .int 0, .int 0]) (0, []) (3, [.int 1, .int 1]) v [u0, u1] (tab true f1) (Int32.ofNat sp) (List.replicate 8 (.int 0)) (List.replicate 8 (.int 0)) (List.replicate 8 .null) [(0, KT), (10, .ref 13 :: List.replicate 9 .null)] _ sp hsp E10
  have hk : ∃ q, L2[t]? = some (q, v t, Int32.ofNat t) := by
    have hl : t < L2.length := by omega
    rcases hq : L2[t] with ⟨q, a, b⟩
    have hg : L2[t]? = some (q, a, b) := by rw [List.getElem?_eq_getElem hl, hq]
    obtain ⟨rfl, rfl⟩ := b2 _ _ _ _ hg
    exact ⟨q, hg⟩
  have F := find_true (QQ.mk (0, VVl v) (0, ALl v) (0, REl v sp) (0, CO true) (0, [.int (v t), .int (Int32.ofNat t)]) (6, [.int 1, .ref (1 + 22), .int 1]) (3, []) (0, [.int 0, .int 1]) (7, [.ref 8, .int (-1), .int 0, .int 0]) (0, []) (3, [.int 1, .int 1])) 5 (RCl v 5) [w0, w1] f2 (Int32.ofNat 5) (List.replicate 8 (.int 0)) (List.replicate 8 (.int 0)) (List.replicate 8 .null) [(0, KT), (10, .ref 13 :: List.replicate 9 .null)] (v t) (Int32.ofNat t) rfl b1 (by omega) t hk
  refine ⟨_, t221_true x y z m k p v sp t hsp ht et _ _ E12 ⟨_, rfl⟩ E8 (t334_true x y z m k p v sp t ht _ _ _ _ _ _ _ _ _ _ F), ?_, ?_⟩
  · rw [hr_len, hl0]
    exact le_r rfl
  · have hT : (List.map (szc CT) [(0, KT), (10, .ref 13 :: List.replicate 9 .null)]).sum = KT.length + (10 + 0) := rfl
    rw [sz_true, re_len v sp hsp, tab_len, hz0, hT, List.length_replicate, List.length_replicate]
    exact bnd3 _ (by rw [a1]; exact hsp)
theorem law_run (x y z m k p : Int32) : ∃ Hf, Eval D 0 [.int x, .int y, .int z, .int m, .int k, .int p] H0 (some (.int 1), Hf) ∧ Hf.length - H0.length ≤ 64 ∧ sz CT Hf - sz CT H0 ≤ 448 := by
  obtain ⟨v0, E0⟩ := pickE H0 m 0 x y z
  obtain ⟨v1, E1⟩ := pickE H0 m 2 x y z
  obtain ⟨v2, E2⟩ := pickE H0 m 4 x y z
  obtain ⟨v3, E3⟩ := pickE H0 m 6 x y z
  obtain ⟨v4, E4⟩ := pickE H0 m 8 x y z
  obtain ⟨v, rfl, rfl, rfl, rfl, rfl⟩ : ∃ v : Nat → Int32, v0 = v 0 ∧ v1 = v 1 ∧ v2 = v 2 ∧ v3 = v 3 ∧ v4 = v 4 := ⟨fun i => match i with | 0 => v0 | 1 => v1 | 2 => v2 | 3 => v3 | _ => v4, rfl, rfl, rfl, rfl, rfl⟩
  obtain ⟨sp, hsp, esp⟩ := rem_sm (XT.ushr m 12 &&& 7) 6 (by decide) (by decide) (and_rng _ 7 (by decide)).1
  obtain ⟨t, ht, et⟩ := rem_sm (k &&& 2147483647) 5 (by decide) (by decide) (and_rng _ 2147483647 (by decide)).1
  have main : ∀ u : Bool, ∃ Hf, Go D c0 (80, [.val (.int x), .val (.int y), .val (.int z), .val (.int m), .val (.int k), .val (.int p), .val (.int (v 0)), .val (.int (v 1)), .val (.int (v 2)), .val (.int (v 3)), .val (.int (v 4)), .val (.int (b2i u)), .val (.int (Int32.ofNat sp)), .unset, .unset, .unset, .unset, .unset, .unset, .unset, .unset, .unset, .unset, .unset, .unset, .unset, .unset, .unset, .unset, .unset], [], H0) (some (.int 1), Hf) ∧ Hf.length - H0.length ≤ 64 ∧ sz CT Hf - sz CT H0 ≤ 448 := fun u => by
    cases u
    · obtain ⟨Hf, g, h1, h2⟩ := run_false x y z m k p v sp t (by omega) ht et
      exact ⟨Hf, t80 x y z m k p v false sp (by omega) g, h1, h2⟩
    · obtain ⟨Hf, g, h1, h2⟩ := run_true x y z m k p v sp t (by omega) ht et
      exact ⟨Hf, t80 x y z m k p v true sp (by omega) g, h1, h2⟩
  have head : ∀ (u : Bool) {r : MR}, Go D c0 (66, [.val (.int x), .val (.int y), .val (.int z), .val (.int m), .val (.int k), .val (.int p), .val (.int (v 0)), .val (.int (v 1)), .val (.int (v 2)), .val (.int (v 3)), .val (.int (v 4)), .unset, .unset, .unset, .unset, .unset, .unset, .unset, .unset, .unset, .unset, .unset, .unset, .unset, .unset, .unset, .unset, .unset, .unset, .unset], [.int (b2i u)], H0) r → Go D c0 (66, [.val (.int x), .val (.int y), .val (.int z), .val (.int m), .val (.int k), .val (.int p), .val (.int (v 0)), .val (.int (v 1)), .val (.int (v 2)), .val (.int (v 3)), .val (.int (v 4)), .unset, .unset, .unset, .unset, .unset, .unset, .unset, .unset, .unset, .unset, .unset, .unset, .unset, .unset, .unset, .unset, .unset, .unset, .unset], [.int (b2i u)], H0) r := fun _ _ h => h
  have mid : ∀ (u : Bool) {r : MR}, Go D c0 (80, [.val (.int x), .val (.int y), .val (.int z), .val (.int m), .val (.int k), .val (.int p), .val (.int (v 0)), .val (.int (v 1)), .val (.int (v 2)), .val (.int (v 3)), .val (.int (v 4)), .val (.int (b2i u)), .val (.int (Int32.ofNat sp)), .unset, .unset, .unset, .unset, .unset, .unset, .unset, .unset, .unset, .unset, .unset, .unset, .unset, .unset, .unset, .unset, .unset], [], H0) r → Go D c0 (66, [.val (.int x), .val (.int y), .val (.int z), .val (.int m), .val (.int k), .val (.int p), .val (.int (v 0)), .val (.int (v 1)), .val (.int (v 2)), .val (.int (v 3)), .val (.int (v 4)), .unset, .unset, .unset, .unset, .unset, .unset, .unset, .unset, .unset, .unset, .unset, .unset, .unset, .unset, .unset, .unset, .unset, .unset, .unset], [.int (b2i u)], H0) r := fun u r hg => by
    iterate 7 (refine Go.step rfl (fun _ => rfl) ?_)
    refine Go.rem rfl (by decide) ?_
    refine Go.to (st' := (78, _, [.int ((XT.ushr m 12 &&& 7) % 6)], _)) rfl ?_
    rw [show ((XT.ushr m 12 &&& 7) % 6 : Int32) = Int32.ofNat sp from esp]
    refine Go.step rfl (fun _ => rfl) ?_
    exact hg
  have all : ∃ Hf, Go D c0 (52, [.val (.int x), .val (.int y), .val (.int z), .val (.int m), .val (.int k), .val (.int p), .val (.int (v 0)), .val (.int (v 1)), .val (.int (v 2)), .val (.int (v 3)), .val (.int (v 4)), .unset, .unset, .unset, .unset, .unset, .unset, .unset, .unset, .unset, .unset, .unset, .unset, .unset, .unset, .unset, .unset, .unset, .unset, .unset], [], H0) (some (.int 1), Hf) ∧ Hf.length - H0.length ≤ 64 ∧ sz CT Hf - sz CT H0 ≤ 448 := by
    cases hq : ifCond.holds .eq (XT.ushr m 10 &&& 1) with
    | true =>
      obtain ⟨Hf, g, h⟩ := main false
      refine ⟨Hf, ?_, h⟩
      iterate 5 (refine Go.step rfl (fun _ => rfl) ?_)
      refine Go.ifc rfl (b := true) hq ?_
      refine Go.step rfl (fun _ => rfl) ?_
      exact mid false g
    | false =>
      obtain ⟨Hf, g, h⟩ := main true
      refine ⟨Hf, ?_, h⟩
      iterate 5 (refine Go.step rfl (fun _ => rfl) ?_)
      refine Go.ifc rfl (b := false) hq ?_
      iterate 2 (refine Go.step rfl (fun _ => rfl) ?_)
      exact mid true g
  obtain ⟨Hf, g, h⟩ := all
  refine ⟨Hf, Eval.intro2 monoD [.val (.int x), .val (.int y), .val (.int z), .val (.int m), .val (.int k), .val (.int p), .unset, .unset, .unset, .unset, .unset, .unset, .unset, .unset, .unset, .unset, .unset, .unset, .unset, .unset, .unset, .unset, .unset, .unset, .unset, .unset, .unset, .unset, .unset, .unset] rfl (le_r rfl) rfl ?_, h⟩
  iterate 5 (refine Go.step rfl (fun _ => rfl) ?_)
  refine Go.scall monoD mono0 rfl (E0) rfl rfl (le_r rfl) (le_r rfl) ?_
  iterate 6 (refine Go.step rfl (fun _ => rfl) ?_)
  refine Go.scall monoD mono0 rfl (E1) rfl rfl (le_r rfl) (le_r rfl) ?_
  iterate 6 (refine Go.step rfl (fun _ => rfl) ?_)
  refine Go.scall monoD mono0 rfl (E2) rfl rfl (le_r rfl) (le_r rfl) ?_
  iterate 6 (refine Go.step rfl (fun _ => rfl) ?_)
  refine Go.scall monoD mono0 rfl (E3) rfl rfl (le_r rfl) (le_r rfl) ?_
  iterate 6 (refine Go.step rfl (fun _ => rfl) ?_)
  refine Go.scall monoD mono0 rfl (E4) rfl rfl (le_r rfl) (le_r rfl) ?_
  iterate 1 (refine Go.step rfl (fun _ => rfl) ?_)
  exact g
set_option maxRecDepth 65536 in
set_option maxHeartbeats 4000000 in
theorem comes_1 {Post : Tables → Env → Array Value → State → Outcome → State → Prop} (hpost : ∀ tb e args s v u, (limb_1_1.after args s (.returned v) u = true ∧ limb_1_2.after args s (.returned v) u = true ∧ True) → FrameEnd s (.returned v) u (Jvm.fieldLocs frame_1_writes args s ++ Jvm.arrayLocs frame_1_arrays args s ++ Jvm.staticLocs frame_1_statics s) 64 448 → Post tb e args s (.returned v) u) :
    ArmFor flags0 classFile x code maxLocals ret World_1 tables_1 room_1 Calls_1 rest_1 Pre_1 Post := by
  intro l hfl _ _ p e ha hc hk s m args below hf hA hF happ hP
  obtain ⟨hcalls, hrest, hpre⟩ := hP
  obtain ⟨-, -, -, hnamed, -, -, -, hat⟩ := (Spec.applies_iff hf).mp happ
  obtain ⟨hg, hn⟩ := and_e (Cond.before_iff.mp (show (Jvm.Cond.and given_1 narrow_1).before args s = true from hpre))
  obtain ⟨hcnt, hg⟩ := and_e hg
  obtain ⟨g0, hg⟩ := and_e hg
  obtain ⟨g1, hg⟩ := and_e hg
  obtain ⟨g2, hg⟩ := and_e hg
  obtain ⟨g3, hg⟩ := and_e hg
  obtain ⟨g4, hg⟩ := and_e hg
  have g5 := hg
  obtain ⟨w0, w1, w2, w3, w4, w5, rfl⟩ : ∃ w0 w1 w2 w3 w4 w5 : Value, args = #[w0, w1, w2, w3, w4, w5] := by
    have hs : args.size = 6 := by simpa [Cond.value, given_1] using hcnt
    obtain ⟨L⟩ := args
    match L, hs with
    | [w0, w1, w2, w3, w4, w5], _ => exact ⟨w0, w1, w2, w3, w4, w5, rfl⟩
  have hw := fun d (hd : d ∈ tables_1) => atoms_spec (ws := Jvm.Cond.code x code maxLocals ret :: tables_1) hat d (List.mem_cons_of_mem _ hd)
  obtain ⟨i0, e0⟩ := is_v g0
  obtain rfl : w0 = (.int i0) := Option.some.inj e0
  obtain ⟨i1, e1⟩ := is_v g1
  obtain rfl : w1 = (.int i1) := Option.some.inj e1
  obtain ⟨i2, e2⟩ := is_v g2
  obtain rfl : w2 = (.int i2) := Option.some.inj e2
  obtain ⟨i3, e3⟩ := is_v g3
  obtain rfl : w3 = (.int i3) := Option.some.inj e3
  obtain ⟨i4, e4⟩ := is_v g4
  obtain rfl : w4 = (.int i4) := Option.some.inj e4
  obtain ⟨i5, e5⟩ := is_v g5
  obtain rfl : w5 = (.int i5) := Option.some.inj e5
  obtain ⟨nR, hn⟩ := and_e hn
  obtain ⟨nX, nL⟩ := and_e hn
  have hr := Cond.before_iff.mp (show rest_1_c.before _ s = true from hrest)
  obtain ⟨-, hr⟩ := and_e hr
  obtain ⟨-, hr⟩ := and_e hr
  obtain ⟨rS, hr⟩ := and_e hr
  obtain ⟨-, hr⟩ := and_e hr
  obtain ⟨-, hr⟩ := and_e hr
  obtain ⟨-, hr⟩ := and_e hr
  obtain ⟨rR, hr⟩ := and_e hr
  obtain ⟨rX, hr⟩ := and_e hr
  obtain ⟨rL, hr⟩ := and_e hr
  obtain ⟨aN, tN⟩ := exa_v nX
  have xN := Exa.start tN nX
  obtain ⟨cN, AN⟩ := Arr.start tN nR
  obtain ⟨aD, tD⟩ := exa_v rX
  have xD := Exa.start tD rX
  obtain ⟨cD, AD⟩ := Arr.start tD rR
  have sN := Sta.start tN (Or.inr ⟨(hw _ (List.mem_of_getElem? (i := 132) rfl)), (hw _ (List.mem_of_getElem? (i := 267) rfl))⟩)
  have sD := Sta.start tD (Or.inr ⟨(hw _ (List.mem_of_getElem? (i := 20) rfl)), Cond.before_iff.mpr rS⟩)
  have zN := len_of_eq tN AN nL
  have zD := len_of_eq tD AD rL
  have eN : cN.slots = #[] := Array.eq_empty_of_size_eq_zero zN
  have eD : cD.slots = #[] := Array.eq_empty_of_size_eq_zero zD
  have hXX : ∀ a ∈ [aN, aD], a < s.heap.size := by
    intro a ha
    simp only [List.mem_cons, List.not_mem_nil, or_false] at ha
    rcases ha with rfl | rfl
    · exact xN.lt
    · exact xD.lt
  have hrep : Rep s [aN, aD] CT s.heap H0 := by
    refine ⟨Nat.le_refl _, by simp [H0], fun _ _ => rfl, fun i k vs h => ?_⟩
    match i, h with
    | 0, h => cases h; exact ⟨cN, AN, eN, fun _ => xN, fun _ => ⟨fun C hC => (by cases hC), fun u hu => (by cases hu)⟩⟩
    | 1, h => cases h; exact ⟨cD, AD, eD, fun q => absurd q (by decide), fun q => absurd q (by decide)⟩
    | i + 2, h => simp [H0] at h
  obtain ⟨Hf, hE, hC, hS⟩ := law_run i0 i1 i2 i3 i4 i5
  obtain ⟨n, o, h1, h2, h3, _, L, rfl, ⟨rfl, N, -⟩, hq⟩ := top_met (M := M0) (hlen l _ s hw aN aD hXX sN sD) hE rfl (R := room_1) (ws := tables_1) (by decide) (by decide) hC hS hrep p e ha hc hk s m _ below hf ((Spec.applies_iff_loose hf).mp happ).1 ⟨rfl, State.Warmed39.refl s, rfl⟩ trivial
  refine ⟨n, _, h1, h2, h3, hpost _ _ _ _ _ _ ⟨Cond.after_iff.mpr rfl, Cond.after_iff.mpr (eq_i res_at (Term.int_eval (1)) rfl), trivial⟩ ⟨hq.1, hq.2.1, (hq.2.2.sift fun y hy => Or.inr (N y hy)).mono hC hS⟩⟩
theorem main_1_1 : Claimed_1_1 := comes_1 fun _ _ _ _ _ _ h hF => ⟨h.1, hF⟩
theorem main_1_2 : Claimed_1_2 := comes_1 fun _ _ _ _ _ _ h hF => ⟨h.2.1, hF⟩
end Jvm.Pilot.@@N@@
namespace Jvm.Pilot.@@N@@
open Jvm Jvm.ClassFile Sem Op Lib Jvm.Free Jvm.Stand Jvm.Pilot.@@N@@.Jvm.D
/-! MADE BY PROGRAM (witnessworld.py) out of the Statement's table words and the real class files: 28 classes; the members and pool entries that the words name. The judged class is class 1, her method 1. -/
namespace start1
open Jvm.ClassFile
def u (s : String) : CpInfo := .utf8 (stringToUtf16 s)
/-- a pool by its gaps: so many unusable entries, then the entry; so many at the end -/
def gap : Nat → List CpInfo → List CpInfo
  | 0, r => r
  | n + 1, r => .unusable :: gap n r
def poolList (es : List (Nat × CpInfo)) (last : Nat) : List CpInfo := es.foldr (fun e r => gap e.1 (e.2 :: r)) (gap last [])
def pool (es : List (Nat × CpInfo)) (last : Nat) : Array CpInfo := ⟨poolList es last⟩
def fileOf (pool : Array CpInfo) (this : Nat) (attrs : Array Attribute := #[]) (ms : Array MethodInfo := #[]) (fl : Nat := 33) (sup : Nat := 0) (ifs : Array Nat := #[]) (fds : Array FieldInfo := #[]) : ClassFile where
  minorVersion := 0
  majorVersion := 65
  constantPool := pool
  accessFlags := fl
  thisClass := this
  superClass := sup
  interfaces := ifs
  fields := fds
  methods := ms
  attributes := attrs
def plain (name : String) (sup : Option ClassId) : Class where
  name := name
  kind := .ordinary
  loader := none
  accessFlags := 33
  super := sup
  interfaces := #[]
  cf := none
  fields := #[]
  methods := #[]
  instanceTypes := #[]
  staticTypes := #[]
  resolved := #[]
  callSites := []
  init := .initialized
  statics := none
  mirror := none

def pool0 : Array CpInfo := pool [(5, u "<init>"), (0, u "()V"), (1, .class_ 10), (1, u "java/lang/Object"), (85, u "clone"), (0, u "()Ljava/lang/Object;")] 26

def k0c0 : Code := { maxStack := 0, maxLocals := 1, code := object_method_1_code, exceptionTable := #[], attributes := #[] }
def k0m0 : Method := { name := "<init>", desc := "()V", sig := { parameters := [], returnType := none }, accessFlags := 1, code := some k0c0 }
def k0m1 : Method := { name := "clone", desc := "()Ljava/lang/Object;", sig := { parameters := [], returnType := some (.object "java/lang/Object") }, accessFlags := 260, code := none }
/-- java/lang/Object -/
def k0 : Class := { plain "java/lang/Object" none with
  accessFlags := 33
  interfaces := #[]
  cf := some (fileOf pool0 8 #[] #[{ accessFlags := 1, nameIndex := 5, descriptorIndex := 6, attributes := #[] }, { accessFlags := 260, nameIndex := 96, descriptorIndex := 97, attributes := #[] }] 33 0 #[] #[])
  fields := #[]
  methods := #[k0m0, k0m1]
  instanceTypes := #[]
  staticTypes := #[]
  resolved := Array.replicate 124 none
  statics := none }

def pool1 : Array CpInfo := pool [(2, .class_ 4), (1, u "java/lang/Object"), (0, u "<init>"), (0, u "()V"), (0, .methodref 8 9), (0, .class_ 10), (0, .nameAndType 11 12), (0, u "com/example/predicat/predicat/kernel/IndexTuplePinLaw"), (0, u "pick"), (0, u "(IIIII)I"), (0, .methodref 8 14), (0, .nameAndType 15 16), (0, u "put"), (0, u "([III[I)V"), (0, .integer 2147483647), (0, .class_ 19), (0, u "com/example/predicat/predicat/kernel/Relation"), (0, .methodref 18 21), (0, .nameAndType 5 22), (0, u "(I)V"), (0, .methodref 18 24), (0, .nameAndType 25 26), (0, u "addNew"), (0, u "([II)V"), (0, .methodref 18 28), (0, .nameAndType 29 30), (0, u "index"), (0, u "([I)Lcom/example/predicat/predicat/kernel/Index;"), (0, .methodref 32 33), (0, .class_ 34), (0, .nameAndType 35 36), (0, u "com/example/predicat/predicat/kernel/Index"), (0, u "find"), (0, u "([I)I"), (0, .methodref 32 38), (0, .nameAndType 39 40), (0, u "tuple"), (0, u "(II)I"), (0, .methodref 8 42), (0, .nameAndType 43 44), (0, u "nth"), (0, u "(IZZZZZ)I"), (2, u "law"), (0, u "(IIIIII)Z")] 5

def k1m0 : Method := { name := "<init>", desc := "()V", sig := { parameters := [], returnType := none }, accessFlags := 1, code := none }
def k1c1 : Code := { maxStack := 7, maxLocals := 30, code := code, exceptionTable := #[], attributes := #[] }
def k1m1 : Method := { name := "law", desc := "(IIIIII)Z", sig := { parameters := [.int, .int, .int, .int, .int, .int], returnType := some .boolean }, accessFlags := 9, code := some k1c1 }
def k1c2 : Code := { maxStack := 2, maxLocals := 6, code := method_3_code, exceptionTable := #[], attributes := #[] }
def k1m2 : Method := { name := "pick", desc := "(IIIII)I", sig := { parameters := [.int, .int, .int, .int, .int], returnType := some .int }, accessFlags := 10, code := some k1c2 }
def k1c3 : Code := { maxStack := 4, maxLocals := 5, code := method_4_code, exceptionTable := #[], attributes := #[] }
def k1m3 : Method := { name := "put", desc := "([III[I)V", sig := { parameters := [(.array .int), .int, .int, (.array .int)], returnType := none }, accessFlags := 10, code := some k1c3 }
def k1c4 : Code := { maxStack := 1, maxLocals := 7, code := method_5_code, exceptionTable := #[], attributes := #[] }
def k1m4 : Method := { name := "nth", desc := "(IZZZZZ)I", sig := { parameters := [.int, .boolean, .boolean, .boolean, .boolean, .boolean], returnType := some .int }, accessFlags := 10, code := some k1c4 }
/-- com/example/predicat/predicat/kernel/IndexTuplePinLaw -/
def k1 : Class := { plain "com/example/predicat/predicat/kernel/IndexTuplePinLaw" (some 0) with
  accessFlags := 49
  interfaces := #[]
  cf := some (fileOf pool1 8 #[] #[{ accessFlags := 1, nameIndex := 5, descriptorIndex := 6, attributes := #[] }, { accessFlags := 9, nameIndex := 47, descriptorIndex := 48, attributes := #[] }, { accessFlags := 10, nameIndex := 11, descriptorIndex := 12, attributes := #[] }, { accessFlags := 10, nameIndex := 15, descriptorIndex := 16, attributes := #[] }, { accessFlags := 10, nameIndex := 43, descriptorIndex := 44, attributes := #[] }] 49 2 #[] #[])
  fields := #[]
  methods := #[k1m0, k1m1, k1m2, k1m3, k1m4]
  instanceTypes := #[]
  staticTypes := #[]
  resolved := Array.replicate 54 none
  statics := none }

def pool2 : Array CpInfo := pool [(1, .methodref 2 3), (0, .class_ 4), (0, .nameAndType 5 6), (0, u "java/lang/Object"), (0, u "<init>"), (0, u "()V"), (0, .class_ 8), (0, u "java/util/ArrayList"), (0, .methodref 7 3), (0, .fieldref 11 12), (0, .class_ 13), (0, .nameAndType 14 15), (0, u "com/example/predicat/predicat/kernel/Relation"), (0, u "indexes"), (0, u "Ljava/util/List;"), (0, .fieldref 11 17), (0, .nameAndType 18 19), (0, u "fresh"), (0, u "[Z"), (0, .fieldref 11 21), (0, .nameAndType 22 23), (0, u "arity"), (0, u "I"), (0, .methodref 25 26), (0, .class_ 27), (0, .nameAndType 28 29), (0, u "java/lang/Math"), (0, u "max"), (0, u "(II)I"), (0, .fieldref 11 31), (0, .nameAndType 32 33), (0, u "columns"), (0, u "[I"), (0, .fieldref 11 35), (0, .nameAndType 36 33), (0, u "everyColumn"), (0, .fieldref 11 38), (0, .nameAndType 39 23), (0, u "size"), (0, .methodref 11 41), (0, .nameAndType 42 43), (0, u "makeRoom"), (0, u "(I)V"), (8, u "add"), (6, .class_ 61), (1, u "com/example/predicat/predicat/kernel/Index"), (2, .methodref 65 66), (0, .class_ 67), (0, .nameAndType 68 69), (0, u "java/lang/System"), (0, u "arraycopy"), (0, u "(Ljava/lang/Object;ILjava/lang/Object;II)V"), (2, u "tuples"), (0, u "Lcom/example/predicat/predicat/kernel/Index;"), (0, .methodref 11 75), (0, .nameAndType 76 77), (0, u "fileInIndexes"), (0, u "(ILcom/example/predicat/predicat/kernel/Index;)V"), (8, .fieldref 11 87), (0, .nameAndType 88 89), (0, u "pairs"), (0, u "Lcom/example/predicat/predicat/kernel/PairSet;"), (0, .methodref 11 91), (0, .nameAndType 92 29), (0, u "get"), (8, .methodref 102 103), (0, .class_ 104), (0, .nameAndType 105 106), (0, u "java/util/Arrays"), (0, u "copyOf"), (0, u "([II)[I"), (0, .interfaceMethodref 108 109), (0, .class_ 110), (0, .nameAndType 39 111), (0, u "java/util/List"), (0, u "()I"), (0, .interfaceMethodref 108 113), (0, .nameAndType 92 114), (0, u "(I)Ljava/lang/Object;"), (0, .methodref 59 116), (0, .nameAndType 52 43), (27, .interfaceMethodref 108 145), (0, .nameAndType 146 147), (0, u "iterator"), (0, u "()Ljava/util/Iterator;"), (0, .interfaceMethodref 149 150), (0, .class_ 151), (0, .nameAndType 152 153), (0, u "java/util/Iterator"), (0, u "hasNext"), (0, u "()Z"), (8, .methodref 59 163), (0, .nameAndType 5 164), (0, u "(Lcom/example/predicat/predicat/kernel/Relation;[I)V"), (0, .methodref 59 166), (0, .nameAndType 167 43), (0, u "fill"), (0, .interfaceMethodref 108 169), (0, .nameAndType 52 170), (0, u "(Ljava/lang/Object;)Z"), (2, u "index"), (0, u "([I)Lcom/example/predicat/predicat/kernel/Index;"), (3, u "deltaEnd"), (2, u "deltaStart"), (2, u "loader"), (0, u "Lcom/example/predicat/predicat/kernel/Relation$Loader;"), (1, .class_ 189), (1, u "com/example/predicat/predicat/kernel/Relation$Loader"), (11, u "addNew"), (0, u "([II)V")] 17

def k2c0 : Code := { maxStack := 4, maxLocals := 3, code := prog_55_method_1_code, exceptionTable := #[], attributes := #[] }
def k2m0 : Method := { name := "<init>", desc := "(I)V", sig := { parameters := [.int], returnType := none }, accessFlags := 0, code := some k2c0 }
def k2c1 : Code := { maxStack := 1, maxLocals := 1, code := prog_55_method_2_code, exceptionTable := #[], attributes := #[] }
def k2m1 : Method := { name := "arity", desc := "()I", sig := { parameters := [], returnType := some .int }, accessFlags := 0, code := some k2c1 }
def k2c2 : Code := { maxStack := 3, maxLocals := 3, code := prog_55_method_4_code, exceptionTable := #[], attributes := #[] }
def k2m2 : Method := { name := "get", desc := "(II)I", sig := { parameters := [.int, .int], returnType := some .int }, accessFlags := 0, code := some k2c2 }
def k2c3 : Code := { maxStack := 6, maxLocals := 5, code := prog_55_method_7_code, exceptionTable := #[], attributes := #[] }
def k2m3 : Method := { name := "addNew", desc := "([II)V", sig := { parameters := [(.array .int), .int], returnType := none }, accessFlags := 0, code := some k2c3 }
def k2c4 : Code := { maxStack := 4, maxLocals := 3, code := prog_55_method_9_code, exceptionTable := #[], attributes := #[] }
def k2m4 : Method := { name := "makeRoom", desc := "(I)V", sig := { parameters := [.int], returnType := none }, accessFlags := 2, code := some k2c4 }
def k2c5 : Code := { maxStack := 2, maxLocals := 6, code := prog_55_method_10_code, exceptionTable := #[], attributes := #[] }
def k2m5 : Method := { name := "fileInIndexes", desc := "(ILcom/example/predicat/predicat/kernel/Index;)V", sig := { parameters := [.int, (.object "com/example/predicat/predicat/kernel/Index")], returnType := none }, accessFlags := 2, code := some k2c5 }
def k2c6 : Code := { maxStack := 4, maxLocals := 4, code := prog_55_method_12_code, exceptionTable := #[], attributes := #[] }
def k2m6 : Method := { name := "index", desc := "([I)Lcom/example/predicat/predicat/kernel/Index;", sig := { parameters := [(.array .int)], returnType := some (.object "com/example/predicat/predicat/kernel/Index") }, accessFlags := 0, code := some k2c6 }
/-- com/example/predicat/predicat/kernel/Relation -/
def k2 : Class := { plain "com/example/predicat/predicat/kernel/Relation" (some 0) with
  accessFlags := 48
  interfaces := #[]
  cf := some (fileOf pool2 11 #[.nestMembers #[187]] #[{ accessFlags := 0, nameIndex := 5, descriptorIndex := 43, attributes := #[] }, { accessFlags := 0, nameIndex := 22, descriptorIndex := 111, attributes := #[] }, { accessFlags := 0, nameIndex := 92, descriptorIndex := 29, attributes := #[] }, { accessFlags := 0, nameIndex := 201, descriptorIndex := 202, attributes := #[] }, { accessFlags := 2, nameIndex := 42, descriptorIndex := 43, attributes := #[] }, { accessFlags := 2, nameIndex := 76, descriptorIndex := 77, attributes := #[] }, { accessFlags := 0, nameIndex := 173, descriptorIndex := 174, attributes := #[] }] 48 2 #[] #[{ accessFlags := 18, nameIndex := 22, descriptorIndex := 23, attributes := #[] }, { accessFlags := 2, nameIndex := 32, descriptorIndex := 33, attributes := #[] }, { accessFlags := 2, nameIndex := 39, descriptorIndex := 23, attributes := #[] }, { accessFlags := 18, nameIndex := 14, descriptorIndex := 15, attributes := #[] }, { accessFlags := 2, nameIndex := 184, descriptorIndex := 185, attributes := #[] }, { accessFlags := 18, nameIndex := 36, descriptorIndex := 33, attributes := #[] }, { accessFlags := 2, nameIndex := 72, descriptorIndex := 73, attributes := #[] }, { accessFlags := 2, nameIndex := 88, descriptorIndex := 89, attributes := #[] }, { accessFlags := 2, nameIndex := 18, descriptorIndex := 19, attributes := #[] }, { accessFlags := 2, nameIndex := 181, descriptorIndex := 23, attributes := #[] }, { accessFlags := 2, nameIndex := 178, descriptorIndex := 23, attributes := #[] }])
  fields := #[{ name := "arity", type := .int, accessFlags := 18, slot := 0, constantValue := 0 }, { name := "columns", type := (.array .int), accessFlags := 2, slot := 1, constantValue := 0 }, { name := "size", type := .int, accessFlags := 2, slot := 2, constantValue := 0 }, { name := "indexes", type := (.object "java/util/List"), accessFlags := 18, slot := 3, constantValue := 0 }, { name := "loader", type := (.object "com/example/predicat/predicat/kernel/Relation$Loader"), accessFlags := 2, slot := 4, constantValue := 0 }, { name := "everyColumn", type := (.array .int), accessFlags := 18, slot := 5, constantValue := 0 }, { name := "tuples", type := (.object "com/example/predicat/predicat/kernel/Index"), accessFlags := 2, slot := 6, constantValue := 0 }, { name := "pairs", type := (.object "com/example/predicat/predicat/kernel/PairSet"), accessFlags := 2, slot := 7, constantValue := 0 }, { name := "fresh", type := (.array .boolean), accessFlags := 2, slot := 8, constantValue := 0 }, { name := "deltaStart", type := .int, accessFlags := 2, slot := 9, constantValue := 0 }, { name := "deltaEnd", type := .int, accessFlags := 2, slot := 10, constantValue := 0 }]
  methods := #[k2m0, k2m1, k2m2, k2m3, k2m4, k2m5, k2m6]
  instanceTypes := #[.int, (.array .int), .int, (.object "java/util/List"), (.object "com/example/predicat/predicat/kernel/Relation$Loader"), (.array .int), (.object "com/example/predicat/predicat/kernel/Index"), (.object "com/example/predicat/predicat/kernel/PairSet"), (.array .boolean), .int, .int]
  staticTypes := #[]
  resolved := Array.replicate 220 none
  statics := none }

def pool3 : Array CpInfo := pool [(8, .class_ 10), (1, u "java/lang/Iterable"), (24, .class_ 36), (0, u "java/lang/Object")] 25

/-- java/lang/Iterable -/
def k3 : Class := { plain "java/lang/Iterable" (some 0) with
  accessFlags := 1537
  interfaces := #[]
  cf := some (fileOf pool3 8 #[] #[] 1537 35 #[] #[])
  fields := #[]
  methods := #[]
  instanceTypes := #[]
  staticTypes := #[]
  resolved := Array.replicate 62 none
  statics := none }

def pool4 : Array CpInfo := pool [(10, .class_ 12), (1, u "java/util/Collection"), (47, .class_ 61), (0, u "java/lang/Object"), (0, .class_ 63), (0, u "java/lang/Iterable")] 51

/-- java/util/Collection -/
def k4 : Class := { plain "java/util/Collection" (some 0) with
  accessFlags := 1537
  interfaces := #[3]
  cf := some (fileOf pool4 10 #[] #[] 1537 60 #[62] #[])
  fields := #[]
  methods := #[]
  instanceTypes := #[]
  staticTypes := #[]
  resolved := Array.replicate 115 none
  statics := none }

def pool5 : Array CpInfo := pool [(1, .methodref 2 3), (0, .class_ 4), (0, .nameAndType 5 6), (0, u "java/lang/Object"), (0, u "<init>"), (0, u "()V"), (1, .class_ 10), (1, u "java/util/AbstractCollection"), (66, .class_ 78), (0, u "java/util/Collection")] 81

def k5c0 : Code := { maxStack := 1, maxLocals := 1, code := jdk_22_method_1_code, exceptionTable := #[], attributes := #[] }
def k5m0 : Method := { name := "<init>", desc := "()V", sig := { parameters := [], returnType := none }, accessFlags := 4, code := some k5c0 }
/-- java/util/AbstractCollection -/
def k5 : Class := { plain "java/util/AbstractCollection" (some 0) with
  accessFlags := 1057
  interfaces := #[4]
  cf := some (fileOf pool5 8 #[] #[{ accessFlags := 4, nameIndex := 5, descriptorIndex := 6, attributes := #[] }] 1057 2 #[77] #[])
  fields := #[]
  methods := #[k5m0]
  instanceTypes := #[]
  staticTypes := #[]
  resolved := Array.replicate 160 none
  statics := none }

def pool6 : Array CpInfo := pool [(8, .class_ 10), (1, u "java/util/SequencedCollection"), (15, .class_ 27), (0, u "java/lang/Object"), (0, .class_ 29), (0, u "java/util/Collection")] 27

/-- java/util/SequencedCollection -/
def k6 : Class := { plain "java/util/SequencedCollection" (some 0) with
  accessFlags := 1537
  interfaces := #[4]
  cf := some (fileOf pool6 8 #[] #[] 1537 26 #[28] #[])
  fields := #[]
  methods := #[]
  instanceTypes := #[]
  staticTypes := #[]
  resolved := Array.replicate 57 none
  statics := none }

def pool7 : Array CpInfo := pool [(8, .class_ 10), (1, u "java/util/List"), (49, u "add"), (3, u "(Ljava/lang/Object;)Z"), (10, u "get"), (0, u "(I)Ljava/lang/Object;"), (2, u "size"), (0, u "()I"), (22, .class_ 104), (0, u "java/lang/Object"), (15, .class_ 121), (0, u "java/util/SequencedCollection"), (1, u "iterator"), (0, u "()Ljava/util/Iterator;")] 126

def k7m0 : Method := { name := "size", desc := "()I", sig := { parameters := [], returnType := some .int }, accessFlags := 1025, code := none }
def k7m1 : Method := { name := "iterator", desc := "()Ljava/util/Iterator;", sig := { parameters := [], returnType := some (.object "java/util/Iterator") }, accessFlags := 1025, code := none }
def k7m2 : Method := { name := "add", desc := "(Ljava/lang/Object;)Z", sig := { parameters := [(.object "java/lang/Object")], returnType := some .boolean }, accessFlags := 1025, code := none }
def k7m3 : Method := { name := "get", desc := "(I)Ljava/lang/Object;", sig := { parameters := [.int], returnType := some (.object "java/lang/Object") }, accessFlags := 1025, code := none }
/-- java/util/List -/
def k7 : Class := { plain "java/util/List" (some 0) with
  accessFlags := 1537
  interfaces := #[6]
  cf := some (fileOf pool7 8 #[] #[{ accessFlags := 1025, nameIndex := 79, descriptorIndex := 80, attributes := #[] }, { accessFlags := 1025, nameIndex := 123, descriptorIndex := 124, attributes := #[] }, { accessFlags := 1025, nameIndex := 60, descriptorIndex := 64, attributes := #[] }, { accessFlags := 1025, nameIndex := 75, descriptorIndex := 76, attributes := #[] }] 1537 103 #[120] #[])
  fields := #[]
  methods := #[k7m0, k7m1, k7m2, k7m3]
  instanceTypes := #[]
  staticTypes := #[]
  resolved := Array.replicate 251 none
  statics := none }

def pool8 : Array CpInfo := pool [(1, .methodref 2 3), (0, .class_ 4), (0, .nameAndType 5 6), (0, u "java/util/AbstractCollection"), (0, u "<init>"), (0, u "()V"), (0, .fieldref 8 9), (0, .class_ 10), (0, .nameAndType 11 12), (0, u "java/util/AbstractList"), (0, u "modCount"), (0, u "I"), (64, .class_ 78), (0, u "java/util/AbstractList$Itr"), (3, .class_ 83), (0, u "java/util/AbstractList$ListItr"), (9, .class_ 94), (0, u "java/util/AbstractList$RandomAccessSubList"), (3, .class_ 99), (0, u "java/util/AbstractList$SubList"), (33, .class_ 134), (0, u "java/util/List"), (73, .class_ 209), (0, u "java/util/AbstractList$SubList$1"), (0, .class_ 211), (0, u "java/util/AbstractList$RandomAccessSpliterator")] 6

def k8c0 : Code := { maxStack := 2, maxLocals := 1, code := jdk_39_method_1_code, exceptionTable := #[], attributes := #[] }
def k8m0 : Method := { name := "<init>", desc := "()V", sig := { parameters := [], returnType := none }, accessFlags := 4, code := some k8c0 }
/-- java/util/AbstractList -/
def k8 : Class := { plain "java/util/AbstractList" (some 5) with
  accessFlags := 1057
  interfaces := #[7]
  cf := some (fileOf pool8 8 #[.nestMembers #[93, 98, 208, 210, 82, 77]] #[{ accessFlags := 4, nameIndex := 5, descriptorIndex := 6, attributes := #[] }] 1057 2 #[133] #[{ accessFlags := 132, nameIndex := 11, descriptorIndex := 12, attributes := #[] }])
  fields := #[{ name := "modCount", type := .int, accessFlags := 132, slot := 0, constantValue := 0 }]
  methods := #[k8m0]
  instanceTypes := #[.int]
  staticTypes := #[]
  resolved := Array.replicate 218 none
  statics := none }

def pool9 : Array CpInfo := pool [(1, .class_ 2), (0, u "java/util/RandomAccess"), (0, .class_ 4), (0, u "java/lang/Object")] 2

/-- java/util/RandomAccess -/
def k9 : Class := { plain "java/util/RandomAccess" (some 0) with
  accessFlags := 1537
  interfaces := #[]
  cf := some (fileOf pool9 1 #[] #[] 1537 3 #[] #[])
  fields := #[]
  methods := #[]
  instanceTypes := #[]
  staticTypes := #[]
  resolved := Array.replicate 7 none
  statics := none }

def pool10 : Array CpInfo := pool [(1, .class_ 2), (0, u "java/lang/Cloneable"), (0, .class_ 4), (0, u "java/lang/Object")] 2

/-- java/lang/Cloneable -/
def k10 : Class := { plain "java/lang/Cloneable" (some 0) with
  accessFlags := 1537
  interfaces := #[]
  cf := some (fileOf pool10 1 #[] #[] 1537 3 #[] #[])
  fields := #[]
  methods := #[]
  instanceTypes := #[]
  staticTypes := #[]
  resolved := Array.replicate 7 none
  statics := none }

def pool11 : Array CpInfo := pool [(1, .class_ 2), (0, u "java/io/Serializable"), (0, .class_ 4), (0, u "java/lang/Object")] 2

/-- java/io/Serializable -/
def k11 : Class := { plain "java/io/Serializable" (some 0) with
  accessFlags := 1537
  interfaces := #[]
  cf := some (fileOf pool11 1 #[] #[] 1537 3 #[] #[])
  fields := #[]
  methods := #[]
  instanceTypes := #[]
  staticTypes := #[]
  resolved := Array.replicate 7 none
  statics := none }

def pool12 : Array CpInfo := pool [(1, .methodref 2 3), (0, .class_ 4), (0, .nameAndType 5 6), (0, u "java/util/AbstractList"), (0, u "<init>"), (0, u "()V"), (0, .class_ 8), (0, u "java/lang/Object"), (0, .fieldref 10 11), (0, .class_ 12), (0, .nameAndType 13 14), (0, u "java/util/ArrayList"), (0, u "elementData"), (0, u "[Ljava/lang/Object;"), (2, u "EMPTY_ELEMENTDATA"), (21, .fieldref 10 40), (0, .nameAndType 41 14), (0, u "DEFAULTCAPACITY_EMPTY_ELEMENTDATA"), (5, u "()[Ljava/lang/Object;"), (0, .fieldref 10 49), (0, .nameAndType 50 51), (0, u "size"), (0, u "I"), (11, .fieldref 10 64), (0, .nameAndType 65 51), (0, u "modCount"), (3, .methodref 10 70), (0, .nameAndType 71 72), (0, u "grow"), (0, u "(I)[Ljava/lang/Object;"), (6, .methodref 80 81), (0, .class_ 82), (0, .nameAndType 83 84), (0, u "java/lang/Math"), (0, u "max"), (0, u "(II)I"), (11, u "(Ljava/lang/Object;)Z"), (21, .methodref 119 120), (0, .class_ 121), (0, .nameAndType 122 84), (0, u "java/util/Objects"), (0, u "checkIndex"), (0, .methodref 10 124), (0, .nameAndType 13 125), (0, u "(I)Ljava/lang/Object;"), (3, .methodref 10 130), (0, .nameAndType 71 47), (0, .methodref 10 132), (0, .nameAndType 133 134), (0, u "add"), (0, u "(Ljava/lang/Object;[Ljava/lang/Object;I)V"), (13, .class_ 149), (0, u "java/util/List"), (16, u "iterator"), (0, u "()Ljava/util/Iterator;"), (18, u "()I"), (75, .class_ 263), (0, u "java/util/ArrayList$ListItr"), (3, .class_ 268), (0, u "java/util/ArrayList$Itr"), (0, .methodref 267 270), (0, .nameAndType 5 271), (0, u "(Ljava/util/ArrayList;)V"), (4, .class_ 277), (0, u "java/util/ArrayList$SubList"), (12, .class_ 291), (0, u "java/util/ArrayList$ArrayListSpliterator"), (37, .class_ 330), (0, u "java/util/RandomAccess"), (0, .class_ 332), (0, u "java/lang/Cloneable"), (0, .class_ 334), (0, u "java/io/Serializable"), (0, u "serialVersionUID"), (0, u "J"), (3, u "DEFAULT_CAPACITY"), (40, u "get"), (118, .class_ 501), (0, u "java/util/ArrayList$SubList$2"), (0, .class_ 503), (0, u "java/util/ArrayList$SubList$1")] 5

def k12c0 : Code := { maxStack := 2, maxLocals := 1, code := jdk_38_method_2_code, exceptionTable := #[], attributes := #[] }
def k12m0 : Method := { name := "<init>", desc := "()V", sig := { parameters := [], returnType := none }, accessFlags := 1, code := some k12c0 }
def k12c1 : Code := { maxStack := 4, maxLocals := 4, code := jdk_38_method_6_code, exceptionTable := #[], attributes := #[] }
def k12m1 : Method := { name := "grow", desc := "(I)[Ljava/lang/Object;", sig := { parameters := [.int], returnType := some (.array (.object "java/lang/Object")) }, accessFlags := 2, code := some k12c1 }
def k12c2 : Code := { maxStack := 3, maxLocals := 1, code := jdk_38_method_7_code, exceptionTable := #[], attributes := #[] }
def k12m2 : Method := { name := "grow", desc := "()[Ljava/lang/Object;", sig := { parameters := [], returnType := some (.array (.object "java/lang/Object")) }, accessFlags := 2, code := some k12c2 }
def k12c3 : Code := { maxStack := 1, maxLocals := 1, code := jdk_38_method_8_code, exceptionTable := #[], attributes := #[] }
def k12m3 : Method := { name := "size", desc := "()I", sig := { parameters := [], returnType := some .int }, accessFlags := 1, code := some k12c3 }
def k12c4 : Code := { maxStack := 2, maxLocals := 2, code := jdk_38_method_18_code, exceptionTable := #[], attributes := #[] }
def k12m4 : Method := { name := "elementData", desc := "(I)Ljava/lang/Object;", sig := { parameters := [.int], returnType := some (.object "java/lang/Object") }, accessFlags := 0, code := some k12c4 }
def k12c5 : Code := { maxStack := 2, maxLocals := 2, code := jdk_38_method_20_code, exceptionTable := #[], attributes := #[] }
def k12m5 : Method := { name := "get", desc := "(I)Ljava/lang/Object;", sig := { parameters := [.int], returnType := some (.object "java/lang/Object") }, accessFlags := 1, code := some k12c5 }
def k12c6 : Code := { maxStack := 3, maxLocals := 4, code := jdk_38_method_24_code, exceptionTable := #[], attributes := #[] }
def k12m6 : Method := { name := "add", desc := "(Ljava/lang/Object;[Ljava/lang/Object;I)V", sig := { parameters := [(.object "java/lang/Object"), (.array (.object "java/lang/Object")), .int], returnType := none }, accessFlags := 2, code := some k12c6 }
def k12c7 : Code := { maxStack := 4, maxLocals := 2, code := jdk_38_method_25_code, exceptionTable := #[], attributes := #[] }
def k12m7 : Method := { name := "add", desc := "(Ljava/lang/Object;)Z", sig := { parameters := [(.object "java/lang/Object")], returnType := some .boolean }, accessFlags := 1, code := some k12c7 }
def k12c8 : Code := { maxStack := 3, maxLocals := 1, code := jdk_38_method_55_code, exceptionTable := #[], attributes := #[] }
def k12m8 : Method := { name := "iterator", desc := "()Ljava/util/Iterator;", sig := { parameters := [], returnType := some (.object "java/util/Iterator") }, accessFlags := 1, code := some k12c8 }
/-- java/util/ArrayList -/
def k12 : Class := { plain "java/util/ArrayList" (some 8) with
  accessFlags := 33
  interfaces := #[7, 9, 10, 11]
  cf := some (fileOf pool12 10 #[.nestMembers #[290, 276, 500, 502, 262, 267]] #[{ accessFlags := 1, nameIndex := 5, descriptorIndex := 6, attributes := #[] }, { accessFlags := 2, nameIndex := 71, descriptorIndex := 72, attributes := #[] }, { accessFlags := 2, nameIndex := 71, descriptorIndex := 47, attributes := #[] }, { accessFlags := 1, nameIndex := 50, descriptorIndex := 186, attributes := #[] }, { accessFlags := 0, nameIndex := 13, descriptorIndex := 125, attributes := #[] }, { accessFlags := 1, nameIndex := 381, descriptorIndex := 125, attributes := #[] }, { accessFlags := 2, nameIndex := 133, descriptorIndex := 134, attributes := #[] }, { accessFlags := 1, nameIndex := 133, descriptorIndex := 96, attributes := #[] }, { accessFlags := 1, nameIndex := 166, descriptorIndex := 167, attributes := #[] }] 33 2 #[148, 329, 331, 333] #[{ accessFlags := 26, nameIndex := 335, descriptorIndex := 336, attributes := #[] }, { accessFlags := 26, nameIndex := 340, descriptorIndex := 51, attributes := #[] }, { accessFlags := 26, nameIndex := 17, descriptorIndex := 14, attributes := #[] }, { accessFlags := 26, nameIndex := 41, descriptorIndex := 14, attributes := #[] }, { accessFlags := 128, nameIndex := 13, descriptorIndex := 14, attributes := #[] }, { accessFlags := 2, nameIndex := 50, descriptorIndex := 51, attributes := #[] }])
  fields := #[{ name := "serialVersionUID", type := .long, accessFlags := 26, slot := 0, constantValue := 0 }, { name := "DEFAULT_CAPACITY", type := .int, accessFlags := 26, slot := 1, constantValue := 0 }, { name := "EMPTY_ELEMENTDATA", type := (.array (.object "java/lang/Object")), accessFlags := 26, slot := 2, constantValue := 0 }, { name := "DEFAULTCAPACITY_EMPTY_ELEMENTDATA", type := (.array (.object "java/lang/Object")), accessFlags := 26, slot := 3, constantValue := 0 }, { name := "elementData", type := (.array (.object "java/lang/Object")), accessFlags := 128, slot := 1, constantValue := 0 }, { name := "size", type := .int, accessFlags := 2, slot := 2, constantValue := 0 }]
  methods := #[k12m0, k12m1, k12m2, k12m3, k12m4, k12m5, k12m6, k12m7, k12m8]
  instanceTypes := #[.int, (.array (.object "java/lang/Object")), .int]
  staticTypes := #[.long, .int, (.array (.object "java/lang/Object")), (.array (.object "java/lang/Object"))]
  resolved := Array.replicate 509 none
  statics := some 0 }

def pool13 : Array CpInfo := pool [(1, .class_ 2), (0, u "java/lang/Math"), (1, .class_ 6), (1, u "java/lang/Object"), (0, u "<init>"), (0, u "()V"), (89, .class_ 100), (1, u "java/lang/Math$RandomNumberGeneratorHolder"), (71, u "negativeZeroFloatBits"), (0, u "J"), (2, u "negativeZeroDoubleBits"), (21, u "max"), (2, u "min"), (43, u "$assertionsDisabled"), (0, u "Z"), (88, u "(II)I"), (2, u "twoToTheDoubleScaleDown"), (0, u "D"), (4, u "twoToTheDoubleScaleUp"), (9, u "E"), (3, u "PI"), (2, u "TAU"), (2, u "DEGREES_TO_RADIANS"), (0, u "RADIANS_TO_DEGREES")] 94

def k13m0 : Method := { name := "<init>", desc := "()V", sig := { parameters := [], returnType := none }, accessFlags := 2, code := none }
def k13c1 : Code := { maxStack := 2, maxLocals := 2, code := jdk_29_method_65_code, exceptionTable := #[], attributes := #[] }
def k13m1 : Method := { name := "max", desc := "(II)I", sig := { parameters := [.int, .int], returnType := some .int }, accessFlags := 9, code := some k13c1 }
def k13c2 : Code := { maxStack := 2, maxLocals := 2, code := jdk_29_method_69_code, exceptionTable := #[], attributes := #[] }
def k13m2 : Method := { name := "min", desc := "(II)I", sig := { parameters := [.int, .int], returnType := some .int }, accessFlags := 9, code := some k13c2 }
/-- java/lang/Math -/
def k13 : Class := { plain "java/lang/Math" (some 0) with
  accessFlags := 49
  interfaces := #[]
  cf := some (fileOf pool13 1 #[.nestMembers #[98]] #[{ accessFlags := 2, nameIndex := 7, descriptorIndex := 8, attributes := #[] }, { accessFlags := 9, nameIndex := 198, descriptorIndex := 335, attributes := #[] }, { accessFlags := 9, nameIndex := 201, descriptorIndex := 335, attributes := #[] }] 49 4 #[] #[{ accessFlags := 25, nameIndex := 354, descriptorIndex := 339, attributes := #[] }, { accessFlags := 25, nameIndex := 358, descriptorIndex := 339, attributes := #[] }, { accessFlags := 25, nameIndex := 361, descriptorIndex := 339, attributes := #[] }, { accessFlags := 26, nameIndex := 364, descriptorIndex := 339, attributes := #[] }, { accessFlags := 26, nameIndex := 365, descriptorIndex := 339, attributes := #[] }, { accessFlags := 26, nameIndex := 172, descriptorIndex := 173, attributes := #[] }, { accessFlags := 26, nameIndex := 176, descriptorIndex := 173, attributes := #[] }, { accessFlags := 8, nameIndex := 344, descriptorIndex := 339, attributes := #[] }, { accessFlags := 8, nameIndex := 338, descriptorIndex := 339, attributes := #[] }, { accessFlags := 4120, nameIndex := 245, descriptorIndex := 246, attributes := #[] }])
  fields := #[{ name := "E", type := .double, accessFlags := 25, slot := 0, constantValue := 0 }, { name := "PI", type := .double, accessFlags := 25, slot := 1, constantValue := 0 }, { name := "TAU", type := .double, accessFlags := 25, slot := 2, constantValue := 0 }, { name := "DEGREES_TO_RADIANS", type := .double, accessFlags := 26, slot := 3, constantValue := 0 }, { name := "RADIANS_TO_DEGREES", type := .double, accessFlags := 26, slot := 4, constantValue := 0 }, { name := "negativeZeroFloatBits", type := .long, accessFlags := 26, slot := 5, constantValue := 0 }, { name := "negativeZeroDoubleBits", type := .long, accessFlags := 26, slot := 6, constantValue := 0 }, { name := "twoToTheDoubleScaleUp", type := .double, accessFlags := 8, slot := 7, constantValue := 0 }, { name := "twoToTheDoubleScaleDown", type := .double, accessFlags := 8, slot := 8, constantValue := 0 }, { name := "$assertionsDisabled", type := .boolean, accessFlags := 4120, slot := 9, constantValue := 0 }]
  methods := #[k13m0, k13m1, k13m2]
  instanceTypes := #[]
  staticTypes := #[.double, .double, .double, .double, .double, .long, .long, .double, .double, .boolean]
  resolved := Array.replicate 460 none
  statics := none }

def pool14 : Array CpInfo := pool [(2, .class_ 4), (1, u "java/lang/Object"), (0, u "<init>"), (0, u "()V"), (1, .class_ 10), (1, u "java/lang/System"), (0, u "allowSecurityManager"), (0, u "I"), (16, u "cons"), (0, u "Ljava/io/Console;"), (77, .class_ 110), (1, u "java/lang/System$CallersHolder"), (43, u "initialErrStream"), (0, u "Ljava/io/PrintStream;"), (19, u "security"), (0, u "Ljava/lang/SecurityManager;"), (31, .class_ 209), (0, u "java/lang/System$1"), (7, u "props"), (0, u "Ljava/util/Properties;"), (2, u "lineSeparator"), (0, u "Ljava/lang/String;"), (96, .class_ 321), (1, u "java/lang/System$LoggerFinder"), (5, .class_ 328), (0, u "java/lang/System$Logger"), (67, u "err"), (2, u "out"), (91, u "notSupportedJnuEncoding"), (15, u "in"), (17, u "initialIn"), (0, u "Ljava/io/InputStream;"), (35, u "bootLayer"), (0, u "Ljava/lang/ModuleLayer;"), (99, .class_ 664), (0, u "java/lang/System$2"), (9, u "NEVER"), (2, u "MAYBE"), (49, u "arraycopy"), (0, u "(Ljava/lang/Object;ILjava/lang/Object;II)V"), (72, .class_ 802), (0, u "java/lang/System$Logger$Level")] 31

def k14m0 : Method := { name := "<init>", desc := "()V", sig := { parameters := [], returnType := none }, accessFlags := 2, code := none }
def k14m1 : Method := { name := "arraycopy", desc := "(Ljava/lang/Object;ILjava/lang/Object;II)V", sig := { parameters := [(.object "java/lang/Object"), .int, (.object "java/lang/Object"), .int, .int], returnType := none }, accessFlags := 265, code := none }
/-- java/lang/System -/
def k14 : Class := { plain "java/lang/System" (some 0) with
  accessFlags := 49
  interfaces := #[]
  cf := some (fileOf pool14 8 #[.nestMembers #[319, 327, 801, 108, 663, 208]] #[{ accessFlags := 2, nameIndex := 5, descriptorIndex := 6, attributes := #[] }, { accessFlags := 265, nameIndex := 727, descriptorIndex := 728, attributes := #[] }] 49 2 #[] #[{ accessFlags := 25, nameIndex := 507, descriptorIndex := 526, attributes := #[] }, { accessFlags := 25, nameIndex := 399, descriptorIndex := 155, attributes := #[] }, { accessFlags := 25, nameIndex := 396, descriptorIndex := 155, attributes := #[] }, { accessFlags := 10, nameIndex := 525, descriptorIndex := 526, attributes := #[] }, { accessFlags := 26, nameIndex := 674, descriptorIndex := 12, attributes := #[] }, { accessFlags := 26, nameIndex := 677, descriptorIndex := 12, attributes := #[] }, { accessFlags := 10, nameIndex := 11, descriptorIndex := 12, attributes := #[] }, { accessFlags := 74, nameIndex := 175, descriptorIndex := 176, attributes := #[] }, { accessFlags := 10, nameIndex := 491, descriptorIndex := 222, attributes := #[] }, { accessFlags := 74, nameIndex := 29, descriptorIndex := 30, attributes := #[] }, { accessFlags := 74, nameIndex := 154, descriptorIndex := 155, attributes := #[] }, { accessFlags := 10, nameIndex := 217, descriptorIndex := 218, attributes := #[] }, { accessFlags := 10, nameIndex := 221, descriptorIndex := 222, attributes := #[] }, { accessFlags := 8, nameIndex := 562, descriptorIndex := 563, attributes := #[] }])
  fields := #[{ name := "in", type := (.object "java/io/InputStream"), accessFlags := 25, slot := 0, constantValue := 0 }, { name := "out", type := (.object "java/io/PrintStream"), accessFlags := 25, slot := 1, constantValue := 0 }, { name := "err", type := (.object "java/io/PrintStream"), accessFlags := 25, slot := 2, constantValue := 0 }, { name := "initialIn", type := (.object "java/io/InputStream"), accessFlags := 10, slot := 3, constantValue := 0 }, { name := "NEVER", type := .int, accessFlags := 26, slot := 4, constantValue := 0 }, { name := "MAYBE", type := .int, accessFlags := 26, slot := 5, constantValue := 0 }, { name := "allowSecurityManager", type := .int, accessFlags := 10, slot := 6, constantValue := 0 }, { name := "security", type := (.object "java/lang/SecurityManager"), accessFlags := 74, slot := 7, constantValue := 0 }, { name := "notSupportedJnuEncoding", type := (.object "java/lang/String"), accessFlags := 10, slot := 8, constantValue := 0 }, { name := "cons", type := (.object "java/io/Console"), accessFlags := 74, slot := 9, constantValue := 0 }, { name := "initialErrStream", type := (.object "java/io/PrintStream"), accessFlags := 74, slot := 10, constantValue := 0 }, { name := "props", type := (.object "java/util/Properties"), accessFlags := 10, slot := 11, constantValue := 0 }, { name := "lineSeparator", type := (.object "java/lang/String"), accessFlags := 10, slot := 12, constantValue := 0 }, { name := "bootLayer", type := (.object "java/lang/ModuleLayer"), accessFlags := 8, slot := 13, constantValue := 0 }]
  methods := #[k14m0, k14m1]
  instanceTypes := #[]
  staticTypes := #[(.object "java/io/InputStream"), (.object "java/io/PrintStream"), (.object "java/io/PrintStream"), (.object "java/io/InputStream"), .int, .int, .int, (.object "java/lang/SecurityManager"), (.object "java/lang/String"), (.object "java/io/Console"), (.object "java/io/PrintStream"), (.object "java/util/Properties"), (.object "java/lang/String"), (.object "java/lang/ModuleLayer")]
  resolved := Array.replicate 834 none
  statics := none }

def pool15 : Array CpInfo := pool [(16, .class_ 18), (1, u "java/util/Iterator"), (0, u "hasNext"), (0, u "()Z"), (10, .class_ 32), (0, u "java/lang/Object")] 20

def k15m0 : Method := { name := "hasNext", desc := "()Z", sig := { parameters := [], returnType := some .boolean }, accessFlags := 1025, code := none }
/-- java/util/Iterator -/
def k15 : Class := { plain "java/util/Iterator" (some 0) with
  accessFlags := 1537
  interfaces := #[]
  cf := some (fileOf pool15 16 #[] #[{ accessFlags := 1025, nameIndex := 19, descriptorIndex := 20, attributes := #[] }] 1537 31 #[] #[])
  fields := #[]
  methods := #[k15m0]
  instanceTypes := #[]
  staticTypes := #[]
  resolved := Array.replicate 53 none
  statics := none }

def pool16 : Array CpInfo := pool [(1, .fieldref 2 3), (0, .class_ 4), (0, .nameAndType 5 6), (0, u "java/util/ArrayList$Itr"), (0, u "this$0"), (0, u "Ljava/util/ArrayList;"), (0, .methodref 8 9), (0, .class_ 10), (0, .nameAndType 11 12), (0, u "java/lang/Object"), (0, u "<init>"), (0, u "()V"), (0, .fieldref 2 14), (0, .nameAndType 15 16), (0, u "lastRet"), (0, u "I"), (0, .fieldref 18 19), (0, .class_ 20), (0, .nameAndType 21 16), (0, u "java/util/ArrayList"), (0, u "modCount"), (0, .fieldref 2 23), (0, .nameAndType 24 16), (0, u "expectedModCount"), (0, .fieldref 2 26), (0, .nameAndType 27 16), (0, u "cursor"), (0, .fieldref 18 29), (0, .nameAndType 30 16), (0, u "size"), (38, .class_ 70), (0, u "java/util/Iterator"), (0, u "(Ljava/util/ArrayList;)V"), (8, u "hasNext"), (0, u "()Z")] 22

def k16c0 : Code := { maxStack := 2, maxLocals := 2, code := jdk_49_method_1_code, exceptionTable := #[], attributes := #[] }
def k16m0 : Method := { name := "<init>", desc := "(Ljava/util/ArrayList;)V", sig := { parameters := [(.object "java/util/ArrayList")], returnType := none }, accessFlags := 0, code := some k16c0 }
def k16c1 : Code := { maxStack := 2, maxLocals := 1, code := jdk_49_method_2_code, exceptionTable := #[], attributes := #[] }
def k16m1 : Method := { name := "hasNext", desc := "()Z", sig := { parameters := [], returnType := some .boolean }, accessFlags := 1, code := some k16c1 }
/-- java/util/ArrayList$Itr -/
def k16 : Class := { plain "java/util/ArrayList$Itr" (some 0) with
  accessFlags := 32
  interfaces := #[15]
  cf := some (fileOf pool16 2 #[.nestHost 18] #[{ accessFlags := 0, nameIndex := 11, descriptorIndex := 71, attributes := #[] }, { accessFlags := 1, nameIndex := 80, descriptorIndex := 81, attributes := #[] }] 32 8 #[69] #[{ accessFlags := 0, nameIndex := 27, descriptorIndex := 16, attributes := #[] }, { accessFlags := 0, nameIndex := 15, descriptorIndex := 16, attributes := #[] }, { accessFlags := 0, nameIndex := 24, descriptorIndex := 16, attributes := #[] }, { accessFlags := 4112, nameIndex := 5, descriptorIndex := 6, attributes := #[] }])
  fields := #[{ name := "cursor", type := .int, accessFlags := 0, slot := 0, constantValue := 0 }, { name := "lastRet", type := .int, accessFlags := 0, slot := 1, constantValue := 0 }, { name := "expectedModCount", type := .int, accessFlags := 0, slot := 2, constantValue := 0 }, { name := "this$0", type := (.object "java/util/ArrayList"), accessFlags := 4112, slot := 3, constantValue := 0 }]
  methods := #[k16m0, k16m1]
  instanceTypes := #[.int, .int, .int, (.object "java/util/ArrayList")]
  staticTypes := #[]
  resolved := Array.replicate 104 none
  statics := none }

def pool17 : Array CpInfo := pool [(1, .methodref 2 3), (0, .class_ 4), (0, .nameAndType 5 6), (0, u "java/lang/Object"), (0, u "<init>"), (0, u "()V"), (0, .fieldref 8 9), (0, .class_ 10), (0, .nameAndType 11 12), (0, u "com/example/predicat/predicat/kernel/Index"), (0, u "mask"), (0, u "I"), (0, .fieldref 8 14), (0, .nameAndType 15 12), (0, u "limit"), (0, .fieldref 8 17), (0, .nameAndType 18 19), (0, u "firstTuples"), (0, u "[I"), (0, .fieldref 8 21), (0, .nameAndType 22 19), (0, u "counts"), (0, .class_ 19), (0, .fieldref 8 25), (0, .nameAndType 26 27), (0, u "tuples"), (0, u "[[I"), (0, .fieldref 8 29), (0, .nameAndType 30 19), (0, u "hashes"), (0, .fieldref 8 32), (0, .nameAndType 33 34), (0, u "relation"), (0, u "Lcom/example/predicat/predicat/kernel/Relation;"), (0, .methodref 23 36), (0, .nameAndType 37 38), (0, u "clone"), (0, u "()Ljava/lang/Object;"), (0, .fieldref 8 40), (0, .nameAndType 41 19), (0, u "columns"), (0, .fieldref 8 43), (0, .nameAndType 44 19), (0, u "scratch"), (0, .fieldref 8 46), (0, .nameAndType 47 12), (0, u "stride"), (0, .fieldref 8 49), (0, .nameAndType 50 19), (0, u "slots"), (0, .methodref 52 53), (0, .class_ 54), (0, .nameAndType 55 56), (0, u "com/example/predicat/predicat/kernel/Relation"), (0, u "arity"), (0, u "()I"), (0, .fieldref 8 58), (0, .nameAndType 59 60), (0, u "unique"), (0, u "Z"), (1, .class_ 64), (1, u "java/util/Arrays"), (2, .methodref 8 68), (0, .nameAndType 69 70), (0, u "keyOf"), (0, u "(I[I)V"), (0, .methodref 8 72), (0, .nameAndType 73 74), (0, u "hash"), (0, u "([II)I"), (0, .methodref 8 76), (0, .nameAndType 77 78), (0, u "slotOf"), (0, u "([III)I"), (0, .methodref 8 80), (0, .nameAndType 81 82), (0, u "addKey"), (0, u "(II[II)V"), (0, .methodref 62 84), (0, .nameAndType 85 86), (0, u "copyOf"), (0, u "([II)[I"), (0, .fieldref 8 88), (0, .nameAndType 89 12), (0, u "keys"), (2, u "readAheadSum"), (4, .methodref 8 98), (0, .nameAndType 73 78), (6, u "tuple"), (0, u "(II)I"), (0, .methodref 8 108), (0, .nameAndType 109 110), (0, u "holds"), (0, u "(I[II)Z"), (4, .fieldref 8 116), (0, .nameAndType 117 19), (0, u "NO_TUPLES"), (0, .methodref 119 120), (0, .class_ 121), (0, .nameAndType 122 123), (0, u "java/lang/System"), (0, u "arraycopy"), (0, u "(Ljava/lang/Object;ILjava/lang/Object;II)V"), (3, u "(I)V"), (0, .methodref 52 129), (0, .nameAndType 130 106), (0, u "get"), (0, .integer 2166136261), (0, .integer 16777619), (0, .integer 2246822507), (0, u "(Lcom/example/predicat/predicat/kernel/Relation;[I)V"), (7, u "add"), (0, u "fill"), (3, u "find"), (0, u "([I)I")] 4

def k17c0 : Code := { maxStack := 3, maxLocals := 9, code := prog_13_method_1_code, exceptionTable := #[], attributes := #[] }
def k17m0 : Method := { name := "<init>", desc := "(Lcom/example/predicat/predicat/kernel/Relation;[I)V", sig := { parameters := [(.object "com/example/predicat/predicat/kernel/Relation"), (.array .int)], returnType := none }, accessFlags := 0, code := some k17c0 }
def k17c1 : Code := { maxStack := 7, maxLocals := 4, code := prog_13_method_3_code, exceptionTable := #[], attributes := #[] }
def k17m1 : Method := { name := "add", desc := "(I)V", sig := { parameters := [.int], returnType := none }, accessFlags := 0, code := some k17c1 }
def k17c2 : Code := { maxStack := 6, maxLocals := 6, code := prog_13_method_4_code, exceptionTable := #[], attributes := #[] }
def k17m2 : Method := { name := "fill", desc := "(I)V", sig := { parameters := [.int], returnType := none }, accessFlags := 0, code := some k17c2 }
def k17c3 : Code := { maxStack := 7, maxLocals := 2, code := prog_13_method_8_code, exceptionTable := #[], attributes := #[] }
def k17m3 : Method := { name := "find", desc := "([I)I", sig := { parameters := [(.array .int)], returnType := some .int }, accessFlags := 0, code := some k17c3 }
def k17c4 : Code := { maxStack := 3, maxLocals := 3, code := prog_13_method_9_code, exceptionTable := #[], attributes := #[] }
def k17m4 : Method := { name := "hash", desc := "([II)I", sig := { parameters := [(.array .int), .int], returnType := some .int }, accessFlags := 0, code := some k17c4 }
def k17c5 : Code := { maxStack := 2, maxLocals := 4, code := prog_13_method_12_code, exceptionTable := #[], attributes := #[] }
def k17m5 : Method := { name := "tuple", desc := "(II)I", sig := { parameters := [.int, .int], returnType := some .int }, accessFlags := 0, code := some k17c5 }
def k17c6 : Code := { maxStack := 4, maxLocals := 6, code := prog_13_method_14_code, exceptionTable := #[], attributes := #[] }
def k17m6 : Method := { name := "slotOf", desc := "([III)I", sig := { parameters := [(.array .int), .int, .int], returnType := some .int }, accessFlags := 2, code := some k17c6 }
def k17c7 : Code := { maxStack := 4, maxLocals := 5, code := prog_13_method_15_code, exceptionTable := #[], attributes := #[] }
def k17m7 : Method := { name := "holds", desc := "(I[II)Z", sig := { parameters := [.int, (.array .int), .int], returnType := some .boolean }, accessFlags := 2, code := some k17c7 }
def k17c8 : Code := { maxStack := 5, maxLocals := 6, code := prog_13_method_16_code, exceptionTable := #[], attributes := #[] }
def k17m8 : Method := { name := "addKey", desc := "(II[II)V", sig := { parameters := [.int, .int, (.array .int), .int], returnType := none }, accessFlags := 2, code := some k17c8 }
def k17c9 : Code := { maxStack := 6, maxLocals := 4, code := prog_13_method_18_code, exceptionTable := #[], attributes := #[] }
def k17m9 : Method := { name := "keyOf", desc := "(I[I)V", sig := { parameters := [.int, (.array .int)], returnType := none }, accessFlags := 2, code := some k17c9 }
def k17c10 : Code := { maxStack := 3, maxLocals := 5, code := prog_13_method_20_code, exceptionTable := #[], attributes := #[] }
def k17m10 : Method := { name := "hash", desc := "([III)I", sig := { parameters := [(.array .int), .int, .int], returnType := some .int }, accessFlags := 8, code := some k17c10 }
/-- com/example/predicat/predicat/kernel/Index -/
def k17 : Class := { plain "com/example/predicat/predicat/kernel/Index" (some 0) with
  accessFlags := 48
  interfaces := #[]
  cf := some (fileOf pool17 8 #[] #[{ accessFlags := 0, nameIndex := 5, descriptorIndex := 134, attributes := #[] }, { accessFlags := 0, nameIndex := 142, descriptorIndex := 127, attributes := #[] }, { accessFlags := 0, nameIndex := 143, descriptorIndex := 127, attributes := #[] }, { accessFlags := 0, nameIndex := 147, descriptorIndex := 148, attributes := #[] }, { accessFlags := 0, nameIndex := 73, descriptorIndex := 74, attributes := #[] }, { accessFlags := 0, nameIndex := 105, descriptorIndex := 106, attributes := #[] }, { accessFlags := 2, nameIndex := 77, descriptorIndex := 78, attributes := #[] }, { accessFlags := 2, nameIndex := 109, descriptorIndex := 110, attributes := #[] }, { accessFlags := 2, nameIndex := 81, descriptorIndex := 82, attributes := #[] }, { accessFlags := 2, nameIndex := 69, descriptorIndex := 70, attributes := #[] }, { accessFlags := 8, nameIndex := 73, descriptorIndex := 78, attributes := #[] }] 48 2 #[] #[{ accessFlags := 26, nameIndex := 117, descriptorIndex := 19, attributes := #[] }, { accessFlags := 18, nameIndex := 33, descriptorIndex := 34, attributes := #[] }, { accessFlags := 18, nameIndex := 41, descriptorIndex := 19, attributes := #[] }, { accessFlags := 18, nameIndex := 44, descriptorIndex := 19, attributes := #[] }, { accessFlags := 18, nameIndex := 59, descriptorIndex := 60, attributes := #[] }, { accessFlags := 18, nameIndex := 47, descriptorIndex := 12, attributes := #[] }, { accessFlags := 2, nameIndex := 50, descriptorIndex := 19, attributes := #[] }, { accessFlags := 2, nameIndex := 11, descriptorIndex := 12, attributes := #[] }, { accessFlags := 2, nameIndex := 15, descriptorIndex := 12, attributes := #[] }, { accessFlags := 2, nameIndex := 89, descriptorIndex := 12, attributes := #[] }, { accessFlags := 2, nameIndex := 18, descriptorIndex := 19, attributes := #[] }, { accessFlags := 2, nameIndex := 22, descriptorIndex := 19, attributes := #[] }, { accessFlags := 2, nameIndex := 26, descriptorIndex := 27, attributes := #[] }, { accessFlags := 2, nameIndex := 30, descriptorIndex := 19, attributes := #[] }, { accessFlags := 2, nameIndex := 92, descriptorIndex := 12, attributes := #[] }])
  fields := #[{ name := "NO_TUPLES", type := (.array .int), accessFlags := 26, slot := 0, constantValue := 0 }, { name := "relation", type := (.object "com/example/predicat/predicat/kernel/Relation"), accessFlags := 18, slot := 0, constantValue := 0 }, { name := "columns", type := (.array .int), accessFlags := 18, slot := 1, constantValue := 0 }, { name := "scratch", type := (.array .int), accessFlags := 18, slot := 2, constantValue := 0 }, { name := "unique", type := .boolean, accessFlags := 18, slot := 3, constantValue := 0 }, { name := "stride", type := .int, accessFlags := 18, slot := 4, constantValue := 0 }, { name := "slots", type := (.array .int), accessFlags := 2, slot := 5, constantValue := 0 }, { name := "mask", type := .int, accessFlags := 2, slot := 6, constantValue := 0 }, { name := "limit", type := .int, accessFlags := 2, slot := 7, constantValue := 0 }, { name := "keys", type := .int, accessFlags := 2, slot := 8, constantValue := 0 }, { name := "firstTuples", type := (.array .int), accessFlags := 2, slot := 9, constantValue := 0 }, { name := "counts", type := (.array .int), accessFlags := 2, slot := 10, constantValue := 0 }, { name := "tuples", type := (.array (.array .int)), accessFlags := 2, slot := 11, constantValue := 0 }, { name := "hashes", type := (.array .int), accessFlags := 2, slot := 12, constantValue := 0 }, { name := "readAheadSum", type := .int, accessFlags := 2, slot := 13, constantValue := 0 }]
  methods := #[k17m0, k17m1, k17m2, k17m3, k17m4, k17m5, k17m6, k17m7, k17m8, k17m9, k17m10]
  instanceTypes := #[(.object "com/example/predicat/predicat/kernel/Relation"), (.array .int), (.array .int), .boolean, .int, (.array .int), .int, .int, .int, (.array .int), (.array .int), (.array (.array .int)), (.array .int), .int]
  staticTypes := #[(.array .int)]
  resolved := Array.replicate 153 none
  statics := some 1 }

def pool18 : Array CpInfo := pool [(2, .class_ 4), (1, u "java/lang/Object"), (0, u "<init>"), (0, u "()V"), (35, .class_ 44), (1, u "java/util/Objects"), (60, .methodref 106 107), (0, .class_ 108), (0, .nameAndType 109 110), (0, u "jdk/internal/util/Preconditions"), (0, u "checkIndex"), (0, u "(IILjava/util/function/BiFunction;)I"), (60, u "(II)I")] 12

def k18m0 : Method := { name := "<init>", desc := "()V", sig := { parameters := [], returnType := none }, accessFlags := 2, code := none }
def k18c1 : Code := { maxStack := 3, maxLocals := 2, code := jdk_31_method_17_code, exceptionTable := #[], attributes := #[] }
def k18m1 : Method := { name := "checkIndex", desc := "(II)I", sig := { parameters := [.int, .int], returnType := some .int }, accessFlags := 9, code := some k18c1 }
/-- java/util/Objects -/
def k18 : Class := { plain "java/util/Objects" (some 0) with
  accessFlags := 49
  interfaces := #[]
  cf := some (fileOf pool18 42 #[] #[{ accessFlags := 2, nameIndex := 5, descriptorIndex := 6, attributes := #[] }, { accessFlags := 9, nameIndex := 109, descriptorIndex := 171, attributes := #[] }] 49 2 #[] #[])
  fields := #[]
  methods := #[k18m0, k18m1]
  instanceTypes := #[]
  staticTypes := #[]
  resolved := Array.replicate 184 none
  statics := none }

def pool19 : Array CpInfo := pool [(2, .class_ 4), (1, u "java/lang/Object"), (0, u "<init>"), (0, u "()V"), (17, .class_ 26), (1, u "jdk/internal/util/Preconditions"), (6, u "checkIndex"), (21, .class_ 56), (0, u "jdk/internal/util/Preconditions$4"), (57, .class_ 115), (0, u "jdk/internal/util/Preconditions$1"), (7, u "SIOOBE_FORMATTER"), (0, u "Ljava/util/function/BiFunction;"), (0, .class_ 126), (0, u "jdk/internal/util/Preconditions$2"), (3, u "AIOOBE_FORMATTER"), (0, .class_ 132), (0, u "jdk/internal/util/Preconditions$3"), (3, u "IOOBE_FORMATTER"), (41, u "(IILjava/util/function/BiFunction;)I")] 15

def k19m0 : Method := { name := "<init>", desc := "()V", sig := { parameters := [], returnType := none }, accessFlags := 1, code := none }
def k19c1 : Code := { maxStack := 3, maxLocals := 3, code := jdk_41_method_11_code, exceptionTable := #[], attributes := #[] }
def k19m1 : Method := { name := "checkIndex", desc := "(IILjava/util/function/BiFunction;)I", sig := { parameters := [.int, .int, (.object "java/util/function/BiFunction")], returnType := some .int }, accessFlags := 9, code := some k19c1 }
/-- jdk/internal/util/Preconditions -/
def k19 : Class := { plain "jdk/internal/util/Preconditions" (some 0) with
  accessFlags := 33
  interfaces := #[]
  cf := some (fileOf pool19 24 #[.nestMembers #[55, 131, 125, 114]] #[{ accessFlags := 1, nameIndex := 5, descriptorIndex := 6, attributes := #[] }, { accessFlags := 9, nameIndex := 33, descriptorIndex := 178, attributes := #[] }] 33 2 #[] #[{ accessFlags := 25, nameIndex := 123, descriptorIndex := 124, attributes := #[] }, { accessFlags := 25, nameIndex := 130, descriptorIndex := 124, attributes := #[] }, { accessFlags := 25, nameIndex := 136, descriptorIndex := 124, attributes := #[] }])
  fields := #[{ name := "SIOOBE_FORMATTER", type := (.object "java/util/function/BiFunction"), accessFlags := 25, slot := 0, constantValue := 0 }, { name := "AIOOBE_FORMATTER", type := (.object "java/util/function/BiFunction"), accessFlags := 25, slot := 1, constantValue := 0 }, { name := "IOOBE_FORMATTER", type := (.object "java/util/function/BiFunction"), accessFlags := 25, slot := 2, constantValue := 0 }]
  methods := #[k19m0, k19m1]
  instanceTypes := #[]
  staticTypes := #[(.object "java/util/function/BiFunction"), (.object "java/util/function/BiFunction"), (.object "java/util/function/BiFunction")]
  resolved := Array.replicate 194 none
  statics := none }

def pool20 : Array CpInfo := pool [(2, .class_ 4), (1, u "java/lang/Object"), (0, u "<init>"), (0, u "()V"), (7, .class_ 16), (1, u "java/util/Arrays"), (57, .class_ 76), (1, u "java/util/Arrays$NaturalOrder"), (36, .class_ 115), (1, u "java/util/Arrays$LegacyMergeSort"), (1, u "Z"), (32, .methodref 151 152), (0, .class_ 153), (0, .nameAndType 154 155), (0, u "java/lang/System"), (0, u "arraycopy"), (0, u "(Ljava/lang/Object;ILjava/lang/Object;II)V"), (146, u "copyOf"), (1, .methodref 305 306), (0, .class_ 307), (0, .nameAndType 308 309), (0, u "java/lang/Math"), (0, u "min"), (0, u "(II)I"), (65, .class_ 376), (0, u "java/util/Arrays$ArrayList"), (68, u "$assertionsDisabled"), (269, u "MIN_ARRAY_SORT_GRAN"), (0, u "I"), (2, u "INSERTIONSORT_THRESHOLD"), (151, u "([II)[I"), (103, .class_ 976), (0, u "java/util/Arrays$ArrayItr")] 52

def k20m0 : Method := { name := "<init>", desc := "()V", sig := { parameters := [], returnType := none }, accessFlags := 2, code := none }
def k20c1 : Code := { maxStack := 6, maxLocals := 3, code := jdk_65_method_123_code, exceptionTable := #[], attributes := #[] }
def k20m1 : Method := { name := "copyOf", desc := "([II)[I", sig := { parameters := [(.array .int), .int], returnType := some (.array .int) }, accessFlags := 9, code := some k20c1 }
/-- java/util/Arrays -/
def k20 : Class := { plain "java/util/Arrays" (some 0) with
  accessFlags := 49
  interfaces := #[]
  cf := some (fileOf pool20 14 #[.nestMembers #[975, 375, 113, 74]] #[{ accessFlags := 2, nameIndex := 5, descriptorIndex := 6, attributes := #[] }, { accessFlags := 9, nameIndex := 302, descriptorIndex := 871, attributes := #[] }] 49 2 #[] #[{ accessFlags := 26, nameIndex := 715, descriptorIndex := 716, attributes := #[] }, { accessFlags := 26, nameIndex := 719, descriptorIndex := 716, attributes := #[] }, { accessFlags := 4120, nameIndex := 445, descriptorIndex := 117, attributes := #[] }])
  fields := #[{ name := "MIN_ARRAY_SORT_GRAN", type := .int, accessFlags := 26, slot := 0, constantValue := 0 }, { name := "INSERTIONSORT_THRESHOLD", type := .int, accessFlags := 26, slot := 1, constantValue := 0 }, { name := "$assertionsDisabled", type := .boolean, accessFlags := 4120, slot := 2, constantValue := 0 }]
  methods := #[k20m0, k20m1]
  instanceTypes := #[]
  staticTypes := #[.int, .int, .boolean]
  resolved := Array.replicate 1029 none
  statics := none }

/-- the primitive boolean -/
def k21 : Class := { plain "boolean" none with kind := .primitive 'Z', accessFlags := 0x411 }
/-- [Z -/
def k22 : Class := { plain "[Z" (some 0) with kind := .array 21 .boolean, interfaces := #[10, 11], accessFlags := 1041 }

/-- the primitive byte -/
def k23 : Class := { plain "byte" none with kind := .primitive 'B', accessFlags := 0x411 }
/-- [B -/
def k24 : Class := { plain "[B" (some 0) with kind := .array 23 .byte, interfaces := #[10, 11], accessFlags := 1041 }

/-- the primitive int -/
def k25 : Class := { plain "int" none with kind := .primitive 'I', accessFlags := 0x411 }
/-- [I -/
def k26 : Class := { plain "[I" (some 0) with kind := .array 25 .int, interfaces := #[10, 11], accessFlags := 1041 }

/-- [Ljava/lang/Object; -/
def k27 : Class := { plain "[Ljava/lang/Object;" (some 0) with kind := .array 0 (.object "java/lang/Object"), interfaces := #[10, 11], accessFlags := 1041 }

/-- [[I -/
def k28 : Class := { plain "[[I" (some 0) with kind := .array 26 (.array .int), interfaces := #[10, 11], accessFlags := 1041 }

def heap : Heap := #[{ cls := 12, slots := #[.long 0, .int 0, .ref 3, .ref 4], vm := .statics 12 },
  { cls := 17, slots := #[.ref 2], vm := .statics 17 },
  { cls := 26, slots := #[], vm := .none },
  { cls := 27, slots := #[], vm := .none },
  { cls := 27, slots := #[], vm := .none }]
def classes : Array Class := #[k0, k1, k2, k3, k4, k5, k6, k7, k8, k9, k10, k11, k12, k13, k14, k15, k16, k17, k18, k19, k20, k21, k22, k23, k24, k25, k26, k27, k28]
def interned : List (Array UInt16 × Addr) := []
def slotsUsed : Nat := 5
def theMethod : MethodId := ⟨1, 1⟩
def args0 : Array Value := #[.int 1, .int 2, .int 3, .int 4, .int 5, .int 6]
def aboutOver (below : List Frame) : State where
  vm := { classes := classes, interned := interned.toArray }
  heap := heap
  slotsUsed := slotsUsed
  threads := #[{ frames := .invoking theMethod args0 :: below }]
def below0 : List Frame := [.native { method := ⟨0, 0⟩, args := #[] }]
def about1 : State := aboutOver below0
def p0 : Program := .bare "" "" ""
def e0 : Env := launch0.env 0 0 0
theorem w_frames : about1.frames = Frame.invoking theMethod args0 :: below0 := rfl
set_option maxRecDepth 65536 in
theorem w_args : argsFit about1.vm theMethod args0 = true := by decide +kernel
set_option maxRecDepth 65536 in
theorem w_heap : heapFits about1 = true := by decide +kernel
set_option maxRecDepth 65536 in
theorem w_runnable : about1.curStatus? = some .runnable := by decide +kernel
set_option maxRecDepth 65536 in
theorem w_alone : about1.alone = true := by decide +kernel
set_option maxRecDepth 65536 in
theorem w_named : about1.methodNamed? x = some theMethod := by decide +kernel
set_option maxRecDepth 65536 in
theorem w_hears : about1.hears theMethod below0 = true := by decide +kernel
set_option maxRecDepth 65536 in
theorem w_ripe : about1.ripe theMethod args0 below0 = true := by decide +kernel
theorem w_running : about1.status = .running := rfl
set_option maxRecDepth 65536 in
theorem w_room : about1.hasRoom e0.platform room_1 = true :=
  launch0.hasRoom_least _ room_1 (by decide +kernel) (by decide +kernel) (by decide +kernel) (by decide +kernel) (by decide +kernel) (by decide +kernel)
theorem allAtoms_all (ts : List Jvm.Cond) (a : Array Jvm.Value) (st : Jvm.State) : (allAtoms ts).before a st = ts.all (fun c => c.before a st) := by
  induction ts with
  | nil => rfl
  | cons c t ih =>
    show (Jvm.Cond.and c (allAtoms t)).before a st = _
    rw [Jvm.Cond.before_and, ih, List.all_cons]
def words1 : List Jvm.Cond := Jvm.Cond.code x code maxLocals ret :: tables_1
/-- a 'code' word, met by the world's own term for the bytes: nothing is compared byte by byte -/
theorem code_word {y : MethodName} {bytes : ByteArray} {mx : Nat} {rt : Option FieldType} {a : Array Value} {s : State} {m : MethodId} {meth : Method} {c : Code} (h1 : s.methodNamed? y = some m) (h2 : s.vm.method? m = some meth) (h3 : meth.code = some c) (h4 : c.code = bytes)
    (h5 : (c.maxLocals == mx && c.exceptionTable.isEmpty && decide (c.maxStack ≤ mostOperands) && decide (meth.sig.returnType = rt) && !meth.locks && decide (parseMethodDescriptor y.desc = some meth.sig)) = true) : (Jvm.Cond.code y bytes mx rt).before a s = true := by
  simp only [Bool.and_eq_true, beq_iff_eq, Bool.not_eq_true', decide_eq_true_eq] at h5
  obtain ⟨⟨⟨⟨⟨g1, g2⟩, g3⟩, g4⟩, g5⟩, g6⟩ := h5
  simp [Cond.before, Cond.holds, Cond.value, h1, h2, h3, h4, g1, g2, g3, g4, g5, g6]
def isCode : Jvm.Cond → Bool
  | .code _ _ _ _ => true
  | _ => false
theorem all_split {L : List Jvm.Cond} {P : Jvm.Cond → Bool} (h1 : L.all (fun c => isCode c || P c) = true) (h2 : ∀ c ∈ L.filter isCode, P c = true) : L.all P = true := by
  refine List.all_eq_true.mpr fun c hc => ?_
  have h := List.all_eq_true.mp h1 c hc
  rcases Bool.eq_false_or_eq_true (isCode c) with hi | hi
  · exact h2 c (List.mem_filter.mpr ⟨hc, hi⟩)
  · simpa [hi] using h
set_option maxRecDepth 65536 in
theorem w_c0 : (Jvm.Cond.code x code maxLocals ret).before args0 about1 = true := code_word (m := ⟨1, 1⟩) (meth := k1m1) (c := k1c1) (by decide +kernel) rfl rfl rfl (by decide +kernel)
set_option maxRecDepth 65536 in
theorem w_c1 : (Jvm.Cond.code ({ cls := "com/example/predicat/predicat/kernel/IndexTuplePinLaw", name := "pick", desc := "(IIIII)I" } : Jvm.MethodName) method_3_code (6 : Nat) (Option.some Jvm.ClassFile.FieldType.int)).before args0 about1 = true := code_word (m := ⟨1, 2⟩) (meth := k1m2) (c := k1c2) (by decide +kernel) rfl rfl rfl (by decide +kernel)
set_option maxRecDepth 65536 in
theorem w_c2 : (Jvm.Cond.code ({ cls := "com/example/predicat/predicat/kernel/IndexTuplePinLaw", name := "put", desc := "([III[I)V" } : Jvm.MethodName) method_4_code (5 : Nat) (Option.none : Option Jvm.ClassFile.FieldType)).before args0 about1 = true := code_word (m := ⟨1, 3⟩) (meth := k1m3) (c := k1c3) (by decide +kernel) rfl rfl rfl (by decide +kernel)
set_option maxRecDepth 65536 in
theorem w_c3 : (Jvm.Cond.code ({ cls := "com/example/predicat/predicat/kernel/Relation", name := "<init>", desc := "(I)V" } : Jvm.MethodName) prog_55_method_1_code (3 : Nat) (Option.none : Option Jvm.ClassFile.FieldType)).before args0 about1 = true := code_word (m := ⟨2, 0⟩) (meth := k2m0) (c := k2c0) (by decide +kernel) rfl rfl rfl (by decide +kernel)
set_option maxRecDepth 65536 in
theorem w_c4 : (Jvm.Cond.code ({ cls := "java/lang/Object", name := "<init>", desc := "()V" } : Jvm.MethodName) object_method_1_code (1 : Nat) (Option.none : Option Jvm.ClassFile.FieldType)).before args0 about1 = true := code_word (m := ⟨0, 0⟩) (meth := k0m0) (c := k0c0) (by decide +kernel) rfl rfl rfl (by decide +kernel)
set_option maxRecDepth 65536 in
theorem w_c5 : (Jvm.Cond.code ({ cls := "java/util/ArrayList", name := "<init>", desc := "()V" } : Jvm.MethodName) jdk_38_method_2_code (1 : Nat) (Option.none : Option Jvm.ClassFile.FieldType)).before args0 about1 = true := code_word (m := ⟨12, 0⟩) (meth := k12m0) (c := k12c0) (by decide +kernel) rfl rfl rfl (by decide +kernel)
set_option maxRecDepth 65536 in
theorem w_c6 : (Jvm.Cond.code ({ cls := "java/util/AbstractList", name := "<init>", desc := "()V" } : Jvm.MethodName) jdk_39_method_1_code (1 : Nat) (Option.none : Option Jvm.ClassFile.FieldType)).before args0 about1 = true := code_word (m := ⟨8, 0⟩) (meth := k8m0) (c := k8c0) (by decide +kernel) rfl rfl rfl (by decide +kernel)
set_option maxRecDepth 65536 in
theorem w_c7 : (Jvm.Cond.code ({ cls := "java/util/AbstractCollection", name := "<init>", desc := "()V" } : Jvm.MethodName) jdk_22_method_1_code (1 : Nat) (Option.none : Option Jvm.ClassFile.FieldType)).before args0 about1 = true := code_word (m := ⟨5, 0⟩) (meth := k5m0) (c := k5c0) (by decide +kernel) rfl rfl rfl (by decide +kernel)
set_option maxRecDepth 65536 in
theorem w_c8 : (Jvm.Cond.code ({ cls := "java/lang/Math", name := "max", desc := "(II)I" } : Jvm.MethodName) jdk_29_method_65_code (2 : Nat) (Option.some Jvm.ClassFile.FieldType.int)).before args0 about1 = true := code_word (m := ⟨13, 1⟩) (meth := k13m1) (c := k13c1) (by decide +kernel) rfl rfl rfl (by decide +kernel)
set_option maxRecDepth 65536 in
theorem w_c9 : (Jvm.Cond.code ({ cls := "com/example/predicat/predicat/kernel/Relation", name := "addNew", desc := "([II)V" } : Jvm.MethodName) prog_55_method_7_code (5 : Nat) (Option.none : Option Jvm.ClassFile.FieldType)).before args0 about1 = true := code_word (m := ⟨2, 3⟩) (meth := k2m3) (c := k2c3) (by decide +kernel) rfl rfl rfl (by decide +kernel)
set_option maxRecDepth 65536 in
theorem w_c10 : (Jvm.Cond.code ({ cls := "com/example/predicat/predicat/kernel/Relation", name := "makeRoom", desc := "(I)V" } : Jvm.MethodName) prog_55_method_9_code (3 : Nat) (Option.none : Option Jvm.ClassFile.FieldType)).before args0 about1 = true := code_word (m := ⟨2, 4⟩) (meth := k2m4) (c := k2c4) (by decide +kernel) rfl rfl rfl (by decide +kernel)
set_option maxRecDepth 65536 in
theorem w_c11 : (Jvm.Cond.code ({ cls := "com/example/predicat/predicat/kernel/Relation", name := "fileInIndexes", desc := "(ILcom/example/predicat/predicat/kernel/Index;)V" } : Jvm.MethodName) prog_55_method_10_code (6 : Nat) (Option.none : Option Jvm.ClassFile.FieldType)).before args0 about1 = true := code_word (m := ⟨2, 5⟩) (meth := k2m5) (c := k2c5) (by decide +kernel) rfl rfl rfl (by decide +kernel)
set_option maxRecDepth 65536 in
theorem w_c12 : (Jvm.Cond.code ({ cls := "java/util/ArrayList", name := "size", desc := "()I" } : Jvm.MethodName) jdk_38_method_8_code (1 : Nat) (Option.some Jvm.ClassFile.FieldType.int)).before args0 about1 = true := code_word (m := ⟨12, 3⟩) (meth := k12m3) (c := k12c3) (by decide +kernel) rfl rfl rfl (by decide +kernel)
set_option maxRecDepth 65536 in
theorem w_c13 : (Jvm.Cond.code ({ cls := "com/example/predicat/predicat/kernel/Relation", name := "index", desc := "([I)Lcom/example/predicat/predicat/kernel/Index;" } : Jvm.MethodName) prog_55_method_12_code (4 : Nat) (Option.some (Jvm.ClassFile.FieldType.object "com/example/predicat/predicat/kernel/Index"))).before args0 about1 = true := code_word (m := ⟨2, 6⟩) (meth := k2m6) (c := k2c6) (by decide +kernel) rfl rfl rfl (by decide +kernel)
set_option maxRecDepth 65536 in
theorem w_c14 : (Jvm.Cond.code ({ cls := "java/util/ArrayList", name := "iterator", desc := "()Ljava/util/Iterator;" } : Jvm.MethodName) jdk_38_method_55_code (1 : Nat) (Option.some (Jvm.ClassFile.FieldType.object "java/util/Iterator"))).before args0 about1 = true := code_word (m := ⟨12, 8⟩) (meth := k12m8) (c := k12c8) (by decide +kernel) rfl rfl rfl (by decide +kernel)
set_option maxRecDepth 65536 in
theorem w_c15 : (Jvm.Cond.code ({ cls := "java/util/ArrayList$Itr", name := "<init>", desc := "(Ljava/util/ArrayList;)V" } : Jvm.MethodName) jdk_49_method_1_code (2 : Nat) (Option.none : Option Jvm.ClassFile.FieldType)).before args0 about1 = true := code_word (m := ⟨16, 0⟩) (meth := k16m0) (c := k16c0) (by decide +kernel) rfl rfl rfl (by decide +kernel)
set_option maxRecDepth 65536 in
theorem w_c16 : (Jvm.Cond.code ({ cls := "java/util/ArrayList$Itr", name := "hasNext", desc := "()Z" } : Jvm.MethodName) jdk_49_method_2_code (1 : Nat) (Option.some Jvm.ClassFile.FieldType.boolean)).before args0 about1 = true := code_word (m := ⟨16, 1⟩) (meth := k16m1) (c := k16c1) (by decide +kernel) rfl rfl rfl (by decide +kernel)
set_option maxRecDepth 65536 in
theorem w_c17 : (Jvm.Cond.code ({ cls := "com/example/predicat/predicat/kernel/Index", name := "<init>", desc := "(Lcom/example/predicat/predicat/kernel/Relation;[I)V" } : Jvm.MethodName) prog_13_method_1_code (9 : Nat) (Option.none : Option Jvm.ClassFile.FieldType)).before args0 about1 = true := code_word (m := ⟨17, 0⟩) (meth := k17m0) (c := k17c0) (by decide +kernel) rfl rfl rfl (by decide +kernel)
set_option maxRecDepth 65536 in
theorem w_c18 : (Jvm.Cond.code ({ cls := "com/example/predicat/predicat/kernel/Relation", name := "arity", desc := "()I" } : Jvm.MethodName) prog_55_method_2_code (1 : Nat) (Option.some Jvm.ClassFile.FieldType.int)).before args0 about1 = true := code_word (m := ⟨2, 1⟩) (meth := k2m1) (c := k2c1) (by decide +kernel) rfl rfl rfl (by decide +kernel)
set_option maxRecDepth 65536 in
theorem w_c19 : (Jvm.Cond.code ({ cls := "com/example/predicat/predicat/kernel/Index", name := "fill", desc := "(I)V" } : Jvm.MethodName) prog_13_method_4_code (6 : Nat) (Option.none : Option Jvm.ClassFile.FieldType)).before args0 about1 = true := code_word (m := ⟨17, 2⟩) (meth := k17m2) (c := k17c2) (by decide +kernel) rfl rfl rfl (by decide +kernel)
set_option maxRecDepth 65536 in
theorem w_c20 : (Jvm.Cond.code ({ cls := "java/util/ArrayList", name := "add", desc := "(Ljava/lang/Object;)Z" } : Jvm.MethodName) jdk_38_method_25_code (2 : Nat) (Option.some Jvm.ClassFile.FieldType.boolean)).before args0 about1 = true := code_word (m := ⟨12, 7⟩) (meth := k12m7) (c := k12c7) (by decide +kernel) rfl rfl rfl (by decide +kernel)
set_option maxRecDepth 65536 in
theorem w_c21 : (Jvm.Cond.code ({ cls := "java/util/ArrayList", name := "add", desc := "(Ljava/lang/Object;[Ljava/lang/Object;I)V" } : Jvm.MethodName) jdk_38_method_24_code (4 : Nat) (Option.none : Option Jvm.ClassFile.FieldType)).before args0 about1 = true := code_word (m := ⟨12, 6⟩) (meth := k12m6) (c := k12c6) (by decide +kernel) rfl rfl rfl (by decide +kernel)
set_option maxRecDepth 65536 in
theorem w_c22 : (Jvm.Cond.code ({ cls := "java/util/ArrayList", name := "grow", desc := "()[Ljava/lang/Object;" } : Jvm.MethodName) jdk_38_method_7_code (1 : Nat) (Option.some (Jvm.ClassFile.FieldType.array (Jvm.ClassFile.FieldType.object "java/lang/Object")))).before args0 about1 = true := code_word (m := ⟨12, 2⟩) (meth := k12m2) (c := k12c2) (by decide +kernel) rfl rfl rfl (by decide +kernel)
set_option maxRecDepth 65536 in
theorem w_c23 : (Jvm.Cond.code ({ cls := "java/util/ArrayList", name := "grow", desc := "(I)[Ljava/lang/Object;" } : Jvm.MethodName) jdk_38_method_6_code (4 : Nat) (Option.some (Jvm.ClassFile.FieldType.array (Jvm.ClassFile.FieldType.object "java/lang/Object")))).before args0 about1 = true := code_word (m := ⟨12, 1⟩) (meth := k12m1) (c := k12c1) (by decide +kernel) rfl rfl rfl (by decide +kernel)
set_option maxRecDepth 65536 in
theorem w_c24 : (Jvm.Cond.code ({ cls := "java/util/ArrayList", name := "get", desc := "(I)Ljava/lang/Object;" } : Jvm.MethodName) jdk_38_method_20_code (2 : Nat) (Option.some (Jvm.ClassFile.FieldType.object "java/lang/Object"))).before args0 about1 = true := code_word (m := ⟨12, 5⟩) (meth := k12m5) (c := k12c5) (by decide +kernel) rfl rfl rfl (by decide +kernel)
set_option maxRecDepth 65536 in
theorem w_c25 : (Jvm.Cond.code ({ cls := "java/util/Objects", name := "checkIndex", desc := "(II)I" } : Jvm.MethodName) jdk_31_method_17_code (2 : Nat) (Option.some Jvm.ClassFile.FieldType.int)).before args0 about1 = true := code_word (m := ⟨18, 1⟩) (meth := k18m1) (c := k18c1) (by decide +kernel) rfl rfl rfl (by decide +kernel)
set_option maxRecDepth 65536 in
theorem w_c26 : (Jvm.Cond.code ({ cls := "jdk/internal/util/Preconditions", name := "checkIndex", desc := "(IILjava/util/function/BiFunction;)I" } : Jvm.MethodName) jdk_41_method_11_code (3 : Nat) (Option.some Jvm.ClassFile.FieldType.int)).before args0 about1 = true := code_word (m := ⟨19, 1⟩) (meth := k19m1) (c := k19c1) (by decide +kernel) rfl rfl rfl (by decide +kernel)
set_option maxRecDepth 65536 in
theorem w_c27 : (Jvm.Cond.code ({ cls := "java/util/ArrayList", name := "elementData", desc := "(I)Ljava/lang/Object;" } : Jvm.MethodName) jdk_38_method_18_code (2 : Nat) (Option.some (Jvm.ClassFile.FieldType.object "java/lang/Object"))).before args0 about1 = true := code_word (m := ⟨12, 4⟩) (meth := k12m4) (c := k12c4) (by decide +kernel) rfl rfl rfl (by decide +kernel)
set_option maxRecDepth 65536 in
theorem w_c28 : (Jvm.Cond.code ({ cls := "com/example/predicat/predicat/kernel/Index", name := "add", desc := "(I)V" } : Jvm.MethodName) prog_13_method_3_code (4 : Nat) (Option.none : Option Jvm.ClassFile.FieldType)).before args0 about1 = true := code_word (m := ⟨17, 1⟩) (meth := k17m1) (c := k17c1) (by decide +kernel) rfl rfl rfl (by decide +kernel)
set_option maxRecDepth 65536 in
theorem w_c29 : (Jvm.Cond.code ({ cls := "com/example/predicat/predicat/kernel/Index", name := "keyOf", desc := "(I[I)V" } : Jvm.MethodName) prog_13_method_18_code (4 : Nat) (Option.none : Option Jvm.ClassFile.FieldType)).before args0 about1 = true := code_word (m := ⟨17, 9⟩) (meth := k17m9) (c := k17c9) (by decide +kernel) rfl rfl rfl (by decide +kernel)
set_option maxRecDepth 65536 in
theorem w_c30 : (Jvm.Cond.code ({ cls := "com/example/predicat/predicat/kernel/Relation", name := "get", desc := "(II)I" } : Jvm.MethodName) prog_55_method_4_code (3 : Nat) (Option.some Jvm.ClassFile.FieldType.int)).before args0 about1 = true := code_word (m := ⟨2, 2⟩) (meth := k2m2) (c := k2c2) (by decide +kernel) rfl rfl rfl (by decide +kernel)
set_option maxRecDepth 65536 in
theorem w_c31 : (Jvm.Cond.code ({ cls := "com/example/predicat/predicat/kernel/Index", name := "hash", desc := "([II)I" } : Jvm.MethodName) prog_13_method_9_code (3 : Nat) (Option.some Jvm.ClassFile.FieldType.int)).before args0 about1 = true := code_word (m := ⟨17, 4⟩) (meth := k17m4) (c := k17c4) (by decide +kernel) rfl rfl rfl (by decide +kernel)
set_option maxRecDepth 65536 in
theorem w_c32 : (Jvm.Cond.code ({ cls := "com/example/predicat/predicat/kernel/Index", name := "hash", desc := "([III)I" } : Jvm.MethodName) prog_13_method_20_code (5 : Nat) (Option.some Jvm.ClassFile.FieldType.int)).before args0 about1 = true := code_word (m := ⟨17, 10⟩) (meth := k17m10) (c := k17c10) (by decide +kernel) rfl rfl rfl (by decide +kernel)
set_option maxRecDepth 65536 in
theorem w_c33 : (Jvm.Cond.code ({ cls := "com/example/predicat/predicat/kernel/Index", name := "slotOf", desc := "([III)I" } : Jvm.MethodName) prog_13_method_14_code (6 : Nat) (Option.some Jvm.ClassFile.FieldType.int)).before args0 about1 = true := code_word (m := ⟨17, 6⟩) (meth := k17m6) (c := k17c6) (by decide +kernel) rfl rfl rfl (by decide +kernel)
set_option maxRecDepth 65536 in
theorem w_c34 : (Jvm.Cond.code ({ cls := "com/example/predicat/predicat/kernel/Index", name := "addKey", desc := "(II[II)V" } : Jvm.MethodName) prog_13_method_16_code (6 : Nat) (Option.none : Option Jvm.ClassFile.FieldType)).before args0 about1 = true := code_word (m := ⟨17, 8⟩) (meth := k17m8) (c := k17c8) (by decide +kernel) rfl rfl rfl (by decide +kernel)
set_option maxRecDepth 65536 in
theorem w_c35 : (Jvm.Cond.code ({ cls := "com/example/predicat/predicat/kernel/Index", name := "holds", desc := "(I[II)Z" } : Jvm.MethodName) prog_13_method_15_code (5 : Nat) (Option.some Jvm.ClassFile.FieldType.boolean)).before args0 about1 = true := code_word (m := ⟨17, 7⟩) (meth := k17m7) (c := k17c7) (by decide +kernel) rfl rfl rfl (by decide +kernel)
set_option maxRecDepth 65536 in
theorem w_c36 : (Jvm.Cond.code ({ cls := "com/example/predicat/predicat/kernel/Index", name := "find", desc := "([I)I" } : Jvm.MethodName) prog_13_method_8_code (2 : Nat) (Option.some Jvm.ClassFile.FieldType.int)).before args0 about1 = true := code_word (m := ⟨17, 3⟩) (meth := k17m3) (c := k17c3) (by decide +kernel) rfl rfl rfl (by decide +kernel)
set_option maxRecDepth 65536 in
theorem w_c37 : (Jvm.Cond.code ({ cls := "com/example/predicat/predicat/kernel/Index", name := "tuple", desc := "(II)I" } : Jvm.MethodName) prog_13_method_12_code (4 : Nat) (Option.some Jvm.ClassFile.FieldType.int)).before args0 about1 = true := code_word (m := ⟨17, 5⟩) (meth := k17m5) (c := k17c5) (by decide +kernel) rfl rfl rfl (by decide +kernel)
set_option maxRecDepth 65536 in
theorem w_c38 : (Jvm.Cond.code ({ cls := "com/example/predicat/predicat/kernel/IndexTuplePinLaw", name := "nth", desc := "(IZZZZZ)I" } : Jvm.MethodName) method_5_code (7 : Nat) (Option.some Jvm.ClassFile.FieldType.int)).before args0 about1 = true := code_word (m := ⟨1, 4⟩) (meth := k1m4) (c := k1c4) (by decide +kernel) rfl rfl rfl (by decide +kernel)
set_option maxRecDepth 65536 in
theorem w_c39 : (Jvm.Cond.code ({ cls := "java/util/Arrays", name := "copyOf", desc := "([II)[I" } : Jvm.MethodName) jdk_65_method_123_code (3 : Nat) (Option.some (Jvm.ClassFile.FieldType.array Jvm.ClassFile.FieldType.int))).before args0 about1 = true := code_word (m := ⟨20, 1⟩) (meth := k20m1) (c := k20c1) (by decide +kernel) rfl rfl rfl (by decide +kernel)
set_option maxRecDepth 65536 in
theorem w_c40 : (Jvm.Cond.code ({ cls := "java/lang/Math", name := "min", desc := "(II)I" } : Jvm.MethodName) jdk_29_method_69_code (2 : Nat) (Option.some Jvm.ClassFile.FieldType.int)).before args0 about1 = true := code_word (m := ⟨13, 2⟩) (meth := k13m2) (c := k13c2) (by decide +kernel) rfl rfl rfl (by decide +kernel)
def codes1 : List Jvm.Cond := [Jvm.Cond.code x code maxLocals ret, Jvm.Cond.code ({ cls := "com/example/predicat/predicat/kernel/IndexTuplePinLaw", name := "pick", desc := "(IIIII)I" } : Jvm.MethodName) method_3_code (6 : Nat) (Option.some Jvm.ClassFile.FieldType.int), Jvm.Cond.code ({ cls := "com/example/predicat/predicat/kernel/IndexTuplePinLaw", name := "put", desc := "([III[I)V" } : Jvm.MethodName) method_4_code (5 : Nat) (Option.none : Option Jvm.ClassFile.FieldType), Jvm.Cond.code ({ cls := "com/example/predicat/predicat/kernel/Relation", name := "<init>", desc := "(I)V" } : Jvm.MethodName) prog_55_method_1_code (3 : Nat) (Option.none : Option Jvm.ClassFile.FieldType), Jvm.Cond.code ({ cls := "java/lang/Object", name := "<init>", desc := "()V" } : Jvm.MethodName) object_method_1_code (1 : Nat) (Option.none : Option Jvm.ClassFile.FieldType), Jvm.Cond.code ({ cls := "java/util/ArrayList", name := "<init>", desc := "()V" } : Jvm.MethodName) jdk_38_method_2_code (1 : Nat) (Option.none : Option Jvm.ClassFile.FieldType), Jvm.Cond.code ({ cls := "java/util/AbstractList", name := "<init>", desc := "()V" } : Jvm.MethodName) jdk_39_method_1_code (1 : Nat) (Option.none : Option Jvm.ClassFile.FieldType), Jvm.Cond.code ({ cls := "java/util/AbstractCollection", name := "<init>", desc := "()V" } : Jvm.MethodName) jdk_22_method_1_code (1 : Nat) (Option.none : Option Jvm.ClassFile.FieldType), Jvm.Cond.code ({ cls := "java/lang/Math", name := "max", desc := "(II)I" } : Jvm.MethodName) jdk_29_method_65_code (2 : Nat) (Option.some Jvm.ClassFile.FieldType.int), Jvm.Cond.code ({ cls := "com/example/predicat/predicat/kernel/Relation", name := "addNew", desc := "([II)V" } : Jvm.MethodName) prog_55_method_7_code (5 : Nat) (Option.none : Option Jvm.ClassFile.FieldType), Jvm.Cond.code ({ cls := "com/example/predicat/predicat/kernel/Relation", name := "makeRoom", desc := "(I)V" } : Jvm.MethodName) prog_55_method_9_code (3 : Nat) (Option.none : Option Jvm.ClassFile.FieldType), Jvm.Cond.code ({ cls := "com/example/predicat/predicat/kernel/Relation", name := "fileInIndexes", desc := "(ILcom/example/predicat/predicat/kernel/Index;)V" } : Jvm.MethodName) prog_55_method_10_code (6 : Nat) (Option.none : Option Jvm.ClassFile.FieldType), Jvm.Cond.code ({ cls := "java/util/ArrayList", name := "size", desc := "()I" } : Jvm.MethodName) jdk_38_method_8_code (1 : Nat) (Option.some Jvm.ClassFile.FieldType.int), Jvm.Cond.code ({ cls := "com/example/predicat/predicat/kernel/Relation", name := "index", desc := "([I)Lcom/example/predicat/predicat/kernel/Index;" } : Jvm.MethodName) prog_55_method_12_code (4 : Nat) (Option.some (Jvm.ClassFile.FieldType.object "com/example/predicat/predicat/kernel/Index")), Jvm.Cond.code ({ cls := "java/util/ArrayList", name := "iterator", desc := "()Ljava/util/Iterator;" } : Jvm.MethodName) jdk_38_method_55_code (1 : Nat) (Option.some (Jvm.ClassFile.FieldType.object "java/util/Iterator")), Jvm.Cond.code ({ cls := "java/util/ArrayList$Itr", name := "<init>", desc := "(Ljava/util/ArrayList;)V" } : Jvm.MethodName) jdk_49_method_1_code (2 : Nat) (Option.none : Option Jvm.ClassFile.FieldType), Jvm.Cond.code ({ cls := "java/util/ArrayList$Itr", name := "hasNext", desc := "()Z" } : Jvm.MethodName) jdk_49_method_2_code (1 : Nat) (Option.some Jvm.ClassFile.FieldType.boolean), Jvm.Cond.code ({ cls := "com/example/predicat/predicat/kernel/Index", name := "<init>", desc := "(Lcom/example/predicat/predicat/kernel/Relation;[I)V" } : Jvm.MethodName) prog_13_method_1_code (9 : Nat) (Option.none : Option Jvm.ClassFile.FieldType), Jvm.Cond.code ({ cls := "com/example/predicat/predicat/kernel/Relation", name := "arity", desc := "()I" } : Jvm.MethodName) prog_55_method_2_code (1 : Nat) (Option.some Jvm.ClassFile.FieldType.int), Jvm.Cond.code ({ cls := "com/example/predicat/predicat/kernel/Index", name := "fill", desc := "(I)V" } : Jvm.MethodName) prog_13_method_4_code (6 : Nat) (Option.none : Option Jvm.ClassFile.FieldType), Jvm.Cond.code ({ cls := "java/util/ArrayList", name := "add", desc := "(Ljava/lang/Object;)Z" } : Jvm.MethodName) jdk_38_method_25_code (2 : Nat) (Option.some Jvm.ClassFile.FieldType.boolean), Jvm.Cond.code ({ cls := "java/util/ArrayList", name := "add", desc := "(Ljava/lang/Object;[Ljava/lang/Object;I)V" } : Jvm.MethodName) jdk_38_method_24_code (4 : Nat) (Option.none : Option Jvm.ClassFile.FieldType), Jvm.Cond.code ({ cls := "java/util/ArrayList", name := "grow", desc := "()[Ljava/lang/Object;" } : Jvm.MethodName) jdk_38_method_7_code (1 : Nat) (Option.some (Jvm.ClassFile.FieldType.array (Jvm.ClassFile.FieldType.object "java/lang/Object"))), Jvm.Cond.code ({ cls := "java/util/ArrayList", name := "grow", desc := "(I)[Ljava/lang/Object;" } : Jvm.MethodName) jdk_38_method_6_code (4 : Nat) (Option.some (Jvm.ClassFile.FieldType.array (Jvm.ClassFile.FieldType.object "java/lang/Object"))), Jvm.Cond.code ({ cls := "java/util/ArrayList", name := "get", desc := "(I)Ljava/lang/Object;" } : Jvm.MethodName) jdk_38_method_20_code (2 : Nat) (Option.some (Jvm.ClassFile.FieldType.object "java/lang/Object")), Jvm.Cond.code ({ cls := "java/util/Objects", name := "checkIndex", desc := "(II)I" } : Jvm.MethodName) jdk_31_method_17_code (2 : Nat) (Option.some Jvm.ClassFile.FieldType.int), Jvm.Cond.code ({ cls := "jdk/internal/util/Preconditions", name := "checkIndex", desc := "(IILjava/util/function/BiFunction;)I" } : Jvm.MethodName) jdk_41_method_11_code (3 : Nat) (Option.some Jvm.ClassFile.FieldType.int), Jvm.Cond.code ({ cls := "java/util/ArrayList", name := "elementData", desc := "(I)Ljava/lang/Object;" } : Jvm.MethodName) jdk_38_method_18_code (2 : Nat) (Option.some (Jvm.ClassFile.FieldType.object "java/lang/Object")), Jvm.Cond.code ({ cls := "com/example/predicat/predicat/kernel/Index", name := "add", desc := "(I)V" } : Jvm.MethodName) prog_13_method_3_code (4 : Nat) (Option.none : Option Jvm.ClassFile.FieldType), Jvm.Cond.code ({ cls := "com/example/predicat/predicat/kernel/Index", name := "keyOf", desc := "(I[I)V" } : Jvm.MethodName) prog_13_method_18_code (4 : Nat) (Option.none : Option Jvm.ClassFile.FieldType), Jvm.Cond.code ({ cls := "com/example/predicat/predicat/kernel/Relation", name := "get", desc := "(II)I" } : Jvm.MethodName) prog_55_method_4_code (3 : Nat) (Option.some Jvm.ClassFile.FieldType.int), Jvm.Cond.code ({ cls := "com/example/predicat/predicat/kernel/Index", name := "hash", desc := "([II)I" } : Jvm.MethodName) prog_13_method_9_code (3 : Nat) (Option.some Jvm.ClassFile.FieldType.int), Jvm.Cond.code ({ cls := "com/example/predicat/predicat/kernel/Index", name := "hash", desc := "([III)I" } : Jvm.MethodName) prog_13_method_20_code (5 : Nat) (Option.some Jvm.ClassFile.FieldType.int), Jvm.Cond.code ({ cls := "com/example/predicat/predicat/kernel/Index", name := "slotOf", desc := "([III)I" } : Jvm.MethodName) prog_13_method_14_code (6 : Nat) (Option.some Jvm.ClassFile.FieldType.int), Jvm.Cond.code ({ cls := "com/example/predicat/predicat/kernel/Index", name := "addKey", desc := "(II[II)V" } : Jvm.MethodName) prog_13_method_16_code (6 : Nat) (Option.none : Option Jvm.ClassFile.FieldType), Jvm.Cond.code ({ cls := "com/example/predicat/predicat/kernel/Index", name := "holds", desc := "(I[II)Z" } : Jvm.MethodName) prog_13_method_15_code (5 : Nat) (Option.some Jvm.ClassFile.FieldType.boolean), Jvm.Cond.code ({ cls := "com/example/predicat/predicat/kernel/Index", name := "find", desc := "([I)I" } : Jvm.MethodName) prog_13_method_8_code (2 : Nat) (Option.some Jvm.ClassFile.FieldType.int), Jvm.Cond.code ({ cls := "com/example/predicat/predicat/kernel/Index", name := "tuple", desc := "(II)I" } : Jvm.MethodName) prog_13_method_12_code (4 : Nat) (Option.some Jvm.ClassFile.FieldType.int), Jvm.Cond.code ({ cls := "com/example/predicat/predicat/kernel/IndexTuplePinLaw", name := "nth", desc := "(IZZZZZ)I" } : Jvm.MethodName) method_5_code (7 : Nat) (Option.some Jvm.ClassFile.FieldType.int), Jvm.Cond.code ({ cls := "java/util/Arrays", name := "copyOf", desc := "([II)[I" } : Jvm.MethodName) jdk_65_method_123_code (3 : Nat) (Option.some (Jvm.ClassFile.FieldType.array Jvm.ClassFile.FieldType.int)), Jvm.Cond.code ({ cls := "java/lang/Math", name := "min", desc := "(II)I" } : Jvm.MethodName) jdk_29_method_69_code (2 : Nat) (Option.some Jvm.ClassFile.FieldType.int)]
set_option maxRecDepth 65536 in
theorem codes_eq : words1.filter isCode = codes1 := rfl
theorem w_codes : ∀ c ∈ words1.filter isCode, c.before args0 about1 = true := by
  rw [codes_eq]
  intro c hc
  simp only [codes1, List.mem_cons, List.not_mem_nil, or_false] at hc
  rcases hc with rfl | rfl | rfl | rfl | rfl | rfl | rfl | rfl | rfl | rfl | rfl | rfl | rfl | rfl | rfl | rfl | rfl | rfl | rfl | rfl | rfl | rfl | rfl | rfl | rfl | rfl | rfl | rfl | rfl | rfl | rfl | rfl | rfl | rfl | rfl | rfl | rfl | rfl | rfl | rfl | rfl
  · exact w_c0
  · exact w_c1
  · exact w_c2
  · exact w_c3
  · exact w_c4
  · exact w_c5
  · exact w_c6
  · exact w_c7
  · exact w_c8
  · exact w_c9
  · exact w_c10
  · exact w_c11
  · exact w_c12
  · exact w_c13
  · exact w_c14
  · exact w_c15
  · exact w_c16
  · exact w_c17
  · exact w_c18
  · exact w_c19
  · exact w_c20
  · exact w_c21
  · exact w_c22
  · exact w_c23
  · exact w_c24
  · exact w_c25
  · exact w_c26
  · exact w_c27
  · exact w_c28
  · exact w_c29
  · exact w_c30
  · exact w_c31
  · exact w_c32
  · exact w_c33
  · exact w_c34
  · exact w_c35
  · exact w_c36
  · exact w_c37
  · exact w_c38
  · exact w_c39
  · exact w_c40
set_option maxRecDepth 65536 in
theorem w_t1 : (words1.take 24).all (fun c => isCode c || c.before args0 about1) = true := by decide +kernel
set_option maxRecDepth 65536 in
theorem w_t2 : ((words1.drop 24).take 24).all (fun c => isCode c || c.before args0 about1) = true := by decide +kernel
set_option maxRecDepth 65536 in
theorem w_t3 : (((words1.drop 24).drop 24).take 24).all (fun c => isCode c || c.before args0 about1) = true := by decide +kernel
set_option maxRecDepth 65536 in
theorem w_t4 : ((((words1.drop 24).drop 24).drop 24).take 24).all (fun c => isCode c || c.before args0 about1) = true := by decide +kernel
set_option maxRecDepth 65536 in
theorem w_t5 : (((((words1.drop 24).drop 24).drop 24).drop 24).take 24).all (fun c => isCode c || c.before args0 about1) = true := by decide +kernel
set_option maxRecDepth 65536 in
theorem w_t6 : ((((((words1.drop 24).drop 24).drop 24).drop 24).drop 24).take 24).all (fun c => isCode c || c.before args0 about1) = true := by decide +kernel
set_option maxRecDepth 65536 in
theorem w_t7 : (((((((words1.drop 24).drop 24).drop 24).drop 24).drop 24).drop 24).take 24).all (fun c => isCode c || c.before args0 about1) = true := by decide +kernel
set_option maxRecDepth 65536 in
theorem w_t8 : ((((((((words1.drop 24).drop 24).drop 24).drop 24).drop 24).drop 24).drop 24).take 24).all (fun c => isCode c || c.before args0 about1) = true := by decide +kernel
set_option maxRecDepth 65536 in
theorem w_t9 : (((((((((words1.drop 24).drop 24).drop 24).drop 24).drop 24).drop 24).drop 24).drop 24).take 24).all (fun c => isCode c || c.before args0 about1) = true := by decide +kernel
set_option maxRecDepth 65536 in
theorem w_t10 : ((((((((((words1.drop 24).drop 24).drop 24).drop 24).drop 24).drop 24).drop 24).drop 24).drop 24).take 24).all (fun c => isCode c || c.before args0 about1) = true := by decide +kernel
set_option maxRecDepth 65536 in
theorem w_t11 : (((((((((((words1.drop 24).drop 24).drop 24).drop 24).drop 24).drop 24).drop 24).drop 24).drop 24).drop 24).take 24).all (fun c => isCode c || c.before args0 about1) = true := by decide +kernel
set_option maxRecDepth 65536 in
theorem w_t12 : ((((((((((((words1.drop 24).drop 24).drop 24).drop 24).drop 24).drop 24).drop 24).drop 24).drop 24).drop 24).drop 24).take 24).all (fun c => isCode c || c.before args0 about1) = true := by decide +kernel
set_option maxRecDepth 65536 in
theorem w_t13 : ((((((((((((words1.drop 24).drop 24).drop 24).drop 24).drop 24).drop 24).drop 24).drop 24).drop 24).drop 24).drop 24).drop 24).all (fun c => isCode c || c.before args0 about1) = true := by decide +kernel
theorem w_tables : (allAtoms (Jvm.Cond.code x code maxLocals ret :: tables_1)).before args0 about1 = true := by
  rw [allAtoms_all]
  show words1.all (fun c => c.before args0 about1) = true
  refine all_split ?_ w_codes
  rw [← List.take_append_drop 24 words1, List.all_append, w_t1, ← List.take_append_drop 24 (words1.drop 24), List.all_append, w_t2, ← List.take_append_drop 24 ((words1.drop 24).drop 24), List.all_append, w_t3, ← List.take_append_drop 24 (((words1.drop 24).drop 24).drop 24), List.all_append, w_t4, ← List.take_append_drop 24 ((((words1.drop 24).drop 24).drop 24).drop 24), List.all_append, w_t5, ← List.take_append_drop 24 (((((words1.drop 24).drop 24).drop 24).drop 24).drop 24), List.all_append, w_t6, ← List.take_append_drop 24 ((((((words1.drop 24).drop 24).drop 24).drop 24).drop 24).drop 24), List.all_append, w_t7, ← List.take_append_drop 24 (((((((words1.drop 24).drop 24).drop 24).drop 24).drop 24).drop 24).drop 24), List.all_append, w_t8, ← List.take_append_drop 24 ((((((((words1.drop 24).drop 24).drop 24).drop 24).drop 24).drop 24).drop 24).drop 24), List.all_append, w_t9, ← List.take_append_drop 24 (((((((((words1.drop 24).drop 24).drop 24).drop 24).drop 24).drop 24).drop 24).drop 24).drop 24), List.all_append, w_t10, ← List.take_append_drop 24 ((((((((((words1.drop 24).drop 24).drop 24).drop 24).drop 24).drop 24).drop 24).drop 24).drop 24).drop 24), List.all_append, w_t11, ← List.take_append_drop 24 (((((((((((words1.drop 24).drop 24).drop 24).drop 24).drop 24).drop 24).drop 24).drop 24).drop 24).drop 24).drop 24), List.all_append, w_t12, w_t13]
  rfl
set_option maxRecDepth 65536 in
theorem w_rest : rest_1_c.before args0 about1 = true := by decide +kernel
set_option maxRecDepth 65536 in
theorem w_case : (Jvm.Cond.and given_1 narrow_1).before args0 about1 = true := by decide +kernel
theorem w_applies : (headSpec (Jvm.Cond.code x code maxLocals ret :: tables_1) room_1).applies x e0.platform about1 = true :=
  (Spec.applies_iff w_frames).mpr ⟨w_running, w_runnable, w_alone, w_named, w_hears, w_ripe, w_room, w_tables⟩
theorem atStart : AtStart classFile x code maxLocals ret World_1 tables_1 room_1 Calls_1 rest_1 Pre_1 launch0 p0 e0 about1 theMethod args0 below0 :=
  ⟨lists_1, trivial, launch0.admits_env _ _ _, launch0.least_env, fairChoices_fair.cas, fairChoices_fair.clock, w_frames, w_args, w_heap, w_applies, trivial, w_rest, w_case⟩
end start1
theorem witness_1 : WitnessClaimed_1 := ⟨start1.p0, start1.e0, start1.about1, start1.theMethod, start1.args0, start1.below0, start1.atStart⟩
end Jvm.Pilot.@@N@@
