import JvmDerived
import JvmDerived.Pilot.@@N@@Statement
import JvmDerived.Pilot.@@N@@Code
set_option linter.unusedVariables false
set_option linter.unusedSimpArgs false
/-! ## A small machine: its steps are plain functions; one theorem carries its runs to the model's -/
namespace Jvm.MV
open Jvm Jvm.ClassFile Sem Op Lib Jvm.Free Jvm.Stand Jvm.LawKit Jvm.RoadKit Bundle
abbrev MH : Type := List (Nat × List Value)
abbrev MS : Type := Nat × List Slot × List Value × MH
abbrev MR : Type := Option Value × MH
abbrev Orc : Type := Nat → List Value → MH → Option MR
abbrev MOp : Type := Orc → List Slot → List Value → MH → Option (MS ⊕ MR)
abbrev POp : Type := List Slot → List Value → Option (Nat × List Slot × List Value)
abbrev Tab : Type := List (FieldType × Nat × List (String × String × String × FieldType))
abbrev Meths : Type := List (Nat × List (Nat × MOp))
def lift (g : POp) : MOp := fun _ L S H => match g L S with
  | some (n, L', S') => some (.inl (n, L', S', H))
  | none => none
def look : List (Nat × MOp) → Nat → Option MOp
  | [], _ => none
  | (q, f) :: r, pc => match Nat.beq q pc with
    | true => some f
    | false => look r pc
def mrun (call : Orc) (code : List (Nat × MOp)) : Nat → MS → Option MR
  | 0, _ => none
  | n + 1, (pc, L, S, H) => match look code pc with
    | none => none
    | some f => match f call L S H with
      | none => none
      | some (.inl st) => mrun call code n st
      | some (.inr r) => some r
def loc : List Value → List Slot
  | [] => []
  | v :: r => if v.category = 2 then .val v :: .second :: loc r else .val v :: loc r
def mloc (as : List Value) (n : Nat) : List Slot := loc as ++ List.replicate (n - (loc as).length) .unset
def callN (D : Meths) (F : Nat) : Nat → Orc
  | 0 => fun _ _ _ => none
  | k + 1 => fun μ as H => match D[μ]? with
    | none => none
    | some (n, code) => if (loc as).length ≤ n then mrun (callN D F k) code F (0, mloc as n, [], H) else none
def Le (c c' : Orc) : Prop := ∀ μ as H r, c μ as H = some r → c' μ as H = some r
def Mono (f : MOp) : Prop := ∀ c c' L S H r, Le c c' → f c L S H = some r → f c' L S H = some r
theorem mono_lift (g : POp) : Mono (lift g) := fun _ _ _ _ _ _ _ h => h
theorem look_mem {code : List (Nat × MOp)} {pc : Nat} {f : MOp} (h : look code pc = some f) : (pc, f) ∈ code := by
  induction code with
  | nil => cases h
  | cons q r ih =>
    obtain ⟨q, f'⟩ := q
    simp only [look] at h
    cases hb : Nat.beq q pc with
    | true =>
      rw [hb] at h
      cases h
      cases Nat.eq_of_beq_eq_true hb
      exact List.mem_cons_self ..
    | false =>
      rw [hb] at h
      exact List.mem_cons_of_mem _ (ih h)
theorem mrun_mono {code : List (Nat × MOp)} (hm : ∀ q ∈ code, Mono q.2) {c c' : Orc} (hl : Le c c') : ∀ n n' st r, n ≤ n' → mrun c code n st = some r → mrun c' code n' st = some r
  | 0, _, _, _, _, h => by cases h
  | n + 1, 0, _, _, hn, _ => by omega
  | n + 1, n' + 1, (pc, L, S, H), r, hn, h => by
    simp only [mrun] at h ⊢
    cases hk : look code pc with
    | none => simp [hk] at h
    | some f =>
      simp only [hk] at h ⊢
      cases hf : f c L S H with
      | none => simp [hf] at h
      | some q =>
        rw [hf] at h
        have hm' : f c' L S H = some q := hm _ (look_mem hk) c c' L S H q hl hf
        rw [hm']
        cases q with
        | inl st => exact mrun_mono hm hl n n' st r (by omega) h
        | inr r' => exact h
theorem callN_mono {D : Meths} (hD : ∀ q ∈ D, ∀ w ∈ q.2, Mono w.2) {F F' : Nat} (hF : F ≤ F') : ∀ k k', k ≤ k' → Le (callN D F k) (callN D F' k')
  | 0, _, _ => fun _ _ _ _ h => by cases h
  | k + 1, 0, h => by omega
  | k + 1, k' + 1, hk => fun μ as H r h => by
    simp only [callN] at h ⊢
    cases hq : D[μ]? with
    | none => simp [hq] at h
    | some q =>
      obtain ⟨n, code⟩ := q
      simp only [hq] at h ⊢
      split at h
      · rw [if_pos (by assumption)]
        exact mrun_mono (hD _ (List.mem_of_getElem? hq)) (callN_mono hD hF k k' (by omega)) F F' _ r hF h
      · cases h
/-! what it means to end with r -/
def Eval (D : Meths) (μ : Nat) (as : List Value) (H : MH) (r : MR) : Prop := ∃ F k, callN D F k μ as H = some r
def Go (D : Meths) (code : List (Nat × MOp)) (st : MS) (r : MR) : Prop := ∃ F k n, mrun (callN D F k) code n st = some r
section Rules
variable {D : Meths} {code : List (Nat × MOp)} {pc : Nat} {L : List Slot} {S : List Value} {H : MH} {f : MOp} {st' : MS} {r : MR}
theorem Go.step (hl : look code pc = some f) (hf : ∀ c, f c L S H = some (.inl st')) (h : Go D code st' r) : Go D code (pc, L, S, H) r := by
  obtain ⟨F, k, n, h⟩ := h
  exact ⟨F, k, n + 1, by simp only [mrun, hl, hf]; exact h⟩
theorem Go.ret (hl : look code pc = some f) (hf : ∀ c, f c L S H = some (.inr r)) : Go D code (pc, L, S, H) r :=
  ⟨0, 0, 1, by simp only [mrun, hl, hf]⟩
theorem Go.call (hD : ∀ q ∈ D, ∀ w ∈ q.2, Mono w.2) (hc : ∀ w ∈ code, Mono w.2) {μ : Nat} {as : List Value} {H1 : MH} {r1 : MR} (hE : Eval D μ as H1 r1) (hl : look code pc = some f) (hf : ∀ c : Orc, c μ as H1 = some r1 → f c L S H = some (.inl st')) (h : Go D code st' r) : Go D code (pc, L, S, H) r := by
  obtain ⟨F, k, n, h⟩ := h
  obtain ⟨F1, k1, h1⟩ := hE
  have m1 := callN_mono hD (Nat.le_max_left F F1) k (max k k1) (Nat.le_max_left ..)
  have m2 := callN_mono hD (Nat.le_max_right F F1) k1 (max k k1) (Nat.le_max_right ..)
  refine ⟨max F F1, max k k1, n + 1, ?_⟩
  simp only [mrun, hl, hf _ (m2 _ _ _ _ h1)]
  exact mrun_mono hc m1 n n _ _ (Nat.le_refl _) h
theorem Eval.intro (hD : ∀ q ∈ D, ∀ w ∈ q.2, Mono w.2) {μ : Nat} {as : List Value} {n : Nat} (hq : D[μ]? = some (n, code)) (hn : (loc as).length ≤ n) (h : Go D code (0, mloc as n, [], H) r) : Eval D μ as H r := by
  obtain ⟨F, k, n', h⟩ := h
  refine ⟨max F n', k + 1, ?_⟩
  simp only [callN, hq, if_pos hn]
  exact mrun_mono (hD _ (List.mem_of_getElem? hq)) (callN_mono hD (Nat.le_max_left ..) k k (Nat.le_refl _)) _ _ _ _ (Nat.le_max_right ..) h
end Rules
/-! ### the plain steps -/
def mset (L : List Slot) (k : Nat) (v : Value) : Option (List Slot) := match L[k]? with
  | some .unset => some (L.set k (.val v))
  | some (.val w) => match w.category with
    | 1 => some (L.set k (.val v))
    | _ => none
  | _ => none
def mset2 (L : List Slot) (k : Nat) (v : Value) : Option (List Slot) := match L[k]? with
  | some .unset => match L[k + 1]? with
    | some .unset => some ((L.set k (.val v)).set (k + 1) .second)
    | _ => none
  | _ => none
def pIld (k n : Nat) : POp := fun L S => match L[k]? with
  | some (.val (.int x)) => some (n, L, .int x :: S)
  | _ => none
def pLld (k n : Nat) : POp := fun L S => match L[k]? with
  | some (.val (.long x)) => some (n, L, .long x :: S)
  | _ => none
def pAld (k n : Nat) : POp := fun L S => match L[k]? with
  | some (.val (.ref x)) => some (n, L, .ref x :: S)
  | some (.val .null) => some (n, L, .null :: S)
  | _ => none
def pIst (k n : Nat) : POp := fun L S => match S with
  | .int x :: S' => match mset L k (.int x) with
    | some L' => some (n, L', S')
    | none => none
  | _ => none
def pLst (k n : Nat) : POp := fun L S => match S with
  | .long x :: S' => match mset2 L k (.long x) with
    | some L' => some (n, L', S')
    | none => none
  | _ => none
def pAst (k n : Nat) : POp := fun L S => match S with
  | .ref x :: S' => match mset L k (.ref x) with
    | some L' => some (n, L', S')
    | none => none
  | .null :: S' => match mset L k .null with
    | some L' => some (n, L', S')
    | none => none
  | _ => none
def pInt (x : Int32) (n : Nat) : POp := fun L S => some (n, L, .int x :: S)
def pLong (x : Int64) (n : Nat) : POp := fun L S => some (n, L, .long x :: S)
def pNull (n : Nat) : POp := fun L S => some (n, L, .null :: S)
def pBin (g : Int32 → Int32 → Int32) (n : Nat) : POp := fun L S => match S with
  | .int y :: .int x :: S' => some (n, L, .int (g x y) :: S')
  | _ => none
def pRem (n : Nat) : POp := fun L S => match S with
  | .int y :: .int x :: S' => if y = 0 then none else some (n, L, .int (x % y) :: S')
  | _ => none
def pUn (g : Int32 → Int32) (n : Nat) : POp := fun L S => match S with
  | .int x :: S' => some (n, L, .int (g x) :: S')
  | _ => none
def pI2L (n : Nat) : POp := fun L S => match S with
  | .int x :: S' => some (n, L, .long x.toInt64 :: S')
  | _ => none
def pLBin (g : Int64 → Int64 → Int64) (n : Nat) : POp := fun L S => match S with
  | .long y :: .long x :: S' => some (n, L, .long (g x y) :: S')
  | _ => none
def pLsh (g : Int64 → Int32 → Int64) (n : Nat) : POp := fun L S => match S with
  | .int y :: .long x :: S' => some (n, L, .long (g x y) :: S')
  | _ => none
def pLcmp (n : Nat) : POp := fun L S => match S with
  | .long y :: .long x :: S' => some (n, L, .int (XT.cmpL x y) :: S')
  | _ => none
def pInc (k : Nat) (d : Int32) (n : Nat) : POp := fun L S => match L[k]? with
  | some (.val (.int x)) => some (n, L.set k (.val (.int (x + d))), S)
  | _ => none
def pGoto (t : Nat) : POp := fun L S => some (t, L, S)
def pIf (cd : ClassFile.Cond) (t n : Nat) : POp := fun L S => match S with
  | .int x :: S' => match ifCond.holds cd x with
    | true => some (t, L, S')
    | false => some (n, L, S')
  | _ => none
def pIcmp (cd : ClassFile.Cond) (t n : Nat) : POp := fun L S => match S with
  | .int y :: .int x :: S' => match if_icmp.holds cd x y with
    | true => some (t, L, S')
    | false => some (n, L, S')
  | _ => none
def pNullYes (t n : Nat) : POp := fun L S => match S with
  | .null :: S' => some (t, L, S')
  | .ref _ :: S' => some (n, L, S')
  | _ => none
def pDup (n : Nat) : POp := fun L S => match S with
  | x :: S' => match x.category with
    | 1 => some (n, L, x :: x :: S')
    | _ => none
  | _ => none
def pPop (n : Nat) : POp := fun L S => match S with
  | x :: S' => match x.category with
    | 1 => some (n, L, S')
    | _ => none
  | _ => none
def pDupX1 (n : Nat) : POp := fun L S => match S with
  | x :: y :: S' => match x.category, y.category with
    | 1, 1 => some (n, L, x :: y :: x :: S')
    | _, _ => none
  | _ => none
def pDup2 (n : Nat) : POp := fun L S => match S with
  | x :: y :: S' => match x.category, y.category with
    | 1, 1 => some (n, L, x :: y :: x :: y :: S')
    | _, _ => none
  | _ => none
def pDupX2 (n : Nat) : POp := fun L S => match S with
  | x :: y :: z :: S' => match x.category, y.category, z.category with
    | 1, 1, 1 => some (n, L, x :: y :: z :: x :: S')
    | _, _, _ => none
  | _ => none
/-- which of two references are one: below xl two places may be one object -/
def same (xl : Nat) : Value → Value → Option Bool
  | .null, .null => some true
  | .null, .ref _ => some false
  | .ref _, .null => some false
  | .ref i, .ref j => match Nat.beq i j with
    | true => some true
    | false => match Nat.ble xl i || Nat.ble xl j with
      | true => some false
      | false => none
  | _, _ => none
def pAcmp (xl : Nat) (t n : Nat) : POp := fun L S => match S with
  | y :: x :: S' => match same xl x y with
    | some true => some (t, L, S')
    | some false => some (n, L, S')
    | none => none
  | _ => none
def oRetI (t : FieldType) : MOp := fun _ _ S H => match S with
  | .int x :: _ => some (.inr (some (.int (nar t x)), H))
  | _ => none
def oRetL : MOp := fun _ _ S H => match S with
  | [.long x] => some (.inr (some (.long x), H))
  | _ => none
def oRetA : MOp := fun _ _ S H => match S with
  | .ref x :: _ => some (.inr (some (.ref x), H))
  | .null :: _ => some (.inr (some .null, H))
  | _ => none
def oRet : MOp := fun _ _ S H => match S with
  | [] => some (.inr (none, H))
  | _ => none
def wt (S : List Value) : Nat := (S.map fun v => v.category).sum
def oCall (μ na W n : Nat) : MOp := fun call L S H =>
  if na ≤ S.length ∧ wt (S.drop na) ≤ W then match call μ (S.take na).reverse H with
    | some (v, H') => some (.inl (n, L, v.toList ++ S.drop na, H'))
    | none => none
  else none
end Jvm.MV
namespace Jvm.MV
open Jvm Jvm.ClassFile Sem Op Lib Jvm.Free Jvm.Stand Jvm.LawKit Jvm.RoadKit Bundle
/-! ### the small machine's places and the model's -/
abbrev MI : Type := MethodName × ByteArray × Nat × Option FieldType × Nat × Nat
section Real
variable (Z : State) (X : List Addr) (CT : Tab)
def ph (i : Nat) : Nat := match X[i]? with
  | some a => a
  | none => Z.heap.size + (i - X.length)
def ab : Value → Value
  | .ref i => .ref (ph Z X i)
  | v => v
def abS : Slot → Slot
  | .val v => .val (ab Z X v)
  | s => s
abbrev fra (m : MethodId) (pc : Nat) (L : List Slot) (S : List Value) : JFrame := mkF m pc ((L.map (abS Z X)).toArray) (S.map (ab Z X))
def CellOk (h : Heap) (a : Addr) (k : Nat) (vs : List Value) : Prop := match CT[k]? with
  | some (.array t, n, _) => ∃ c, Arr Z h a c t ∧ c.slots = (vs.map (ab Z X)).toArray ∧ (n = 1 → Exa Z h a ("[" ++ t.toString)) ∧ (n = 1 → ∀ C, t = .object C → Ovr Z c.cls C)
  | some (.object C, _, fs) => Exa Z h a C ∧ vs.length = fs.length ∧ ∀ (j : Nat) (O nm d : String) (ty : FieldType) (v : Value), fs[j]? = some (O, nm, d, ty) → vs[j]? = some v → Fld Z h a O nm d (ab Z X v)
  | _ => False
def Rep (h : Heap) (H : MH) : Prop := X.length ≤ H.length ∧ h.size = Z.heap.size + (H.length - X.length) ∧ (∀ a : Nat, a < Z.heap.size → h[a]? = Z.heap[a]?) ∧ ∀ (i k : Nat) (vs : List Value), H[i]? = some (k, vs) → CellOk Z X CT h (ph Z X i) k vs
def szc (q : Nat × List Value) : Nat := match CT[q.1]? with
  | some (.array _, _, _) => q.2.length
  | some (_, n, _) => n
  | none => 0
def sz (H : MH) : Nat := (H.map (szc CT)).sum
def Sit (p : Program) (l : Launch) (e : Env) (R : Room) (s : State) (m : MethodId) (args : Array Value) (below : List Frame) (meth : Method) (c : Code) (H0 : MH) (T : State) (L : List Slot) (H : MH) : Prop :=
  ∃ locs, Stand p l e R s m args below meth c T locs (H.length - H0.length) (sz CT H - sz CT H0) ∧ Rep Z X CT T.heap H ∧ Fr Z.heap.size locs ∧ L.length = c.maxLocals ∧ H0.length ≤ H.length ∧ sz CT H0 ≤ sz CT H ∧ s.heap.size = Z.heap.size + (H0.length - X.length) ∧ X.length ≤ H0.length
def Con (l : Launch) (M : MI) (as : List Value) (H : MH) (v : Option Value) (H' : MH) : Prop :=
  ∀ h0, Rep Z X CT h0 H → MetFree l M.1 (head1 [Jvm.Cond.code M.1 M.2.1 M.2.2.1 M.2.2.2.1] ({ frames := M.2.2.2.2.1, cells := H'.length - H.length, slots := sz CT H' - sz CT H, locals := M.2.2.2.2.2 } : Room))
    (fun a U => a = (as.map (ab Z X)).toArray ∧ Z.Warmed39 U.vm ∧ U.heap = h0) (fun _ _ _ _ _ => True)
    (fun _ U o U' => ∃ w L, o = .returned w ∧ (w = v.map (ab Z X) ∧ Fr Z.heap.size L ∧ Rep Z X CT U'.heap H') ∧ FrameEnd U o U' L (H'.length - H.length) (sz CT H' - sz CT H))
def Up (H : MH) (H' : MH) : Prop := H.length ≤ H'.length ∧ sz CT H ≤ sz CT H'
def OSnd (l : Launch) (MT : List MI) (call : Orc) : Prop := ∀ (μ : Nat) (as : List Value) (H : MH) (v : Option Value) (H' : MH), call μ as H = some (v, H') → Up CT H H' ∧ ∃ M, MT[μ]? = some M ∧ Con Z X CT l M as H v H'
/-- where a step leads -/
def Nxt (p : Program) (l : Launch) (e : Env) (R : Room) (s : State) (m : MethodId) (args : Array Value) (below : List Frame) (meth : Method) (c : Code) (H0 Hf : MH) (pc : Nat) (T : State) (L : List Slot) (S : List Value) (H : MH) : MS ⊕ MR → Prop
  | .inl (pc', L', S', H') => (H'.length ≤ Hf.length → sz CT H' ≤ sz CT Hf → ∃ T', Sit Z X CT p l e R s m args below meth c H0 T' L' H' ∧ ∀ target, Steps p.tables e below (T'.setTop (fra Z X m pc' L' S')) target → Steps p.tables e below (T.setTop (fra Z X m pc L S)) target)
  | .inr (v, H') => H' = H ∧ ∃ s₂, Steps p.tables e below (T.setTop (fra Z X m pc L S)) s₂ ∧ s₂.status = .running ∧ Ended s₂ below (.returned (v.map (ab Z X))) ∧ (∃ L', Fr Z.heap.size L' ∧ FrameEnd s (.returned (v.map (ab Z X))) s₂ L' (H.length - H0.length) (sz CT H - sz CT H0)) ∧ Rep Z X CT s₂.heap H
def hOf : MS ⊕ MR → MH
  | .inl (_, _, _, H') => H'
  | .inr (_, H') => H'
def Grow (f : MOp) : Prop := ∀ call L S H r, (∀ μ as H v H', call μ as H = some (v, H') → Up CT H H') → f call L S H = some r → Up CT H (hOf r)
def Sound (l : Launch) (MT : List MI) (M : MI) (pc : Nat) (f : MOp) : Prop := Mono f ∧ Grow CT f ∧
  ∀ (p : Program) (e : Env) (R : Room) (s : State) (m : MethodId) (args : Array Value) (below : List Frame) (meth : Method) (c : Code), p.tables.exec = Jvm.exec → Z.Warmed39 s.vm → s.vm.findClass M.1.cls = some m.cls → c.code = M.2.1 → meth.name = M.1.name → meth.sig.returnType = M.2.2.2.1 → meth.locks = false → M.2.2.2.2.1 ≤ R.frames → M.2.2.2.2.2 ≤ R.locals →
    ∀ call : Orc, OSnd Z X CT l MT call → ∀ H0 Hf : MH, Hf.length - H0.length ≤ R.cells → sz CT Hf - sz CT H0 ≤ R.slots → ∀ T L S H, Sit Z X CT p l e R s m args below meth c H0 T L H → ∀ r, f call L S H = some r → Nxt Z X CT p l e R s m args below meth c H0 Hf pc T L S H r
end Real
section Proofs
variable {Z : State} {X : List Addr} {CT : Tab} {l : Launch} {MT : List MI} {M : MI}
theorem mrun_grow {code : List (Nat × MOp)} {call : Orc} (hC : ∀ q ∈ code, Grow CT q.2) (hcall : ∀ μ as H v H', call μ as H = some (v, H') → Up CT H H') : ∀ n st r, mrun call code n st = some r → Up CT st.2.2.2 r.2
  | 0, _, _, h => by cases h
  | n + 1, (pc, L, S, H), r, h => by
    simp only [mrun] at h
    cases hk : look code pc with
    | none => simp [hk] at h
    | some f =>
      simp only [hk] at h
      cases hfr : f call L S H with
      | none => simp [hfr] at h
      | some q =>
        have g := hC _ (look_mem hk) call L S H q hcall hfr
        simp only [hfr] at h
        cases q with
        | inr r' => cases h; exact g
        | inl st =>
          obtain ⟨pc', L', S', H'⟩ := st
          have g2 := mrun_grow hC hcall n _ _ h
          exact ⟨Nat.le_trans g.1 g2.1, Nat.le_trans g.2 g2.2⟩
theorem run_sound {p : Program} {e : Env} {R : Room} {s : State} {m : MethodId} {args : Array Value} {below : List Frame} {meth : Method} {c : Code} {code : List (Nat × MOp)} {call : Orc} {H0 : MH}
    (hC : ∀ q ∈ code, Sound Z X CT l MT M q.1 q.2) (hx : p.tables.exec = Jvm.exec) (hZ : Z.Warmed39 s.vm) (hown : s.vm.findClass M.1.cls = some m.cls) (hby : c.code = M.2.1) (hnm : meth.name = M.1.name) (hret : meth.sig.returnType = M.2.2.2.1) (hlk : meth.locks = false) (hf : M.2.2.2.2.1 ≤ R.frames) (hl : M.2.2.2.2.2 ≤ R.locals) (hcall : OSnd Z X CT l MT call) {v : Option Value} {Hf : MH}
    (hRc : Hf.length - H0.length ≤ R.cells) (hRs : sz CT Hf - sz CT H0 ≤ R.slots) : ∀ n pc L S H T, mrun call code n (pc, L, S, H) = some (v, Hf) → Sit Z X CT p l e R s m args below meth c H0 T L H →
    ∃ s₂, Steps p.tables e below (T.setTop (fra Z X m pc L S)) s₂ ∧ s₂.status = .running ∧ Ended s₂ below (.returned (v.map (ab Z X))) ∧ (∃ L', Fr Z.heap.size L' ∧ FrameEnd s (.returned (v.map (ab Z X))) s₂ L' (Hf.length - H0.length) (sz CT Hf - sz CT H0)) ∧ Rep Z X CT s₂.heap Hf
  | 0, _, _, _, _, _, h, _ => by cases h
  | n + 1, pc, L, S, H, T, h, hs => by
    simp only [mrun] at h
    cases hk : look code pc with
    | none => simp [hk] at h
    | some f =>
      simp only [hk] at h
      cases hfr : f call L S H with
      | none => simp [hfr] at h
      | some r =>
        have q := (hC _ (look_mem hk)).2.2 p e R s m args below meth c hx hZ hown hby hnm hret hlk hf hl call hcall H0 Hf hRc hRs T L S H hs r hfr
        simp only [hfr] at h
        cases r with
        | inr r =>
          cases h
          obtain ⟨rfl, q⟩ := q
          exact q
        | inl st =>
          obtain ⟨pc', L', S', H'⟩ := st
          have g := mrun_grow (fun w hw => (hC w hw).2.1) (fun μ as H v H' hq => (hcall μ as H v H' hq).1) n _ _ h
          obtain ⟨T', hs', st⟩ := q g.1 g.2
          obtain ⟨s₂, k1, k2⟩ := run_sound hC hx hZ hown hby hnm hret hlk hf hl hcall hRc hRs n pc' L' S' H' T' h hs'
          exact ⟨s₂, st _ k1, k2⟩
/-! the method's entry -/
theorem loc_map (as : List Value) : loc (as.map (ab Z X)) = (loc as).map (abS Z X) := by
  induction as with
  | nil => rfl
  | cons v r ih =>
    have hc : (ab Z X v).category = v.category := by cases v <;> rfl
    simp only [List.map_cons, loc, hc]
    split <;> simp [ih, abS]
theorem loc_len (as : List Value) : (loc (as.map (ab Z X))).length = (loc as).length := by rw [loc_map]; simp
theorem locals_eq (as : List Value) (n : Nat) : argsToLocals as.toArray n = (mloc as n).toArray := by
  have h : ∀ (as : List Value) (acc : Array Slot), as.foldl (fun acc v => if v.category = 2 then (acc.push (.val v)).push .second else acc.push (.val v)) acc = acc ++ (loc as).toArray := by
    intro as
    induction as with
    | nil => intro acc; simp [loc]
    | cons v r ih =>
      intro acc
      simp only [List.foldl_cons, loc, ih]
      split <;> simp
  simp only [argsToLocals, mloc, List.foldl_toArray, h]
  simp
theorem mloc_map (as : List Value) (n : Nat) : mloc (as.map (ab Z X)) n = (mloc as n).map (abS Z X) := by
  simp only [mloc, loc_map, List.map_append, List.length_map, List.map_replicate, abS]
theorem entry_eq (m : MethodId) (as : List Value) (n : Nat) : entryFrame m (as.map (ab Z X)).toArray n = fra Z X m 0 (mloc as n) [] := by
  simp only [entryFrame, locals_eq, mloc_map, fra, mkF, List.map_nil]
theorem mloc_len {as : List Value} {n : Nat} (h : (loc as).length ≤ n) : (mloc as n).length = n := by
  simp only [mloc, List.length_append, List.length_replicate]; omega
theorem met_of_run {code : List (Nat × MOp)} {call : Orc} (hp : plainFor M.1 = true) (hC : ∀ q ∈ code, Sound Z X CT l MT M q.1 q.2) (hcall : OSnd Z X CT l MT call) {F : Nat} {as : List Value} {H Hf : MH} {v : Option Value} (hrun : mrun call code F (0, mloc as M.2.2.1, [], H) = some (v, Hf)) (hn : (loc as).length ≤ M.2.2.1)
    {R : Room} {ws : List Jvm.Cond} (hf : M.2.2.2.2.1 ≤ R.frames) (hl : M.2.2.2.2.2 ≤ R.locals) (hRc : Hf.length - H.length ≤ R.cells) (hRs : sz CT Hf - sz CT H ≤ R.slots) {h0 : Heap} (hrep : Rep Z X CT h0 H) :
    MetFree l M.1 (head1 (Jvm.Cond.code M.1 M.2.1 M.2.2.1 M.2.2.2.1 :: ws) R)
    (fun a U => a = (as.map (ab Z X)).toArray ∧ Z.Warmed39 U.vm ∧ U.heap = h0) (fun _ _ _ _ _ => True)
    (fun _ U o U' => ∃ w L, o = .returned w ∧ (w = v.map (ab Z X) ∧ Fr Z.heap.size L ∧ Rep Z X CT U'.heap Hf) ∧ FrameEnd U o U' L (Hf.length - H.length) (sz CT Hf - sz CT H)) := by
  refine MetFree.of_bodySF hp hisR ?_
  intro p e s m args below meth c s₁ Bd hml hP hK
  obtain ⟨rfl, hZ, hh⟩ := hP
  have X0 : Stand p l e R s m _ below meth c s₁ [] 0 0 := Stand.of_body Bd
  have e0 : s₁.heap = h0 := by rw [← hh, Bd.state]; rfl
  have hnm := (name_of_methodNamed Bd.named Bd.method).1
  have hS : Sit Z X CT p l e R s m (as.map (ab Z X)).toArray below meth c H s₁ (mloc as M.2.2.1) H := by
    refine ⟨[], ?_, by rw [e0]; exact hrep, Fr.nil _, by rw [hml]; exact mloc_len hn, Nat.le_refl _, Nat.le_refl _, by rw [hh]; exact hrep.2.1, hrep.1⟩
    rw [Nat.sub_self, Nat.sub_self]; exact X0
  obtain ⟨s₂, k1, k2, k3, ⟨L', k4, k5⟩, k6⟩ := run_sound hC Bd.exec hZ (findClass_of_methodNamed Bd.named) Bd.bytes hnm Bd.returns Bd.notSynchronized hf hl hcall hRc hRs F 0 (mloc as M.2.2.1) [] H s₁ hrun hS
  refine ⟨s₂, _, castTop (entry_eq m as M.2.2.1) k1, k2, k3, _, L', rfl, ⟨rfl, k4, k6⟩, k5⟩
theorem osnd_callN {D : Meths} (hlen : ∀ (μ n : Nat) (code : List (Nat × MOp)), D[μ]? = some (n, code) → ∃ M, MT[μ]? = some M ∧ M.2.2.1 = n ∧ plainFor M.1 = true ∧ ∀ q ∈ code, Sound Z X CT l MT M q.1 q.2) (F : Nat) : ∀ k, OSnd Z X CT l MT (callN D F k)
  | 0 => fun μ as H v H' h => by cases h
  | k + 1 => fun μ as H v H' h => by
    have ih := osnd_callN hlen F k
    simp only [callN] at h
    cases hq : D[μ]? with
    | none => simp [hq] at h
    | some q =>
      obtain ⟨n, code⟩ := q
      simp only [hq] at h
      split at h
      · rename_i hn
        obtain ⟨M, h1, rfl, h3, h4⟩ := hlen μ n code hq
        refine ⟨mrun_grow (fun w hw => (h4 w hw).2.1) (fun μ as H v H' hq => (ih μ as H v H' hq).1) F _ _ h, M, h1, fun h0 hrep => ?_⟩
        exact met_of_run h3 h4 ih h hn (Nat.le_refl _) (Nat.le_refl _) (Nat.le_refl _) (Nat.le_refl _) hrep
      · cases h
end Proofs
end Jvm.MV
namespace Jvm.MV
open Jvm Jvm.ClassFile Sem Op Lib Jvm.Free Jvm.Stand Jvm.LawKit Jvm.RoadKit Bundle
section Plain
variable {Z : State} {X : List Addr} {CT : Tab} {l : Launch} {MT : List MI} {M : MI} {pc : Nat} {a0 : Array Value}
def allP {α : Type} (P : α → Prop) : List α → Prop
  | [] => True
  | x :: r => P x ∧ allP P r
theorem allP_mem {α : Type} {P : α → Prop} : ∀ {xs : List α}, allP P xs → ∀ q ∈ xs, P q
  | [], _, _, hq => nomatch hq
  | _ :: _, h, q, hq => (List.mem_cons.mp hq).elim (fun e => e ▸ h.1) (allP_mem h.2 q)
def allC (P : Nat → MOp → Prop) : List (Nat × MOp) → Prop
  | [] => True
  | (pc, f) :: r => P pc f ∧ allC P r
theorem allC_mem {P : Nat → MOp → Prop} : ∀ {xs : List (Nat × MOp)}, allC P xs → ∀ q ∈ xs, P q.1 q.2
  | [], _, _, hq => nomatch hq
  | (_, _) :: _, h, q, hq => (List.mem_cons.mp hq).elim (fun e => e ▸ h.1) (allC_mem h.2 q)
theorem le_r {a b : Nat} (h : Nat.ble a b = true) : a ≤ b := Nat.le_of_ble_eq_true h
theorem allC_cons {P : Nat → MOp → Prop} {pc : Nat} {f : MOp} {r : List (Nat × MOp)} (h : P pc f) (t : allC P r) : allC P ((pc, f) :: r) := ⟨h, t⟩
theorem allC_nil {P : Nat → MOp → Prop} : allC P [] := trivial
theorem Up.refl (H : MH) : Up CT H H := ⟨Nat.le_refl _, Nat.le_refl _⟩
theorem grow_lift (g : POp) : Grow CT (lift g) := fun call L S H r hc h => by
  simp only [lift] at h
  split at h
  · cases h; exact Up.refl _
  · cases h
/-- what a plain step owes -/
def Pure (Z : State) (X : List Addr) (l : Launch) (M : MI) (pc : Nat) (g : POp) : Prop := ∀ (p : Program) (e : Env) (R : Room) (s : State) (m : MethodId) (args : Array Value) (below : List Frame) (meth : Method) (c : Code) (T : State) (locs : List Loc) (cells slots : Nat),
  Stand p l e R s m args below meth c T locs cells slots → p.tables.exec = Jvm.exec → Z.Warmed39 s.vm → s.vm.findClass M.1.cls = some m.cls → c.code = M.2.1 → ∀ L S n L' S', g L S = some (n, L', S') →
  L'.length = L.length ∧ ∀ target, Steps p.tables e below (T.setTop (fra Z X m n L' S')) target → Steps p.tables e below (T.setTop (fra Z X m pc L S)) target
theorem Sound.pure {g : POp} (h : Pure Z X l M pc g) : Sound Z X CT l MT M pc (lift g) := by
  refine ⟨mono_lift g, grow_lift g, ?_⟩
  intro p e R s m args below meth c hx hZ hown hby hnm hret hlk hf hl call hcall H0 Hf hRc hRs T L S H hs r hr
  simp only [lift] at hr
  split at hr
  · rename_i n L' S' hg
    cases hr
    obtain ⟨locs, Y, hrep, hfr, hlen, h1, h2, h3⟩ := hs
    obtain ⟨q1, q2⟩ := h p e R s m args below meth c T locs _ _ Y hx hZ hown hby L S n L' S' hg
    exact fun _ _ => ⟨T, ⟨locs, Y, hrep, hfr, by rw [q1]; exact hlen, h1, h2, h3⟩, q2⟩
  · cases hr
theorem lget {L : List Slot} {k : Nat} {v : Value} (h : L[k]? = some (.val v)) : ((L.map (abS Z X)).toArray)[k]? = some (.val (ab Z X v)) := by simp [h, abS]
theorem ab_cat (v : Value) : (ab Z X v).category = v.category := by cases v <;> rfl
theorem lset {L L' : List Slot} {k : Nat} {v : Value} (h : mset L k v = some L') (hv : v.category = 1) : storeLocals ((L.map (abS Z X)).toArray) k (ab Z X v) = some ((L'.map (abS Z X)).toArray) ∧ L'.length = L.length := by
  have key : ∀ o, L[k]? = some o → (abS Z X o = .unset ∨ ∃ w, abS Z X o = .val w ∧ w.category = 1) → storeLocals ((L.map (abS Z X)).toArray) k (ab Z X v) = some (((L.set k (.val v)).map (abS Z X)).toArray) := fun o ho hk => by
    rw [XS.store1 (o := abS Z X o) (by simp [ho]) hk (by rw [ab_cat]; exact hv)]
    simp [abS]
  simp only [mset] at h
  split at h
  · rename_i ho
    cases h
    exact ⟨key _ ho (Or.inl rfl), by simp⟩
  · rename_i w ho
    split at h
    · rename_i hc
      cases h
      exact ⟨key _ ho (Or.inr ⟨_, rfl, by rw [ab_cat]; exact hc⟩), by simp⟩
    · cases h
  · cases h
theorem lset2 {L L' : List Slot} {k : Nat} {x : Int64} (h : mset2 L k (.long x) = some L') : storeLocals ((L.map (abS Z X)).toArray) k (.long x) = some ((L'.map (abS Z X)).toArray) ∧ L'.length = L.length := by
  simp only [mset2] at h
  split at h
  · rename_i h0
    split at h
    · rename_i h1
      cases h
      have hk : k + 1 < L.length := (List.getElem?_eq_some_iff.mp h1).1
      have e0 : ((L.map (abS Z X)).toArray)[k]? = some .unset := by simp [h0, abS]
      have e1 : (((L.map (abS Z X)).toArray).setIfInBounds k (.val (.long x)))[k + 1]? = some .unset := by simp [h1, abS]
      refine ⟨?_, by simp⟩
      simp only [storeLocals, e0, Option.bind_eq_bind, Option.bind_some, storeSelf, setAt]
      have s1 : k < ((L.map (abS Z X)).toArray).size := by simp; omega
      simp only [s1, if_true, Option.bind_some, e1]
      have s2 : k + 1 < (((L.map (abS Z X)).toArray).setIfInBounds k (.val (.long x))).size := by simp; omega
      simp [Value.category, abS, ab]
      omega
    · cases h
  · cases h

theorem s_iadd (hd : decode M.2.1 pc = .ok (.iadd, 1)) : Sound Z X CT l MT M pc (lift (pBin (· + ·) (pc + 1))) := Sound.pure fun p e R s m args below meth c T locs cells slots Y hx hZ hown hby L S n L' S' h => by
  simp only [pBin] at h
  split at h
  · cases h; exact ⟨rfl, fun target ht => XS.iadd Y.here hx rfl (hb hby hd) rfl ht⟩
  · cases h
theorem s_isub (hd : decode M.2.1 pc = .ok (.isub, 1)) : Sound Z X CT l MT M pc (lift (pBin (· - ·) (pc + 1))) := Sound.pure fun p e R s m args below meth c T locs cells slots Y hx hZ hown hby L S n L' S' h => by
  simp only [pBin] at h
  split at h
  · cases h; exact ⟨rfl, fun target ht => XS.isub Y.here hx rfl (hb hby hd) rfl ht⟩
  · cases h
theorem s_imul (hd : decode M.2.1 pc = .ok (.imul, 1)) : Sound Z X CT l MT M pc (lift (pBin (· * ·) (pc + 1))) := Sound.pure fun p e R s m args below meth c T locs cells slots Y hx hZ hown hby L S n L' S' h => by
  simp only [pBin] at h
  split at h
  · cases h; exact ⟨rfl, fun target ht => XS.imul Y.here hx rfl (hb hby hd) rfl ht⟩
  · cases h
theorem s_iand (hd : decode M.2.1 pc = .ok (.iand, 1)) : Sound Z X CT l MT M pc (lift (pBin (· &&& ·) (pc + 1))) := Sound.pure fun p e R s m args below meth c T locs cells slots Y hx hZ hown hby L S n L' S' h => by
  simp only [pBin] at h
  split at h
  · cases h; exact ⟨rfl, fun target ht => XS.iand Y.here hx rfl (hb hby hd) rfl ht⟩
  · cases h
theorem s_ior (hd : decode M.2.1 pc = .ok (.ior, 1)) : Sound Z X CT l MT M pc (lift (pBin (· ||| ·) (pc + 1))) := Sound.pure fun p e R s m args below meth c T locs cells slots Y hx hZ hown hby L S n L' S' h => by
  simp only [pBin] at h
  split at h
  · cases h; exact ⟨rfl, fun target ht => XT.ior Y.here hx rfl (hb hby hd) rfl ht⟩
  · cases h
theorem s_ixor (hd : decode M.2.1 pc = .ok (.ixor, 1)) : Sound Z X CT l MT M pc (lift (pBin (· ^^^ ·) (pc + 1))) := Sound.pure fun p e R s m args below meth c T locs cells slots Y hx hZ hown hby L S n L' S' h => by
  simp only [pBin] at h
  split at h
  · cases h; exact ⟨rfl, fun target ht => XT.ixor Y.here hx rfl (hb hby hd) rfl ht⟩
  · cases h
theorem s_ishl (hd : decode M.2.1 pc = .ok (.ishl, 1)) : Sound Z X CT l MT M pc (lift (pBin (fun x y => x <<< (y &&& 31)) (pc + 1))) := Sound.pure fun p e R s m args below meth c T locs cells slots Y hx hZ hown hby L S n L' S' h => by
  simp only [pBin] at h
  split at h
  · cases h; exact ⟨rfl, fun target ht => XT.ishl Y.here hx rfl (hb hby hd) rfl ht⟩
  · cases h
theorem s_ishr (hd : decode M.2.1 pc = .ok (.ishr, 1)) : Sound Z X CT l MT M pc (lift (pBin (fun x y => x >>> (y &&& 31)) (pc + 1))) := Sound.pure fun p e R s m args below meth c T locs cells slots Y hx hZ hown hby L S n L' S' h => by
  simp only [pBin] at h
  split at h
  · cases h; exact ⟨rfl, fun target ht => XT.ishr Y.here hx rfl (hb hby hd) rfl ht⟩
  · cases h
theorem s_iushr (hd : decode M.2.1 pc = .ok (.iushr, 1)) : Sound Z X CT l MT M pc (lift (pBin XT.ushr (pc + 1))) := Sound.pure fun p e R s m args below meth c T locs cells slots Y hx hZ hown hby L S n L' S' h => by
  simp only [pBin] at h
  split at h
  · cases h; exact ⟨rfl, fun target ht => XT.iushr Y.here hx rfl (hb hby hd) rfl ht⟩
  · cases h
theorem s_irem (hd : decode M.2.1 pc = .ok (.irem, 1)) : Sound Z X CT l MT M pc (lift (pRem (pc + 1))) := Sound.pure fun p e R s m args below meth c T locs cells slots Y hx hZ hown hby L S n L' S' h => by
  simp only [pRem] at h
  split at h
  · split at h
    · cases h
    · rename_i hy
      cases h; exact ⟨rfl, fun target ht => iremM Y hx rfl (hb hby hd) rfl hy ht⟩
  · cases h
theorem s_ineg (hd : decode M.2.1 pc = .ok (.ineg, 1)) : Sound Z X CT l MT M pc (lift (pUn (fun x => -x) (pc + 1))) := Sound.pure fun p e R s m args below meth c T locs cells slots Y hx hZ hown hby L S n L' S' h => by
  simp only [pUn] at h
  split at h
  · cases h; exact ⟨rfl, fun target ht => XS.ineg Y.here hx rfl (hb hby hd) rfl ht⟩
  · cases h
theorem s_i2b (hd : decode M.2.1 pc = .ok (.i2b, 1)) : Sound Z X CT l MT M pc (lift (pUn (fun x => x.toInt8.toInt32) (pc + 1))) := Sound.pure fun p e R s m args below meth c T locs cells slots Y hx hZ hown hby L S n L' S' h => by
  simp only [pUn] at h
  split at h
  · cases h; exact ⟨rfl, fun target ht => XT.i2b Y.here hx rfl (hb hby hd) rfl ht⟩
  · cases h
theorem s_i2c (hd : decode M.2.1 pc = .ok (.i2c, 1)) : Sound Z X CT l MT M pc (lift (pUn (fun x => x.toUInt32.toUInt16.toUInt32.toInt32) (pc + 1))) := Sound.pure fun p e R s m args below meth c T locs cells slots Y hx hZ hown hby L S n L' S' h => by
  simp only [pUn] at h
  split at h
  · cases h; exact ⟨rfl, fun target ht => XT.i2c Y.here hx rfl (hb hby hd) rfl ht⟩
  · cases h
theorem s_i2s (hd : decode M.2.1 pc = .ok (.i2s, 1)) : Sound Z X CT l MT M pc (lift (pUn (fun x => x.toInt16.toInt32) (pc + 1))) := Sound.pure fun p e R s m args below meth c T locs cells slots Y hx hZ hown hby L S n L' S' h => by
  simp only [pUn] at h
  split at h
  · cases h; exact ⟨rfl, fun target ht => XT.i2s Y.here hx rfl (hb hby hd) rfl ht⟩
  · cases h
theorem s_i2l (hd : decode M.2.1 pc = .ok (.i2l, 1)) : Sound Z X CT l MT M pc (lift (pI2L (pc + 1))) := Sound.pure fun p e R s m args below meth c T locs cells slots Y hx hZ hown hby L S n L' S' h => by
  simp only [pI2L] at h
  split at h
  · cases h; exact ⟨rfl, fun target ht => XT.i2l Y.here hx rfl (hb hby hd) rfl ht⟩
  · cases h
theorem s_ladd (hd : decode M.2.1 pc = .ok (.ladd, 1)) : Sound Z X CT l MT M pc (lift (pLBin (· + ·) (pc + 1))) := Sound.pure fun p e R s m args below meth c T locs cells slots Y hx hZ hown hby L S n L' S' h => by
  simp only [pLBin] at h
  split at h
  · cases h; exact ⟨rfl, fun target ht => XT.ladd Y.here hx rfl (hb hby hd) rfl ht⟩
  · cases h
theorem s_lsub (hd : decode M.2.1 pc = .ok (.lsub, 1)) : Sound Z X CT l MT M pc (lift (pLBin (· - ·) (pc + 1))) := Sound.pure fun p e R s m args below meth c T locs cells slots Y hx hZ hown hby L S n L' S' h => by
  simp only [pLBin] at h
  split at h
  · cases h; exact ⟨rfl, fun target ht => XT.lsub Y.here hx rfl (hb hby hd) rfl ht⟩
  · cases h
theorem s_lmul (hd : decode M.2.1 pc = .ok (.lmul, 1)) : Sound Z X CT l MT M pc (lift (pLBin (· * ·) (pc + 1))) := Sound.pure fun p e R s m args below meth c T locs cells slots Y hx hZ hown hby L S n L' S' h => by
  simp only [pLBin] at h
  split at h
  · cases h; exact ⟨rfl, fun target ht => XT.lmul Y.here hx rfl (hb hby hd) rfl ht⟩
  · cases h
theorem s_land (hd : decode M.2.1 pc = .ok (.land, 1)) : Sound Z X CT l MT M pc (lift (pLBin (· &&& ·) (pc + 1))) := Sound.pure fun p e R s m args below meth c T locs cells slots Y hx hZ hown hby L S n L' S' h => by
  simp only [pLBin] at h
  split at h
  · cases h; exact ⟨rfl, fun target ht => XT.land Y.here hx rfl (hb hby hd) rfl ht⟩
  · cases h
theorem s_lor (hd : decode M.2.1 pc = .ok (.lor, 1)) : Sound Z X CT l MT M pc (lift (pLBin (· ||| ·) (pc + 1))) := Sound.pure fun p e R s m args below meth c T locs cells slots Y hx hZ hown hby L S n L' S' h => by
  simp only [pLBin] at h
  split at h
  · cases h; exact ⟨rfl, fun target ht => XT.lor Y.here hx rfl (hb hby hd) rfl ht⟩
  · cases h
theorem s_lxor (hd : decode M.2.1 pc = .ok (.lxor, 1)) : Sound Z X CT l MT M pc (lift (pLBin (· ^^^ ·) (pc + 1))) := Sound.pure fun p e R s m args below meth c T locs cells slots Y hx hZ hown hby L S n L' S' h => by
  simp only [pLBin] at h
  split at h
  · cases h; exact ⟨rfl, fun target ht => XT.lxor Y.here hx rfl (hb hby hd) rfl ht⟩
  · cases h
theorem s_lshl (hd : decode M.2.1 pc = .ok (.lshl, 1)) : Sound Z X CT l MT M pc (lift (pLsh (fun x y => x <<< (y.toInt64 &&& 63)) (pc + 1))) := Sound.pure fun p e R s m args below meth c T locs cells slots Y hx hZ hown hby L S n L' S' h => by
  simp only [pLsh] at h
  split at h
  · cases h; exact ⟨rfl, fun target ht => XT.lshl Y.here hx rfl (hb hby hd) rfl ht⟩
  · cases h
theorem s_lcmp (hd : decode M.2.1 pc = .ok (.lcmp, 1)) : Sound Z X CT l MT M pc (lift (pLcmp (pc + 1))) := Sound.pure fun p e R s m args below meth c T locs cells slots Y hx hZ hown hby L S n L' S' h => by
  simp only [pLcmp] at h
  split at h
  · cases h; exact ⟨rfl, fun target ht => XT.lcmp Y.here hx rfl (hb hby hd) rfl ht⟩
  · cases h
theorem s_iloadN {k : Fin 4} {kk : Nat} (hd : decode M.2.1 pc = .ok (.iload_n k, 1)) (hk : k.val = kk) : Sound Z X CT l MT M pc (lift (pIld kk (pc + 1))) := Sound.pure fun p e R s m args below meth c T locs cells slots Y hx hZ hown hby L S n L' S' h => by
  subst hk
  simp only [pIld] at h
  split at h
  · rename_i hL
    cases h; exact ⟨rfl, fun target ht => XS.iloadN Y.here hx rfl (hb hby hd) (lget hL) ht⟩
  · cases h
theorem s_iload {k : Nat} (hd : decode M.2.1 pc = .ok (.iload k, 2)) : Sound Z X CT l MT M pc (lift (pIld k (pc + 2))) := Sound.pure fun p e R s m args below meth c T locs cells slots Y hx hZ hown hby L S n L' S' h => by
  simp only [pIld] at h
  split at h
  · rename_i hL
    cases h; exact ⟨rfl, fun target ht => XS.iload Y.here hx rfl (hb hby hd) (lget hL) ht⟩
  · cases h
theorem s_lloadN {k : Fin 4} {kk : Nat} (hd : decode M.2.1 pc = .ok (.lload_n k, 1)) (hk : k.val = kk) : Sound Z X CT l MT M pc (lift (pLld kk (pc + 1))) := Sound.pure fun p e R s m args below meth c T locs cells slots Y hx hZ hown hby L S n L' S' h => by
  subst hk
  simp only [pLld] at h
  split at h
  · rename_i hL
    cases h; exact ⟨rfl, fun target ht => XT.lloadN Y.here hx rfl (hb hby hd) (lget hL) ht⟩
  · cases h
theorem s_lload {k : Nat} (hd : decode M.2.1 pc = .ok (.lload k, 2)) : Sound Z X CT l MT M pc (lift (pLld k (pc + 2))) := Sound.pure fun p e R s m args below meth c T locs cells slots Y hx hZ hown hby L S n L' S' h => by
  simp only [pLld] at h
  split at h
  · rename_i hL
    cases h; exact ⟨rfl, fun target ht => XT.lload Y.here hx rfl (hb hby hd) (lget hL) ht⟩
  · cases h
theorem s_aloadN {k : Fin 4} {kk : Nat} (hd : decode M.2.1 pc = .ok (.aload_n k, 1)) (hk : k.val = kk) : Sound Z X CT l MT M pc (lift (pAld kk (pc + 1))) := Sound.pure fun p e R s m args below meth c T locs cells slots Y hx hZ hown hby L S n L' S' h => by
  subst hk
  simp only [pAld] at h
  split at h
  · rename_i hL
    cases h; exact ⟨rfl, fun target ht => XS.aloadN Y.here hx rfl (hb hby hd) (lget hL) rfl ht⟩
  · rename_i hL
    cases h; exact ⟨rfl, fun target ht => XS.aloadN Y.here hx rfl (hb hby hd) (lget hL) rfl ht⟩
  · cases h
theorem s_aload {k : Nat} (hd : decode M.2.1 pc = .ok (.aload k, 2)) : Sound Z X CT l MT M pc (lift (pAld k (pc + 2))) := Sound.pure fun p e R s m args below meth c T locs cells slots Y hx hZ hown hby L S n L' S' h => by
  simp only [pAld] at h
  split at h
  · rename_i hL
    cases h; exact ⟨rfl, fun target ht => XS.aload Y.here hx rfl (hb hby hd) (lget hL) rfl ht⟩
  · rename_i hL
    cases h; exact ⟨rfl, fun target ht => XS.aload Y.here hx rfl (hb hby hd) (lget hL) rfl ht⟩
  · cases h
theorem s_istoreN {k : Fin 4} {kk : Nat} (hd : decode M.2.1 pc = .ok (.istore_n k, 1)) (hk : k.val = kk) : Sound Z X CT l MT M pc (lift (pIst kk (pc + 1))) := Sound.pure fun p e R s m args below meth c T locs cells slots Y hx hZ hown hby L S n L' S' h => by
  subst hk
  simp only [pIst] at h
  split at h
  · split at h
    · rename_i hm
      cases h
      have q := lset (Z := Z) (X := X) hm rfl
      exact ⟨q.2, fun target ht => XS.istoreN Y.here hx rfl (hb hby hd) rfl q.1 ht⟩
    · cases h
  · cases h
theorem s_istore {k : Nat} (hd : decode M.2.1 pc = .ok (.istore k, 2)) : Sound Z X CT l MT M pc (lift (pIst k (pc + 2))) := Sound.pure fun p e R s m args below meth c T locs cells slots Y hx hZ hown hby L S n L' S' h => by
  simp only [pIst] at h
  split at h
  · split at h
    · rename_i hm
      cases h
      have q := lset (Z := Z) (X := X) hm rfl
      exact ⟨q.2, fun target ht => XS.istore Y.here hx rfl (hb hby hd) rfl q.1 ht⟩
    · cases h
  · cases h
theorem s_lstoreN {k : Fin 4} {kk : Nat} (hd : decode M.2.1 pc = .ok (.lstore_n k, 1)) (hk : k.val = kk) : Sound Z X CT l MT M pc (lift (pLst kk (pc + 1))) := Sound.pure fun p e R s m args below meth c T locs cells slots Y hx hZ hown hby L S n L' S' h => by
  subst hk
  simp only [pLst] at h
  split at h
  · split at h
    · rename_i hm
      cases h
      have q := lset2 (Z := Z) (X := X) hm
      exact ⟨q.2, fun target ht => XT.lstoreN Y.here hx rfl (hb hby hd) rfl q.1 ht⟩
    · cases h
  · cases h
theorem s_lstore {k : Nat} (hd : decode M.2.1 pc = .ok (.lstore k, 2)) : Sound Z X CT l MT M pc (lift (pLst k (pc + 2))) := Sound.pure fun p e R s m args below meth c T locs cells slots Y hx hZ hown hby L S n L' S' h => by
  simp only [pLst] at h
  split at h
  · split at h
    · rename_i hm
      cases h
      have q := lset2 (Z := Z) (X := X) hm
      exact ⟨q.2, fun target ht => XT.lstore Y.here hx rfl (hb hby hd) rfl q.1 ht⟩
    · cases h
  · cases h
theorem s_astoreN {k : Fin 4} {kk : Nat} (hd : decode M.2.1 pc = .ok (.astore_n k, 1)) (hk : k.val = kk) : Sound Z X CT l MT M pc (lift (pAst kk (pc + 1))) := Sound.pure fun p e R s m args below meth c T locs cells slots Y hx hZ hown hby L S n L' S' h => by
  subst hk
  simp only [pAst] at h
  split at h
  · split at h
    · rename_i hm
      cases h
      have q := lset (Z := Z) (X := X) hm rfl
      exact ⟨q.2, fun target ht => XS.astoreN Y.here hx rfl (hb hby hd) rfl rfl q.1 ht⟩
    · cases h
  · split at h
    · rename_i hm
      cases h
      have q := lset (Z := Z) (X := X) hm rfl
      exact ⟨q.2, fun target ht => XS.astoreN Y.here hx rfl (hb hby hd) rfl rfl q.1 ht⟩
    · cases h
  · cases h
theorem s_astore {k : Nat} (hd : decode M.2.1 pc = .ok (.astore k, 2)) : Sound Z X CT l MT M pc (lift (pAst k (pc + 2))) := Sound.pure fun p e R s m args below meth c T locs cells slots Y hx hZ hown hby L S n L' S' h => by
  simp only [pAst] at h
  split at h
  · split at h
    · rename_i hm
      cases h
      have q := lset (Z := Z) (X := X) hm rfl
      exact ⟨q.2, fun target ht => XS.astore Y.here hx rfl (hb hby hd) rfl rfl q.1 ht⟩
    · cases h
  · split at h
    · rename_i hm
      cases h
      have q := lset (Z := Z) (X := X) hm rfl
      exact ⟨q.2, fun target ht => XS.astore Y.here hx rfl (hb hby hd) rfl rfl q.1 ht⟩
    · cases h
  · cases h
theorem s_iconst {i : Int} {x : Int32} (hd : decode M.2.1 pc = .ok (.iconst i, 1)) (hx0 : Int32.ofInt i = x) : Sound Z X CT l MT M pc (lift (pInt x (pc + 1))) := Sound.pure fun p e R s m args below meth c T locs cells slots Y hx hZ hown hby L S n L' S' h => by
  subst hx0; cases h; exact ⟨rfl, fun target ht => XS.iconst Y.here hx rfl (hb hby hd) ht⟩
theorem s_bipush {i : Int} {x : Int32} (hd : decode M.2.1 pc = .ok (.bipush i, 2)) (hx0 : (Int8.ofInt i).toInt32 = x) : Sound Z X CT l MT M pc (lift (pInt x (pc + 2))) := Sound.pure fun p e R s m args below meth c T locs cells slots Y hx hZ hown hby L S n L' S' h => by
  subst hx0; cases h; exact ⟨rfl, fun target ht => XS.bipush Y.here hx rfl (hb hby hd) ht⟩
theorem s_sipush {i : Int} {x : Int32} (hd : decode M.2.1 pc = .ok (.sipush i, 3)) (hx0 : (Int16.ofInt i).toInt32 = x) : Sound Z X CT l MT M pc (lift (pInt x (pc + 3))) := Sound.pure fun p e R s m args below meth c T locs cells slots Y hx hZ hown hby L S n L' S' h => by
  subst hx0; cases h; exact ⟨rfl, fun target ht => XS.sipush Y.here hx rfl (hb hby hd) ht⟩
theorem s_lconst {k : Fin 2} {x : Int64} (hd : decode M.2.1 pc = .ok (.lconst k, 1)) (hx0 : Int64.ofNat k = x) : Sound Z X CT l MT M pc (lift (pLong x (pc + 1))) := Sound.pure fun p e R s m args below meth c T locs cells slots Y hx hZ hown hby L S n L' S' h => by
  subst hx0; cases h; exact ⟨rfl, fun target ht => XT.lconst Y.here hx rfl (hb hby hd) ht⟩
theorem s_null (hd : decode M.2.1 pc = .ok (.aconst_null, 1)) : Sound Z X CT l MT M pc (lift (pNull (pc + 1))) := Sound.pure fun p e R s m args below meth c T locs cells slots Y hx hZ hown hby L S n L' S' h => by
  cases h; exact ⟨rfl, fun target ht => XS.aconstNull Y.here hx rfl (hb hby hd) ht⟩
theorem s_ldcInt {i : Nat} {x : Int32} (hd : decode M.2.1 pc = .ok (.ldc i, 2)) (w : (Jvm.Cond.constant M.1.cls i x).before a0 Z = true) : Sound Z X CT l MT M pc (lift (pInt x (pc + 2))) := Sound.pure fun p e R s m args below meth c T locs cells slots Y hx hZ hown hby L S n L' S' h => by
  cases h; exact ⟨rfl, fun target ht => Y.ldcInt hx hown (mvT hZ w) (g := fra Z X m pc L S) rfl (hb hby hd) _ ht⟩
theorem s_ldc2Long {i : Nat} {x : Int64} (hd : decode M.2.1 pc = .ok (.ldc2_w i, 3)) (w : (Jvm.Cond.constantLong M.1.cls i x).before a0 Z = true) : Sound Z X CT l MT M pc (lift (pLong x (pc + 3))) := Sound.pure fun p e R s m args below meth c T locs cells slots Y hx hZ hown hby L S n L' S' h => by
  cases h; exact ⟨rfl, fun target ht => Y.ldc2Long hx hown (mvT hZ w) (g := fra Z X m pc L S) rfl (hb hby hd) _ ht⟩
theorem s_iinc {k : Nat} {cst : Int} {d : Int32} (hd : decode M.2.1 pc = .ok (.iinc k cst, 3)) (hd0 : Int32.ofInt cst = d) : Sound Z X CT l MT M pc (lift (pInc k d (pc + 3))) := Sound.pure fun p e R s m args below meth c T locs cells slots Y hx hZ hown hby L S n L' S' h => by
  subst hd0
  simp only [pInc] at h
  split at h
  · rename_i x hL
    cases h
    have hm : mset L k (.int (x + Int32.ofInt cst)) = some (L.set k (.val (.int (x + Int32.ofInt cst)))) := by simp [mset, hL, Value.category]
    have q := lset (Z := Z) (X := X) hm rfl
    exact ⟨q.2, fun target ht => XS.iinc Y.here hx rfl (hb hby hd) (lget hL) q.1 ht⟩
  · cases h
theorem s_goto {o : Int} {t : Nat} (hd : decode M.2.1 pc = .ok (.goto o, 3)) (ho : 0 ≤ (pc : Int) + o) (hp : ((pc : Int) + o).toNat = t) : Sound Z X CT l MT M pc (lift (pGoto t)) := Sound.pure fun p e R s m args below meth c T locs cells slots Y hx hZ hown hby L S n L' S' h => by
  cases h; exact ⟨rfl, fun target ht => XS.goto Y.here hx rfl (pc0 := pc) rfl (hb hby hd) ho hp ht⟩
theorem s_if {cd : ClassFile.Cond} {o : Int} {t : Nat} (hd : decode M.2.1 pc = .ok (.ifCond cd o, 3)) (ho : 0 ≤ (pc : Int) + o) (hp : ((pc : Int) + o).toNat = t) : Sound Z X CT l MT M pc (lift (pIf cd t (pc + 3))) := Sound.pure fun p e R s m args below meth c T locs cells slots Y hx hZ hown hby L S n L' S' h => by
  simp only [pIf] at h
  split at h
  · split at h
    · rename_i hc
      cases h; exact ⟨rfl, fun target ht => XS.ifYes Y.here hx rfl (pc0 := pc) rfl (hb hby hd) rfl hc ho hp ht⟩
    · rename_i hc
      cases h; exact ⟨rfl, fun target ht => XS.ifNo Y.here hx rfl (hb hby hd) rfl hc ht⟩
  · cases h
theorem s_icmp {cd : ClassFile.Cond} {o : Int} {t : Nat} (hd : decode M.2.1 pc = .ok (.if_icmp cd o, 3)) (ho : 0 ≤ (pc : Int) + o) (hp : ((pc : Int) + o).toNat = t) : Sound Z X CT l MT M pc (lift (pIcmp cd t (pc + 3))) := Sound.pure fun p e R s m args below meth c T locs cells slots Y hx hZ hown hby L S n L' S' h => by
  simp only [pIcmp] at h
  split at h
  · split at h
    · rename_i hc
      cases h; exact ⟨rfl, fun target ht => XS.icmpYes Y.here hx rfl (pc0 := pc) rfl (hb hby hd) rfl hc ho hp ht⟩
    · rename_i hc
      cases h; exact ⟨rfl, fun target ht => XS.icmpNo Y.here hx rfl (hb hby hd) rfl hc ht⟩
  · cases h
theorem s_ifnull {o : Int} {t : Nat} (hd : decode M.2.1 pc = .ok (.ifnull o, 3)) (ho : 0 ≤ (pc : Int) + o) (hp : ((pc : Int) + o).toNat = t) : Sound Z X CT l MT M pc (lift (pNullYes t (pc + 3))) := Sound.pure fun p e R s m args below meth c T locs cells slots Y hx hZ hown hby L S n L' S' h => by
  simp only [pNullYes] at h
  split at h
  · cases h; exact ⟨rfl, fun target ht => XS.ifnullYes Y.here hx rfl (pc0 := pc) rfl (hb hby hd) rfl ho hp ht⟩
  · cases h; exact ⟨rfl, fun target ht => XS.ifnullNo Y.here hx rfl (hb hby hd) rfl ht⟩
  · cases h
theorem s_ifnonnull {o : Int} {t : Nat} (hd : decode M.2.1 pc = .ok (.ifnonnull o, 3)) (ho : 0 ≤ (pc : Int) + o) (hp : ((pc : Int) + o).toNat = t) : Sound Z X CT l MT M pc (lift (pNullYes (pc + 3) t)) := Sound.pure fun p e R s m args below meth c T locs cells slots Y hx hZ hown hby L S n L' S' h => by
  simp only [pNullYes] at h
  split at h
  · cases h; exact ⟨rfl, fun target ht => XT.ifnonnullNo Y.here hx rfl (hb hby hd) rfl ht⟩
  · cases h; exact ⟨rfl, fun target ht => XT.ifnonnullYes Y.here hx rfl (pc0 := pc) rfl (hb hby hd) rfl ho hp ht⟩
  · cases h
theorem s_dup (hd : decode M.2.1 pc = .ok (.dup, 1)) : Sound Z X CT l MT M pc (lift (pDup (pc + 1))) := Sound.pure fun p e R s m args below meth c T locs cells slots Y hx hZ hown hby L S n L' S' h => by
  simp only [pDup] at h
  split at h
  · split at h
    · rename_i hc
      cases h; exact ⟨rfl, fun target ht => XS.dup Y.here hx rfl (hb hby hd) rfl (by rw [ab_cat]; exact hc) ht⟩
    · cases h
  · cases h
theorem s_pop (hd : decode M.2.1 pc = .ok (.pop, 1)) : Sound Z X CT l MT M pc (lift (pPop (pc + 1))) := Sound.pure fun p e R s m args below meth c T locs cells slots Y hx hZ hown hby L S n L' S' h => by
  simp only [pPop] at h
  split at h
  · split at h
    · rename_i hc
      cases h; exact ⟨rfl, fun target ht => XT.pop Y.here hx rfl (hb hby hd) rfl (by rw [ab_cat]; exact hc) ht⟩
    · cases h
  · cases h
theorem s_dupX1 (hd : decode M.2.1 pc = .ok (.dup_x1, 1)) : Sound Z X CT l MT M pc (lift (pDupX1 (pc + 1))) := Sound.pure fun p e R s m args below meth c T locs cells slots Y hx hZ hown hby L S n L' S' h => by
  simp only [pDupX1] at h
  split at h
  · split at h
    · rename_i hc hc'
      cases h; exact ⟨rfl, fun target ht => XT.dupX1 Y.here hx rfl (hb hby hd) rfl (by rw [ab_cat]; exact hc) (by rw [ab_cat]; exact hc') ht⟩
    · cases h
  · cases h
theorem s_dup2 (hd : decode M.2.1 pc = .ok (.dup2, 1)) : Sound Z X CT l MT M pc (lift (pDup2 (pc + 1))) := Sound.pure fun p e R s m args below meth c T locs cells slots Y hx hZ hown hby L S n L' S' h => by
  simp only [pDup2] at h
  split at h
  · split at h
    · rename_i hc hc'
      cases h; exact ⟨rfl, fun target ht => XT.dup2 Y.here hx rfl (hb hby hd) rfl (by rw [ab_cat]; exact hc) (by rw [ab_cat]; exact hc') ht⟩
    · cases h
  · cases h
theorem s_dupX2 (hd : decode M.2.1 pc = .ok (.dup_x2, 1)) : Sound Z X CT l MT M pc (lift (pDupX2 (pc + 1))) := Sound.pure fun p e R s m args below meth c T locs cells slots Y hx hZ hown hby L S n L' S' h => by
  simp only [pDupX2] at h
  split at h
  · split at h
    · rename_i x y z S0 _ _ _ hc hc' hc''
      cases h
      refine ⟨rfl, fun target ht => ?_⟩
      have e1 : (ab Z X x).category = 1 := by rw [ab_cat]; exact hc
      have e2 : (ab Z X y).category = 1 := by rw [ab_cat]; exact hc'
      have e3 : (ab Z X z).category = 1 := by rw [ab_cat]; exact hc''
      have hd' := hb hby hd
      jvm_step Y.here [Y.here.top, hx, hd', e1, e2, e3]
      exact ht
    · cases h
  · cases h
/-! references compared -/
theorem same_spec {xl : Nat} (hxl : ∀ i j, i ≠ j → (xl ≤ i ∨ xl ≤ j) → ph Z X i ≠ ph Z X j) {x y : Value} {b : Bool} (h : same xl x y = some b) : (ab Z X x).isRef = true ∧ (ab Z X y).isRef = true ∧ decide (ab Z X x = ab Z X y) = b := by
  cases x <;> cases y <;> simp only [same, reduceCtorEq] at h
  · cases h; exact ⟨rfl, rfl, by simp [ab]⟩
  · cases h; exact ⟨rfl, rfl, by simp [ab]⟩
  · cases h; exact ⟨rfl, rfl, by simp [ab]⟩
  · rename_i i j
    refine ⟨rfl, rfl, ?_⟩
    cases hb : Nat.beq i j with
    | true => rw [hb] at h; cases h; cases Nat.eq_of_beq_eq_true hb; simp
    | false =>
      rw [hb] at h
      cases hc : (Nat.ble xl i || Nat.ble xl j) with
      | false => simp [hc] at h
      | true =>
        simp only [hc, Option.some.injEq] at h
        subst h
        have hne : i ≠ j := Nat.ne_of_beq_eq_false hb
        have := hxl i j hne (by rcases Bool.or_eq_true_iff.mp hc with q | q; exact Or.inl (Nat.le_of_ble_eq_true q); exact Or.inr (Nat.le_of_ble_eq_true q))
        simp [ab, this]
theorem s_acmpeq {xl : Nat} (hxl : ∀ i j, i ≠ j → (xl ≤ i ∨ xl ≤ j) → ph Z X i ≠ ph Z X j) {o : Int} {t : Nat} (hd : decode M.2.1 pc = .ok (.if_acmp .eq o, 3)) (ho : 0 ≤ (pc : Int) + o) (hp : ((pc : Int) + o).toNat = t) : Sound Z X CT l MT M pc (lift (pAcmp xl t (pc + 3))) := Sound.pure fun p e R s m args below meth c T locs cells slots Y hx hZ hown hby L S n L' S' h => by
  simp only [pAcmp] at h
  split at h
  · split at h
    · rename_i hs
      cases h
      obtain ⟨q1, q2, q3⟩ := same_spec hxl hs
      exact ⟨rfl, fun target ht => XT.acmpYes Y.here hx rfl (pc0 := pc) rfl (hb hby hd) rfl q1 q2 q3 ho hp ht⟩
    · rename_i hs
      cases h
      obtain ⟨q1, q2, q3⟩ := same_spec hxl hs
      exact ⟨rfl, fun target ht => XT.acmpNo Y.here hx rfl (hb hby hd) rfl q1 q2 q3 ht⟩
    · cases h
  · cases h
theorem s_acmpne {xl : Nat} (hxl : ∀ i j, i ≠ j → (xl ≤ i ∨ xl ≤ j) → ph Z X i ≠ ph Z X j) {o : Int} {t : Nat} (hd : decode M.2.1 pc = .ok (.if_acmp .ne o, 3)) (ho : 0 ≤ (pc : Int) + o) (hp : ((pc : Int) + o).toNat = t) : Sound Z X CT l MT M pc (lift (pAcmp xl (pc + 3) t)) := Sound.pure fun p e R s m args below meth c T locs cells slots Y hx hZ hown hby L S n L' S' h => by
  simp only [pAcmp] at h
  split at h
  · split at h
    · rename_i hs
      cases h
      obtain ⟨q1, q2, q3⟩ := same_spec hxl hs
      exact ⟨rfl, fun target ht => XT.acmpNo Y.here hx rfl (hb hby hd) rfl q1 q2 (by simpa [XT.acmp] using of_decide_eq_true q3) ht⟩
    · rename_i hs
      cases h
      obtain ⟨q1, q2, q3⟩ := same_spec hxl hs
      exact ⟨rfl, fun target ht => XT.acmpYes Y.here hx rfl (pc0 := pc) rfl (hb hby hd) rfl q1 q2 (by simpa [XT.acmp] using of_decide_eq_false q3) ho hp ht⟩
    · cases h
  · cases h
end Plain
/-! ### returns and calls -/
section Ends
variable {Z : State} {X : List Addr} {CT : Tab} {l : Launch} {MT : List MI} {M : MI} {pc : Nat} {a0 : Array Value}
theorem s_retI {t : FieldType} (hd : decode M.2.1 pc = .ok (.ireturn, 1)) (hr : M.2.2.2.1 = some t) (ht : t = .int ∨ t = .boolean ∨ t = .byte ∨ t = .char ∨ t = .short) : Sound Z X CT l MT M pc (oRetI t) := by
  refine ⟨fun _ _ _ _ _ _ _ h => h, fun call L S H r hc h => ?_, ?_⟩
  · simp only [oRetI] at h
    split at h
    · cases h; exact Up.refl _
    · cases h
  · intro p e R s m args below meth c hx hZ hown hby hnm hret hlk hf hl call hcall H0 Hf hRc hRs T L S H hs r h
    simp only [oRetI] at h
    split at h
    · rename_i x S'
      cases h
      obtain ⟨locs, Y, hrep, hfr, hlen, h1, h2, h3⟩ := hs
      have hret' : meth.sig.returnType = some t := hret.trans hr
      obtain ⟨fs, hl', hrun, hended, hW, hsame⟩ := Y.leave (v := some (.int (nar t x))) (fun q => by rw [hret'] at q; cases q)
      refine ⟨rfl, _, ?_, hrun, hended, ⟨locs, hfr, ⟨_, rfl⟩, hW, hsame⟩, hrep⟩
      have hm' := Y.method'
      have hd' := hb hby hd
      have hn : narrow t (.int x) = .int (nar t x) := by rcases ht with rfl | rfl | rfl | rfl | rfl <;> rfl
      show Steps p.tables e below (T.setTop { method := m, pc := pc, locals := _, stack := Value.int x :: _, locked := none }) _
      rcases ht with rfl | rfl | rfl | rfl | rfl
      all_goals
        jvm_step Y.here [Y.here.top, hx, hd', hm', hret', hn]
        first | (intro acts; rw [hl' _ acts rfl rfl rfl]) | rw [hl' _ _ rfl rfl rfl]
        exact Steps.refl _
    · cases h
theorem s_retL (hd : decode M.2.1 pc = .ok (.lreturn, 1)) (hr : M.2.2.2.1 = some .long) : Sound Z X CT l MT M pc oRetL := by
  refine ⟨fun _ _ _ _ _ _ _ h => h, fun call L S H r hc h => ?_, ?_⟩
  · simp only [oRetL] at h
    split at h
    · cases h; exact Up.refl _
    · cases h
  · intro p e R s m args below meth c hx hZ hown hby hnm hret hlk hf hl call hcall H0 Hf hRc hRs T L S H hs r h
    simp only [oRetL] at h
    split at h
    · rename_i x
      cases h
      obtain ⟨locs, Y, hrep, hfr, hlen, h1, h2, h3⟩ := hs
      have hret' : meth.sig.returnType = some .long := hret.trans hr
      obtain ⟨fs, hl', hrun, hended, hW, hsame⟩ := Y.leave (v := some (.long x)) (fun q => by rw [hret'] at q; cases q)
      exact ⟨rfl, _, retOut Y hx hret' rfl (Or.inr (Or.inl ⟨rfl, rfl, x, rfl⟩)) (hb hby hd) hl', hrun, hended, ⟨locs, hfr, ⟨_, rfl⟩, hW, hsame⟩, hrep⟩
    · cases h
theorem s_retA {t : FieldType} (hd : decode M.2.1 pc = .ok (.areturn, 1)) (hr : M.2.2.2.1 = some t) (ht : t.isReference = true) : Sound Z X CT l MT M pc oRetA := by
  refine ⟨fun _ _ _ _ _ _ _ h => h, fun call L S H r hc h => ?_, ?_⟩
  · simp only [oRetA] at h
    split at h
    · cases h; exact Up.refl _
    · cases h; exact Up.refl _
    · cases h
  · intro p e R s m args below meth c hx hZ hown hby hnm hret hlk hf hl call hcall H0 Hf hRc hRs T L S H hs r h
    simp only [oRetA] at h
    have hret' : meth.sig.returnType = some t := hret.trans hr
    split at h
    · rename_i x S'
      cases h
      obtain ⟨locs, Y, hrep, hfr, hlen, h1, h2, h3⟩ := hs
      obtain ⟨fs, hl', hrun, hended, hW, hsame⟩ := Y.leave (v := some (ab Z X (.ref x))) (fun q => by rw [hret'] at q; cases q)
      exact ⟨rfl, _, retOut Y hx hret' (by cases t <;> first | rfl | cases ht) (Or.inr (Or.inr (Or.inr (Or.inr ⟨rfl, ht, rfl⟩)))) (hb hby hd) hl', hrun, hended, ⟨locs, hfr, ⟨_, rfl⟩, hW, hsame⟩, hrep⟩
    · rename_i S'
      cases h
      obtain ⟨locs, Y, hrep, hfr, hlen, h1, h2, h3⟩ := hs
      obtain ⟨fs, hl', hrun, hended, hW, hsame⟩ := Y.leave (v := some .null) (fun q => by rw [hret'] at q; cases q)
      exact ⟨rfl, _, retOut Y hx hret' (by cases t <;> first | rfl | cases ht) (Or.inr (Or.inr (Or.inr (Or.inr ⟨rfl, ht, rfl⟩)))) (hb hby hd) hl', hrun, hended, ⟨locs, hfr, ⟨_, rfl⟩, hW, hsame⟩, hrep⟩
    · cases h
theorem s_ret (hd : decode M.2.1 pc = .ok (.return_, 1)) (hr : M.2.2.2.1 = none) : Sound Z X CT l MT M pc oRet := by
  refine ⟨fun _ _ _ _ _ _ _ h => h, fun call L S H r hc h => ?_, ?_⟩
  · simp only [oRet] at h
    split at h
    · cases h; exact Up.refl _
    · cases h
  · intro p e R s m args below meth c hx hZ hown hby hnm hret hlk hf hl call hcall H0 Hf hRc hRs T L S H hs r h
    simp only [oRet] at h
    split at h
    · cases h
      obtain ⟨locs, Y, hrep, hfr, hlen, h1, h2, h3⟩ := hs
      obtain ⟨fs, hl', hrun, hended, hW, hsame⟩ := Y.leave (v := none) (fun _ => rfl)
      exact ⟨rfl, _, Y.returnOut hx (hret.trans hr) (hb hby hd) hl', hrun, hended, ⟨locs, hfr, ⟨_, rfl⟩, hW, hsame⟩, hrep⟩
    · cases h
theorem wt_map (S : List Value) : ((S.map (ab Z X)).map fun v => v.category).sum = wt S := by
  induction S with
  | nil => rfl
  | cons v r ih => simp only [List.map_cons, List.sum_cons, wt, ab_cat] at ih ⊢; rw [ih]
theorem mono_call (μ na W n : Nat) : Mono (oCall μ na W n) := fun c c' L S H r hl h => by
  simp only [oCall] at h ⊢
  split at h
  · rename_i hg
    rw [if_pos hg]
    split at h
    · rename_i hq
      rw [hl _ _ _ _ hq]; exact h
    · cases h
  · cases h
theorem grow_call (μ na W n : Nat) : Grow CT (oCall μ na W n) := fun call L S H r hc h => by
  simp only [oCall] at h
  split at h
  · split at h
    · rename_i hq
      cases h; exact hc _ _ _ _ _ hq
    · cases h
  · cases h
theorem s_callS {μ na W idx : Nat} {Mc : MI} {ps : List FieldType} {rt : Option FieldType} (hd : decode M.2.1 pc = .ok (.invokestatic idx, 3)) (hMc : MT[μ]? = some Mc) (w1 : (Jvm.Cond.methodLink M.1.cls idx Mc.1).before a0 Z = true) (w2 : (Jvm.Cond.static Mc.1).before a0 Z = true) (w3 : (Jvm.Cond.initialized Mc.1.cls).before a0 Z = true) (w4 : (Jvm.Cond.code Mc.1 Mc.2.1 Mc.2.2.1 Mc.2.2.2.1).before a0 Z = true)
    (hpd : parseMethodDescriptor Mc.1.desc = some ⟨ps, rt⟩) (hna : ps.length = na) (hy : Mc.1.cls ≠ "java/lang/invoke/MethodHandle" ∧ Mc.1.cls ≠ "java/lang/invoke/VarHandle") (hf0 : Mc.2.2.2.2.1 + 1 ≤ M.2.2.2.2.1) (hl0 : W + (Mc.2.2.1 + 11) + Mc.2.2.2.2.2 ≤ M.2.2.2.2.2) : Sound Z X CT l MT M pc (oCall μ na W (pc + 3)) := by
  refine ⟨mono_call _ _ _ _, grow_call _ _ _ _, ?_⟩
  intro p e R s m args below meth c hx hZ hown hby hnm hret hlk hf hl call hcall H0 Hf hRc hRs T L S H hs r h
  simp only [oCall] at h
  split at h
  · rename_i hg
    obtain ⟨hg1, hg2⟩ := hg
    split at h
    · rename_i v H' hq
      cases h
      obtain ⟨⟨u1, u2⟩, M', hM', con⟩ := hcall _ _ _ _ _ hq
      cases hMc.symm.trans hM'
      intro b1 b2
      obtain ⟨locs, Y, hrep, hfr, hlen, h1, h2, h3⟩ := hs
      have B := backOf (W := W) (args := args) (below := below) (p := p) (e := e) (R := R) (len := 3) (Q := fun w hh L => w = v.map (ab Z X) ∧ Fr Z.heap.size L ∧ Rep Z X CT hh H') (con T.heap hrep) hZ w4 w3 (Nat.le_trans hf0 hf) (Nat.le_trans hl0 hl)
      have hst : (fra Z X m pc L S).stack = (((S.take na).reverse).map (ab Z X)).reverse ++ (S.drop na).map (ab Z X) := by
        show S.map (ab Z X) = _
        rw [← List.map_reverse, List.reverse_reverse, ← List.map_append, List.take_append_drop]
      obtain ⟨v', vm₁, ⟨T', L', k', n'⟩, -, Y', ⟨Lc, ⟨hv, hfrL, hrep'⟩, l', y', z'⟩, st⟩ := Jvm.LawKit.callS Y hx (y := Mc.1) hown (mvT hZ w1) (mvT hZ w2) (mvT hZ w3) (mvT hZ w4) hy B (g := fra Z X m pc L S) rfl (by show (List.toArray _).size = _; simp [hlen]) (argsL := ((S.take na).reverse).map (ab Z X)) (rest := (S.drop na).map (ab Z X)) (lenOf hpd (by simp [hna]; omega)) hst (by rw [wt_map]; simpa using hg2) (hb hby hd) (fun _ _ => ⟨rfl, rfl, by show (H.length - H0.length) + (H'.length - H.length) ≤ R.cells; omega, by show (sz CT H - sz CT H0) + (sz CT H' - sz CT H) ≤ R.slots; omega⟩)
      dsimp only [Pt.U, Pt.locs, Pt.cells, Pt.slots] at Y' l' y' z' st hrep'
      subst l' y' z' hv
      refine ⟨T', ⟨locs ++ Lc, ?_, hrep', Fr.app hfr hfrL, hlen, by omega, by omega, h3⟩, ?_⟩
      · have e1 : (H.length - H0.length) + (H'.length - H.length) = H'.length - H0.length := by omega
        have e2 : (sz CT H - sz CT H0) + (sz CT H' - sz CT H) = sz CT H' - sz CT H0 := by omega
        rw [← e1, ← e2]; exact Y'
      · intro target ht
        refine st _ ?_
        have e3 : (v.toList ++ S.drop na).map (ab Z X) = (v.map (ab Z X)).toList ++ (S.drop na).map (ab Z X) := by cases v <;> simp
        show Steps p.tables e below (T'.setTop (mkF m (pc + 3) _ _)) target
        rw [← e3]; exact ht
    · cases h
  · cases h
end Ends
end Jvm.MV
namespace Jvm.MV
open Jvm Jvm.ClassFile Sem Op Lib Jvm.Free Jvm.Stand Jvm.LawKit Jvm.RoadKit Bundle
/-! ### steps that make, read and write cells -/
def oNewA (k : Nat) (dv : Value) (n : Nat) : MOp := fun _ L S H => match S with
  | .int z :: S' => if z < 0 then none else if z.toNatClampNeg * 8 ≤ 536870912 then some (.inl (n, L, .ref H.length :: S', H ++ [(k, List.replicate z.toNatClampNeg dv)])) else none
  | _ => none
def oNew (k : Nat) (ds : List Value) (n : Nat) : MOp := fun _ L S H => some (.inl (n, L, .ref H.length :: S, H ++ [(k, ds)]))
/-- read place j of an array of kind k -/
def oALd (k : Nat) (n : Nat) : MOp := fun _ L S H => match S with
  | .int j :: .ref a :: S' => match H[a]? with
    | some (k', vs) => match Nat.beq k' k with
      | true => if j < 0 then none else match vs[j.toNatClampNeg]? with
        | some v => some (.inl (n, L, v :: S', H))
        | none => none
      | false => none
    | none => none
  | _ => none
def oASt (xl : Nat) (k : Nat) (t : FieldType) (n : Nat) : MOp := fun _ L S H => match S with
  | .int x :: .int j :: .ref a :: S' => match H[a]? with
    | some (k', vs) => match Nat.beq k' k && Nat.ble xl a with
      | true => if j < 0 then none else match Nat.ble vs.length j.toNatClampNeg with
        | false => some (.inl (n, L, S', H.set a (k', vs.set j.toNatClampNeg (.int (nar t x)))))
        | true => none
      | false => none
    | none => none
  | _ => none
def oALen (k : Nat) (n : Nat) : MOp := fun _ L S H => match S with
  | .ref a :: S' => match H[a]? with
    | some (k', vs) => match Nat.beq k' k with
      | true => some (.inl (n, L, .int vs.length.toInt32 :: S', H))
      | false => none
    | none => none
  | _ => none
def oGetF (k pos n : Nat) : MOp := fun _ L S H => match S with
  | .ref a :: S' => match H[a]? with
    | some (k', vs) => match Nat.beq k' k with
      | true => match vs[pos]? with
        | some v => some (.inl (n, L, v :: S', H))
        | none => none
      | false => none
    | none => none
  | _ => none
/-- a value as a field of this type takes it -/
def cv : FieldType → Value → Option Value
  | .int, .int x => some (.int x)
  | .boolean, .int x => some (.int (nar .boolean x))
  | .byte, .int x => some (.int (nar .byte x))
  | .long, .long x => some (.long x)
  | .object _, .null => some .null
  | .object _, .ref a => some (.ref a)
  | .array _, .null => some .null
  | .array _, .ref a => some (.ref a)
  | _, _ => none
def oPutF (xl : Nat) (k pos : Nat) (ty : FieldType) (n : Nat) : MOp := fun _ L S H => match S with
  | v :: .ref a :: S' => match H[a]? with
    | some (k', vs) => match Nat.beq k' k && Nat.ble xl a with
      | true => match cv ty v with
        | some v' => some (.inl (n, L, S', H.set a (k', vs.set pos v')))
        | none => none
      | false => none
    | none => none
  | _ => none
def oInit0 (W n : Nat) : MOp := fun _ L S H => match S with
  | .ref _ :: S' => if wt S' ≤ W then some (.inl (n, L, S', H)) else none
  | _ => none
/-- a call whose receiver is an object of kind k -/
def oCallR (k μ na W n : Nat) : MOp := fun call L S H =>
  if na + 1 ≤ S.length ∧ wt (S.drop (na + 1)) ≤ W then match S[na]? with
    | some (.ref a) => match H[a]? with
      | some (k', _) => match Nat.beq k' k with
        | true => match call μ (.ref a :: (S.take na).reverse) H with
          | some (v, H') => some (.inl (n, L, v.toList ++ S.drop (na + 1), H'))
          | none => none
        | false => none
      | none => none
    | _ => none
  else none
section Heap
variable {Z : State} {X : List Addr} {CT : Tab} {l : Launch} {MT : List MI} {M : MI} {pc : Nat} {a0 : Array Value} {h h' : Heap} {H : MH} {i k : Nat} {vs : List Value}
theorem ph_fresh (hi : X.length ≤ i) : ph Z X i = Z.heap.size + (i - X.length) := by
  simp [ph, List.getElem?_eq_none hi]
theorem ph_old (hX : ∀ a ∈ X, a < Z.heap.size) (hi : i < X.length) : ph Z X i < Z.heap.size := by
  simp only [ph, List.getElem?_eq_getElem hi]; exact hX _ (List.getElem_mem hi)
theorem ph_ne (hX : ∀ a ∈ X, a < Z.heap.size) {j : Nat} (hij : i ≠ j) (hi : X.length ≤ i ∨ X.length ≤ j) : ph Z X i ≠ ph Z X j := by
  rcases Nat.lt_or_ge i X.length with h1 | h1 <;> rcases Nat.lt_or_ge j X.length with h2 | h2
  · omega
  · have := ph_old hX h1; have := ph_fresh (Z := Z) h2; omega
  · have := ph_old hX h2; have := ph_fresh (Z := Z) h1; omega
  · have := ph_fresh (Z := Z) h1; have := ph_fresh (Z := Z) h2; omega
theorem CellOk.ext {a : Addr} (E : Ext h h') (q : CellOk Z X CT h a k vs) : CellOk Z X CT h' a k vs := by
  simp only [CellOk] at q ⊢
  split at q
  · obtain ⟨c, A, s, q1, q2⟩ := q
    exact ⟨c, A.ext E, s, fun w => (q1 w).ext E, q2⟩
  · exact ⟨q.1.ext E, q.2.1, fun j O nm d ty v h1 h2 => (q.2.2 j O nm d ty v h1 h2).ext E⟩
  · exact q
theorem CellOk.other {a b : Addr} {sl : Nat} {v : Value} (W : Wr h h' b sl v) (hne : a ≠ b) (q : CellOk Z X CT h a k vs) : CellOk Z X CT h' a k vs := by
  simp only [CellOk] at q ⊢
  split at q
  · obtain ⟨c, A, s, q1, q2⟩ := q
    exact ⟨c, A.other W hne, s, fun w => (q1 w).wr W, q2⟩
  · exact ⟨q.1.wr W, q.2.1, fun j O nm d ty v h1 h2 => (q.2.2 j O nm d ty v h1 h2).other W (Or.inl hne)⟩
  · exact q
theorem Rep.push (R : Rep Z X CT h H) (E : Ext h h') (hs : h'.size = h.size + 1) (hc : CellOk Z X CT h' h.size k vs) : Rep Z X CT h' (H ++ [(k, vs)]) := by
  obtain ⟨r1, r2, r3, r4⟩ := R
  refine ⟨by simp; omega, by simp; omega, fun a ha => ?_, fun i k' vs' hi => ?_⟩
  · have hlt : a < h.size := by omega
    have e1 : h[a]? = some h[a] := Array.getElem?_eq_getElem hlt
    rw [E.2 _ _ e1, ← e1]; exact r3 a ha
  · rcases Nat.lt_trichotomy i H.length with q | q | q
    · rw [List.getElem?_append_left q] at hi
      exact (r4 i k' vs' hi).ext E
    · subst q
      simp at hi
      obtain ⟨rfl, rfl⟩ := hi
      rw [ph_fresh r1, ← r2]; exact hc
    · rw [List.getElem?_eq_none (by simp; omega)] at hi; cases hi
theorem Rep.at (R : Rep Z X CT h H) {q : Nat × List Value} (hi : H[i]? = some q) : CellOk Z X CT h (ph Z X i) q.1 q.2 := R.2.2.2 i q.1 q.2 hi
theorem Rep.upd (hX : ∀ a ∈ X, a < Z.heap.size) (R : Rep Z X CT h H) (hi : X.length ≤ i) {sl : Nat} {v : Value} (W : Wr h h' (ph Z X i) sl v) (hc : CellOk Z X CT h' (ph Z X i) k vs) : Rep Z X CT h' (H.set i (k, vs)) := by
  obtain ⟨r1, r2, r3, r4⟩ := R
  refine ⟨by simpa using r1, by rw [W.size]; simpa using r2, fun a ha => ?_, fun j k' vs' hj => ?_⟩
  · have hne : a ≠ ph Z X i := by have := ph_fresh (Z := Z) hi; omega
    rw [← r3 a ha]
    obtain ⟨cell, -, -, -, rfl⟩ := W
    rw [Array.getElem?_setIfInBounds_ne (Ne.symm hne)]
  · by_cases e : j = i
    · subst e
      by_cases hl : j < H.length
      · rw [List.getElem?_set_self hl] at hj
        cases hj; exact hc
      · rw [List.getElem?_eq_none (by simp; omega)] at hj; cases hj
    · rw [List.getElem?_set_ne (Ne.symm e)] at hj
      exact (r4 j k' vs' hj).other W (ph_ne hX e (Or.inr hi))
theorem sz_app (H : MH) (q : Nat × List Value) : sz CT (H ++ [q]) = sz CT H + szc CT q := by simp [sz]
theorem sz_set {q q' : Nat × List Value} (hi : H[i]? = some q) (hq : szc CT q' = szc CT q) : sz CT (H.set i q') = sz CT H := by
  have e : (H.set i q').map (szc CT) = H.map (szc CT) := by
    rw [List.map_set, hq]
    refine List.ext_getElem? fun j => ?_
    by_cases hj : i = j
    · subst hj
      have hl : i < H.length := (List.getElem?_eq_some_iff.mp hi).1
      rw [List.getElem?_set_self (by simpa using hl)]
      simp [hi]
    · rw [List.getElem?_set_ne hj]
  simp only [sz, e]
theorem ab_default (t : FieldType) : ab Z X (defaultValue t) = defaultValue t := by cases t <;> rfl
theorem grow_newA (k : Nat) (dv : Value) (n : Nat) : Grow CT (oNewA k dv n) := fun call L S H r hc h => by
  simp only [oNewA] at h
  split at h
  · split at h
    · cases h
    · split at h
      · cases h; exact ⟨by simp [hOf], by simp only [hOf, sz_app]; omega⟩
      · cases h
  · cases h
theorem s_newA {aty : ArrayType} {n1 : Nat} {fs : List (String × String × String × FieldType)} (hd : decode M.2.1 pc = .ok (.newarray aty, 2)) (w : (Jvm.Cond.arrayClass (newarray.typeOf aty)).before a0 Z = true) (hk : CT[k]? = some (.array (newarray.typeOf aty), n1, fs)) {dv : Value} (hdv : defaultValue (newarray.typeOf aty) = dv) : Sound Z X CT l MT M pc (oNewA k dv (pc + 2)) := by
  subst hdv
  refine ⟨fun _ _ _ _ _ _ _ h => h, grow_newA _ _ _, ?_⟩
  intro p e R s m args below meth c hx hZ hown hby hnm hret hlk hf hl call hcall H0 Hf hRc hRs T L S H hs r h
  simp only [oNewA] at h
  split at h
  · rename_i z S'
    split at h
    · cases h
    · rename_i hz
      split at h
      · rename_i hbig
        cases h
        intro b1 b2
        obtain ⟨locs, Y, hrep, hfr, hlen, h1, h2, h3⟩ := hs
        have es : szc CT (k, List.replicate z.toNatClampNeg (defaultValue (newarray.typeOf aty))) = z.toNatClampNeg := by simp [szc, hk]
        rw [sz_app, es] at b2
        simp at b1
        obtain ⟨T', h', cA, Y', e', E, A, Ex, st⟩ := newPE Y hx hZ w rfl (g := fra Z X m pc L (.int z :: S')) rfl (hb hby hd) rfl hz (cap := z.toNatClampNeg) (Nat.le_refl _) hbig (by omega) (by omega) rfl
        have hsz : h'.size = T.heap.size + 1 := by
          have q1 : T.heap.size < h'.size := A.lt
          have q2 : T'.heap.size ≤ _ := Y'.heapSize
          have q3 := hrep.2.1
          obtain ⟨u1, u2⟩ := h3
          have q4 := hrep.1
          rw [e'] at q2
          omega
        refine ⟨T', ⟨locs, ?_, ?_, hfr, hlen, by simp; omega, by rw [sz_app]; omega, h3⟩, fun target ht => st _ ?_⟩
        · have e1 : (H ++ [(k, List.replicate z.toNatClampNeg (defaultValue (newarray.typeOf aty)))]).length - H0.length = H.length - H0.length + 1 := by simp; omega
          have e2 : sz CT (H ++ [(k, List.replicate z.toNatClampNeg (defaultValue (newarray.typeOf aty)))]) - sz CT H0 = sz CT H - sz CT H0 + z.toNatClampNeg := by rw [sz_app, es]; omega
          rw [e1, e2]; exact Y'
        · rw [e']
          refine hrep.push E hsz ?_
          simp only [CellOk, hk]
          refine ⟨_, A, ?_, fun _ => Ex, fun _ C hC => ?_⟩
          · simp [newA, ab_default]
          · cases aty <;> simp [newarray.typeOf] at hC
        · have e3 : ab Z X (.ref H.length) = .ref T.heap.size := by simp only [ab, ph_fresh hrep.1, hrep.2.1]
          show Steps p.tables e below (T'.setTop (mkF m (pc + 2) _ (.ref T.heap.size :: _))) target
          rw [← e3]; exact ht
      · cases h
  · cases h
theorem grow_same {f : MOp} (hh : ∀ c L S H r, f c L S H = some r → hOf r = H) : Grow CT f := fun call L S H r hc h => by rw [hh _ _ _ _ _ h]; exact Up.refl _
theorem arr_at (R : Rep Z X CT h H) {q : Nat × List Value} (hi : H[i]? = some q) {t : FieldType} {n1 : Nat} {fs : List (String × String × String × FieldType)} (hk : CT[q.1]? = some (.array t, n1, fs)) : ∃ c, Arr Z h (ph Z X i) c t ∧ c.slots = (q.2.map (ab Z X)).toArray ∧ (n1 = 1 → Exa Z h (ph Z X i) ("[" ++ t.toString)) ∧ (n1 = 1 → ∀ C, t = .object C → Ovr Z c.cls C) := by
  have := R.at hi
  simpa only [CellOk, hk] using this
/-- reading an array: what the model's own law for the instruction says is handed in -/
theorem s_ald {t : FieldType} {n1 : Nat} {fs : List (String × String × String × FieldType)} (hk : CT[k]? = some (.array t, n1, fs))
    (law : ∀ (p : Program) (l : Launch) (e : Env) (R : Room) (s : State) (m : MethodId) (args : Array Value) (below : List Frame) (meth : Method) (c : Code) (T : State) (locs : List Loc) (cells slots : Nat), Stand p l e R s m args below meth c T locs cells slots → p.tables.exec = Jvm.exec → c.code = M.2.1 → ∀ (a : Addr) (cell : Cell) (j : Int32) (v : Value), T.heap[a]? = some cell → s.isArrayOf cell t → cell.vm ≠ .unknown → ¬ (j < 0 ∨ cell.slots.size ≤ j.toNatClampNeg) → cell.slots[j.toNatClampNeg]? = some v →
      ∀ (Ls : Array Slot) (rest : List Value) (target : State), Steps p.tables e below (T.setTop (mkF m (pc + 1) Ls (v :: rest))) target → Steps p.tables e below (T.setTop (mkF m pc Ls (.int j :: .ref a :: rest))) target) : Sound Z X CT l MT M pc (oALd k (pc + 1)) := by
  refine ⟨fun _ _ _ _ _ _ _ h => h, grow_same fun c L S H r h => ?_, ?_⟩
  · simp only [oALd] at h
    repeat' (split at h)
    all_goals first | (cases h; done) | (cases h; rfl)
  · intro p e R s m args below meth c hx hZ hown hby hnm hret hlk hf hl call hcall H0 Hf hRc hRs T L S H hs r h
    simp only [oALd] at h
    split at h
    · rename_i j a S'
      split at h
      · rename_i k' vs hH
        split at h
        · rename_i hb1
          cases Nat.eq_of_beq_eq_true hb1
          split at h
          · cases h
          · rename_i hj
            split at h
            · rename_i v hv
              cases h
              intro b1 b2
              obtain ⟨locs, Y, hrep, hfr, hlen, h1, h2, h3⟩ := hs
              obtain ⟨cell, A, hsl, -⟩ := arr_at hrep hH hk
              have hlt : j.toNatClampNeg < vs.length := (List.getElem?_eq_some_iff.mp hv).1
              refine ⟨T, ⟨locs, Y, hrep, hfr, hlen, h1, h2, h3⟩, fun target ht => ?_⟩
              exact law _ _ _ _ _ _ _ _ _ _ _ _ _ _ Y hx hby _ _ _ _ A.1 (State.isArrayOf_alike hZ.alike A.2.1) A.2.2 (by rw [hsl]; simp; exact ⟨by simpa [Int32.not_lt] using hj, hlt⟩) (by rw [hsl]; simp [hv]) _ _ target ht
            · cases h
        · cases h
      · cases h
    · cases h
theorem s_iaload {n1 : Nat} {fs : List (String × String × String × FieldType)} (hd : decode M.2.1 pc = .ok (.iaload, 1)) (hk : CT[k]? = some (.array .int, n1, fs)) : Sound Z X CT l MT M pc (oALd k (pc + 1)) :=
  s_ald hk fun _ _ _ _ _ _ _ _ _ _ _ _ _ _ Y hx hby _ _ _ _ h1 h2 h3 h4 h5 _ _ target ht => Y.iaload hx h1 h2 h3 h4 h5 (g := mkF _ pc _ _) rfl rfl (hb hby hd) target ht
theorem s_laload {n1 : Nat} {fs : List (String × String × String × FieldType)} (hd : decode M.2.1 pc = .ok (.laload, 1)) (hk : CT[k]? = some (.array .long, n1, fs)) : Sound Z X CT l MT M pc (oALd k (pc + 1)) :=
  s_ald hk fun _ _ _ _ _ _ _ _ _ _ _ _ _ _ Y hx hby _ _ _ _ h1 h2 h3 h4 h5 _ _ target ht => Y.laload hx h1 h2 h3 h4 h5 (g := mkF _ pc _ _) rfl rfl (hb hby hd) target ht
theorem s_baload {n1 : Nat} {fs : List (String × String × String × FieldType)} (hd : decode M.2.1 pc = .ok (.baload, 1)) (hk : CT[k]? = some (.array .byte, n1, fs)) : Sound Z X CT l MT M pc (oALd k (pc + 1)) :=
  s_ald hk fun _ _ _ _ _ _ _ _ _ _ _ _ _ _ Y hx hby _ _ _ _ h1 h2 h3 h4 h5 _ _ target ht => Y.baloadBytes hx h1 h2 h3 h4 h5 (g := mkF _ pc _ _) rfl rfl (hb hby hd) target ht
theorem s_zaload {n1 : Nat} {fs : List (String × String × String × FieldType)} (hd : decode M.2.1 pc = .ok (.baload, 1)) (hk : CT[k]? = some (.array .boolean, n1, fs)) : Sound Z X CT l MT M pc (oALd k (pc + 1)) :=
  s_ald hk fun _ _ _ _ _ _ _ _ _ _ _ _ _ _ Y hx hby _ _ _ _ h1 h2 h3 h4 h5 _ _ target ht => Y.baloadBooleans hx h1 h2 h3 h4 h5 (g := mkF _ pc _ _) rfl rfl (hb hby hd) target ht
theorem s_caload {n1 : Nat} {fs : List (String × String × String × FieldType)} (hd : decode M.2.1 pc = .ok (.caload, 1)) (hk : CT[k]? = some (.array .char, n1, fs)) : Sound Z X CT l MT M pc (oALd k (pc + 1)) :=
  s_ald hk fun _ _ _ _ _ _ _ _ _ _ _ _ _ _ Y hx hby _ _ _ _ h1 h2 h3 h4 h5 _ _ target ht => Y.caload hx h1 h2 h3 h4 h5 (g := mkF _ pc _ _) rfl rfl (hb hby hd) target ht
theorem s_aaload {t : FieldType} {n1 : Nat} {fs : List (String × String × String × FieldType)} (hd : decode M.2.1 pc = .ok (.aaload, 1)) (ht : t.isReference = true) (hk : CT[k]? = some (.array t, n1, fs)) : Sound Z X CT l MT M pc (oALd k (pc + 1)) :=
  s_ald hk fun _ _ _ _ _ _ _ _ _ _ _ _ _ _ Y hx hby _ _ _ _ h1 h2 h3 h4 h5 _ _ target ht' => Y.aaload hx h1 h2 ht h3 h4 h5 (g := mkF _ pc _ _) rfl rfl (hb hby hd) target ht'
theorem s_alen {t : FieldType} {n1 : Nat} {fs : List (String × String × String × FieldType)} (hd : decode M.2.1 pc = .ok (.arraylength, 1)) (hk : CT[k]? = some (.array t, n1, fs)) : Sound Z X CT l MT M pc (oALen k (pc + 1)) := by
  refine ⟨fun _ _ _ _ _ _ _ h => h, grow_same fun c L S H r h => ?_, ?_⟩
  · simp only [oALen] at h
    repeat' (split at h)
    all_goals first | (cases h; done) | (cases h; rfl)
  · intro p e R s m args below meth c hx hZ hown hby hnm hret hlk hf hl call hcall H0 Hf hRc hRs T L S H hs r h
    simp only [oALen] at h
    split at h
    · rename_i a S'
      split at h
      · rename_i k' vs hH
        split at h
        · rename_i hb1
          cases Nat.eq_of_beq_eq_true hb1
          cases h
          intro b1 b2
          obtain ⟨locs, Y, hrep, hfr, hlen, h1, h2, h3⟩ := hs
          obtain ⟨cell, A, hsl, -⟩ := arr_at hrep hH hk
          refine ⟨T, ⟨locs, Y, hrep, hfr, hlen, h1, h2, h3⟩, fun target ht => ?_⟩
          refine Y.arraylength hx A.1 (State.isArrayOf_alike hZ.alike A.2.1) (g := fra Z X m pc L (.ref a :: S')) rfl rfl (hb hby hd) target ?_
          rw [hsl]; simp only [List.size_toArray, List.length_map]; exact ht
        · cases h
      · cases h
    · cases h
/-- writing an int-like array -/
theorem s_ast (hX : ∀ a ∈ X, a < Z.heap.size) {t : FieldType} {n1 : Nat} {fs : List (String × String × String × FieldType)} (hk : CT[k]? = some (.array t, n1, fs))
    (law : ∀ (p : Program) (l : Launch) (e : Env) (R : Room) (s : State) (m : MethodId) (args : Array Value) (below : List Frame) (meth : Method) (c : Code) (T : State) (locs : List Loc) (cells slots : Nat), Stand p l e R s m args below meth c T locs cells slots → p.tables.exec = Jvm.exec → Z.Warmed39 s.vm → c.code = M.2.1 → ∀ (h : Heap), T.heap = h → ∀ (a : Addr) (cl : Cell), Arr Z h a cl t → ∀ (j x : Int32), ¬ (j < 0 ∨ cl.slots.size ≤ j.toNatClampNeg) → ∀ (Ls : Array Slot) (rest : List Value),
      ∃ T' h', Stand p l e R s m args below meth c T' (locs ++ [⟨a, j.toNatClampNeg⟩]) cells slots ∧ T'.heap = h' ∧ Wr h h' a j.toNatClampNeg (.int (nar t x)) ∧ ∀ target, Steps p.tables e below (T'.setTop (mkF m (pc + 1) Ls rest)) target → Steps p.tables e below (T.setTop (mkF m pc Ls (.int x :: .int j :: .ref a :: rest))) target) : Sound Z X CT l MT M pc (oASt X.length k t (pc + 1)) := by
  have sset : ∀ {H : MH} {a : Nat} {vs : List Value} (j : Nat) (v : Value), H[a]? = some (k, vs) → sz CT (H.set a (k, vs.set j v)) = sz CT H := fun j v hH => sz_set hH (by simp [szc, hk])
  refine ⟨fun _ _ _ _ _ _ _ h => h, fun call L S H r hc h => ?_, ?_⟩
  · simp only [oASt] at h
    split at h
    · split at h
      · rename_i k' vs hH
        split at h
        · rename_i hb1
          have e1 := Nat.eq_of_beq_eq_true (Bool.and_eq_true_iff.mp hb1).1
          subst e1
          split at h
          · cases h
          · split at h
            · cases h; exact ⟨by simp [hOf], by simp only [hOf]; rw [sset _ _ hH]; exact Nat.le_refl _⟩
            · cases h
        · cases h
      · cases h
    · cases h
  · intro p e R s m args below meth c hx hZ hown hby hnm hret hlk hf hl call hcall H0 Hf hRc hRs T L S H hs r h
    simp only [oASt] at h
    split at h
    · rename_i x j a S'
      split at h
      · rename_i k' vs hH
        split at h
        · rename_i hb1
          obtain ⟨hb1, hb2⟩ := Bool.and_eq_true_iff.mp hb1
          have e1 := Nat.eq_of_beq_eq_true hb1
          subst e1
          have hxa : X.length ≤ a := Nat.le_of_ble_eq_true hb2
          split at h
          · cases h
          · rename_i hj
            split at h
            · rename_i hb3
              have hlt : j.toNatClampNeg < vs.length := Nat.lt_of_not_le fun q => by rw [Nat.ble_eq_true_of_le q] at hb3; cases hb3
              cases h
              intro b1 b2
              obtain ⟨locs, Y, hrep, hfr, hlen, h1, h2, h3⟩ := hs
              obtain ⟨cell, A, hsl, q1, q2⟩ := arr_at hrep hH hk
              have hin : ¬ (j < 0 ∨ cell.slots.size ≤ j.toNatClampNeg) := by rw [hsl]; simp; exact ⟨by simpa [Int32.not_lt] using hj, hlt⟩
              obtain ⟨T', h', Y', e', W, st⟩ := law _ _ _ _ _ _ _ _ _ _ _ _ _ _ Y hx hZ hby _ rfl _ _ A _ x hin (L.map (abS Z X)).toArray (S'.map (ab Z X))
              refine ⟨T', ⟨_, ?_, ?_, Fr.snoc Y' hfr ?_, hlen, by simpa using h1, by rw [sset _ _ hH]; exact h2, h3⟩, st⟩
              · rw [sset _ _ hH, List.length_set]; exact Y'
              · rw [e']
                refine hrep.upd hX hxa W ?_
                simp only [CellOk, hk]
                refine ⟨_, A.same W, ?_, fun w => (q1 w).wr W, q2⟩
                simp only [Cell.setSlot, hsl]
                simp [List.map_set, ab]
              · have := ph_fresh (Z := Z) hxa; omega
            · cases h
        · cases h
      · cases h
    · cases h
theorem s_iastore (hX : ∀ a ∈ X, a < Z.heap.size) {n1 : Nat} {fs : List (String × String × String × FieldType)} (hd : decode M.2.1 pc = .ok (.iastore, 1)) (hk : CT[k]? = some (.array .int, n1, fs)) : Sound Z X CT l MT M pc (oASt X.length k .int (pc + 1)) :=
  s_ast hX hk fun _ _ _ _ _ _ _ _ _ _ _ _ _ _ Y hx hZ hby _ eT _ _ A _ _ hj _ _ => stI Y hx hZ eT A hj (g := mkF _ pc _ _) rfl rfl (hb hby hd)
theorem s_bastore (hX : ∀ a ∈ X, a < Z.heap.size) {n1 : Nat} {fs : List (String × String × String × FieldType)} (hd : decode M.2.1 pc = .ok (.bastore, 1)) (hk : CT[k]? = some (.array .byte, n1, fs)) : Sound Z X CT l MT M pc (oASt X.length k .byte (pc + 1)) :=
  s_ast hX hk fun _ _ _ _ _ _ _ _ _ _ _ _ _ _ Y hx hZ hby _ eT _ _ A _ _ hj _ _ => stB Y hx hZ eT A hj (g := mkF _ pc _ _) rfl rfl (hb hby hd)
theorem s_zastore (hX : ∀ a ∈ X, a < Z.heap.size) {n1 : Nat} {fs : List (String × String × String × FieldType)} (hd : decode M.2.1 pc = .ok (.bastore, 1)) (hk : CT[k]? = some (.array .boolean, n1, fs)) : Sound Z X CT l MT M pc (oASt X.length k .boolean (pc + 1)) :=
  s_ast hX hk fun _ _ _ _ _ _ _ _ _ _ _ _ _ _ Y hx hZ hby _ eT _ _ A _ _ hj _ _ => stZ Y hx hZ eT A hj (g := mkF _ pc _ _) rfl rfl (hb hby hd)
theorem s_castore (hX : ∀ a ∈ X, a < Z.heap.size) {n1 : Nat} {fs : List (String × String × String × FieldType)} (hd : decode M.2.1 pc = .ok (.castore, 1)) (hk : CT[k]? = some (.array .char, n1, fs)) : Sound Z X CT l MT M pc (oASt X.length k .char (pc + 1)) :=
  s_ast hX hk fun _ _ _ _ _ _ _ _ _ _ _ _ _ _ Y hx hZ hby _ eT _ _ A _ _ hj _ _ => stC Y hx hZ eT A hj (g := mkF _ pc _ _) rfl rfl (hb hby hd)
end Heap
end Jvm.MV
namespace Jvm.MV
open Jvm Jvm.ClassFile Sem Op Lib Jvm.Free Jvm.Stand Jvm.LawKit Jvm.RoadKit Bundle
section Objs
variable {Z : State} {X : List Addr} {CT : Tab} {l : Launch} {MT : List MI} {M : MI} {pc : Nat} {a0 : Array Value} {h h' : Heap} {H : MH} {i k : Nat} {vs : List Value}
/-- the sheet lays these fields into the class C -/
def LaysAll (Z : State) (a0 : Array Value) (C : String) (fs : List (String × String × String × FieldType)) : Prop := allP (fun f => Laid Z a0 C f.1 f.2.1 f.2.2.1 ∧ parseFieldDescriptor f.2.2.1 = some f.2.2.2) fs
theorem grow_new (k : Nat) (ds : List Value) (n : Nat) : Grow CT (oNew k ds n) := fun call L S H r hc h => by
  cases h; exact ⟨by simp [hOf], by simp only [hOf, sz_app]; omega⟩
theorem s_new {C : String} {idx n1 : Nat} {fs : List (String × String × String × FieldType)} (hd : decode M.2.1 pc = .ok (.new idx, 3)) (w : (Jvm.Cond.classLink M.1.cls idx C).before a0 Z = true) (wi : (Jvm.Cond.instantiable C n1).before a0 Z = true) (wz : (Jvm.Cond.initialized C).before a0 Z = true) (hk : CT[k]? = some (.object C, n1, fs)) (hL : LaysAll Z a0 C fs) {ds : List Value} (hds : fs.map (fun f => defaultValue f.2.2.2) = ds) : Sound Z X CT l MT M pc (oNew k ds (pc + 3)) := by
  subst hds
  refine ⟨fun _ _ _ _ _ _ _ h => h, grow_new _ _ _, ?_⟩
  intro p e R s m args below meth c hx hZ hown hby hnm hret hlk hf hl call hcall H0 Hf hRc hRs T L S H hs r h
  cases h
  intro b1 b2
  obtain ⟨locs, Y, hrep, hfr, hlen, h1, h2, h3⟩ := hs
  have es : szc CT (k, fs.map (fun f => defaultValue f.2.2.2)) = n1 := by simp [szc, hk]
  rw [sz_app, es] at b2
  simp at b1
  obtain ⟨T', h', Y', e', E, A, D, -, st⟩ := newO Y hx hZ hown w wi wz rfl (g := fra Z X m pc L S) rfl (hb hby hd) (by omega) (by omega)
  have hsz : h'.size = T.heap.size + 1 := by
    have q1 : T.heap.size < h'.size := A.lt
    have q2 : T'.heap.size ≤ _ := Y'.heapSize
    have q3 := hrep.2.1
    obtain ⟨u1, u2⟩ := h3
    have q4 := hrep.1
    rw [e'] at q2
    omega
  refine ⟨T', ⟨locs, ?_, ?_, hfr, hlen, by simp; omega, by rw [sz_app]; omega, h3⟩, fun target ht => st _ ?_⟩
  · have e1 : (H ++ [(k, fs.map (fun f => defaultValue f.2.2.2))]).length - H0.length = H.length - H0.length + 1 := by simp; omega
    have e2 : sz CT (H ++ [(k, fs.map (fun f => defaultValue f.2.2.2))]) - sz CT H0 = sz CT H - sz CT H0 + n1 := by rw [sz_app, es]; omega
    rw [e1, e2]; exact Y'
  · rw [e']
    refine hrep.push E hsz ?_
    simp only [CellOk, hk]
    refine ⟨A, by simp, fun j O nm d ty v h1 h2 => ?_⟩
    simp only [List.getElem?_map, h1, Option.map_some, Option.some.injEq] at h2
    subst h2
    have q := allP_mem hL _ (List.mem_of_getElem? h1)
    rw [ab_default]
    exact D q.1 q.2
  · have e3 : ab Z X (.ref H.length) = .ref T.heap.size := by simp only [ab, ph_fresh hrep.1, hrep.2.1]
    show Steps p.tables e below (T'.setTop (mkF m (pc + 3) _ (.ref T.heap.size :: _))) target
    rw [← e3]; exact ht
theorem obj_at (R : Rep Z X CT h H) {q : Nat × List Value} (hi : H[i]? = some q) {C : String} {n1 : Nat} {fs : List (String × String × String × FieldType)} (hk : CT[q.1]? = some (.object C, n1, fs)) : Exa Z h (ph Z X i) C ∧ q.2.length = fs.length ∧ ∀ (j : Nat) (O nm d : String) (ty : FieldType) (v : Value), fs[j]? = some (O, nm, d, ty) → q.2[j]? = some v → Fld Z h (ph Z X i) O nm d (ab Z X v) := by
  have := R.at hi
  simpa only [CellOk, hk] using this
theorem s_getF {C R0 O nm d host : String} {ty : FieldType} {idx n1 pos : Nat} {fs : List (String × String × String × FieldType)} (hd : decode M.2.1 pc = .ok (.getfield idx, 3)) (w : (Jvm.Cond.fieldLink M.1.cls idx R0 nm d).before a0 Z = true ∨ (Jvm.Cond.fieldLinkNest M.1.cls idx R0 nm d host).before a0 Z = true) (via : Via Z R0 O nm d) (hk : CT[k]? = some (.object C, n1, fs)) (hp : fs[pos]? = some (O, nm, d, ty)) : Sound Z X CT l MT M pc (oGetF k pos (pc + 3)) := by
  refine ⟨fun _ _ _ _ _ _ _ h => h, grow_same fun c L S H r h => ?_, ?_⟩
  · simp only [oGetF] at h
    repeat' (split at h)
    all_goals first | (cases h; done) | (cases h; rfl)
  · intro p e R s m args below meth c hx hZ hown hby hnm hret hlk hf hl call hcall H0 Hf hRc hRs T L S H hs r h
    simp only [oGetF] at h
    split at h
    · rename_i a S'
      split at h
      · rename_i k' vs hH
        split at h
        · rename_i hb1
          have e1 := Nat.eq_of_beq_eq_true hb1
          subst e1
          split at h
          · rename_i v hv
            cases h
            intro b1 b2
            obtain ⟨locs, Y, hrep, hfr, hlen, h1, h2, h3⟩ := hs
            have F := (obj_at hrep hH hk).2.2 _ _ _ _ _ _ hp hv
            obtain ⟨T', Y', e', st⟩ := getF Y hx hZ hown w via rfl F (g := fra Z X m pc L (.ref a :: S')) rfl rfl (hb hby hd)
            exact ⟨T', ⟨locs, Y', by rw [e']; exact hrep, hfr, hlen, h1, h2, h3⟩, st⟩
          · cases h
        · cases h
      · cases h
    · cases h
theorem cv_spec {ty : FieldType} {v v' : Value} (h : cv ty v = some v') : narrow ty (ab Z X v) = ab Z X v' ∧ fits ty (ab Z X v') = true := by
  cases ty <;> cases v <;> simp only [cv, reduceCtorEq, Option.some.injEq] at h <;> subst h <;> first | exact ⟨rfl, rfl⟩ | exact ⟨rfl, fits_nar_bool _⟩ | exact ⟨rfl, fits_nar_byte _⟩
theorem s_putF (hX : ∀ a ∈ X, a < Z.heap.size) {C R0 O nm d : String} {ty : FieldType} {idx n1 pos : Nat} {fs : List (String × String × String × FieldType)} (hd : decode M.2.1 pc = .ok (.putfield idx, 3)) (w : (Jvm.Cond.fieldLink M.1.cls idx R0 nm d).before a0 Z = true) (via : Via Z R0 O nm d) (hk : CT[k]? = some (.object C, n1, fs)) (hp : fs[pos]? = some (O, nm, d, ty))
    (hL : LaysAll Z a0 C fs) (hnd : (fs.map (fun f => f.2.1)).Nodup) (wi : (Jvm.Cond.instantiable C n1).before a0 Z = true) (wl : (Jvm.Cond.lays C O nm d).before a0 Z = true ∨ ((Jvm.Cond.laysFinal C O nm d).before a0 Z = true ∧ M.1.cls = O ∧ M.1.name = "<init>")) : Sound Z X CT l MT M pc (oPutF X.length k pos ty (pc + 3)) := by
  have sset : ∀ {H : MH} {a : Nat} {vs : List Value} (j : Nat) (v : Value), H[a]? = some (k, vs) → sz CT (H.set a (k, vs.set j v)) = sz CT H := fun j v hH => sz_set hH (by simp [szc, hk])
  refine ⟨fun _ _ _ _ _ _ _ h => h, fun call L S H r hc h => ?_, ?_⟩
  · simp only [oPutF] at h
    split at h
    · split at h
      · rename_i k' vs hH
        split at h
        · rename_i hb1
          have e1 := Nat.eq_of_beq_eq_true (Bool.and_eq_true_iff.mp hb1).1
          subst e1
          split at h
          · cases h; exact ⟨by simp [hOf], by simp only [hOf]; rw [sset _ _ hH]; exact Nat.le_refl _⟩
          · cases h
        · cases h
      · cases h
    · cases h
  · intro p e R s m args below meth c hx hZ hown hby hnm hret hlk hf hl call hcall H0 Hf hRc hRs T L S H hs r h
    simp only [oPutF] at h
    split at h
    · rename_i v a S'
      split at h
      · rename_i k' vs hH
        split at h
        · rename_i hb1
          obtain ⟨hb1, hb2⟩ := Bool.and_eq_true_iff.mp hb1
          have e1 := Nat.eq_of_beq_eq_true hb1
          subst e1
          have hxa : X.length ≤ a := Nat.le_of_ble_eq_true hb2
          split at h
          · rename_i v' hv
            cases h
            intro b1 b2
            obtain ⟨locs, Y, hrep, hfr, hlen, h1, h2, h3⟩ := hs
            obtain ⟨A, hvl, hF⟩ := obj_at hrep hH hk
            have hpl : pos < vs.length := by rw [hvl]; exact (List.getElem?_eq_some_iff.mp hp).1
            have F := hF _ _ _ _ _ _ hp (List.getElem?_eq_getElem hpl)
            have q := cv_spec (Z := Z) (X := X) hv
            have ql := allP_mem hL _ (List.mem_of_getElem? hp)
            obtain ⟨T', h', Y', e', W, st⟩ := putFN Y hx hZ hown w via rfl F A (wl.imp id fun u => ⟨u.1, u.2.1, by rw [hnm]; exact u.2.2⟩) wi ql.2 q.1 q.2 (g := fra Z X m pc L (v :: .ref a :: S')) rfl rfl (hb hby hd)
            refine ⟨T', ⟨_, ?_, ?_, Fr.snoc Y' hfr ?_, hlen, by simpa using h1, by rw [sset _ _ hH]; exact h2, h3⟩, st⟩
            · rw [sset _ _ hH, List.length_set]; exact Y'
            · rw [e']
              refine hrep.upd hX hxa W ?_
              simp only [CellOk, hk]
              refine ⟨A.wr W, by simpa using hvl, fun j O' nm' d' ty' u hj hu => ?_⟩
              by_cases e : j = pos
              · subst e
                cases hp.symm.trans hj
                rw [List.getElem?_set_self hpl] at hu
                cases hu
                exact F.same W
              · rw [List.getElem?_set_ne (Ne.symm e)] at hu
                have qj := allP_mem hL _ (List.mem_of_getElem? hj)
                refine (hF _ _ _ _ _ _ hj hu).other W (Or.inr (slot_ne qj.1 ql.1 ?_ qj.2 ql.2))
                intro en
                obtain ⟨l1, g1⟩ := List.getElem?_eq_some_iff.mp hj
                obtain ⟨l2, g2⟩ := List.getElem?_eq_some_iff.mp hp
                have := (List.getElem_inj (i := j) (j := pos) (h₀ := by simpa using l1) (h₁ := by simpa using l2) hnd).mp (by simp only [List.getElem_map, g1, g2]; exact en)
                exact e this
            · have := ph_fresh (Z := Z) hxa; omega
          · cases h
        · cases h
      · cases h
    · cases h
theorem s_init0 {idx W : Nat} (hd : decode M.2.1 pc = .ok (.invokespecial idx, 3)) (w1 : (Jvm.Cond.methodLink M.1.cls idx Lib.objectInit).before a0 Z = true) (w2 : (Jvm.Cond.instanceMethod Lib.objectInit).before a0 Z = true) (w3 : (Jvm.Cond.code Lib.objectInit ⟨#[0xb1]⟩ 1 none).before a0 Z = true) (hf0 : 1 ≤ M.2.2.2.2.1) (hl0 : W + 12 ≤ M.2.2.2.2.2) : Sound Z X CT l MT M pc (oInit0 W (pc + 3)) := by
  refine ⟨fun _ _ _ _ _ _ _ h => h, grow_same fun c L S H r h => ?_, ?_⟩
  · simp only [oInit0] at h
    repeat' (split at h)
    all_goals first | (cases h; done) | (cases h; rfl)
  · intro p e R s m args below meth c hx hZ hown hby hnm hret hlk hf hl call hcall H0 Hf hRc hRs T L S H hs r h
    simp only [oInit0] at h
    split at h
    · rename_i a S'
      split at h
      · rename_i hW
        cases h
        intro b1 b2
        obtain ⟨locs, Y, hrep, hfr, hlen, h1, h2, h3⟩ := hs
        obtain ⟨T', Y', e', st⟩ := initO Y hx hZ hown w1 w2 w3 rfl (g := fra Z X m pc L (.ref a :: S')) rfl (by show (List.toArray _).size = _; simp [hlen]) rfl (hb hby hd) (Nat.le_trans hf0 hf) (W := W) (by rw [wt_map]; simpa using hW) (Nat.le_trans hl0 hl)
        exact ⟨T', ⟨locs, Y', by rw [e']; exact hrep, hfr, hlen, h1, h2, h3⟩, st⟩
      · cases h
    · cases h
theorem mono_callR (k μ na W n : Nat) : Mono (oCallR k μ na W n) := fun c c' L S H r hl h => by
  simp only [oCallR] at h ⊢
  split at h
  · rename_i hg
    rw [if_pos hg]
    split at h
    · rename_i a ha
      split at h
      · rename_i k' vs hH
        split at h
        · rename_i hb
          split at h
          · rename_i v H' hq
            simp only [hb, hl _ _ _ _ hq]; exact h
          · cases h
        · cases h
      · cases h
    · cases h
  · cases h
theorem grow_callR (k μ na W n : Nat) : Grow CT (oCallR k μ na W n) := fun call L S H r hc h => by
  simp only [oCallR] at h
  split at h
  · split at h
    · split at h
      · split at h
        · split at h
          · rename_i hq
            cases h; exact hc _ _ _ _ _ hq
          · cases h
        · cases h
      · cases h
    · cases h
  · cases h
theorem s_callR {μ na W len : Nat} {Mc : MI} (hMc : MT[μ]? = some Mc) (w3 : (Jvm.Cond.initialized Mc.1.cls).before a0 Z = true) (w4 : (Jvm.Cond.code Mc.1 Mc.2.1 Mc.2.2.1 Mc.2.2.2.1).before a0 Z = true) (hf0 : Mc.2.2.2.2.1 + 1 ≤ M.2.2.2.2.1) (hl0 : W + (Mc.2.2.1 + 11) + Mc.2.2.2.2.2 ≤ M.2.2.2.2.2)
    (law : ∀ (p : Program) (e : Env) (R : Room) (s : State) (m : MethodId) (args : Array Value) (below : List Frame) (meth : Method) (c : Code) (T : State) (locs : List Loc) (cells slots : Nat), Stand p l e R s m args below meth c T locs cells slots → p.tables.exec = Jvm.exec → Z.Warmed39 s.vm → s.vm.findClass M.1.cls = some m.cls → c.code = M.2.1 →
      ∀ (Pre : Pt → Array Value → Prop) (Post : Pt → Array Value → Option Value → Pt → Prop), Back l R p e below s args Mc.1 len W Pre Post → ∀ (a : Addr) (vs : List Value), CellOk Z X CT T.heap a k vs → ∀ (Ls : Array Slot) (argsL rest : List Value), Ls.size = c.maxLocals → argsL.length = na → 2 * 0 + (rest.map fun v => v.category).sum ≤ W →
      (∀ vm₁, s.WarmedH vm₁ → Pre ⟨T.setVm vm₁, locs, cells, slots⟩ (.ref a :: argsL).toArray) →
      ∃ (v : Option Value) (vm₁ : Vm) (B : Pt), s.WarmedH vm₁ ∧ Stand p l e R s m args below meth c B.U B.locs B.cells B.slots ∧ Post ⟨T.setVm vm₁, locs, cells, slots⟩ (.ref a :: argsL).toArray v B ∧ Steps p.tables e below (T.setTop (mkF m pc Ls (argsL.reverse ++ .ref a :: rest))) (B.U.setTop (mkF m (pc + len) Ls (v.toList ++ rest)))) :
    Sound Z X CT l MT M pc (oCallR k μ na W (pc + len)) := by
  refine ⟨mono_callR _ _ _ _ _, grow_callR _ _ _ _ _, ?_⟩
  intro p e R s m args below meth c hx hZ hown hby hnm hret hlk hf hl call hcall H0 Hf hRc hRs T L S H hs r h
  simp only [oCallR] at h
  split at h
  · rename_i hg
    obtain ⟨hg1, hg2⟩ := hg
    split at h
    · rename_i a ha
      split at h
      · rename_i k' vs hH
        split at h
        · rename_i hb1
          have e1 := Nat.eq_of_beq_eq_true hb1
          subst e1
          split at h
          · rename_i v H' hq
            cases h
            obtain ⟨⟨u1, u2⟩, M', hM', con⟩ := hcall _ _ _ _ _ hq
            cases hMc.symm.trans hM'
            intro b1 b2
            obtain ⟨locs, Y, hrep, hfr, hlen, h1, h2, h3⟩ := hs
            have B := backOf (W := W) (args := args) (below := below) (p := p) (e := e) (R := R) (len := len) (Q := fun w hh L => w = v.map (ab Z X) ∧ Fr Z.heap.size L ∧ Rep Z X CT hh H') (con T.heap hrep) hZ w4 w3 (Nat.le_trans hf0 hf) (Nat.le_trans hl0 hl)
            have hst : S.map (ab Z X) = (((S.take na).reverse).map (ab Z X)).reverse ++ .ref (ph Z X a) :: (S.drop (na + 1)).map (ab Z X) := by
              have e2 : S = S.take na ++ .ref a :: S.drop (na + 1) := by
                have e3 : S.drop na = .ref a :: S.drop (na + 1) := by
                  have hlt : na < S.length := by omega
                  rw [List.drop_eq_getElem_cons hlt]
                  congr 1
                  rw [List.getElem?_eq_getElem hlt] at ha
                  exact Option.some.inj ha
                rw [← e3, List.take_append_drop]
              conv => lhs; rw [e2]
              rw [List.map_append, List.map_cons, ← List.map_reverse, List.reverse_reverse]; rfl
            obtain ⟨v', vm₁, ⟨T', L', k'', n''⟩, -, Y', ⟨Lc, ⟨hv, hfrL, hrep'⟩, l', y', z'⟩, st⟩ := law _ _ _ _ _ _ _ _ _ _ _ _ _ Y hx hZ hown hby _ _ B _ _ (hrep.at hH) (L.map (abS Z X)).toArray (((S.take na).reverse).map (ab Z X)) ((S.drop (na + 1)).map (ab Z X)) (by simp [hlen]) (by simp; omega) (by rw [wt_map]; simpa using hg2) (fun _ _ => ⟨rfl, rfl, by show (H.length - H0.length) + (H'.length - H.length) ≤ R.cells; omega, by show (sz CT H - sz CT H0) + (sz CT H' - sz CT H) ≤ R.slots; omega⟩)
            dsimp only [Pt.U, Pt.locs, Pt.cells, Pt.slots] at Y' l' y' z' st hrep'
            subst l' y' z' hv
            refine ⟨T', ⟨locs ++ Lc, ?_, hrep', Fr.app hfr hfrL, hlen, by omega, by omega, h3⟩, ?_⟩
            · have e1 : (H.length - H0.length) + (H'.length - H.length) = H'.length - H0.length := by omega
              have e2 : (sz CT H - sz CT H0) + (sz CT H' - sz CT H) = sz CT H' - sz CT H0 := by omega
              rw [← e1, ← e2]; exact Y'
            · intro target ht
              have e3 : (v.toList ++ S.drop (na + 1)).map (ab Z X) = (v.map (ab Z X)).toList ++ (S.drop (na + 1)).map (ab Z X) := by cases v <;> simp
              show Steps p.tables e below (T.setTop (mkF m pc _ (S.map (ab Z X)))) target
              rw [hst]
              refine st.trans ?_
              rw [← e3]; exact ht
          · cases h
        · cases h
      · cases h
    · cases h
  · cases h
theorem s_special {μ na W idx : Nat} {Mc : MI} {ps : List FieldType} {rt : Option FieldType} (hd : decode M.2.1 pc = .ok (.invokespecial idx, 3)) (hMc : MT[μ]? = some Mc) (hn : Mc.1.name = "<init>") (hr : Mc.2.2.2.1 = none) (w1 : (Jvm.Cond.methodLink M.1.cls idx Mc.1).before a0 Z = true) (w2 : (Jvm.Cond.instanceMethod Mc.1).before a0 Z = true) (w3 : (Jvm.Cond.initialized Mc.1.cls).before a0 Z = true) (w4 : (Jvm.Cond.code Mc.1 Mc.2.1 Mc.2.2.1 Mc.2.2.2.1).before a0 Z = true)
    (hpd : parseMethodDescriptor Mc.1.desc = some ⟨ps, rt⟩) (hna : ps.length = na) (hy : Mc.1.cls ≠ "java/lang/invoke/MethodHandle" ∧ Mc.1.cls ≠ "java/lang/invoke/VarHandle") (hf0 : Mc.2.2.2.2.1 + 1 ≤ M.2.2.2.2.1) (hl0 : W + (Mc.2.2.1 + 11) + Mc.2.2.2.2.2 ≤ M.2.2.2.2.2) : Sound Z X CT l MT M pc (oCallR k μ na W (pc + 3)) :=
  s_callR hMc w3 w4 hf0 hl0 fun _ _ _ _ _ _ _ _ _ _ _ _ _ Y hx hZ hown hby _ _ B _ _ _ _ _ _ hs hlen hW hpre =>
    Y.specialBack hx hn hown (mvT hZ w1) (mvT hZ w2) (mvT hZ (hr ▸ w4)) hy B (g := mkF _ pc _ _) rfl hs (Steps.refl _) (lenOf hpd (hlen.trans hna.symm)) rfl hW (hb hby hd) hpre
theorem s_virtual {C : String} {y : MethodName} {μ na W idx n1 : Nat} {Mc : MI} {fs : List (String × String × String × FieldType)} {ps : List FieldType} {rt : Option FieldType} (hd : decode M.2.1 pc = .ok (.invokevirtual idx, 3)) (hMc : MT[μ]? = some Mc) (hk : CT[k]? = some (.object C, n1, fs)) (w1 : (Jvm.Cond.methodLink M.1.cls idx y).before a0 Z = true) (w2 : (Jvm.Cond.declares y).before a0 Z = true) (w5 : (Jvm.Cond.selects C y Mc.1).before a0 Z = true) (hnf : ∀ s : State, Z.Warmed39 s.vm → NotFace s y) (w6 : (Jvm.Cond.instanceMethod Mc.1).before a0 Z = true) (w3 : (Jvm.Cond.initialized Mc.1.cls).before a0 Z = true) (w4 : (Jvm.Cond.code Mc.1 Mc.2.1 Mc.2.2.1 Mc.2.2.2.1).before a0 Z = true)
    (hpd : parseMethodDescriptor y.desc = some ⟨ps, rt⟩) (hna : ps.length = na) (hy : y.cls ≠ "java/lang/invoke/MethodHandle" ∧ y.cls ≠ "java/lang/invoke/VarHandle") (hf0 : Mc.2.2.2.2.1 + 1 ≤ M.2.2.2.2.1) (hl0 : W + (Mc.2.2.1 + 11) + Mc.2.2.2.2.2 ≤ M.2.2.2.2.2) : Sound Z X CT l MT M pc (oCallR k μ na W (pc + 3)) :=
  s_callR hMc w3 w4 hf0 hl0 fun _ _ _ _ _ _ _ _ _ _ _ _ _ Y hx hZ hown hby _ _ B _ _ hc _ _ _ hs hlen hW hpre => by
    simp only [CellOk, hk] at hc
    obtain ⟨cq, kq, qa, qb, qc⟩ := isOf hZ rfl hc.1
    exact Y.virtualBack hx hown (mvT hZ w1) (mvT hZ w2) (hnf _ hZ) (mvT hZ w5) (mvT hZ w6) hy B qa qc (g := mkF _ pc _ _) rfl hs (Steps.refl _) (lenOf hpd (hlen.trans hna.symm)) rfl hW (hb hby hd) hpre
theorem s_private {C : String} {μ na W idx n1 : Nat} {Mc : MI} {fs : List (String × String × String × FieldType)} {ps : List FieldType} {rt : Option FieldType} (hd : decode M.2.1 pc = .ok (.invokevirtual idx, 3)) (hMc : MT[μ]? = some Mc) (hk : CT[k]? = some (.object C, n1, fs)) (w1 : (Jvm.Cond.methodLink M.1.cls idx Mc.1).before a0 Z = true) (w2 : (Jvm.Cond.instanceMethod Mc.1).before a0 Z = true) (w5 : (Jvm.Cond.selects Mc.1.cls Mc.1 Mc.1).before a0 Z = true) (w6 : (Jvm.Cond.privateMethod Mc.1).before a0 Z = true) (w3 : (Jvm.Cond.initialized Mc.1.cls).before a0 Z = true) (w4 : (Jvm.Cond.code Mc.1 Mc.2.1 Mc.2.2.1 Mc.2.2.2.1).before a0 Z = true)
    (hpd : parseMethodDescriptor Mc.1.desc = some ⟨ps, rt⟩) (hna : ps.length = na) (hy : Mc.1.cls ≠ "java/lang/invoke/MethodHandle" ∧ Mc.1.cls ≠ "java/lang/invoke/VarHandle") (hf0 : Mc.2.2.2.2.1 + 1 ≤ M.2.2.2.2.1) (hl0 : W + (Mc.2.2.1 + 11) + Mc.2.2.2.2.2 ≤ M.2.2.2.2.2) : Sound Z X CT l MT M pc (oCallR k μ na W (pc + 3)) :=
  s_callR hMc w3 w4 hf0 hl0 fun _ _ _ _ _ _ _ _ _ _ _ _ _ Y hx hZ hown hby _ _ B _ _ hc _ _ _ hs hlen hW hpre => by
    simp only [CellOk, hk] at hc
    obtain ⟨cq, q, q'⟩ := hc.1.cell
    exact Y.privateBack hx hown (mvT hZ w1) (mvT hZ w2) (mvT hZ w5) (Cond.privateMethod_at (mvP hZ w6 (args := #[]))) (mvT hZ w4) hy B (g := mkF _ pc _ _) rfl hs (Steps.refl _) q q' (lenOf hpd (hlen.trans hna.symm)) rfl hW (hb hby hd) hpre
end Objs
/-! ### from the run to the law's own theorem -/
section Top
variable {X : List Addr} {CT : Tab} {l : Launch} {MT : List MI} {M : MI}
theorem top_met {Z : State} {D : Meths} (hlen : ∀ (μ n : Nat) (code : List (Nat × MOp)), D[μ]? = some (n, code) → ∃ M, MT[μ]? = some M ∧ M.2.2.1 = n ∧ plainFor M.1 = true ∧ ∀ q ∈ code, Sound Z X CT l MT M q.1 q.2) {μ : Nat} {as : List Value} {H Hf : MH} {v : Option Value} (hE : Eval D μ as H (v, Hf)) (hM : MT[μ]? = some M) {R : Room} {ws : List Jvm.Cond} (hf : M.2.2.2.2.1 ≤ R.frames) (hl : M.2.2.2.2.2 ≤ R.locals) (hRc : Hf.length - H.length ≤ R.cells) (hRs : sz CT Hf - sz CT H ≤ R.slots) {h0 : Heap} (hrep : Rep Z X CT h0 H) :
    MetFree l M.1 (head1 (Jvm.Cond.code M.1 M.2.1 M.2.2.1 M.2.2.2.1 :: ws) R)
    (fun a U => a = (as.map (ab Z X)).toArray ∧ Z.Warmed39 U.vm ∧ U.heap = h0) (fun _ _ _ _ _ => True)
    (fun _ U o U' => ∃ w L, o = .returned w ∧ (w = v.map (ab Z X) ∧ Fr Z.heap.size L ∧ Rep Z X CT U'.heap Hf) ∧ FrameEnd U o U' L (Hf.length - H.length) (sz CT Hf - sz CT H)) := by
  obtain ⟨F, k, h⟩ := hE
  cases k with
  | zero => cases h
  | succ k =>
    simp only [callN] at h
    cases hq : D[μ]? with
    | none => simp [hq] at h
    | some q =>
      obtain ⟨n, code⟩ := q
      simp only [hq] at h
      split at h
      · rename_i hn
        obtain ⟨M', h1, rfl, h3, h4⟩ := hlen μ n code hq
        cases hM.symm.trans h1
        exact met_of_run h3 h4 (osnd_callN hlen F k) h hn hf hl hRc hRs hrep
      · cases h
theorem rep_nil (Z : State) (CT : Tab) : Rep Z [] CT Z.heap [] := ⟨Nat.le_refl _, by simp, fun _ _ => rfl, fun i k vs h => by simp at h⟩
end Top
end Jvm.MV
namespace Jvm.MV
open Jvm Jvm.ClassFile Sem Op Lib Jvm.Free Jvm.Stand Jvm.LawKit Jvm.RoadKit Bundle
/-! ### running the small machine by parts -/
def bot : Orc := fun _ _ _ => none
def adv (code : List (Nat × MOp)) : Nat → MS → Option MS
  | 0, st => some st
  | n + 1, (pc, L, S, H) => match look code pc with
    | none => none
    | some f => match f bot L S H with
      | some (.inl st) => adv code n st
      | _ => none
theorem bot_le (c : Orc) : Le bot c := fun _ _ _ _ h => by cases h
section Rules
variable {D : Meths} {code : List (Nat × MOp)} {pc : Nat} {L : List Slot} {S : List Value} {H : MH} {r : MR}
theorem adv_mrun (hc : ∀ w ∈ code, Mono w.2) (c : Orc) : ∀ n st st' k, adv code n st = some st' → mrun c code k st' = some r → mrun c code (n + k) st = some r
  | 0, st, st', k, h, h2 => by cases h; rw [Nat.zero_add]; exact h2
  | n + 1, (pc, L, S, H), st', k, h, h2 => by
    have e : n + 1 + k = (n + k) + 1 := by omega
    rw [e]
    simp only [adv] at h
    simp only [mrun]
    cases hk : look code pc with
    | none => simp [hk] at h
    | some f =>
      simp only [hk] at h ⊢
      cases hf : f bot L S H with
      | none => simp [hf] at h
      | some q =>
        have hm' : f c L S H = some q := hc _ (look_mem hk) bot c L S H q (bot_le c) hf
        rw [hm']
        cases q with
        | inr r' => simp [hf] at h
        | inl st1 => rw [hf] at h; exact adv_mrun hc c n st1 st' k h h2
theorem Go.adv (hc : ∀ w ∈ code, Mono w.2) (n : Nat) {st st' : MS} (h : adv code n st = some st') (hg : Go D code st' r) : Go D code st r := by
  obtain ⟨F, k, m, hg⟩ := hg
  exact ⟨F, k, n + m, adv_mrun hc _ n st st' m h hg⟩
theorem Go.of_run (F k n : Nat) {st : MS} (h : mrun (callN D F k) code n st = some r) : Go D code st r := ⟨F, k, n, h⟩
theorem Eval.intro2 (hD : ∀ q ∈ D, ∀ w ∈ q.2, Mono w.2) {μ : Nat} {as : List Value} {n : Nat} (L0 : List Slot) (hq : D[μ]? = some (n, code)) (hn : (loc as).length ≤ n) (hL : mloc as n = L0) (h : Go D code (0, L0, [], H) r) : Eval D μ as H r := Eval.intro hD hq hn (by rw [hL]; exact h)
theorem Go.icmp {cd : ClassFile.Cond} {t n : Nat} {x y : Int32} (hl : look code pc = some (lift (pIcmp cd t n))) {b : Bool} (h : if_icmp.holds cd x y = b) (hg : Go D code (cond b t n, L, S, H) r) : Go D code (pc, L, .int y :: .int x :: S, H) r :=
  Go.step hl (fun _ => by simp only [lift, pIcmp, h]; cases b <;> rfl) hg
theorem Go.ifc {cd : ClassFile.Cond} {t n : Nat} {x : Int32} (hl : look code pc = some (lift (pIf cd t n))) {b : Bool} (h : ifCond.holds cd x = b) (hg : Go D code (cond b t n, L, S, H) r) : Go D code (pc, L, .int x :: S, H) r :=
  Go.step hl (fun _ => by simp only [lift, pIf, h]; cases b <;> rfl) hg
theorem Go.icmpS {cd : ClassFile.Cond} {t n : Nat} {x y : Int32} (hl : look code pc = some (lift (pIcmp cd t n))) (hg : ∀ b, if_icmp.holds cd x y = b → Go D code (cond b t n, L, S, H) r) : Go D code (pc, L, .int y :: .int x :: S, H) r := Go.icmp hl rfl (hg _ rfl)
theorem Go.ifS {cd : ClassFile.Cond} {t n : Nat} {x : Int32} (hl : look code pc = some (lift (pIf cd t n))) (hg : ∀ b, ifCond.holds cd x = b → Go D code (cond b t n, L, S, H) r) : Go D code (pc, L, .int x :: S, H) r := Go.ifc hl rfl (hg _ rfl)
theorem Go.retE {f : MOp} {r' : MR} (hl : look code pc = some f) (hf : ∀ c, f c L S H = some (.inr r')) (he : r' = r) : Go D code (pc, L, S, H) r := he ▸ Go.ret hl hf
theorem Go.ald {k n a : Nat} {j : Int32} {vs : List Value} {v : Value} (hl : look code pc = some (oALd k n)) (hH : H[a]? = some (k, vs)) (hj : ¬ j < 0) (hv : vs[j.toNatClampNeg]? = some v) (hg : Go D code (n, L, v :: S, H) r) : Go D code (pc, L, .int j :: .ref a :: S, H) r := by
  have hb : Nat.beq k k = true := by simp
  exact Go.step hl (fun _ => by simp only [oALd, hH, hb, if_neg hj, hv]) hg
theorem Go.ast {xl k n a : Nat} {t : FieldType} {j x : Int32} {vs : List Value} (hl : look code pc = some (oASt xl k t n)) (hH : H[a]? = some (k, vs)) (ha : xl ≤ a) (hj : ¬ j < 0) (hv : j.toNatClampNeg < vs.length) (hg : Go D code (n, L, S, H.set a (k, vs.set j.toNatClampNeg (.int (nar t x)))) r) : Go D code (pc, L, .int x :: .int j :: .ref a :: S, H) r := by
  have hb : (Nat.beq k k && Nat.ble xl a) = true := by simp [ha]
  have hb2 : Nat.ble vs.length j.toNatClampNeg = false := by
    cases hq : Nat.ble vs.length j.toNatClampNeg with
    | false => rfl
    | true => have := Nat.le_of_ble_eq_true hq; omega
  exact Go.step hl (fun _ => by simp only [oASt, hH, hb, if_neg hj, hb2]) hg
theorem Go.alen {k n a : Nat} {vs : List Value} (hl : look code pc = some (oALen k n)) (hH : H[a]? = some (k, vs)) (hg : Go D code (n, L, .int vs.length.toInt32 :: S, H) r) : Go D code (pc, L, .ref a :: S, H) r := by
  have hb : Nat.beq k k = true := by simp
  exact Go.step hl (fun _ => by simp only [oALen, hH, hb]) hg
theorem Go.getF {k pos n a : Nat} {vs : List Value} {v : Value} (hl : look code pc = some (oGetF k pos n)) (hH : H[a]? = some (k, vs)) (hv : vs[pos]? = some v) (hg : Go D code (n, L, v :: S, H) r) : Go D code (pc, L, .ref a :: S, H) r := by
  have hb : Nat.beq k k = true := by simp
  exact Go.step hl (fun _ => by simp only [oGetF, hH, hb, hv]) hg
theorem Go.putF {xl k pos n a : Nat} {ty : FieldType} {vs : List Value} {v v' : Value} (hl : look code pc = some (oPutF xl k pos ty n)) (hH : H[a]? = some (k, vs)) (ha : xl ≤ a) (hv : cv ty v = some v') (hg : Go D code (n, L, S, H.set a (k, vs.set pos v')) r) : Go D code (pc, L, v :: .ref a :: S, H) r := by
  have hb : (Nat.beq k k && Nat.ble xl a) = true := by simp [ha]
  exact Go.step hl (fun _ => by simp only [oPutF, hH, hb, hv]) hg
theorem Go.rem {n : Nat} {x y : Int32} (hl : look code pc = some (lift (pRem n))) (hy : y ≠ 0) (hg : Go D code (n, L, .int (x % y) :: S, H) r) : Go D code (pc, L, .int y :: .int x :: S, H) r :=
  Go.step hl (fun _ => by simp only [lift, pRem, if_neg hy]) hg
theorem Go.scall (hD : ∀ q ∈ D, ∀ w ∈ q.2, Mono w.2) (hc : ∀ w ∈ code, Mono w.2) {μ na W n : Nat} {as rest : List Value} {v : Option Value} {H' : MH} (hl : look code pc = some (oCall μ na W n)) (hE : Eval D μ as H (v, H')) (hS : S.take na = as.reverse) (hr : S.drop na = rest) (hna : na ≤ S.length) (hW : wt rest ≤ W) (hg : Go D code (n, L, v.toList ++ rest, H') r) : Go D code (pc, L, S, H) r := by
  subst hr
  refine Go.call hD hc hE hl (fun c h => ?_) hg
  have e : (S.take na).reverse = as := by rw [hS, List.reverse_reverse]
  simp only [oCall, if_pos (And.intro hna hW), e, h]
theorem Go.rcall (hD : ∀ q ∈ D, ∀ w ∈ q.2, Mono w.2) (hc : ∀ w ∈ code, Mono w.2) {k μ na W n : Nat} {a : Nat} {vs as rest : List Value} {v : Option Value} {H' : MH} (hl : look code pc = some (oCallR k μ na W n)) (hE : Eval D μ (.ref a :: as) H (v, H')) (hH : H[a]? = some (k, vs)) (hS : S.take na = as.reverse) (ha : S[na]? = some (.ref a)) (hr : S.drop (na + 1) = rest) (hW : wt rest ≤ W) (hg : Go D code (n, L, v.toList ++ rest, H') r) : Go D code (pc, L, S, H) r := by
  subst hr
  have hna : na + 1 ≤ S.length := (List.getElem?_eq_some_iff.mp ha).1
  have hb : Nat.beq k k = true := by simp
  refine Go.call hD hc hE hl (fun c h => ?_) hg
  have e : (S.take na).reverse = as := by rw [hS, List.reverse_reverse]
  simp only [oCallR, if_pos (And.intro hna hW), ha, hH, hb, e, h]
end Rules
def b2i (b : Bool) : Int32 := cond b 1 0
theorem c_lt (x y : Int32) : if_icmp.holds .lt x y = decide (x.toInt < y.toInt) := by
  show decide (x < y) = _
  simp only [Int32.lt_iff_toInt_lt]
theorem c_le (x y : Int32) : if_icmp.holds .le x y = decide (x.toInt ≤ y.toInt) := by
  show decide (x ≤ y) = _
  simp only [Int32.le_iff_toInt_le]
theorem c_gt (x y : Int32) : if_icmp.holds .gt x y = decide (y.toInt < x.toInt) := by
  show decide (y < x) = _
  simp only [Int32.lt_iff_toInt_lt]
theorem c_ge (x y : Int32) : if_icmp.holds .ge x y = decide (y.toInt ≤ x.toInt) := by
  show decide (y ≤ x) = _
  simp only [Int32.le_iff_toInt_le]
theorem c_eq (x y : Int32) : if_icmp.holds .eq x y = decide (x.toInt = y.toInt) := by
  show (x == y) = _
  rw [Bool.eq_iff_iff]; simp [Int32.toInt_inj]
theorem c_ne (x y : Int32) : if_icmp.holds .ne x y = decide (¬ x.toInt = y.toInt) := by
  show (x != y) = _
  rw [Bool.eq_iff_iff]; simp [Int32.toInt_inj]
theorem z_lt (x : Int32) : ifCond.holds .lt x = decide (x.toInt < 0) := c_lt x 0
theorem z_le (x : Int32) : ifCond.holds .le x = decide (x.toInt ≤ 0) := c_le x 0
theorem z_gt (x : Int32) : ifCond.holds .gt x = decide (0 < x.toInt) := c_gt x 0
theorem z_ge (x : Int32) : ifCond.holds .ge x = decide (0 ≤ x.toInt) := c_ge x 0
theorem z_eq (x : Int32) : ifCond.holds .eq x = decide (x.toInt = 0) := c_eq x 0
theorem z_ne (x : Int32) : ifCond.holds .ne x = decide (¬ x.toInt = 0) := c_ne x 0
theorem z_eqb (b : Bool) : ifCond.holds .eq (b2i b) = !b := by cases b <;> rfl
theorem z_neb (b : Bool) : ifCond.holds .ne (b2i b) = b := by cases b <;> rfl
theorem nar_b (b : Bool) : nar .boolean (b2i b) = b2i b := by cases b <;> rfl
theorem ret_t {P : Prop} [Decidable P] (H : MH) (h : P) : ((some (.int (nar .boolean 1)), H) : MR) = (some (.int (b2i (decide P))), H) := by simp [h, b2i, nar]
theorem ret_f {P : Prop} [Decidable P] (H : MH) (h : ¬ P) : ((some (.int (nar .boolean 0)), H) : MR) = (some (.int (b2i (decide P))), H) := by simp [h, b2i, nar]
theorem and_rng (x m : Int32) (hm : 0 ≤ m.toInt) : 0 ≤ (x &&& m).toInt ∧ (x &&& m).toInt ≤ m.toInt := by
  have h1 : (x.toBitVec &&& m.toBitVec).toNat ≤ m.toBitVec.toNat := by rw [BitVec.toNat_and]; exact Nat.and_le_right
  have h2 := m.toBitVec.isLt
  have h0 : 0 ≤ m.toBitVec.toInt := hm
  show 0 ≤ (x.toBitVec &&& m.toBitVec).toInt ∧ (x.toBitVec &&& m.toBitVec).toInt ≤ m.toBitVec.toInt
  rw [BitVec.toInt_eq_toNat_cond] at h0
  rw [BitVec.toInt_eq_toNat_cond, BitVec.toInt_eq_toNat_cond]
  split at h0 <;> (try split) <;> omega
theorem rem_rng (x m : Int32) (hx : 0 ≤ x.toInt) (hm : 0 < m.toInt) : 0 ≤ (x % m).toInt ∧ (x % m).toInt < m.toInt := by
  rw [Int32.toInt_mod]
  exact ⟨Int.tmod_nonneg _ hx, Int.tmod_lt_of_pos _ hm⟩
theorem of_toInt {x : Int32} {n : Int} (m : Int32) (hm : m.toInt = n) (h : x.toInt = n) : x = m := Int32.toInt_inj.mp (h.trans hm.symm)
theorem inc_toInt (i : Int32) (h : i.toInt < 2147483647) : (i + 1).toInt = i.toInt + 1 := by
  have h1 := Int32.le_toInt i
  rw [Int32.toInt_add]
  show Int.bmod (i.toInt + 1) (2 ^ 32) = _
  rw [Int.bmod_def]; omega
theorem clamp_toInt (i : Int32) : i.toNatClampNeg = i.toInt.toNat := rfl
theorem not_neg (i : Int32) (h : 0 ≤ i.toInt) : ¬ i < 0 := by
  rw [Int32.lt_iff_toInt_lt]
  show ¬ i.toInt < 0
  omega
theorem small4 {x : Int32} (h0 : 0 ≤ x.toInt) (h1 : x.toInt ≤ 3) : x = 0 ∨ x = 1 ∨ x = 2 ∨ x = 3 := by
  have : x.toInt = 0 ∨ x.toInt = 1 ∨ x.toInt = 2 ∨ x.toInt = 3 := by omega
  rcases this with h | h | h | h
  · exact Or.inl (of_toInt 0 rfl h)
  · exact Or.inr (Or.inl (of_toInt 1 rfl h))
  · exact Or.inr (Or.inr (Or.inl (of_toInt 2 rfl h)))
  · exact Or.inr (Or.inr (Or.inr (of_toInt 3 rfl h)))
theorem small5 {x : Int32} (h0 : 0 ≤ x.toInt) (h1 : x.toInt < 5) : x = 0 ∨ x = 1 ∨ x = 2 ∨ x = 3 ∨ x = 4 := by
  have : x.toInt = 0 ∨ x.toInt = 1 ∨ x.toInt = 2 ∨ x.toInt = 3 ∨ x.toInt = 4 := by omega
  rcases this with h | h | h | h | h
  · exact Or.inl (of_toInt 0 rfl h)
  · exact Or.inr (Or.inl (of_toInt 1 rfl h))
  · exact Or.inr (Or.inr (Or.inl (of_toInt 2 rfl h)))
  · exact Or.inr (Or.inr (Or.inr (Or.inl (of_toInt 3 rfl h))))
  · exact Or.inr (Or.inr (Or.inr (Or.inr (of_toInt 4 rfl h))))
theorem and3 (i : Int32) : i &&& 3 = 0 ∨ i &&& 3 = 1 ∨ i &&& 3 = 2 ∨ i &&& 3 = 3 := have h := and_rng i 3 (by decide); small4 h.1 h.2
end Jvm.MV
set_option maxHeartbeats 4000000
namespace Jvm.Pilot.@@N@@
open Jvm Jvm.ClassFile Sem Op Lib Jvm.Free Jvm.Stand Jvm.LawKit Jvm.RoadKit Bundle Jvm.MV Jvm.Pilot.@@N@@.Jvm.D
/-! the program of the small machine: written by gen.py -/
theorem d1_0 : decode prog_46_method_3_code 0 = .ok (.iconst 4, 1) := by decide +kernel
theorem d1_1 : decode prog_46_method_3_code 1 = .ok (.newarray .int, 2) := by decide +kernel
theorem d1_3 : decode prog_46_method_3_code 3 = .ok (.dup, 1) := by decide +kernel
theorem d1_4 : decode prog_46_method_3_code 4 = .ok (.iconst 0, 1) := by decide +kernel
theorem d1_5 : decode prog_46_method_3_code 5 = .ok (.ldc 12, 2) := by decide +kernel
theorem d1_7 : decode prog_46_method_3_code 7 = .ok (.iastore, 1) := by decide +kernel
theorem d1_8 : decode prog_46_method_3_code 8 = .ok (.dup, 1) := by decide +kernel
theorem d1_9 : decode prog_46_method_3_code 9 = .ok (.iconst 1, 1) := by decide +kernel
theorem d1_10 : decode prog_46_method_3_code 10 = .ok (.ldc 13, 2) := by decide +kernel
theorem d1_12 : decode prog_46_method_3_code 12 = .ok (.iastore, 1) := by decide +kernel
theorem d1_13 : decode prog_46_method_3_code 13 = .ok (.dup, 1) := by decide +kernel
theorem d1_14 : decode prog_46_method_3_code 14 = .ok (.iconst 2, 1) := by decide +kernel
theorem d1_15 : decode prog_46_method_3_code 15 = .ok (.ldc 14, 2) := by decide +kernel
theorem d1_17 : decode prog_46_method_3_code 17 = .ok (.iastore, 1) := by decide +kernel
theorem d1_18 : decode prog_46_method_3_code 18 = .ok (.dup, 1) := by decide +kernel
theorem d1_19 : decode prog_46_method_3_code 19 = .ok (.iconst 3, 1) := by decide +kernel
theorem d1_20 : decode prog_46_method_3_code 20 = .ok (.ldc 15, 2) := by decide +kernel
theorem d1_22 : decode prog_46_method_3_code 22 = .ok (.iastore, 1) := by decide +kernel
theorem d1_23 : decode prog_46_method_3_code 23 = .ok (.areturn, 1) := by decide +kernel
theorem d2_0 : decode method_4_code 0 = .ok (.iload_n 2, 1) := by decide +kernel
theorem d2_1 : decode method_4_code 1 = .ok (.i2l, 1) := by decide +kernel
theorem d2_2 : decode method_4_code 2 = .ok (.ldc2_w 9, 3) := by decide +kernel
theorem d2_5 : decode method_4_code 5 = .ok (.land, 1) := by decide +kernel
theorem d2_6 : decode method_4_code 6 = .ok (.lstore_n 3, 1) := by decide +kernel
theorem d2_7 : decode method_4_code 7 = .ok (.lload_n 3, 1) := by decide +kernel
theorem d2_8 : decode method_4_code 8 = .ok (.lload_n 3, 1) := by decide +kernel
theorem d2_9 : decode method_4_code 9 = .ok (.lmul, 1) := by decide +kernel
theorem d2_10 : decode method_4_code 10 = .ok (.lstore 5, 2) := by decide +kernel
theorem d2_12 : decode method_4_code 12 = .ok (.lload_n 3, 1) := by decide +kernel
theorem d2_13 : decode method_4_code 13 = .ok (.lconst 1, 1) := by decide +kernel
theorem d2_14 : decode method_4_code 14 = .ok (.ladd, 1) := by decide +kernel
theorem d2_15 : decode method_4_code 15 = .ok (.lstore 7, 2) := by decide +kernel
theorem d2_17 : decode method_4_code 17 = .ok (.lload 7, 2) := by decide +kernel
theorem d2_19 : decode method_4_code 19 = .ok (.lload 7, 2) := by decide +kernel
theorem d2_21 : decode method_4_code 21 = .ok (.lmul, 1) := by decide +kernel
theorem d2_22 : decode method_4_code 22 = .ok (.lstore 9, 2) := by decide +kernel
theorem d2_24 : decode method_4_code 24 = .ok (.lload_n 0, 1) := by decide +kernel
theorem d2_25 : decode method_4_code 25 = .ok (.bipush 60, 2) := by decide +kernel
theorem d2_27 : decode method_4_code 27 = .ok (.lshl, 1) := by decide +kernel
theorem d2_28 : decode method_4_code 28 = .ok (.lstore 11, 2) := by decide +kernel
theorem d2_30 : decode method_4_code 30 = .ok (.lload 5, 2) := by decide +kernel
theorem d2_32 : decode method_4_code 32 = .ok (.lload 11, 2) := by decide +kernel
theorem d2_34 : decode method_4_code 34 = .ok (.invokestatic 11, 3) := by decide +kernel
theorem d2_37 : decode method_4_code 37 = .ok (.ifCond .eq 17, 3) := by decide +kernel
theorem d2_40 : decode method_4_code 40 = .ok (.lload 11, 2) := by decide +kernel
theorem d2_42 : decode method_4_code 42 = .ok (.lload 9, 2) := by decide +kernel
theorem d2_44 : decode method_4_code 44 = .ok (.invokestatic 17, 3) := by decide +kernel
theorem d2_47 : decode method_4_code 47 = .ok (.ifCond .eq 7, 3) := by decide +kernel
theorem d2_50 : decode method_4_code 50 = .ok (.iconst 1, 1) := by decide +kernel
theorem d2_51 : decode method_4_code 51 = .ok (.goto 4, 3) := by decide +kernel
theorem d2_54 : decode method_4_code 54 = .ok (.iconst 0, 1) := by decide +kernel
theorem d2_55 : decode method_4_code 55 = .ok (.ireturn, 1) := by decide +kernel
theorem d3_0 : decode method_2_code 0 = .ok (.lload_n 0, 1) := by decide +kernel
theorem d3_1 : decode method_2_code 1 = .ok (.ldc2_w 7, 3) := by decide +kernel
theorem d3_4 : decode method_2_code 4 = .ok (.lxor, 1) := by decide +kernel
theorem d3_5 : decode method_2_code 5 = .ok (.lload_n 2, 1) := by decide +kernel
theorem d3_6 : decode method_2_code 6 = .ok (.ldc2_w 7, 3) := by decide +kernel
theorem d3_9 : decode method_2_code 9 = .ok (.lxor, 1) := by decide +kernel
theorem d3_10 : decode method_2_code 10 = .ok (.lcmp, 1) := by decide +kernel
theorem d3_11 : decode method_2_code 11 = .ok (.ifCond .gt 7, 3) := by decide +kernel
theorem d3_14 : decode method_2_code 14 = .ok (.iconst 1, 1) := by decide +kernel
theorem d3_15 : decode method_2_code 15 = .ok (.goto 4, 3) := by decide +kernel
theorem d3_18 : decode method_2_code 18 = .ok (.iconst 0, 1) := by decide +kernel
theorem d3_19 : decode method_2_code 19 = .ok (.ireturn, 1) := by decide +kernel
theorem d4_0 : decode method_3_code 0 = .ok (.lload_n 0, 1) := by decide +kernel
theorem d4_1 : decode method_3_code 1 = .ok (.ldc2_w 7, 3) := by decide +kernel
theorem d4_4 : decode method_3_code 4 = .ok (.lxor, 1) := by decide +kernel
theorem d4_5 : decode method_3_code 5 = .ok (.lload_n 2, 1) := by decide +kernel
theorem d4_6 : decode method_3_code 6 = .ok (.ldc2_w 7, 3) := by decide +kernel
theorem d4_9 : decode method_3_code 9 = .ok (.lxor, 1) := by decide +kernel
theorem d4_10 : decode method_3_code 10 = .ok (.lcmp, 1) := by decide +kernel
theorem d4_11 : decode method_3_code 11 = .ok (.ifCond .ge 7, 3) := by decide +kernel
theorem d4_14 : decode method_3_code 14 = .ok (.iconst 1, 1) := by decide +kernel
theorem d4_15 : decode method_3_code 15 = .ok (.goto 4, 3) := by decide +kernel
theorem d4_18 : decode method_3_code 18 = .ok (.iconst 0, 1) := by decide +kernel
theorem d4_19 : decode method_3_code 19 = .ok (.ireturn, 1) := by decide +kernel
theorem pd_0 : parseMethodDescriptor "()[I" = some ⟨[], some (.array .int)⟩ := by decide +kernel
theorem pd_1 : parseMethodDescriptor "(JI)Z" = some ⟨[.long, .int], some .boolean⟩ := by decide +kernel
theorem pd_2 : parseMethodDescriptor "(JJ)Z" = some ⟨[.long, .long], some .boolean⟩ := by decide +kernel
def CT : Jvm.MV.Tab := [(.array .int, 1, []), (.array .byte, 1, []), (.array .long, 1, []), (.array .boolean, 1, []), (.array .char, 1, [])]
abbrev M0 : Jvm.MV.MI := (x, code, maxLocals, ret, 2, 39)
abbrev M1 : Jvm.MV.MI := ((⟨"com/example/mortise/mortise/Constants", "sha1RoundConstants", "()[I"⟩ : MethodName), prog_46_method_3_code, 0, some (.array .int), 0, 0)
abbrev M2 : Jvm.MV.MI := ((⟨"com/example/mortise/mortise/ConstantsSha1RoundConstantsPinLaw", "isScaledRoot", "(JI)Z"⟩ : MethodName), method_4_code, 13, some .boolean, 1, 15)
abbrev M3 : Jvm.MV.MI := ((⟨"com/example/mortise/mortise/ConstantsSha1RoundConstantsPinLaw", "ule", "(JJ)Z"⟩ : MethodName), method_2_code, 4, some .boolean, 0, 0)
abbrev M4 : Jvm.MV.MI := ((⟨"com/example/mortise/mortise/ConstantsSha1RoundConstantsPinLaw", "ult", "(JJ)Z"⟩ : MethodName), method_3_code, 4, some .boolean, 0, 0)
def MT : List Jvm.MV.MI := [M0, M1, M2, M3, M4]
def c0 : List (Nat × Jvm.MV.MOp) := [(0, lift (pIld 0 1)),
  (1, lift (pInt (3) 2)),
  (2, lift (pBin (· &&& ·) 3)),
  (3, lift (pIst 1 4)),
  (4, lift (pIld 1 5)),
  (5, lift (pIf .ne 14 8)),
  (8, lift (pLong (2) 11)),
  (11, lift (pGoto 39)),
  (14, lift (pIld 1 15)),
  (15, lift (pInt (1) 16)),
  (16, lift (pIcmp .ne 25 19)),
  (19, lift (pLong (3) 22)),
  (22, lift (pGoto 39)),
  (25, lift (pIld 1 26)),
  (26, lift (pInt (2) 27)),
  (27, lift (pIcmp .ne 36 30)),
  (30, lift (pLong (5) 33)),
  (33, lift (pGoto 39)),
  (36, lift (pLong (10) 39)),
  (39, lift (pLst 2 40)),
  (40, oCall 1 0 0 43),
  (43, lift (pAst 4 45)),
  (45, lift (pAld 4 47)),
  (47, oALen 0 48),
  (48, lift (pInt (4) 49)),
  (49, lift (pIcmp .eq 54 52)),
  (52, lift (pInt (0) 53)),
  (53, oRetI .boolean),
  (54, lift (pLld 2 55)),
  (55, lift (pAld 4 57)),
  (57, lift (pIld 1 58)),
  (58, oALd 0 59),
  (59, oCall 2 2 0 62),
  (62, lift (pIf .ne 67 65)),
  (65, lift (pInt (0) 66)),
  (66, oRetI .boolean),
  (67, lift (pAld 4 69)),
  (69, lift (pIld 1 70)),
  (70, lift (pAld 4 72)),
  (72, lift (pIld 1 73)),
  (73, oALd 0 74),
  (74, lift (pInt (-1) 75)),
  (75, lift (pBin (· ^^^ ·) 76)),
  (76, oASt 0 0 .int 77),
  (77, oCall 1 0 0 80),
  (80, lift (pAst 5 82)),
  (82, lift (pAld 5 84)),
  (84, oALen 0 85),
  (85, lift (pInt (4) 86)),
  (86, lift (pIcmp .eq 91 89)),
  (89, lift (pInt (0) 90)),
  (90, oRetI .boolean),
  (91, lift (pLld 2 92)),
  (92, lift (pAld 5 94)),
  (94, lift (pIld 1 95)),
  (95, oALd 0 96),
  (96, oCall 2 2 0 99),
  (99, oRetI .boolean)]
def c1 : List (Nat × Jvm.MV.MOp) := [(0, lift (pInt (4) 1)),
  (1, oNewA 0 (.int 0) 3),
  (3, lift (pDup 4)),
  (4, lift (pInt (0) 5)),
  (5, lift (pInt (1518500249) 7)),
  (7, oASt 0 0 .int 8),
  (8, lift (pDup 9)),
  (9, lift (pInt (1) 10)),
  (10, lift (pInt (1859775393) 12)),
  (12, oASt 0 0 .int 13),
  (13, lift (pDup 14)),
  (14, lift (pInt (2) 15)),
  (15, lift (pInt (-1894007588) 17)),
  (17, oASt 0 0 .int 18),
  (18, lift (pDup 19)),
  (19, lift (pInt (3) 20)),
  (20, lift (pInt (-899497514) 22)),
  (22, oASt 0 0 .int 23),
  (23, oRetA)]
def c2 : List (Nat × Jvm.MV.MOp) := [(0, lift (pIld 2 1)),
  (1, lift (pI2L 2)),
  (2, lift (pLong (4294967295) 5)),
  (5, lift (pLBin (· &&& ·) 6)),
  (6, lift (pLst 3 7)),
  (7, lift (pLld 3 8)),
  (8, lift (pLld 3 9)),
  (9, lift (pLBin (· * ·) 10)),
  (10, lift (pLst 5 12)),
  (12, lift (pLld 3 13)),
  (13, lift (pLong (1) 14)),
  (14, lift (pLBin (· + ·) 15)),
  (15, lift (pLst 7 17)),
  (17, lift (pLld 7 19)),
  (19, lift (pLld 7 21)),
  (21, lift (pLBin (· * ·) 22)),
  (22, lift (pLst 9 24)),
  (24, lift (pLld 0 25)),
  (25, lift (pInt (60) 27)),
  (27, lift (pLsh (fun x y => x <<< (y.toInt64 &&& 63)) 28)),
  (28, lift (pLst 11 30)),
  (30, lift (pLld 5 32)),
  (32, lift (pLld 11 34)),
  (34, oCall 3 2 0 37),
  (37, lift (pIf .eq 54 40)),
  (40, lift (pLld 11 42)),
  (42, lift (pLld 9 44)),
  (44, oCall 4 2 0 47),
  (47, lift (pIf .eq 54 50)),
  (50, lift (pInt (1) 51)),
  (51, lift (pGoto 55)),
  (54, lift (pInt (0) 55)),
  (55, oRetI .boolean)]
def c3 : List (Nat × Jvm.MV.MOp) := [(0, lift (pLld 0 1)),
  (1, lift (pLong (-9223372036854775808) 4)),
  (4, lift (pLBin (· ^^^ ·) 5)),
  (5, lift (pLld 2 6)),
  (6, lift (pLong (-9223372036854775808) 9)),
  (9, lift (pLBin (· ^^^ ·) 10)),
  (10, lift (pLcmp 11)),
  (11, lift (pIf .gt 18 14)),
  (14, lift (pInt (1) 15)),
  (15, lift (pGoto 19)),
  (18, lift (pInt (0) 19)),
  (19, oRetI .boolean)]
def c4 : List (Nat × Jvm.MV.MOp) := [(0, lift (pLld 0 1)),
  (1, lift (pLong (-9223372036854775808) 4)),
  (4, lift (pLBin (· ^^^ ·) 5)),
  (5, lift (pLld 2 6)),
  (6, lift (pLong (-9223372036854775808) 9)),
  (9, lift (pLBin (· ^^^ ·) 10)),
  (10, lift (pLcmp 11)),
  (11, lift (pIf .ge 18 14)),
  (14, lift (pInt (1) 15)),
  (15, lift (pGoto 19)),
  (18, lift (pInt (0) 19)),
  (19, oRetI .boolean)]
def D : Jvm.MV.Meths := [(6, c0), (0, c1), (13, c2), (4, c3), (4, c4)]
section Snd
set_option maxRecDepth 65536 in
set_option maxHeartbeats 4000000 in
theorem snd0 (l : Launch) (a0 : Array Value) (Z : State) (hw : ∀ d ∈ tables_1, d.before a0 Z = true) : ∀ q ∈ c0, Sound Z [] CT l MT M0 q.1 q.2 := by
  have hX : ∀ a ∈ ([] : List Addr), a < Z.heap.size := fun a ha => nomatch ha
  have hxl : ∀ i j, i ≠ j → (0 ≤ i ∨ 0 ≤ j) → ph Z [] i ≠ ph Z [] j := fun i j hij hi => ph_ne hX hij hi
  refine allC_mem (P := Sound Z [] CT l MT M0) ?_
  unfold c0
  refine allC_cons (s_iloadN at_0 rfl) ?_
  refine allC_cons (s_iconst at_1 rfl) ?_
  refine allC_cons (s_iand at_2) ?_
  refine allC_cons (s_istoreN at_3 rfl) ?_
  refine allC_cons (s_iloadN at_4 rfl) ?_
  refine allC_cons (s_if at_5 (by decide) (by decide)) ?_
  refine allC_cons (s_ldc2Long at_8 (hw _ (List.mem_of_getElem? (i := 0) rfl))) ?_
  refine allC_cons (s_goto at_11 (by decide) (by decide)) ?_
  refine allC_cons (s_iloadN at_14 rfl) ?_
  refine allC_cons (s_iconst at_15 rfl) ?_
  refine allC_cons (s_icmp at_16 (by decide) (by decide)) ?_
  refine allC_cons (s_ldc2Long at_19 (hw _ (List.mem_of_getElem? (i := 24) rfl))) ?_
  refine allC_cons (s_goto at_22 (by decide) (by decide)) ?_
  refine allC_cons (s_iloadN at_25 rfl) ?_
  refine allC_cons (s_iconst at_26 rfl) ?_
  refine allC_cons (s_icmp at_27 (by decide) (by decide)) ?_
  refine allC_cons (s_ldc2Long at_30 (hw _ (List.mem_of_getElem? (i := 23) rfl))) ?_
  refine allC_cons (s_goto at_33 (by decide) (by decide)) ?_
  refine allC_cons (s_ldc2Long at_36 (hw _ (List.mem_of_getElem? (i := 22) rfl))) ?_
  refine allC_cons (s_lstoreN at_39 rfl) ?_
  refine allC_cons (s_callS (Mc := M1) at_40 rfl (hw _ (List.mem_of_getElem? (i := 1) rfl)) (hw _ (List.mem_of_getElem? (i := 2) rfl)) (hw _ (List.mem_of_getElem? (i := 3) rfl)) (hw _ (List.mem_of_getElem? (i := 4) rfl)) pd_0 rfl (by decide) (by decide) (by decide)) ?_
  refine allC_cons (s_astore at_43) ?_
  refine allC_cons (s_aload at_45) ?_
  refine allC_cons (s_alen (k := 0) at_47 rfl) ?_
  refine allC_cons (s_iconst at_48 rfl) ?_
  refine allC_cons (s_icmp at_49 (by decide) (by decide)) ?_
  refine allC_cons (s_iconst at_52 rfl) ?_
  refine allC_cons (s_retI at_53 rfl (by simp)) ?_
  refine allC_cons (s_lloadN at_54 rfl) ?_
  refine allC_cons (s_aload at_55) ?_
  refine allC_cons (s_iloadN at_57 rfl) ?_
  refine allC_cons (s_iaload (k := 0) at_58 rfl) ?_
  refine allC_cons (s_callS (Mc := M2) at_59 rfl (hw _ (List.mem_of_getElem? (i := 10) rfl)) (hw _ (List.mem_of_getElem? (i := 11) rfl)) (hw _ (List.mem_of_getElem? (i := 12) rfl)) (hw _ (List.mem_of_getElem? (i := 13) rfl)) pd_1 rfl (by decide) (by decide) (by decide)) ?_
  refine allC_cons (s_if at_62 (by decide) (by decide)) ?_
  refine allC_cons (s_iconst at_65 rfl) ?_
  refine allC_cons (s_retI at_66 rfl (by simp)) ?_
  refine allC_cons (s_aload at_67) ?_
  refine allC_cons (s_iloadN at_69 rfl) ?_
  refine allC_cons (s_aload at_70) ?_
  refine allC_cons (s_iloadN at_72 rfl) ?_
  refine allC_cons (s_iaload (k := 0) at_73 rfl) ?_
  refine allC_cons (s_iconst at_74 rfl) ?_
  refine allC_cons (s_ixor at_75) ?_
  refine allC_cons (s_iastore (k := 0) hX at_76 rfl) ?_
  refine allC_cons (s_callS (Mc := M1) at_77 rfl (hw _ (List.mem_of_getElem? (i := 1) rfl)) (hw _ (List.mem_of_getElem? (i := 2) rfl)) (hw _ (List.mem_of_getElem? (i := 3) rfl)) (hw _ (List.mem_of_getElem? (i := 4) rfl)) pd_0 rfl (by decide) (by decide) (by decide)) ?_
  refine allC_cons (s_astore at_80) ?_
  refine allC_cons (s_aload at_82) ?_
  refine allC_cons (s_alen (k := 0) at_84 rfl) ?_
  refine allC_cons (s_iconst at_85 rfl) ?_
  refine allC_cons (s_icmp at_86 (by decide) (by decide)) ?_
  refine allC_cons (s_iconst at_89 rfl) ?_
  refine allC_cons (s_retI at_90 rfl (by simp)) ?_
  refine allC_cons (s_lloadN at_91 rfl) ?_
  refine allC_cons (s_aload at_92) ?_
  refine allC_cons (s_iloadN at_94 rfl) ?_
  refine allC_cons (s_iaload (k := 0) at_95 rfl) ?_
  refine allC_cons (s_callS (Mc := M2) at_96 rfl (hw _ (List.mem_of_getElem? (i := 10) rfl)) (hw _ (List.mem_of_getElem? (i := 11) rfl)) (hw _ (List.mem_of_getElem? (i := 12) rfl)) (hw _ (List.mem_of_getElem? (i := 13) rfl)) pd_1 rfl (by decide) (by decide) (by decide)) ?_
  refine allC_cons (s_retI at_99 rfl (by simp)) ?_
  exact allC_nil
theorem pl0 : plainFor M0.1 = true := by first | exact plainFor_of_name (by first | (simp [M0, x, plainName, overriddenIn]; done) | decide +kernel) | decide +kernel
set_option maxRecDepth 65536 in
set_option maxHeartbeats 4000000 in
theorem snd1 (l : Launch) (a0 : Array Value) (Z : State) (hw : ∀ d ∈ tables_1, d.before a0 Z = true) : ∀ q ∈ c1, Sound Z [] CT l MT M1 q.1 q.2 := by
  have hX : ∀ a ∈ ([] : List Addr), a < Z.heap.size := fun a ha => nomatch ha
  have hxl : ∀ i j, i ≠ j → (0 ≤ i ∨ 0 ≤ j) → ph Z [] i ≠ ph Z [] j := fun i j hij hi => ph_ne hX hij hi
  refine allC_mem (P := Sound Z [] CT l MT M1) ?_
  unfold c1
  refine allC_cons (s_iconst d1_0 rfl) ?_
  refine allC_cons (s_newA (k := 0) d1_1 (hw _ (List.mem_of_getElem? (i := 5) rfl)) rfl rfl) ?_
  refine allC_cons (s_dup d1_3) ?_
  refine allC_cons (s_iconst d1_4 rfl) ?_
  refine allC_cons (s_ldcInt d1_5 (hw _ (List.mem_of_getElem? (i := 6) rfl))) ?_
  refine allC_cons (s_iastore (k := 0) hX d1_7 rfl) ?_
  refine allC_cons (s_dup d1_8) ?_
  refine allC_cons (s_iconst d1_9 rfl) ?_
  refine allC_cons (s_ldcInt d1_10 (hw _ (List.mem_of_getElem? (i := 7) rfl))) ?_
  refine allC_cons (s_iastore (k := 0) hX d1_12 rfl) ?_
  refine allC_cons (s_dup d1_13) ?_
  refine allC_cons (s_iconst d1_14 rfl) ?_
  refine allC_cons (s_ldcInt d1_15 (hw _ (List.mem_of_getElem? (i := 8) rfl))) ?_
  refine allC_cons (s_iastore (k := 0) hX d1_17 rfl) ?_
  refine allC_cons (s_dup d1_18) ?_
  refine allC_cons (s_iconst d1_19 rfl) ?_
  refine allC_cons (s_ldcInt d1_20 (hw _ (List.mem_of_getElem? (i := 9) rfl))) ?_
  refine allC_cons (s_iastore (k := 0) hX d1_22 rfl) ?_
  refine allC_cons (s_retA d1_23 rfl rfl) ?_
  exact allC_nil
theorem pl1 : plainFor M1.1 = true := by first | exact plainFor_of_name (by first | (simp [M1, x, plainName, overriddenIn]; done) | decide +kernel) | decide +kernel
set_option maxRecDepth 65536 in
set_option maxHeartbeats 4000000 in
theorem snd2 (l : Launch) (a0 : Array Value) (Z : State) (hw : ∀ d ∈ tables_1, d.before a0 Z = true) : ∀ q ∈ c2, Sound Z [] CT l MT M2 q.1 q.2 := by
  have hX : ∀ a ∈ ([] : List Addr), a < Z.heap.size := fun a ha => nomatch ha
  have hxl : ∀ i j, i ≠ j → (0 ≤ i ∨ 0 ≤ j) → ph Z [] i ≠ ph Z [] j := fun i j hij hi => ph_ne hX hij hi
  refine allC_mem (P := Sound Z [] CT l MT M2) ?_
  unfold c2
  refine allC_cons (s_iloadN d2_0 rfl) ?_
  refine allC_cons (s_i2l d2_1) ?_
  refine allC_cons (s_ldc2Long d2_2 (hw _ (List.mem_of_getElem? (i := 14) rfl))) ?_
  refine allC_cons (s_land d2_5) ?_
  refine allC_cons (s_lstoreN d2_6 rfl) ?_
  refine allC_cons (s_lloadN d2_7 rfl) ?_
  refine allC_cons (s_lloadN d2_8 rfl) ?_
  refine allC_cons (s_lmul d2_9) ?_
  refine allC_cons (s_lstore d2_10) ?_
  refine allC_cons (s_lloadN d2_12 rfl) ?_
  refine allC_cons (s_lconst d2_13 rfl) ?_
  refine allC_cons (s_ladd d2_14) ?_
  refine allC_cons (s_lstore d2_15) ?_
  refine allC_cons (s_lload d2_17) ?_
  refine allC_cons (s_lload d2_19) ?_
  refine allC_cons (s_lmul d2_21) ?_
  refine allC_cons (s_lstore d2_22) ?_
  refine allC_cons (s_lloadN d2_24 rfl) ?_
  refine allC_cons (s_bipush d2_25 rfl) ?_
  refine allC_cons (s_lshl d2_27) ?_
  refine allC_cons (s_lstore d2_28) ?_
  refine allC_cons (s_lload d2_30) ?_
  refine allC_cons (s_lload d2_32) ?_
  refine allC_cons (s_callS (Mc := M3) d2_34 rfl (hw _ (List.mem_of_getElem? (i := 15) rfl)) (hw _ (List.mem_of_getElem? (i := 16) rfl)) (hw _ (List.mem_of_getElem? (i := 12) rfl)) (hw _ (List.mem_of_getElem? (i := 17) rfl)) pd_2 rfl (by decide) (by decide) (by decide)) ?_
  refine allC_cons (s_if d2_37 (by decide) (by decide)) ?_
  refine allC_cons (s_lload d2_40) ?_
  refine allC_cons (s_lload d2_42) ?_
  refine allC_cons (s_callS (Mc := M4) d2_44 rfl (hw _ (List.mem_of_getElem? (i := 19) rfl)) (hw _ (List.mem_of_getElem? (i := 20) rfl)) (hw _ (List.mem_of_getElem? (i := 12) rfl)) (hw _ (List.mem_of_getElem? (i := 21) rfl)) pd_2 rfl (by decide) (by decide) (by decide)) ?_
  refine allC_cons (s_if d2_47 (by decide) (by decide)) ?_
  refine allC_cons (s_iconst d2_50 rfl) ?_
  refine allC_cons (s_goto d2_51 (by decide) (by decide)) ?_
  refine allC_cons (s_iconst d2_54 rfl) ?_
  refine allC_cons (s_retI d2_55 rfl (by simp)) ?_
  exact allC_nil
theorem pl2 : plainFor M2.1 = true := by first | exact plainFor_of_name (by first | (simp [M2, x, plainName, overriddenIn]; done) | decide +kernel) | decide +kernel
set_option maxRecDepth 65536 in
set_option maxHeartbeats 4000000 in
theorem snd3 (l : Launch) (a0 : Array Value) (Z : State) (hw : ∀ d ∈ tables_1, d.before a0 Z = true) : ∀ q ∈ c3, Sound Z [] CT l MT M3 q.1 q.2 := by
  have hX : ∀ a ∈ ([] : List Addr), a < Z.heap.size := fun a ha => nomatch ha
  have hxl : ∀ i j, i ≠ j → (0 ≤ i ∨ 0 ≤ j) → ph Z [] i ≠ ph Z [] j := fun i j hij hi => ph_ne hX hij hi
  refine allC_mem (P := Sound Z [] CT l MT M3) ?_
  unfold c3
  refine allC_cons (s_lloadN d3_0 rfl) ?_
  refine allC_cons (s_ldc2Long d3_1 (hw _ (List.mem_of_getElem? (i := 18) rfl))) ?_
  refine allC_cons (s_lxor d3_4) ?_
  refine allC_cons (s_lloadN d3_5 rfl) ?_
  refine allC_cons (s_ldc2Long d3_6 (hw _ (List.mem_of_getElem? (i := 18) rfl))) ?_
  refine allC_cons (s_lxor d3_9) ?_
  refine allC_cons (s_lcmp d3_10) ?_
  refine allC_cons (s_if d3_11 (by decide) (by decide)) ?_
  refine allC_cons (s_iconst d3_14 rfl) ?_
  refine allC_cons (s_goto d3_15 (by decide) (by decide)) ?_
  refine allC_cons (s_iconst d3_18 rfl) ?_
  refine allC_cons (s_retI d3_19 rfl (by simp)) ?_
  exact allC_nil
theorem pl3 : plainFor M3.1 = true := by first | exact plainFor_of_name (by first | (simp [M3, x, plainName, overriddenIn]; done) | decide +kernel) | decide +kernel
set_option maxRecDepth 65536 in
set_option maxHeartbeats 4000000 in
theorem snd4 (l : Launch) (a0 : Array Value) (Z : State) (hw : ∀ d ∈ tables_1, d.before a0 Z = true) : ∀ q ∈ c4, Sound Z [] CT l MT M4 q.1 q.2 := by
  have hX : ∀ a ∈ ([] : List Addr), a < Z.heap.size := fun a ha => nomatch ha
  have hxl : ∀ i j, i ≠ j → (0 ≤ i ∨ 0 ≤ j) → ph Z [] i ≠ ph Z [] j := fun i j hij hi => ph_ne hX hij hi
  refine allC_mem (P := Sound Z [] CT l MT M4) ?_
  unfold c4
  refine allC_cons (s_lloadN d4_0 rfl) ?_
  refine allC_cons (s_ldc2Long d4_1 (hw _ (List.mem_of_getElem? (i := 18) rfl))) ?_
  refine allC_cons (s_lxor d4_4) ?_
  refine allC_cons (s_lloadN d4_5 rfl) ?_
  refine allC_cons (s_ldc2Long d4_6 (hw _ (List.mem_of_getElem? (i := 18) rfl))) ?_
  refine allC_cons (s_lxor d4_9) ?_
  refine allC_cons (s_lcmp d4_10) ?_
  refine allC_cons (s_if d4_11 (by decide) (by decide)) ?_
  refine allC_cons (s_iconst d4_14 rfl) ?_
  refine allC_cons (s_goto d4_15 (by decide) (by decide)) ?_
  refine allC_cons (s_iconst d4_18 rfl) ?_
  refine allC_cons (s_retI d4_19 rfl (by simp)) ?_
  exact allC_nil
theorem pl4 : plainFor M4.1 = true := by first | exact plainFor_of_name (by first | (simp [M4, x, plainName, overriddenIn]; done) | decide +kernel) | decide +kernel
theorem hlen (l : Launch) (a0 : Array Value) (Z : State) (hw : ∀ d ∈ tables_1, d.before a0 Z = true) : ∀ (μ n : Nat) (code : List (Nat × MOp)), D[μ]? = some (n, code) → ∃ M, MT[μ]? = some M ∧ M.2.2.1 = n ∧ plainFor M.1 = true ∧ ∀ q ∈ code, Sound Z [] CT l MT M q.1 q.2
  | 0, n, co, h => by
    obtain ⟨rfl, rfl⟩ := Prod.mk.inj (Option.some.inj (show some (6, c0) = some (n, co) from h))
    exact ⟨M0, rfl, rfl, pl0, snd0 l a0 Z hw ⟩
  | 1, n, co, h => by
    obtain ⟨rfl, rfl⟩ := Prod.mk.inj (Option.some.inj (show some (0, c1) = some (n, co) from h))
    exact ⟨M1, rfl, rfl, pl1, snd1 l a0 Z hw ⟩
  | 2, n, co, h => by
    obtain ⟨rfl, rfl⟩ := Prod.mk.inj (Option.some.inj (show some (13, c2) = some (n, co) from h))
    exact ⟨M2, rfl, rfl, pl2, snd2 l a0 Z hw ⟩
  | 3, n, co, h => by
    obtain ⟨rfl, rfl⟩ := Prod.mk.inj (Option.some.inj (show some (4, c3) = some (n, co) from h))
    exact ⟨M3, rfl, rfl, pl3, snd3 l a0 Z hw ⟩
  | 4, n, co, h => by
    obtain ⟨rfl, rfl⟩ := Prod.mk.inj (Option.some.inj (show some (4, c4) = some (n, co) from h))
    exact ⟨M4, rfl, rfl, pl4, snd4 l a0 Z hw ⟩
  | μ + 5, n, co, h => by simp [D] at h
end Snd
set_option maxRecDepth 65536 in
theorem mono0 : ∀ w ∈ c0, Mono w.2 := allC_mem (P := fun _ f => Mono f) ⟨mono_lift _, mono_lift _, mono_lift _, mono_lift _, mono_lift _, mono_lift _, mono_lift _, mono_lift _, mono_lift _, mono_lift _, mono_lift _, mono_lift _, mono_lift _, mono_lift _, mono_lift _, mono_lift _, mono_lift _, mono_lift _, mono_lift _, mono_lift _, mono_call _ _ _ _, mono_lift _, mono_lift _, (fun _ _ _ _ _ _ _ h => h), mono_lift _, mono_lift _, mono_lift _, (fun _ _ _ _ _ _ _ h => h), mono_lift _, mono_lift _, mono_lift _, (fun _ _ _ _ _ _ _ h => h), mono_call _ _ _ _, mono_lift _, mono_lift _, (fun _ _ _ _ _ _ _ h => h), mono_lift _, mono_lift _, mono_lift _, mono_lift _, (fun _ _ _ _ _ _ _ h => h), mono_lift _, mono_lift _, (fun _ _ _ _ _ _ _ h => h), mono_call _ _ _ _, mono_lift _, mono_lift _, (fun _ _ _ _ _ _ _ h => h), mono_lift _, mono_lift _, mono_lift _, (fun _ _ _ _ _ _ _ h => h), mono_lift _, mono_lift _, mono_lift _, (fun _ _ _ _ _ _ _ h => h), mono_call _ _ _ _, (fun _ _ _ _ _ _ _ h => h), trivial⟩
set_option maxRecDepth 65536 in
theorem mono1 : ∀ w ∈ c1, Mono w.2 := allC_mem (P := fun _ f => Mono f) ⟨mono_lift _, (fun _ _ _ _ _ _ _ h => h), mono_lift _, mono_lift _, mono_lift _, (fun _ _ _ _ _ _ _ h => h), mono_lift _, mono_lift _, mono_lift _, (fun _ _ _ _ _ _ _ h => h), mono_lift _, mono_lift _, mono_lift _, (fun _ _ _ _ _ _ _ h => h), mono_lift _, mono_lift _, mono_lift _, (fun _ _ _ _ _ _ _ h => h), (fun _ _ _ _ _ _ _ h => h), trivial⟩
set_option maxRecDepth 65536 in
theorem mono2 : ∀ w ∈ c2, Mono w.2 := allC_mem (P := fun _ f => Mono f) ⟨mono_lift _, mono_lift _, mono_lift _, mono_lift _, mono_lift _, mono_lift _, mono_lift _, mono_lift _, mono_lift _, mono_lift _, mono_lift _, mono_lift _, mono_lift _, mono_lift _, mono_lift _, mono_lift _, mono_lift _, mono_lift _, mono_lift _, mono_lift _, mono_lift _, mono_lift _, mono_lift _, mono_call _ _ _ _, mono_lift _, mono_lift _, mono_lift _, mono_call _ _ _ _, mono_lift _, mono_lift _, mono_lift _, mono_lift _, (fun _ _ _ _ _ _ _ h => h), trivial⟩
set_option maxRecDepth 65536 in
theorem mono3 : ∀ w ∈ c3, Mono w.2 := allC_mem (P := fun _ f => Mono f) ⟨mono_lift _, mono_lift _, mono_lift _, mono_lift _, mono_lift _, mono_lift _, mono_lift _, mono_lift _, mono_lift _, mono_lift _, mono_lift _, (fun _ _ _ _ _ _ _ h => h), trivial⟩
set_option maxRecDepth 65536 in
theorem mono4 : ∀ w ∈ c4, Mono w.2 := allC_mem (P := fun _ f => Mono f) ⟨mono_lift _, mono_lift _, mono_lift _, mono_lift _, mono_lift _, mono_lift _, mono_lift _, mono_lift _, mono_lift _, mono_lift _, mono_lift _, (fun _ _ _ _ _ _ _ h => h), trivial⟩
theorem monoD : ∀ q ∈ D, ∀ w ∈ q.2, Mono w.2 := allP_mem (α := Nat × List (Nat × MOp)) (xs := D) (P := fun q => ∀ w ∈ q.2, Mono w.2) ⟨mono0, mono1, mono2, mono3, mono4, trivial⟩
def ule (x y : Int64) : Bool := !(ifCond.holds .gt (XT.cmpL (x ^^^ -9223372036854775808) (y ^^^ -9223372036854775808)))
def ult (x y : Int64) : Bool := !(ifCond.holds .ge (XT.cmpL (x ^^^ -9223372036854775808) (y ^^^ -9223372036854775808)))
theorem ev3 (x y : Int64) (H : MH) : Eval D 3 [.long x, .long y] H (some (.int (b2i (ule x y))), H) := by
  refine Eval.intro monoD rfl (le_r rfl) ?_
  iterate 7 (refine Go.step rfl (fun _ => rfl) ?_)
  refine Go.ifS rfl (fun b e => ?_)
  cases b
  · iterate 2 (refine Go.step rfl (fun _ => rfl) ?_)
    exact Go.retE rfl (fun _ => rfl) (by simp only [ule, e]; rfl)
  · iterate 1 (refine Go.step rfl (fun _ => rfl) ?_)
    exact Go.retE rfl (fun _ => rfl) (by simp only [ule, e]; rfl)
theorem ev4 (x y : Int64) (H : MH) : Eval D 4 [.long x, .long y] H (some (.int (b2i (ult x y))), H) := by
  refine Eval.intro monoD rfl (le_r rfl) ?_
  iterate 7 (refine Go.step rfl (fun _ => rfl) ?_)
  refine Go.ifS rfl (fun b e => ?_)
  cases b
  · iterate 2 (refine Go.step rfl (fun _ => rfl) ?_)
    exact Go.retE rfl (fun _ => rfl) (by simp only [ult, e]; rfl)
  · iterate 1 (refine Go.step rfl (fun _ => rfl) ?_)
    exact Go.retE rfl (fun _ => rfl) (by simp only [ult, e]; rfl)
def kk (v : Int32) : Int64 := v.toInt64 &&& 4294967295
def sr (n : Int64) (v : Int32) : Bool := ule (kk v * kk v) (n <<< ((60 : Int32).toInt64 &&& 63)) && ult (n <<< ((60 : Int32).toInt64 &&& 63)) ((kk v + 1) * (kk v + 1))
theorem ev2 (n : Int64) (v : Int32) (H : MH) : Eval D 2 [.long n, .int v] H (some (.int (b2i (sr n v))), H) := by
  refine Eval.intro2 monoD [.val (.long n), .second, .val (.int v), .unset, .unset, .unset, .unset, .unset, .unset, .unset, .unset, .unset, .unset] rfl (le_r rfl) rfl ?_
  iterate 6 (refine Go.step rfl (fun _ => rfl) ?_)
  try simp only [List.set_cons_zero, List.set_cons_succ, Nat.reduceAdd]
  iterate 6 (refine Go.step rfl (fun _ => rfl) ?_)
  try simp only [List.set_cons_zero, List.set_cons_succ, Nat.reduceAdd]
  iterate 6 (refine Go.step rfl (fun _ => rfl) ?_)
  try simp only [List.set_cons_zero, List.set_cons_succ, Nat.reduceAdd]
  iterate 5 (refine Go.step rfl (fun _ => rfl) ?_)
  try simp only [List.set_cons_zero, List.set_cons_succ, Nat.reduceAdd]
  refine Go.scall monoD mono2 rfl (ev3 _ _ H) rfl rfl (le_r rfl) (le_r rfl) ?_
  refine Go.ifS rfl (fun b e => ?_)
  rw [z_eqb] at e
  cases b
  · iterate 2 (refine Go.step rfl (fun _ => rfl) ?_)
    try simp only [List.set_cons_zero, List.set_cons_succ, Nat.reduceAdd]
    refine Go.scall monoD mono2 rfl (ev4 _ _ H) rfl rfl (le_r rfl) (le_r rfl) ?_
    refine Go.ifS rfl (fun b e2 => ?_)
    rw [z_eqb] at e2
    cases b
    · iterate 2 (refine Go.step rfl (fun _ => rfl) ?_)
      exact Go.retE rfl (fun _ => rfl) (by simp only [Bool.not_eq_false'] at e e2; simp only [sr, kk, e, e2]; rfl)
    · iterate 1 (refine Go.step rfl (fun _ => rfl) ?_)
      exact Go.retE rfl (fun _ => rfl) (by simp only [Bool.not_eq_false', Bool.not_eq_true'] at e e2; simp only [sr, kk, e, e2]; rfl)
  · iterate 1 (refine Go.step rfl (fun _ => rfl) ?_)
    exact Go.retE rfl (fun _ => rfl) (by simp only [Bool.not_eq_true'] at e; simp only [sr, kk, e]; rfl)
abbrev tb : List Value := [.int 1518500249, .int 1859775393, .int (-1894007588), .int (-899497514)]
theorem ev1a : Eval D 1 [] [] (some (.ref 0), [(0, tb)]) := by
  refine Eval.intro monoD rfl (le_r rfl) ?_
  iterate 6 (refine Go.step rfl (fun _ => rfl) ?_)
  try simp only [List.set_cons_zero, List.set_cons_succ, Nat.reduceAdd]
  iterate 6 (refine Go.step rfl (fun _ => rfl) ?_)
  try simp only [List.set_cons_zero, List.set_cons_succ, Nat.reduceAdd]
  iterate 6 (refine Go.step rfl (fun _ => rfl) ?_)
  try simp only [List.set_cons_zero, List.set_cons_succ, Nat.reduceAdd]
  exact Go.retE rfl (fun _ => rfl) rfl
theorem ev1b (us : List Value) : Eval D 1 [] [(0, us)] (some (.ref 1), [(0, us), (0, tb)]) := by
  refine Eval.intro monoD rfl (le_r rfl) ?_
  iterate 6 (refine Go.step rfl (fun _ => rfl) ?_)
  try simp only [List.set_cons_zero, List.set_cons_succ, Nat.reduceAdd]
  iterate 6 (refine Go.step rfl (fun _ => rfl) ?_)
  try simp only [List.set_cons_zero, List.set_cons_succ, Nat.reduceAdd]
  iterate 6 (refine Go.step rfl (fun _ => rfl) ?_)
  try simp only [List.set_cons_zero, List.set_cons_succ, Nat.reduceAdd]
  exact Go.retE rfl (fun _ => rfl) rfl
theorem case0 (i : Int32) : ∃ us : List Value, us.length = 4 ∧ Go D c0 (4, [.val (.int i), .val (.int 0), .unset, .unset, .unset, .unset], [], []) (some (.int 1), [(0, us), (0, tb)]) := by
  have hs : sr 2 (1518500249) = true := by decide +kernel
  refine ⟨tb.set 0 (.int ((1518500249 : Int32) ^^^ -1)), rfl, ?_⟩
  iterate 5 (refine Go.step rfl (fun _ => rfl) ?_)
  try simp only [List.set_cons_zero, List.set_cons_succ, Nat.reduceAdd]
  refine Go.scall monoD mono0 rfl (ev1a) rfl rfl (le_r rfl) (le_r rfl) ?_
  iterate 6 (refine Go.step rfl (fun _ => rfl) ?_)
  try simp only [List.set_cons_zero, List.set_cons_succ, Nat.reduceAdd]
  iterate 3 (refine Go.step rfl (fun _ => rfl) ?_)
  try simp only [List.set_cons_zero, List.set_cons_succ, Nat.reduceAdd]
  refine Go.scall monoD mono0 rfl (ev2 2 (1518500249) _) rfl rfl (le_r rfl) (le_r rfl) ?_
  refine Go.ifc rfl (b := true) (by rw [hs]; rfl) ?_
  iterate 6 (refine Go.step rfl (fun _ => rfl) ?_)
  try simp only [List.set_cons_zero, List.set_cons_succ, Nat.reduceAdd]
  iterate 2 (refine Go.step rfl (fun _ => rfl) ?_)
  try simp only [List.set_cons_zero, List.set_cons_succ, Nat.reduceAdd]
  refine Go.scall monoD mono0 rfl (ev1b _) rfl rfl (le_r rfl) (le_r rfl) ?_
  iterate 6 (refine Go.step rfl (fun _ => rfl) ?_)
  try simp only [List.set_cons_zero, List.set_cons_succ, Nat.reduceAdd]
  iterate 3 (refine Go.step rfl (fun _ => rfl) ?_)
  try simp only [List.set_cons_zero, List.set_cons_succ, Nat.reduceAdd]
  refine Go.scall monoD mono0 rfl (ev2 2 (1518500249) _) rfl rfl (le_r rfl) (le_r rfl) ?_
  exact Go.retE rfl (fun _ => rfl) (by rw [hs]; rfl)
theorem case1 (i : Int32) : ∃ us : List Value, us.length = 4 ∧ Go D c0 (4, [.val (.int i), .val (.int 1), .unset, .unset, .unset, .unset], [], []) (some (.int 1), [(0, us), (0, tb)]) := by
  have hs : sr 3 (1859775393) = true := by decide +kernel
  refine ⟨tb.set 1 (.int ((1859775393 : Int32) ^^^ -1)), rfl, ?_⟩
  iterate 6 (refine Go.step rfl (fun _ => rfl) ?_)
  try simp only [List.set_cons_zero, List.set_cons_succ, Nat.reduceAdd]
  iterate 2 (refine Go.step rfl (fun _ => rfl) ?_)
  try simp only [List.set_cons_zero, List.set_cons_succ, Nat.reduceAdd]
  refine Go.scall monoD mono0 rfl (ev1a) rfl rfl (le_r rfl) (le_r rfl) ?_
  iterate 6 (refine Go.step rfl (fun _ => rfl) ?_)
  try simp only [List.set_cons_zero, List.set_cons_succ, Nat.reduceAdd]
  iterate 3 (refine Go.step rfl (fun _ => rfl) ?_)
  try simp only [List.set_cons_zero, List.set_cons_succ, Nat.reduceAdd]
  refine Go.scall monoD mono0 rfl (ev2 3 (1859775393) _) rfl rfl (le_r rfl) (le_r rfl) ?_
  refine Go.ifc rfl (b := true) (by rw [hs]; rfl) ?_
  iterate 6 (refine Go.step rfl (fun _ => rfl) ?_)
  try simp only [List.set_cons_zero, List.set_cons_succ, Nat.reduceAdd]
  iterate 2 (refine Go.step rfl (fun _ => rfl) ?_)
  try simp only [List.set_cons_zero, List.set_cons_succ, Nat.reduceAdd]
  refine Go.scall monoD mono0 rfl (ev1b _) rfl rfl (le_r rfl) (le_r rfl) ?_
  iterate 6 (refine Go.step rfl (fun _ => rfl) ?_)
  try simp only [List.set_cons_zero, List.set_cons_succ, Nat.reduceAdd]
  iterate 3 (refine Go.step rfl (fun _ => rfl) ?_)
  try simp only [List.set_cons_zero, List.set_cons_succ, Nat.reduceAdd]
  refine Go.scall monoD mono0 rfl (ev2 3 (1859775393) _) rfl rfl (le_r rfl) (le_r rfl) ?_
  exact Go.retE rfl (fun _ => rfl) (by rw [hs]; rfl)
theorem case2 (i : Int32) : ∃ us : List Value, us.length = 4 ∧ Go D c0 (4, [.val (.int i), .val (.int 2), .unset, .unset, .unset, .unset], [], []) (some (.int 1), [(0, us), (0, tb)]) := by
  have hs : sr 5 (-1894007588) = true := by decide +kernel
  refine ⟨tb.set 2 (.int ((-1894007588 : Int32) ^^^ -1)), rfl, ?_⟩
  iterate 6 (refine Go.step rfl (fun _ => rfl) ?_)
  try simp only [List.set_cons_zero, List.set_cons_succ, Nat.reduceAdd]
  iterate 5 (refine Go.step rfl (fun _ => rfl) ?_)
  try simp only [List.set_cons_zero, List.set_cons_succ, Nat.reduceAdd]
  refine Go.scall monoD mono0 rfl (ev1a) rfl rfl (le_r rfl) (le_r rfl) ?_
  iterate 6 (refine Go.step rfl (fun _ => rfl) ?_)
  try simp only [List.set_cons_zero, List.set_cons_succ, Nat.reduceAdd]
  iterate 3 (refine Go.step rfl (fun _ => rfl) ?_)
  try simp only [List.set_cons_zero, List.set_cons_succ, Nat.reduceAdd]
  refine Go.scall monoD mono0 rfl (ev2 5 (-1894007588) _) rfl rfl (le_r rfl) (le_r rfl) ?_
  refine Go.ifc rfl (b := true) (by rw [hs]; rfl) ?_
  iterate 6 (refine Go.step rfl (fun _ => rfl) ?_)
  try simp only [List.set_cons_zero, List.set_cons_succ, Nat.reduceAdd]
  iterate 2 (refine Go.step rfl (fun _ => rfl) ?_)
  try simp only [List.set_cons_zero, List.set_cons_succ, Nat.reduceAdd]
  refine Go.scall monoD mono0 rfl (ev1b _) rfl rfl (le_r rfl) (le_r rfl) ?_
  iterate 6 (refine Go.step rfl (fun _ => rfl) ?_)
  try simp only [List.set_cons_zero, List.set_cons_succ, Nat.reduceAdd]
  iterate 3 (refine Go.step rfl (fun _ => rfl) ?_)
  try simp only [List.set_cons_zero, List.set_cons_succ, Nat.reduceAdd]
  refine Go.scall monoD mono0 rfl (ev2 5 (-1894007588) _) rfl rfl (le_r rfl) (le_r rfl) ?_
  exact Go.retE rfl (fun _ => rfl) (by rw [hs]; rfl)
theorem case3 (i : Int32) : ∃ us : List Value, us.length = 4 ∧ Go D c0 (4, [.val (.int i), .val (.int 3), .unset, .unset, .unset, .unset], [], []) (some (.int 1), [(0, us), (0, tb)]) := by
  have hs : sr 10 (-899497514) = true := by decide +kernel
  refine ⟨tb.set 3 (.int ((-899497514 : Int32) ^^^ -1)), rfl, ?_⟩
  iterate 6 (refine Go.step rfl (fun _ => rfl) ?_)
  try simp only [List.set_cons_zero, List.set_cons_succ, Nat.reduceAdd]
  iterate 4 (refine Go.step rfl (fun _ => rfl) ?_)
  try simp only [List.set_cons_zero, List.set_cons_succ, Nat.reduceAdd]
  refine Go.scall monoD mono0 rfl (ev1a) rfl rfl (le_r rfl) (le_r rfl) ?_
  iterate 6 (refine Go.step rfl (fun _ => rfl) ?_)
  try simp only [List.set_cons_zero, List.set_cons_succ, Nat.reduceAdd]
  iterate 3 (refine Go.step rfl (fun _ => rfl) ?_)
  try simp only [List.set_cons_zero, List.set_cons_succ, Nat.reduceAdd]
  refine Go.scall monoD mono0 rfl (ev2 10 (-899497514) _) rfl rfl (le_r rfl) (le_r rfl) ?_
  refine Go.ifc rfl (b := true) (by rw [hs]; rfl) ?_
  iterate 6 (refine Go.step rfl (fun _ => rfl) ?_)
  try simp only [List.set_cons_zero, List.set_cons_succ, Nat.reduceAdd]
  iterate 2 (refine Go.step rfl (fun _ => rfl) ?_)
  try simp only [List.set_cons_zero, List.set_cons_succ, Nat.reduceAdd]
  refine Go.scall monoD mono0 rfl (ev1b _) rfl rfl (le_r rfl) (le_r rfl) ?_
  iterate 6 (refine Go.step rfl (fun _ => rfl) ?_)
  try simp only [List.set_cons_zero, List.set_cons_succ, Nat.reduceAdd]
  iterate 3 (refine Go.step rfl (fun _ => rfl) ?_)
  try simp only [List.set_cons_zero, List.set_cons_succ, Nat.reduceAdd]
  refine Go.scall monoD mono0 rfl (ev2 10 (-899497514) _) rfl rfl (le_r rfl) (le_r rfl) ?_
  exact Go.retE rfl (fun _ => rfl) (by rw [hs]; rfl)
theorem law_run (i : Int32) : ∃ Hf, Eval D 0 [.int i] [] (some (.int 1), Hf) ∧ Hf.length - ([] : MH).length ≤ 16 ∧ sz CT Hf - sz CT [] ≤ 128 := by
  have go : ∃ us : List Value, us.length = 4 ∧ Go D c0 (4, [.val (.int i), .val (.int (i &&& 3)), .unset, .unset, .unset, .unset], [], []) (some (.int 1), [(0, us), (0, tb)]) := by
    rcases and3 i with h | h | h | h <;> rw [h]
    · exact case0 i
    · exact case1 i
    · exact case2 i
    · exact case3 i
  obtain ⟨us, hu, go⟩ := go
  refine ⟨[(0, us), (0, tb)], Eval.intro monoD rfl (le_r rfl) ?_, by simp, by simp [sz, szc, CT, hu]⟩
  iterate 4 (refine Go.step rfl (fun _ => rfl) ?_)
  exact go
set_option maxRecDepth 65536 in
set_option maxHeartbeats 4000000 in
theorem comes_1 {Post : Tables → Env → Array Value → State → Outcome → State → Prop} (hpost : ∀ tb e args s v u, (limb_1_1.after args s (.returned v) u = true ∧ limb_1_2.after args s (.returned v) u = true ∧ True) → FrameEnd s (.returned v) u (Jvm.fieldLocs frame_1_writes args s ++ Jvm.arrayLocs frame_1_arrays args s ++ Jvm.staticLocs frame_1_statics s) 16 128 → Post tb e args s (.returned v) u) :
    ArmFor flags0 classFile x code maxLocals ret World_1 tables_1 room_1 Calls_1 rest_1 Pre_1 Post := by
  intro l hfl _ _ p e ha hc hk s m args below hf hA hF happ hP
  obtain ⟨hcalls, hrest, hpre⟩ := hP
  obtain ⟨-, -, -, hnamed, -, -, -, hat⟩ := (Spec.applies_iff hf).mp happ
  obtain ⟨hg, hn⟩ := and_e (Cond.before_iff.mp (show (Jvm.Cond.and given_1 narrow_1).before args s = true from hpre))
  obtain ⟨hcnt, hg⟩ := and_e hg
  have g0 := hg
  obtain ⟨w0, rfl⟩ : ∃ w0 : Value, args = #[w0] := by
    have hs : args.size = 1 := by simpa [Cond.value, given_1] using hcnt
    obtain ⟨L⟩ := args
    match L, hs with
    | [w0], _ => exact ⟨w0, rfl⟩
  have hw := fun d (hd : d ∈ tables_1) => atoms_spec (ws := Jvm.Cond.code x code maxLocals ret :: tables_1) hat d (List.mem_cons_of_mem _ hd)
  obtain ⟨i0, e0⟩ := is_v g0
  obtain rfl : w0 = (.int i0) := Option.some.inj e0
  obtain ⟨Hf, hE, hC, hS⟩ := law_run i0
  obtain ⟨n, o, h1, h2, h3, _, L, rfl, ⟨rfl, N, -⟩, hq⟩ := top_met (M := M0) (hlen l _ s hw ) hE rfl (R := room_1) (ws := tables_1) (by decide) (by decide) hC hS (rep_nil s CT) p e ha hc hk s m _ below hf ((Spec.applies_iff_loose hf).mp happ).1 ⟨rfl, State.Warmed39.refl s, rfl⟩ trivial
  refine ⟨n, _, h1, h2, h3, hpost _ _ _ _ _ _ ⟨Cond.after_iff.mpr rfl, Cond.after_iff.mpr (eq_i res_at (Term.int_eval (1)) rfl), trivial⟩ ⟨hq.1, hq.2.1, (hq.2.2.sift fun y hy => Or.inr (N y hy)).mono hC hS⟩⟩
theorem main_1_1 : Claimed_1_1 := comes_1 fun _ _ _ _ _ _ h hF => ⟨h.1, hF⟩
theorem main_1_2 : Claimed_1_2 := comes_1 fun _ _ _ _ _ _ h hF => ⟨h.2.1, hF⟩
end Jvm.Pilot.@@N@@
namespace Jvm.Pilot.@@N@@
open Jvm Jvm.ClassFile Sem Op Lib Jvm.Free Jvm.Stand Jvm.Pilot.@@N@@.Jvm.D
/-! MADE BY PROGRAM (witnessworld.py) out of the Statement's table words and the real class files: 9 classes; the members and pool entries that the words name. The judged class is class 1, her method 4. -/
namespace start1
open Jvm.ClassFile
def u (s : String) : CpInfo := .utf8 (stringToUtf16 s)
/-- a pool by its gaps: so many unusable entries, then the entry; so many at the end -/
def gap : Nat → List CpInfo → List CpInfo
  | 0, r => r
  | n + 1, r => .unusable :: gap n r
def poolList (es : List (Nat × CpInfo)) (last : Nat) : List CpInfo := es.foldr (fun e r => gap e.1 (e.2 :: r)) (gap last [])
def pool (es : List (Nat × CpInfo)) (last : Nat) : Array CpInfo := ⟨poolList es last⟩
def fileOf (pool : Array CpInfo) (this : Nat) (attrs : Array Attribute := #[]) (ms : Array MethodInfo := #[]) (fl : Nat := 33) (sup : Nat := 0) (ifs : Array Nat := #[]) (fds : Array FieldInfo := #[]) : ClassFile where
  minorVersion := 0
  majorVersion := 65
  constantPool := pool
  accessFlags := fl
  thisClass := this
  superClass := sup
  interfaces := ifs
  fields := fds
  methods := ms
  attributes := attrs
def plain (name : String) (sup : Option ClassId) : Class where
  name := name
  kind := .ordinary
  loader := none
  accessFlags := 33
  super := sup
  interfaces := #[]
  cf := none
  fields := #[]
  methods := #[]
  instanceTypes := #[]
  staticTypes := #[]
  resolved := #[]
  callSites := []
  init := .initialized
  statics := none
  mirror := none

def pool0 : Array CpInfo := pool [(5, u "<init>"), (0, u "()V"), (1, .class_ 10), (1, u "java/lang/Object")] 113

def k0m0 : Method := { name := "<init>", desc := "()V", sig := { parameters := [], returnType := none }, accessFlags := 1, code := none }
/-- java/lang/Object -/
def k0 : Class := { plain "java/lang/Object" none with
  accessFlags := 33
  interfaces := #[]
  cf := some (fileOf pool0 8 #[] #[{ accessFlags := 1, nameIndex := 5, descriptorIndex := 6, attributes := #[] }] 33 0 #[] #[])
  fields := #[]
  methods := #[k0m0]
  instanceTypes := #[]
  staticTypes := #[]
  resolved := Array.replicate 124 none
  statics := none }

def pool1 : Array CpInfo := pool [(2, .class_ 4), (1, u "java/lang/Object"), (0, u "<init>"), (0, u "()V"), (0, .long 9223372036854775808), (1, .long 4294967295), (1, .methodref 12 13), (0, .class_ 14), (0, .nameAndType 15 16), (0, u "com/example/mortise/mortise/ConstantsSha1RoundConstantsPinLaw"), (0, u "ule"), (0, u "(JJ)Z"), (0, .methodref 12 18), (0, .nameAndType 19 16), (0, u "ult"), (0, .long 2), (1, .long 3), (1, .long 5), (1, .long 10), (1, .methodref 29 30), (0, .class_ 31), (0, .nameAndType 32 33), (0, u "com/example/mortise/mortise/Constants"), (0, u "sha1RoundConstants"), (0, u "()[I"), (0, .methodref 12 35), (0, .nameAndType 36 37), (0, u "isScaledRoot"), (0, u "(JI)Z"), (3, u "law"), (0, u "(I)Z")] 4

def k1m0 : Method := { name := "<init>", desc := "()V", sig := { parameters := [], returnType := none }, accessFlags := 2, code := none }
def k1c1 : Code := { maxStack := 6, maxLocals := 4, code := method_2_code, exceptionTable := #[], attributes := #[] }
def k1m1 : Method := { name := "ule", desc := "(JJ)Z", sig := { parameters := [.long, .long], returnType := some .boolean }, accessFlags := 10, code := some k1c1 }
def k1c2 : Code := { maxStack := 6, maxLocals := 4, code := method_3_code, exceptionTable := #[], attributes := #[] }
def k1m2 : Method := { name := "ult", desc := "(JJ)Z", sig := { parameters := [.long, .long], returnType := some .boolean }, accessFlags := 10, code := some k1c2 }
def k1c3 : Code := { maxStack := 4, maxLocals := 13, code := method_4_code, exceptionTable := #[], attributes := #[] }
def k1m3 : Method := { name := "isScaledRoot", desc := "(JI)Z", sig := { parameters := [.long, .int], returnType := some .boolean }, accessFlags := 10, code := some k1c3 }
def k1c4 : Code := { maxStack := 4, maxLocals := 6, code := code, exceptionTable := #[], attributes := #[] }
def k1m4 : Method := { name := "law", desc := "(I)Z", sig := { parameters := [.int], returnType := some .boolean }, accessFlags := 9, code := some k1c4 }
/-- com/example/mortise/mortise/ConstantsSha1RoundConstantsPinLaw -/
def k1 : Class := { plain "com/example/mortise/mortise/ConstantsSha1RoundConstantsPinLaw" (some 0) with
  accessFlags := 49
  interfaces := #[]
  cf := some (fileOf pool1 12 #[] #[{ accessFlags := 2, nameIndex := 5, descriptorIndex := 6, attributes := #[] }, { accessFlags := 10, nameIndex := 15, descriptorIndex := 16, attributes := #[] }, { accessFlags := 10, nameIndex := 19, descriptorIndex := 16, attributes := #[] }, { accessFlags := 10, nameIndex := 36, descriptorIndex := 37, attributes := #[] }, { accessFlags := 9, nameIndex := 41, descriptorIndex := 42, attributes := #[] }] 49 2 #[] #[])
  fields := #[]
  methods := #[k1m0, k1m1, k1m2, k1m3, k1m4]
  instanceTypes := #[]
  staticTypes := #[]
  resolved := Array.replicate 47 none
  statics := none }

def pool2 : Array CpInfo := pool [(2, .class_ 4), (1, u "java/lang/Object"), (0, u "<init>"), (0, u "()V"), (5, .integer 1518500249), (0, .integer 1859775393), (0, .integer 2400959708), (0, .integer 3395469782), (1, .class_ 19), (1, u "com/example/mortise/mortise/Constants"), (80, u "()[I"), (0, u "sha1RoundConstants")] 11

def k2m0 : Method := { name := "<init>", desc := "()V", sig := { parameters := [], returnType := none }, accessFlags := 2, code := none }
def k2c1 : Code := { maxStack := 4, maxLocals := 0, code := prog_46_method_3_code, exceptionTable := #[], attributes := #[] }
def k2m1 : Method := { name := "sha1RoundConstants", desc := "()[I", sig := { parameters := [], returnType := some (.array .int) }, accessFlags := 8, code := some k2c1 }
/-- com/example/mortise/mortise/Constants -/
def k2 : Class := { plain "com/example/mortise/mortise/Constants" (some 0) with
  accessFlags := 48
  interfaces := #[]
  cf := some (fileOf pool2 17 #[] #[{ accessFlags := 2, nameIndex := 5, descriptorIndex := 6, attributes := #[] }, { accessFlags := 8, nameIndex := 101, descriptorIndex := 100, attributes := #[] }] 48 2 #[] #[])
  fields := #[]
  methods := #[k2m0, k2m1]
  instanceTypes := #[]
  staticTypes := #[]
  resolved := Array.replicate 113 none
  statics := none }

def pool3 : Array CpInfo := pool [(1, u "java/lang/Cloneable"), (0, .class_ 1), (0, u "java/lang/Object"), (0, .class_ 3)] 3

/-- java/lang/Cloneable -/
def k3 : Class := { plain "java/lang/Cloneable" (some 0) with
  accessFlags := 1537
  interfaces := #[]
  cf := some (fileOf pool3 2 #[] #[] 1537 4 #[] #[])
  fields := #[]
  methods := #[]
  instanceTypes := #[]
  staticTypes := #[]
  resolved := Array.replicate 8 none
  statics := none }

def pool4 : Array CpInfo := pool [(1, u "java/io/Serializable"), (0, .class_ 1), (0, u "java/lang/Object"), (0, .class_ 3)] 3

/-- java/io/Serializable -/
def k4 : Class := { plain "java/io/Serializable" (some 0) with
  accessFlags := 1537
  interfaces := #[]
  cf := some (fileOf pool4 2 #[] #[] 1537 4 #[] #[])
  fields := #[]
  methods := #[]
  instanceTypes := #[]
  staticTypes := #[]
  resolved := Array.replicate 8 none
  statics := none }

/-- the primitive byte -/
def k5 : Class := { plain "byte" none with kind := .primitive 'B', accessFlags := 0x411 }
/-- [B -/
def k6 : Class := { plain "[B" (some 0) with kind := .array 5 .byte, interfaces := #[3, 4], accessFlags := 1041 }

/-- the primitive int -/
def k7 : Class := { plain "int" none with kind := .primitive 'I', accessFlags := 0x411 }
/-- [I -/
def k8 : Class := { plain "[I" (some 0) with kind := .array 7 .int, interfaces := #[3, 4], accessFlags := 1041 }

def heap : Heap := #[]
def classes : Array Class := #[k0, k1, k2, k3, k4, k5, k6, k7, k8]
def interned : List (Array UInt16 × Addr) := []
def slotsUsed : Nat := 0
def theMethod : MethodId := ⟨1, 4⟩
def args0 : Array Value := #[.int 5]
def aboutOver (below : List Frame) : State where
  vm := { classes := classes, interned := interned.toArray }
  heap := heap
  slotsUsed := slotsUsed
  threads := #[{ frames := .invoking theMethod args0 :: below }]
def below0 : List Frame := [.native { method := ⟨0, 0⟩, args := #[] }]
def about1 : State := aboutOver below0
def p0 : Program := .bare "" "" ""
def e0 : Env := launch0.env 0 0 0
theorem w_frames : about1.frames = Frame.invoking theMethod args0 :: below0 := rfl
set_option maxRecDepth 65536 in
theorem w_args : argsFit about1.vm theMethod args0 = true := by decide +kernel
set_option maxRecDepth 65536 in
theorem w_heap : heapFits about1 = true := by decide +kernel
set_option maxRecDepth 65536 in
theorem w_runnable : about1.curStatus? = some .runnable := by decide +kernel
set_option maxRecDepth 65536 in
theorem w_alone : about1.alone = true := by decide +kernel
set_option maxRecDepth 65536 in
theorem w_named : about1.methodNamed? x = some theMethod := by decide +kernel
set_option maxRecDepth 65536 in
theorem w_hears : about1.hears theMethod below0 = true := by decide +kernel
set_option maxRecDepth 65536 in
theorem w_ripe : about1.ripe theMethod args0 below0 = true := by decide +kernel
theorem w_running : about1.status = .running := rfl
set_option maxRecDepth 65536 in
theorem w_room : about1.hasRoom e0.platform room_1 = true :=
  launch0.hasRoom_least _ room_1 (by decide +kernel) (by decide +kernel) (by decide +kernel) (by decide +kernel) (by decide +kernel) (by decide +kernel)
theorem allAtoms_all (ts : List Jvm.Cond) (a : Array Jvm.Value) (st : Jvm.State) : (allAtoms ts).before a st = ts.all (fun c => c.before a st) := by
  induction ts with
  | nil => rfl
  | cons c t ih =>
    show (Jvm.Cond.and c (allAtoms t)).before a st = _
    rw [Jvm.Cond.before_and, ih, List.all_cons]
def words1 : List Jvm.Cond := Jvm.Cond.code x code maxLocals ret :: tables_1
/-- a 'code' word, met by the world's own term for the bytes: nothing is compared byte by byte -/
theorem code_word {y : MethodName} {bytes : ByteArray} {mx : Nat} {rt : Option FieldType} {a : Array Value} {s : State} {m : MethodId} {meth : Method} {c : Code} (h1 : s.methodNamed? y = some m) (h2 : s.vm.method? m = some meth) (h3 : meth.code = some c) (h4 : c.code = bytes)
    (h5 : (c.maxLocals == mx && c.exceptionTable.isEmpty && decide (c.maxStack ≤ mostOperands) && decide (meth.sig.returnType = rt) && !meth.locks && decide (parseMethodDescriptor y.desc = some meth.sig)) = true) : (Jvm.Cond.code y bytes mx rt).before a s = true := by
  simp only [Bool.and_eq_true, beq_iff_eq, Bool.not_eq_true', decide_eq_true_eq] at h5
  obtain ⟨⟨⟨⟨⟨g1, g2⟩, g3⟩, g4⟩, g5⟩, g6⟩ := h5
  simp [Cond.before, Cond.holds, Cond.value, h1, h2, h3, h4, g1, g2, g3, g4, g5, g6]
def isCode : Jvm.Cond → Bool
  | .code _ _ _ _ => true
  | _ => false
theorem all_split {L : List Jvm.Cond} {P : Jvm.Cond → Bool} (h1 : L.all (fun c => isCode c || P c) = true) (h2 : ∀ c ∈ L.filter isCode, P c = true) : L.all P = true := by
  refine List.all_eq_true.mpr fun c hc => ?_
  have h := List.all_eq_true.mp h1 c hc
  rcases Bool.eq_false_or_eq_true (isCode c) with hi | hi
  · exact h2 c (List.mem_filter.mpr ⟨hc, hi⟩)
  · simpa [hi] using h
set_option maxRecDepth 65536 in
theorem w_c0 : (Jvm.Cond.code x code maxLocals ret).before args0 about1 = true := code_word (m := ⟨1, 4⟩) (meth := k1m4) (c := k1c4) (by decide +kernel) rfl rfl rfl (by decide +kernel)
set_option maxRecDepth 65536 in
theorem w_c1 : (Jvm.Cond.code ({ cls := "com/example/mortise/mortise/Constants", name := "sha1RoundConstants", desc := "()[I" } : Jvm.MethodName) prog_46_method_3_code (0 : Nat) (Option.some (Jvm.ClassFile.FieldType.array Jvm.ClassFile.FieldType.int))).before args0 about1 = true := code_word (m := ⟨2, 1⟩) (meth := k2m1) (c := k2c1) (by decide +kernel) rfl rfl rfl (by decide +kernel)
set_option maxRecDepth 65536 in
theorem w_c2 : (Jvm.Cond.code ({ cls := "com/example/mortise/mortise/ConstantsSha1RoundConstantsPinLaw", name := "isScaledRoot", desc := "(JI)Z" } : Jvm.MethodName) method_4_code (13 : Nat) (Option.some Jvm.ClassFile.FieldType.boolean)).before args0 about1 = true := code_word (m := ⟨1, 3⟩) (meth := k1m3) (c := k1c3) (by decide +kernel) rfl rfl rfl (by decide +kernel)
set_option maxRecDepth 65536 in
theorem w_c3 : (Jvm.Cond.code ({ cls := "com/example/mortise/mortise/ConstantsSha1RoundConstantsPinLaw", name := "ule", desc := "(JJ)Z" } : Jvm.MethodName) method_2_code (4 : Nat) (Option.some Jvm.ClassFile.FieldType.boolean)).before args0 about1 = true := code_word (m := ⟨1, 1⟩) (meth := k1m1) (c := k1c1) (by decide +kernel) rfl rfl rfl (by decide +kernel)
set_option maxRecDepth 65536 in
theorem w_c4 : (Jvm.Cond.code ({ cls := "com/example/mortise/mortise/ConstantsSha1RoundConstantsPinLaw", name := "ult", desc := "(JJ)Z" } : Jvm.MethodName) method_3_code (4 : Nat) (Option.some Jvm.ClassFile.FieldType.boolean)).before args0 about1 = true := code_word (m := ⟨1, 2⟩) (meth := k1m2) (c := k1c2) (by decide +kernel) rfl rfl rfl (by decide +kernel)
def codes1 : List Jvm.Cond := [Jvm.Cond.code x code maxLocals ret, Jvm.Cond.code ({ cls := "com/example/mortise/mortise/Constants", name := "sha1RoundConstants", desc := "()[I" } : Jvm.MethodName) prog_46_method_3_code (0 : Nat) (Option.some (Jvm.ClassFile.FieldType.array Jvm.ClassFile.FieldType.int)), Jvm.Cond.code ({ cls := "com/example/mortise/mortise/ConstantsSha1RoundConstantsPinLaw", name := "isScaledRoot", desc := "(JI)Z" } : Jvm.MethodName) method_4_code (13 : Nat) (Option.some Jvm.ClassFile.FieldType.boolean), Jvm.Cond.code ({ cls := "com/example/mortise/mortise/ConstantsSha1RoundConstantsPinLaw", name := "ule", desc := "(JJ)Z" } : Jvm.MethodName) method_2_code (4 : Nat) (Option.some Jvm.ClassFile.FieldType.boolean), Jvm.Cond.code ({ cls := "com/example/mortise/mortise/ConstantsSha1RoundConstantsPinLaw", name := "ult", desc := "(JJ)Z" } : Jvm.MethodName) method_3_code (4 : Nat) (Option.some Jvm.ClassFile.FieldType.boolean)]
set_option maxRecDepth 65536 in
theorem codes_eq : words1.filter isCode = codes1 := rfl
theorem w_codes : ∀ c ∈ words1.filter isCode, c.before args0 about1 = true := by
  rw [codes_eq]
  intro c hc
  simp only [codes1, List.mem_cons, List.not_mem_nil, or_false] at hc
  rcases hc with rfl | rfl | rfl | rfl | rfl
  · exact w_c0
  · exact w_c1
  · exact w_c2
  · exact w_c3
  · exact w_c4
set_option maxRecDepth 65536 in
theorem w_t1 : (words1.take 24).all (fun c => isCode c || c.before args0 about1) = true := by decide +kernel
set_option maxRecDepth 65536 in
theorem w_t2 : (words1.drop 24).all (fun c => isCode c || c.before args0 about1) = true := by decide +kernel
theorem w_tables : (allAtoms (Jvm.Cond.code x code maxLocals ret :: tables_1)).before args0 about1 = true := by
  rw [allAtoms_all]
  show words1.all (fun c => c.before args0 about1) = true
  refine all_split ?_ w_codes
  rw [← List.take_append_drop 24 words1, List.all_append, w_t1, w_t2]
  rfl
set_option maxRecDepth 65536 in
theorem w_case : (Jvm.Cond.and given_1 narrow_1).before args0 about1 = true := by decide +kernel
theorem w_applies : (headSpec (Jvm.Cond.code x code maxLocals ret :: tables_1) room_1).applies x e0.platform about1 = true :=
  (Spec.applies_iff w_frames).mpr ⟨w_running, w_runnable, w_alone, w_named, w_hears, w_ripe, w_room, w_tables⟩
theorem atStart : AtStart classFile x code maxLocals ret World_1 tables_1 room_1 Calls_1 rest_1 Pre_1 launch0 p0 e0 about1 theMethod args0 below0 :=
  ⟨lists_1, trivial, launch0.admits_env _ _ _, launch0.least_env, fairChoices_fair.cas, fairChoices_fair.clock, w_frames, w_args, w_heap, w_applies, trivial, trivial, w_case⟩
end start1
theorem witness_1 : WitnessClaimed_1 := ⟨start1.p0, start1.e0, start1.about1, start1.theMethod, start1.args0, start1.below0, start1.atStart⟩
end Jvm.Pilot.@@N@@
